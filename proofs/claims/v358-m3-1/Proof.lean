import JvmDerived
import JvmDerived.Pilot.@@N@@Statement
import JvmDerived.Pilot.@@N@@Code
set_option linter.unusedVariables false
set_option linter.unusedSimpArgs false
set_option maxRecDepth 65536
set_option maxHeartbeats 40000000
@@BLOCK:NumsL.lean.txt@@
namespace Jvm.RoadKit
open Sem ClassFile Op Lib Jvm.Stand Jvm.Free Jvm.LawKit
section New
variable {p : Program} {l : Launch} {e : Env} {R : Room} {s : State} {m : MethodId} {args : Array Value} {below : List Frame} {meth : Method} {c : Code} {T : State} {locs : List Loc} {cells slots : Nat}
theorem retI (X : Stand p l e R s m args below meth c T locs cells slots) (hx : p.tables.exec = Jvm.exec) {pc : Nat} {Ls : Array Slot} {z : Int32} {rest : List Value} (hret : meth.sig.returnType = some .int) (hd : decode c.code pc = .ok (.ireturn, 1)) {fs : List Frame}
    (hl : ∀ (f : JFrame) (acts : List Action), f.method = m → f.locked = none → f.entered = [] → (doReturn e (T.setTop f) acts (some (.int z))).1 = T.setFrames fs) : Steps p.tables e below (T.setTop (mkF m pc Ls (.int z :: rest))) (T.setFrames fs) := by
  have hm' : T.vm.method? m = some meth := X.method'
  have hn : narrow .int (.int z) = .int z := rfl
  show Steps p.tables e below (T.setTop { method := m, pc := pc, locals := Ls, stack := _ :: rest, locked := none }) _
  jvm_step X.here [X.here.top, hx, hd, hm', hret, hn]
  first | (intro acts; rw [hl _ acts rfl rfl rfl]) | rw [hl _ _ rfl rfl rfl]
  exact Steps.refl _
end New
end Jvm.RoadKit
namespace Jvm.Pilot.@@N@@
open Jvm Jvm.ClassFile Sem Op Lib Jvm.Free Jvm.Stand Jvm.LawKit Jvm.RoadKit Bundle Jvm.Pilot.@@N@@.Jvm.D
theorem own_eqI {args : Array Value} {s : State} {a : Term} {k : Int32} (h : (Cond.eq a (.int k)).value args s none s [] = some true) : a.eval args s none [] s = some (.int k) := by
  obtain ⟨x, y, hx, hy, k1, k2⟩ := cmp_v (Or.inl h)
  obtain rfl : Value.int k = y := Option.some.inj ((Term.int_eval k).symm.trans hy)
  obtain ⟨z, rfl⟩ : ∃ z, x = .int z := k2
  have hz : z = k := gotT (Cond.eq_ints hx hy) h
  rw [hz] at hx; exact hx
theorem own_eqR {args : Array Value} {s : State} {a b : Term} {y : Addr} (hb : b.eval args s none [] s = some (.ref y)) (h : (Cond.eq a b).value args s none s [] = some true) : a.eval args s none [] s = some (.ref y) := by
  obtain ⟨x, y', hx, hy, k1, k2⟩ := cmp_v (Or.inl h)
  obtain rfl : Value.ref y = y' := Option.some.inj (hb.symm.trans hy)
  have hr : x.isRef = true := k2.2
  have hz : x = .ref y := gotT (eq_R hx hy hr rfl) h
  rw [hz] at hx; exact hx
theorem own_t {a b c : Nat} (h : a < b) (k : b ≤ c) : a < c := Nat.lt_of_lt_of_le h k
theorem own_n {a b c : Nat} (h : a < b) (k : b ≤ c) : a ≠ c := Nat.ne_of_lt (Nat.lt_of_lt_of_le h k)
abbrev vI (x : Int32) : Slot := .val (.int x)
abbrev vJ (x : Int64) : Slot := .val (.long x)
abbrev vR (x : Addr) : Slot := .val (.ref x)
abbrev vN : Slot := .val .null
theorem own_z {Z : State} {n0 : Nat} {h : Heap} (O : Old Z n0 h) : n0 ≤ h.size := O.1 ▸ O.2.1
theorem own_len {args : Array Value} {s : State} {t : Term} {x : Addr} {cl : Cell} {ty : FieldType} {n : Int32} (ev : t.eval args s none [] s = some (.ref x)) (A : Arr s s.heap x cl ty) (h : (Term.length t).eval args s none [] s = some (.int n)) : cl.slots.size < 2 ^ 31 ∧ cl.slots.size.toInt32 = n := by
  have ha : s.arrayAt? x = some cl := IntBox.arrayAt_of A.1 A.2.1 A.2.2
  simpa [Term.eval, ev, ha] using h
theorem own_elem {args : Array Value} {s : State} {t : Term} {x : Addr} {cl : Cell} {ty : FieldType} {j : Int32} {v : Value} {i : Nat} (ev : t.eval args s none [] s = some (.ref x)) (A : Arr s s.heap x cl ty) (h : (Term.elem t (.int j)).eval args s none [] s = some v) (hi : j.toNatClampNeg = i) : cl.slots[i]? = some v := by
  have q := (elem_in h ev (Term.int_eval j) A.1).2
  rw [hi] at q; exact q
def own_ws : List Jvm.Cond := tables_1 ++ jdkStatics_1
theorem gw (i : Nat) {d : Jvm.Cond} (h : own_ws[i]? = some d) : d ∈ own_ws := List.mem_of_getElem? h
abbrev own_HW (Z : State) (a0 : Array Value) : Prop := ∀ d ∈ own_ws, d.before a0 Z = true
section OwnW
variable {Z : State} {a0 : Array Value}
def ww1 (hw : own_HW Z a0) := hw _ (gw 1 rfl)
def ww2 (hw : own_HW Z a0) := hw _ (gw 2 rfl)
def ww94 (hw : own_HW Z a0) := hw _ (gw 94 rfl)
def ww91 (hw : own_HW Z a0) := hw _ (gw 91 rfl)
def ww92 (hw : own_HW Z a0) := hw _ (gw 92 rfl)
def ww93 (hw : own_HW Z a0) := hw _ (gw 93 rfl)
def ww151 (hw : own_HW Z a0) := hw _ (gw 151 rfl)
def ww158 (hw : own_HW Z a0) := hw _ (gw 158 rfl)
def ww161 (hw : own_HW Z a0) := hw _ (gw 161 rfl)
def ww0 (hw : own_HW Z a0) := hw _ (gw 0 rfl)
def ww3 (hw : own_HW Z a0) := hw _ (gw 3 rfl)
def ww11 (hw : own_HW Z a0) := hw _ (gw 11 rfl)
def ww16 (hw : own_HW Z a0) := hw _ (gw 16 rfl)
def ww17 (hw : own_HW Z a0) := hw _ (gw 17 rfl)
def ww22 (hw : own_HW Z a0) := hw _ (gw 22 rfl)
def ww23 (hw : own_HW Z a0) := hw _ (gw 23 rfl)
def ww21 (hw : own_HW Z a0) := hw _ (gw 21 rfl)
def ww4 (hw : own_HW Z a0) := hw _ (gw 4 rfl)
def ww20 (hw : own_HW Z a0) := hw _ (gw 20 rfl)
def ww18 (hw : own_HW Z a0) := hw _ (gw 18 rfl)
def ww19 (hw : own_HW Z a0) := hw _ (gw 19 rfl)
def ww15 (hw : own_HW Z a0) := hw _ (gw 15 rfl)
def ww14 (hw : own_HW Z a0) := hw _ (gw 14 rfl)
def ww12 (hw : own_HW Z a0) := hw _ (gw 12 rfl)
def ww13 (hw : own_HW Z a0) := hw _ (gw 13 rfl)
def ww24 (hw : own_HW Z a0) := hw _ (gw 24 rfl)
def ww25 (hw : own_HW Z a0) := hw _ (gw 25 rfl)
def ww29 (hw : own_HW Z a0) := hw _ (gw 29 rfl)
def ww34 (hw : own_HW Z a0) := hw _ (gw 34 rfl)
def ww38 (hw : own_HW Z a0) := hw _ (gw 38 rfl)
def ww37 (hw : own_HW Z a0) := hw _ (gw 37 rfl)
def ww35 (hw : own_HW Z a0) := hw _ (gw 35 rfl)
def ww36 (hw : own_HW Z a0) := hw _ (gw 36 rfl)
def ww39 (hw : own_HW Z a0) := hw _ (gw 39 rfl)
def ww43 (hw : own_HW Z a0) := hw _ (gw 43 rfl)
def ww46 (hw : own_HW Z a0) := hw _ (gw 46 rfl)
def ww48 (hw : own_HW Z a0) := hw _ (gw 48 rfl)
def ww50 (hw : own_HW Z a0) := hw _ (gw 50 rfl)
def ww47 (hw : own_HW Z a0) := hw _ (gw 47 rfl)
def ww49 (hw : own_HW Z a0) := hw _ (gw 49 rfl)
def ww45 (hw : own_HW Z a0) := hw _ (gw 45 rfl)
def ww44 (hw : own_HW Z a0) := hw _ (gw 44 rfl)
def ww42 (hw : own_HW Z a0) := hw _ (gw 42 rfl)
def ww41 (hw : own_HW Z a0) := hw _ (gw 41 rfl)
def ww40 (hw : own_HW Z a0) := hw _ (gw 40 rfl)
def ww33 (hw : own_HW Z a0) := hw _ (gw 33 rfl)
def ww32 (hw : own_HW Z a0) := hw _ (gw 32 rfl)
def ww30 (hw : own_HW Z a0) := hw _ (gw 30 rfl)
def ww31 (hw : own_HW Z a0) := hw _ (gw 31 rfl)
def ww28 (hw : own_HW Z a0) := hw _ (gw 28 rfl)
def ww27 (hw : own_HW Z a0) := hw _ (gw 27 rfl)
def ww26 (hw : own_HW Z a0) := hw _ (gw 26 rfl)
def ww51 (hw : own_HW Z a0) := hw _ (gw 51 rfl)
def ww52 (hw : own_HW Z a0) := hw _ (gw 52 rfl)
def ww55 (hw : own_HW Z a0) := hw _ (gw 55 rfl)
def ww5 (hw : own_HW Z a0) := hw _ (gw 5 rfl)
def ww7 (hw : own_HW Z a0) := hw _ (gw 7 rfl)
def ww8 (hw : own_HW Z a0) := hw _ (gw 8 rfl)
def ww56 (hw : own_HW Z a0) := hw _ (gw 56 rfl)
def ww59 (hw : own_HW Z a0) := hw _ (gw 59 rfl)
def ww63 (hw : own_HW Z a0) := hw _ (gw 63 rfl)
def ww65 (hw : own_HW Z a0) := hw _ (gw 65 rfl)
def ww64 (hw : own_HW Z a0) := hw _ (gw 64 rfl)
def ww66 (hw : own_HW Z a0) := hw _ (gw 66 rfl)
def ww6 (hw : own_HW Z a0) := hw _ (gw 6 rfl)
def ww70 (hw : own_HW Z a0) := hw _ (gw 70 rfl)
def ww72 (hw : own_HW Z a0) := hw _ (gw 72 rfl)
def ww68 (hw : own_HW Z a0) := hw _ (gw 68 rfl)
def ww71 (hw : own_HW Z a0) := hw _ (gw 71 rfl)
def ww69 (hw : own_HW Z a0) := hw _ (gw 69 rfl)
def ww67 (hw : own_HW Z a0) := hw _ (gw 67 rfl)
def ww73 (hw : own_HW Z a0) := hw _ (gw 73 rfl)
def ww75 (hw : own_HW Z a0) := hw _ (gw 75 rfl)
def ww74 (hw : own_HW Z a0) := hw _ (gw 74 rfl)
def ww62 (hw : own_HW Z a0) := hw _ (gw 62 rfl)
def ww60 (hw : own_HW Z a0) := hw _ (gw 60 rfl)
def ww58 (hw : own_HW Z a0) := hw _ (gw 58 rfl)
def ww57 (hw : own_HW Z a0) := hw _ (gw 57 rfl)
def ww54 (hw : own_HW Z a0) := hw _ (gw 54 rfl)
def ww53 (hw : own_HW Z a0) := hw _ (gw 53 rfl)
def ww76 (hw : own_HW Z a0) := hw _ (gw 76 rfl)
def ww79 (hw : own_HW Z a0) := hw _ (gw 79 rfl)
def ww82 (hw : own_HW Z a0) := hw _ (gw 82 rfl)
def ww84 (hw : own_HW Z a0) := hw _ (gw 84 rfl)
def ww85 (hw : own_HW Z a0) := hw _ (gw 85 rfl)
def ww89 (hw : own_HW Z a0) := hw _ (gw 89 rfl)
def ww87 (hw : own_HW Z a0) := hw _ (gw 87 rfl)
def ww88 (hw : own_HW Z a0) := hw _ (gw 88 rfl)
def ww90 (hw : own_HW Z a0) := hw _ (gw 90 rfl)
def ww95 (hw : own_HW Z a0) := hw _ (gw 95 rfl)
def ww81 (hw : own_HW Z a0) := hw _ (gw 81 rfl)
def ww80 (hw : own_HW Z a0) := hw _ (gw 80 rfl)
def ww97 (hw : own_HW Z a0) := hw _ (gw 97 rfl)
def ww99 (hw : own_HW Z a0) := hw _ (gw 99 rfl)
def ww104 (hw : own_HW Z a0) := hw _ (gw 104 rfl)
def ww105 (hw : own_HW Z a0) := hw _ (gw 105 rfl)
def ww107 (hw : own_HW Z a0) := hw _ (gw 107 rfl)
def ww106 (hw : own_HW Z a0) := hw _ (gw 106 rfl)
def ww103 (hw : own_HW Z a0) := hw _ (gw 103 rfl)
def ww102 (hw : own_HW Z a0) := hw _ (gw 102 rfl)
def ww100 (hw : own_HW Z a0) := hw _ (gw 100 rfl)
def ww101 (hw : own_HW Z a0) := hw _ (gw 101 rfl)
def ww126 (hw : own_HW Z a0) := hw _ (gw 126 rfl)
def ww129 (hw : own_HW Z a0) := hw _ (gw 129 rfl)
def ww130 (hw : own_HW Z a0) := hw _ (gw 130 rfl)
def ww110 (hw : own_HW Z a0) := hw _ (gw 110 rfl)
def ww119 (hw : own_HW Z a0) := hw _ (gw 119 rfl)
def ww131 (hw : own_HW Z a0) := hw _ (gw 131 rfl)
def ww134 (hw : own_HW Z a0) := hw _ (gw 134 rfl)
def ww133 (hw : own_HW Z a0) := hw _ (gw 133 rfl)
def ww132 (hw : own_HW Z a0) := hw _ (gw 132 rfl)
def ww135 (hw : own_HW Z a0) := hw _ (gw 135 rfl)
def ww139 (hw : own_HW Z a0) := hw _ (gw 139 rfl)
def ww118 (hw : own_HW Z a0) := hw _ (gw 118 rfl)
def ww138 (hw : own_HW Z a0) := hw _ (gw 138 rfl)
def ww136 (hw : own_HW Z a0) := hw _ (gw 136 rfl)
def ww128 (hw : own_HW Z a0) := hw _ (gw 128 rfl)
def ww127 (hw : own_HW Z a0) := hw _ (gw 127 rfl)
def ww108 (hw : own_HW Z a0) := hw _ (gw 108 rfl)
def ww112 (hw : own_HW Z a0) := hw _ (gw 112 rfl)
def ww111 (hw : own_HW Z a0) := hw _ (gw 111 rfl)
def ww109 (hw : own_HW Z a0) := hw _ (gw 109 rfl)
def ww78 (hw : own_HW Z a0) := hw _ (gw 78 rfl)
def ww77 (hw : own_HW Z a0) := hw _ (gw 77 rfl)
def ww140 (hw : own_HW Z a0) := hw _ (gw 140 rfl)
def ww143 (hw : own_HW Z a0) := hw _ (gw 143 rfl)
def ww141 (hw : own_HW Z a0) := hw _ (gw 141 rfl)
def ww142 (hw : own_HW Z a0) := hw _ (gw 142 rfl)
def ww144 (hw : own_HW Z a0) := hw _ (gw 144 rfl)
def ww145 (hw : own_HW Z a0) := hw _ (gw 145 rfl)
def ww148 (hw : own_HW Z a0) := hw _ (gw 148 rfl)
def ww146 (hw : own_HW Z a0) := hw _ (gw 146 rfl)
def ww147 (hw : own_HW Z a0) := hw _ (gw 147 rfl)
def ww149 (hw : own_HW Z a0) := hw _ (gw 149 rfl)
def ww113 (hw : own_HW Z a0) := hw _ (gw 113 rfl)
def ww116 (hw : own_HW Z a0) := hw _ (gw 116 rfl)
def ww114 (hw : own_HW Z a0) := hw _ (gw 114 rfl)
def ww115 (hw : own_HW Z a0) := hw _ (gw 115 rfl)
def ww117 (hw : own_HW Z a0) := hw _ (gw 117 rfl)
def ww150 (hw : own_HW Z a0) := hw _ (gw 150 rfl)
def ww124 (hw : own_HW Z a0) := hw _ (gw 124 rfl)
def ww125 (hw : own_HW Z a0) := hw _ (gw 125 rfl)
def ww122 (hw : own_HW Z a0) := hw _ (gw 122 rfl)
def ww123 (hw : own_HW Z a0) := hw _ (gw 123 rfl)
def ww120 (hw : own_HW Z a0) := hw _ (gw 120 rfl)
def ww121 (hw : own_HW Z a0) := hw _ (gw 121 rfl)
end OwnW
abbrev oL (p1 p2 p3 p4 k : Int32) (a b : Addr) (n : Int32) (c : Addr) (m p d q x : Int32) : Array Slot := #[vI p1, vI p2, vI p3, vI p4, vI k, vR a, vR b, vI n, vR c, vI m, vI p, vI d, vI q, vI x, .unset]
abbrev oS (p : Program) (e : Env) (below : List Frame) (EN T : State) (f : JFrame) : Prop := ∀ t, Steps p.tables e below (T.setTop f) t → Steps p.tables e below EN t
section OwnSteps
variable {p : Program} {l : Launch} {e : Env} {R : Room} {s : State} {m : MethodId} {args : Array Value} {below : List Frame} {meth : Method} {c : Code} {T t : State} {locs : List Loc} {cells slots : Nat} {bytes : ByteArray} {pc pc' : Nat} {Ls Ls' : Array Slot} {S : List Value} {x : Int32} {v w : Value} {j : Int64}
theorem o_iload (X : Stand p l e R s m args below meth c T locs cells slots) (hq : p.tables.exec = Jvm.exec ∧ c.code = bytes) {k : Nat} (hd : decode bytes pc = .ok (.iload k, 2)) (hl : Ls[k]? = some (.val (.int x))) (K : Steps p.tables e below (T.setTop (mkF m (pc + 2) Ls (.int x :: S))) t) : Steps p.tables e below (T.setTop (mkF m pc Ls (S))) t := XS.iload X.here hq.1 rfl (hb hq.2 hd) hl K
theorem o_iloadN (X : Stand p l e R s m args below meth c T locs cells slots) (hq : p.tables.exec = Jvm.exec ∧ c.code = bytes) {k : Fin 4} (hd : decode bytes pc = .ok (.iload_n k, 1)) (hl : Ls[k.val]? = some (.val (.int x))) (K : Steps p.tables e below (T.setTop (mkF m (pc + 1) Ls (.int x :: S))) t) : Steps p.tables e below (T.setTop (mkF m pc Ls (S))) t := XS.iloadN X.here hq.1 rfl (hb hq.2 hd) hl K
theorem o_aload (X : Stand p l e R s m args below meth c T locs cells slots) (hq : p.tables.exec = Jvm.exec ∧ c.code = bytes) {k : Nat} (hd : decode bytes pc = .ok (.aload k, 2)) (hl : Ls[k]? = some (.val (v))) (hr : v.isRef = true) (K : Steps p.tables e below (T.setTop (mkF m (pc + 2) Ls (v :: S))) t) : Steps p.tables e below (T.setTop (mkF m pc Ls (S))) t := XS.aload X.here hq.1 rfl (hb hq.2 hd) hl hr K
theorem o_aloadN (X : Stand p l e R s m args below meth c T locs cells slots) (hq : p.tables.exec = Jvm.exec ∧ c.code = bytes) {k : Fin 4} (hd : decode bytes pc = .ok (.aload_n k, 1)) (hl : Ls[k.val]? = some (.val (v))) (hr : v.isRef = true) (K : Steps p.tables e below (T.setTop (mkF m (pc + 1) Ls (v :: S))) t) : Steps p.tables e below (T.setTop (mkF m pc Ls (S))) t := XS.aloadN X.here hq.1 rfl (hb hq.2 hd) hl hr K
theorem o_istore (X : Stand p l e R s m args below meth c T locs cells slots) (hq : p.tables.exec = Jvm.exec ∧ c.code = bytes) {k : Nat} (hd : decode bytes pc = .ok (.istore k, 2)) (hl : storeLocals Ls k (.int x) = some Ls') (K : Steps p.tables e below (T.setTop (mkF m (pc + 2) Ls' (S))) t) : Steps p.tables e below (T.setTop (mkF m pc Ls (.int x :: S))) t := XS.istore X.here hq.1 rfl (hb hq.2 hd) rfl (l' := Ls') hl K
theorem o_istoreN (X : Stand p l e R s m args below meth c T locs cells slots) (hq : p.tables.exec = Jvm.exec ∧ c.code = bytes) {k : Fin 4} (hd : decode bytes pc = .ok (.istore_n k, 1)) (hl : storeLocals Ls k.val (.int x) = some Ls') (K : Steps p.tables e below (T.setTop (mkF m (pc + 1) Ls' (S))) t) : Steps p.tables e below (T.setTop (mkF m pc Ls (.int x :: S))) t := XS.istoreN X.here hq.1 rfl (hb hq.2 hd) rfl (l' := Ls') hl K
theorem o_astore (X : Stand p l e R s m args below meth c T locs cells slots) (hq : p.tables.exec = Jvm.exec ∧ c.code = bytes) {k : Nat} (hd : decode bytes pc = .ok (.astore k, 2)) (hr : v.isRef = true) (hl : storeLocals Ls k (v) = some Ls') (K : Steps p.tables e below (T.setTop (mkF m (pc + 2) Ls' (S))) t) : Steps p.tables e below (T.setTop (mkF m pc Ls (v :: S))) t := XS.astore X.here hq.1 rfl (hb hq.2 hd) rfl hr (l' := Ls') hl K
theorem o_astoreN (X : Stand p l e R s m args below meth c T locs cells slots) (hq : p.tables.exec = Jvm.exec ∧ c.code = bytes) {k : Fin 4} (hd : decode bytes pc = .ok (.astore_n k, 1)) (hr : v.isRef = true) (hl : storeLocals Ls k.val (v) = some Ls') (K : Steps p.tables e below (T.setTop (mkF m (pc + 1) Ls' (S))) t) : Steps p.tables e below (T.setTop (mkF m pc Ls (v :: S))) t := XS.astoreN X.here hq.1 rfl (hb hq.2 hd) rfl hr (l' := Ls') hl K
theorem o_iconst (X : Stand p l e R s m args below meth c T locs cells slots) (hq : p.tables.exec = Jvm.exec ∧ c.code = bytes) {i : Int} (hd : decode bytes pc = .ok (.iconst i, 1)) (hz : Int32.ofInt i = x) (K : Steps p.tables e below (T.setTop (mkF m (pc + 1) Ls (.int x :: S))) t) : Steps p.tables e below (T.setTop (mkF m pc Ls (S))) t := by subst hz; exact XS.iconst X.here hq.1 rfl (hb hq.2 hd) K
theorem o_bipush (X : Stand p l e R s m args below meth c T locs cells slots) (hq : p.tables.exec = Jvm.exec ∧ c.code = bytes) {i : Int} (hd : decode bytes pc = .ok (.bipush i, 2)) (hz : (Int8.ofInt i).toInt32 = x) (K : Steps p.tables e below (T.setTop (mkF m (pc + 2) Ls (.int x :: S))) t) : Steps p.tables e below (T.setTop (mkF m pc Ls (S))) t := by subst hz; exact XS.bipush X.here hq.1 rfl (hb hq.2 hd) K
theorem o_sipush (X : Stand p l e R s m args below meth c T locs cells slots) (hq : p.tables.exec = Jvm.exec ∧ c.code = bytes) {i : Int} (hd : decode bytes pc = .ok (.sipush i, 3)) (hz : (Int16.ofInt i).toInt32 = x) (K : Steps p.tables e below (T.setTop (mkF m (pc + 3) Ls (.int x :: S))) t) : Steps p.tables e below (T.setTop (mkF m pc Ls (S))) t := by subst hz; exact XS.sipush X.here hq.1 rfl (hb hq.2 hd) K
theorem o_iinc (X : Stand p l e R s m args below meth c T locs cells slots) (hq : p.tables.exec = Jvm.exec ∧ c.code = bytes) {k : Nat} {i : Int} {k' z : Int32} (hd : decode bytes pc = .ok (.iinc k i, 3)) (hl : Ls[k]? = some (.val (.int x))) (hk : Int32.ofInt i = k') (hz : x + k' = z) (hs : storeLocals Ls k (.int z) = some Ls') (K : Steps p.tables e below (T.setTop (mkF m (pc + 3) Ls' (S))) t) : Steps p.tables e below (T.setTop (mkF m pc Ls (S))) t := by subst hz; subst hk; exact XS.iinc X.here hq.1 rfl (hb hq.2 hd) hl (l' := Ls') hs K
theorem o_null (X : Stand p l e R s m args below meth c T locs cells slots) (hq : p.tables.exec = Jvm.exec ∧ c.code = bytes) (hd : decode bytes pc = .ok (.aconst_null, 1)) (K : Steps p.tables e below (T.setTop (mkF m (pc + 1) Ls (.null :: S))) t) : Steps p.tables e below (T.setTop (mkF m pc Ls (S))) t := XS.aconstNull X.here hq.1 rfl (hb hq.2 hd) K
theorem o_dup (X : Stand p l e R s m args below meth c T locs cells slots) (hq : p.tables.exec = Jvm.exec ∧ c.code = bytes) (hd : decode bytes pc = .ok (.dup, 1)) (hc : v.category = 1) (K : Steps p.tables e below (T.setTop (mkF m (pc + 1) Ls (v :: v :: S))) t) : Steps p.tables e below (T.setTop (mkF m pc Ls (v :: S))) t := XS.dup X.here hq.1 rfl (hb hq.2 hd) rfl hc K
theorem o_pop (X : Stand p l e R s m args below meth c T locs cells slots) (hq : p.tables.exec = Jvm.exec ∧ c.code = bytes) (hd : decode bytes pc = .ok (.pop, 1)) (hc : v.category = 1) (K : Steps p.tables e below (T.setTop (mkF m (pc + 1) Ls (S))) t) : Steps p.tables e below (T.setTop (mkF m pc Ls (v :: S))) t := XS.pop X.here hq.1 rfl (hb hq.2 hd) rfl hc K
theorem o_goto (X : Stand p l e R s m args below meth c T locs cells slots) (hq : p.tables.exec = Jvm.exec ∧ c.code = bytes) {o : Int} (hd : decode bytes pc = .ok (.goto o, 3)) (K : Steps p.tables e below (T.setTop (mkF m pc' Ls (S))) t) (ho : 0 ≤ (pc : Int) + o := by decide) (hp : ((pc : Int) + o).toNat = pc' := by decide) : Steps p.tables e below (T.setTop (mkF m pc Ls (S))) t := XS.goto X.here hq.1 rfl (pc0 := pc) (pc' := pc') rfl (hb hq.2 hd) ho hp K
theorem o_iadd (X : Stand p l e R s m args below meth c T locs cells slots) (hq : p.tables.exec = Jvm.exec ∧ c.code = bytes) {a : Int32} {b : Int32} {z : Int32} (hd : decode bytes pc = .ok (.iadd, 1)) (hz : (a + b) = z) (K : Steps p.tables e below (T.setTop (mkF m (pc + 1) Ls (.int z :: S))) t) : Steps p.tables e below (T.setTop (mkF m pc Ls (.int b :: .int a :: S))) t := by subst hz; exact XS.iadd X.here hq.1 rfl (hb hq.2 hd) rfl K
theorem o_isub (X : Stand p l e R s m args below meth c T locs cells slots) (hq : p.tables.exec = Jvm.exec ∧ c.code = bytes) {a : Int32} {b : Int32} {z : Int32} (hd : decode bytes pc = .ok (.isub, 1)) (hz : (a - b) = z) (K : Steps p.tables e below (T.setTop (mkF m (pc + 1) Ls (.int z :: S))) t) : Steps p.tables e below (T.setTop (mkF m pc Ls (.int b :: .int a :: S))) t := by subst hz; exact XS.isub X.here hq.1 rfl (hb hq.2 hd) rfl K
theorem o_iand (X : Stand p l e R s m args below meth c T locs cells slots) (hq : p.tables.exec = Jvm.exec ∧ c.code = bytes) {a : Int32} {b : Int32} {z : Int32} (hd : decode bytes pc = .ok (.iand, 1)) (hz : (a &&& b) = z) (K : Steps p.tables e below (T.setTop (mkF m (pc + 1) Ls (.int z :: S))) t) : Steps p.tables e below (T.setTop (mkF m pc Ls (.int b :: .int a :: S))) t := by subst hz; exact XS.iand X.here hq.1 rfl (hb hq.2 hd) rfl K
theorem o_irem (X : Stand p l e R s m args below meth c T locs cells slots) (hq : p.tables.exec = Jvm.exec ∧ c.code = bytes) {a : Int32} {b : Int32} {z : Int32} (hd : decode bytes pc = .ok (.irem, 1)) (hn : ¬ (b = 0)) (hz : (a % b) = z) (K : Steps p.tables e below (T.setTop (mkF m (pc + 1) Ls (.int z :: S))) t) : Steps p.tables e below (T.setTop (mkF m pc Ls (.int b :: .int a :: S))) t := by subst hz; exact Jvm.RoadKit.iremM (g := mkF m pc Ls (.int b :: .int a :: S)) X hq.1 rfl (hb hq.2 hd) rfl hn K
theorem o_ishr (X : Stand p l e R s m args below meth c T locs cells slots) (hq : p.tables.exec = Jvm.exec ∧ c.code = bytes) {a : Int32} {b : Int32} {z : Int32} (hd : decode bytes pc = .ok (.ishr, 1)) (hz : (a >>> (b &&& 31)) = z) (K : Steps p.tables e below (T.setTop (mkF m (pc + 1) Ls (.int z :: S))) t) : Steps p.tables e below (T.setTop (mkF m pc Ls (.int b :: .int a :: S))) t := by subst hz; exact XS.ishr X.here hq.1 rfl (hb hq.2 hd) rfl K
theorem o_iushr (X : Stand p l e R s m args below meth c T locs cells slots) (hq : p.tables.exec = Jvm.exec ∧ c.code = bytes) {a : Int32} {b : Int32} {z : Int32} (hd : decode bytes pc = .ok (.iushr, 1)) (hz : ((a.toUInt32 >>> (b &&& 31).toUInt32).toInt32) = z) (K : Steps p.tables e below (T.setTop (mkF m (pc + 1) Ls (.int z :: S))) t) : Steps p.tables e below (T.setTop (mkF m pc Ls (.int b :: .int a :: S))) t := by subst hz; exact XS.iushr X.here hq.1 rfl (hb hq.2 hd) rfl K
theorem o_i2b (X : Stand p l e R s m args below meth c T locs cells slots) (hq : p.tables.exec = Jvm.exec ∧ c.code = bytes) {a : Int32} {z : Int32} (hd : decode bytes pc = .ok (.i2b, 1)) (hz : (a.toInt8.toInt32) = z) (K : Steps p.tables e below (T.setTop (mkF m (pc + 1) Ls (.int z :: S))) t) : Steps p.tables e below (T.setTop (mkF m pc Ls (.int a :: S))) t := by subst hz; exact XS.i2b X.here hq.1 rfl (hb hq.2 hd) rfl K
theorem o_i2c (X : Stand p l e R s m args below meth c T locs cells slots) (hq : p.tables.exec = Jvm.exec ∧ c.code = bytes) {a : Int32} {z : Int32} (hd : decode bytes pc = .ok (.i2c, 1)) (hz : (a.toUInt32.toUInt16.toUInt32.toInt32) = z) (K : Steps p.tables e below (T.setTop (mkF m (pc + 1) Ls (.int z :: S))) t) : Steps p.tables e below (T.setTop (mkF m pc Ls (.int a :: S))) t := by subst hz; exact XS.i2c X.here hq.1 rfl (hb hq.2 hd) rfl K
theorem o_icmpY (X : Stand p l e R s m args below meth c T locs cells slots) (hq : p.tables.exec = Jvm.exec ∧ c.code = bytes) {cd : ClassFile.Cond} {o : Int} {a b : Int32} (hd : decode bytes pc = .ok (.if_icmp cd o, 3)) (hc : if_icmp.holds cd a b = true) (K : Steps p.tables e below (T.setTop (mkF m pc' Ls (S))) t) (ho : 0 ≤ (pc : Int) + o := by decide) (hp : ((pc : Int) + o).toNat = pc' := by decide) : Steps p.tables e below (T.setTop (mkF m pc Ls (.int b :: .int a :: S))) t := XS.icmpYes X.here hq.1 rfl (pc0 := pc) (pc' := pc') rfl (hb hq.2 hd) rfl hc ho hp K
theorem o_icmpN (X : Stand p l e R s m args below meth c T locs cells slots) (hq : p.tables.exec = Jvm.exec ∧ c.code = bytes) {cd : ClassFile.Cond} {o : Int} {a b : Int32} (hd : decode bytes pc = .ok (.if_icmp cd o, 3)) (hc : if_icmp.holds cd a b = false) (K : Steps p.tables e below (T.setTop (mkF m (pc + 3) Ls (S))) t) : Steps p.tables e below (T.setTop (mkF m pc Ls (.int b :: .int a :: S))) t := XS.icmpNo X.here hq.1 rfl (hb hq.2 hd) rfl hc K
theorem o_ifY (X : Stand p l e R s m args below meth c T locs cells slots) (hq : p.tables.exec = Jvm.exec ∧ c.code = bytes) {cd : ClassFile.Cond} {o : Int} {a : Int32} (hd : decode bytes pc = .ok (.ifCond cd o, 3)) (hc : ifCond.holds cd a = true) (K : Steps p.tables e below (T.setTop (mkF m pc' Ls (S))) t) (ho : 0 ≤ (pc : Int) + o := by decide) (hp : ((pc : Int) + o).toNat = pc' := by decide) : Steps p.tables e below (T.setTop (mkF m pc Ls (.int a :: S))) t := XS.ifYes X.here hq.1 rfl (pc0 := pc) (pc' := pc') rfl (hb hq.2 hd) rfl hc ho hp K
theorem o_ifN (X : Stand p l e R s m args below meth c T locs cells slots) (hq : p.tables.exec = Jvm.exec ∧ c.code = bytes) {cd : ClassFile.Cond} {o : Int} {a : Int32} (hd : decode bytes pc = .ok (.ifCond cd o, 3)) (hc : ifCond.holds cd a = false) (K : Steps p.tables e below (T.setTop (mkF m (pc + 3) Ls (S))) t) : Steps p.tables e below (T.setTop (mkF m pc Ls (.int a :: S))) t := XS.ifNo X.here hq.1 rfl (hb hq.2 hd) rfl hc K
theorem o_ifnullN (X : Stand p l e R s m args below meth c T locs cells slots) (hq : p.tables.exec = Jvm.exec ∧ c.code = bytes) {o : Int} {b : Addr} (hd : decode bytes pc = .ok (.ifnull o, 3)) (K : Steps p.tables e below (T.setTop (mkF m (pc + 3) Ls (S))) t) : Steps p.tables e below (T.setTop (mkF m pc Ls (.ref b :: S))) t := XS.ifnullNo X.here hq.1 rfl (hb hq.2 hd) rfl K
theorem o_ifnonnullY (X : Stand p l e R s m args below meth c T locs cells slots) (hq : p.tables.exec = Jvm.exec ∧ c.code = bytes) {o : Int} {b : Addr} (hd : decode bytes pc = .ok (.ifnonnull o, 3)) (K : Steps p.tables e below (T.setTop (mkF m pc' Ls (S))) t) (ho : 0 ≤ (pc : Int) + o := by decide) (hp : ((pc : Int) + o).toNat = pc' := by decide) : Steps p.tables e below (T.setTop (mkF m pc Ls (.ref b :: S))) t := XS.ifnonnullYes X.here hq.1 rfl (pc0 := pc) (pc' := pc') rfl (hb hq.2 hd) rfl ho hp K
theorem o_ifnonnullN (X : Stand p l e R s m args below meth c T locs cells slots) (hq : p.tables.exec = Jvm.exec ∧ c.code = bytes) {o : Int} (hd : decode bytes pc = .ok (.ifnonnull o, 3)) (K : Steps p.tables e below (T.setTop (mkF m (pc + 3) Ls (S))) t) : Steps p.tables e below (T.setTop (mkF m pc Ls (.null :: S))) t := XS.ifnonnullNo X.here hq.1 rfl (hb hq.2 hd) rfl K
end OwnSteps
section OwnArr
variable {p : Program} {l : Launch} {e : Env} {R : Room} {s Z : State} {m : MethodId} {args : Array Value} {below : List Frame} {meth : Method} {c : Code} {T t : State} {locs : List Loc} {cells slots : Nat} {bytes : ByteArray} {pc : Nat} {Ls : Array Slot} {S : List Value} {v dv : Value} {h : Heap} {a : Addr} {k : ClassId} {n : Int32} {vs : List Value} {ty : FieldType}
theorem o_caload (X : Stand p l e R s m args below meth c T locs cells slots) (hq : p.tables.exec = Jvm.exec ∧ c.code = bytes) (hd : decode bytes pc = .ok (.caload, 1)) (hZ : Z.Warmed39 s.vm) (eT : T.heap = h) (F : Arv Z h a k .char n vs dv) {i : Int32} (q : ¬ i < 0 ∧ i < n) (u : vs.getD i.toNatClampNeg dv = v) (K : Steps p.tables e below (T.setTop (mkF m (pc + 1) Ls (v :: S))) t) : Steps p.tables e below (T.setTop (mkF m pc Ls (.int i :: .ref a :: S))) t := by
  obtain ⟨cl, A, -, Sz, -, Hh, -⟩ := F
  have hin := inb_of Sz q
  exact X.caload hq.1 (j := i) (v := v) (by rw [eT]; exact A.1) (State.isArrayOf_alike hZ.alike A.2.1) A.2.2 hin (Has.at Hh hin u) (g := mkF m pc Ls (.int i :: .ref a :: S)) rfl rfl (hb hq.2 hd) _ K
theorem o_baload (X : Stand p l e R s m args below meth c T locs cells slots) (hq : p.tables.exec = Jvm.exec ∧ c.code = bytes) (hd : decode bytes pc = .ok (.baload, 1)) (hZ : Z.Warmed39 s.vm) (eT : T.heap = h) (F : Arv Z h a k .byte n vs dv) {i : Int32} (q : ¬ i < 0 ∧ i < n) (u : vs.getD i.toNatClampNeg dv = v) (K : Steps p.tables e below (T.setTop (mkF m (pc + 1) Ls (v :: S))) t) : Steps p.tables e below (T.setTop (mkF m pc Ls (.int i :: .ref a :: S))) t := by
  obtain ⟨cl, A, -, Sz, -, Hh, -⟩ := F
  have hin := inb_of Sz q
  exact X.baloadBytes hq.1 (j := i) (v := v) (by rw [eT]; exact A.1) (State.isArrayOf_alike hZ.alike A.2.1) A.2.2 hin (Has.at Hh hin u) (g := mkF m pc Ls (.int i :: .ref a :: S)) rfl rfl (hb hq.2 hd) _ K
theorem o_alen (X : Stand p l e R s m args below meth c T locs cells slots) (hq : p.tables.exec = Jvm.exec ∧ c.code = bytes) (hd : decode bytes pc = .ok (.arraylength, 1)) (hZ : Z.Warmed39 s.vm) (eT : T.heap = h) (F : Arv Z h a k ty n vs dv) (K : Steps p.tables e below (T.setTop (mkF m (pc + 1) Ls (.int n :: S))) t) : Steps p.tables e below (T.setTop (mkF m pc Ls (.ref a :: S))) t := by
  obtain ⟨cl, A, -, Sz, Nn, -, -⟩ := F
  refine X.arraylength hq.1 (by rw [eT]; exact A.1) (State.isArrayOf_alike hZ.alike A.2.1) (g := mkF m pc Ls (.ref a :: S)) rfl rfl (hb hq.2 hd) _ ?_
  rw [len_of Sz Nn]; exact K
theorem own_stC (X : Stand p l e R s m args below meth c T locs cells slots) (hx : p.tables.exec = Jvm.exec) (hZ : Z.Warmed39 s.vm) (eT : T.heap = h) (F : Arv Z h a k .char n vs dv) (nz : Nat) (j : Int32) (x y : Int32) (i : Nat) (hy : nar .char x = y) (hd : decode c.code pc = .ok (.castore, 1)) (Ls : Array Slot) (S : List Value) {vs2 : List Value} (h2 : (vs ++ List.replicate nz dv).set i (.int y) = vs2 := by rfl) (hj : j.toNatClampNeg = i := by rfl) (hl : Nat.ble (i + 1) (vs ++ List.replicate nz dv).length = true := by rfl) (q : ¬ j < 0 ∧ j < n := by decide +kernel) :
    ∃ T' h', Stand p l e R s m args below meth c T' (locs ++ [⟨a, j.toNatClampNeg⟩]) cells slots ∧ T'.heap = h' ∧ Wr h h' a j.toNatClampNeg (.int y) ∧ Arv Z h' a k .char n vs2 dv ∧ ∀ t, Steps p.tables e below (T'.setTop (mkF m (pc + 1) Ls S)) t → Steps p.tables e below (T.setTop (mkF m pc Ls (.int x :: .int j :: .ref a :: S))) t := by
  subst hy h2
  obtain ⟨cl, A, qk, Sz, Nn, Hh, Gg⟩ := F.pad (pad_rep vs dv nz)
  have hin := inb_of Sz q
  obtain ⟨T', h', X', e', W, st⟩ := stC X hx hZ eT A (j := j) hin (g := mkF m pc Ls (.int x :: .int j :: .ref a :: S)) rfl rfl hd
  exact ⟨T', h', X', e', W, Arv.set A qk Sz Nn Hh Gg (fits_nar_char _) W i hj (Nat.le_of_ble_eq_true hl), st⟩
theorem own_stB (X : Stand p l e R s m args below meth c T locs cells slots) (hx : p.tables.exec = Jvm.exec) (hZ : Z.Warmed39 s.vm) (eT : T.heap = h) (F : Arv Z h a k .byte n vs dv) (nz : Nat) (j : Int32) (x y : Int32) (i : Nat) (hy : nar .byte x = y) (hd : decode c.code pc = .ok (.bastore, 1)) (Ls : Array Slot) (S : List Value) {vs2 : List Value} (h2 : (vs ++ List.replicate nz dv).set i (.int y) = vs2 := by rfl) (hj : j.toNatClampNeg = i := by rfl) (hl : Nat.ble (i + 1) (vs ++ List.replicate nz dv).length = true := by rfl) (q : ¬ j < 0 ∧ j < n := by decide +kernel) :
    ∃ T' h', Stand p l e R s m args below meth c T' (locs ++ [⟨a, j.toNatClampNeg⟩]) cells slots ∧ T'.heap = h' ∧ Wr h h' a j.toNatClampNeg (.int y) ∧ Arv Z h' a k .byte n vs2 dv ∧ ∀ t, Steps p.tables e below (T'.setTop (mkF m (pc + 1) Ls S)) t → Steps p.tables e below (T.setTop (mkF m pc Ls (.int x :: .int j :: .ref a :: S))) t := by
  subst hy h2
  obtain ⟨cl, A, qk, Sz, Nn, Hh, Gg⟩ := F.pad (pad_rep vs dv nz)
  have hin := inb_of Sz q
  obtain ⟨T', h', X', e', W, st⟩ := stB X hx hZ eT A (j := j) hin (g := mkF m pc Ls (.int x :: .int j :: .ref a :: S)) rfl rfl hd
  exact ⟨T', h', X', e', W, Arv.set A qk Sz Nn Hh Gg (fits_nar_byte _) W i hj (Nat.le_of_ble_eq_true hl), st⟩
end OwnArr
theorem own_wS {Z : State} {a0 : Array Value} (hw : ∀ d ∈ own_ws, d.before a0 Z = true) : ∀ a ∈ Bundle.stringAtoms, a.before a0 Z = true := fun a ha => by
  simp only [Bundle.stringAtoms, List.mem_cons, List.not_mem_nil, or_false] at ha
  rcases ha with rfl | rfl | rfl | rfl | rfl | rfl | rfl
  · exact hw _ (gw 4 rfl)
  · exact hw _ (gw 5 rfl)
  · exact hw _ (gw 6 rfl)
  · exact hw _ (gw 7 rfl)
  · exact hw _ (gw 8 rfl)
  · exact hw _ (gw 9 rfl)
  · exact hw _ (gw 10 rfl)
def own_EL : List (String × Nat) := consts_1
theorem own_EW {Z : State} {a0 : Array Value} (hw : ∀ d ∈ own_ws, d.before a0 Z = true) : EW Z a0 own_EL := (EW.cons (ww3 hw) (by decide +kernel) (EW.cons (ww125 hw) (by decide +kernel) (EW.cons (ww123 hw) (by decide +kernel) (EW.cons (ww121 hw) (by decide +kernel) (EW.cons (ww150 hw) (by decide +kernel) EW.nil)))))
theorem own_compact {Z : State} {a0 : Array Value} (hw : ∀ d ∈ own_ws, d.before a0 Z = true) : Jvm.Lit.compactW.before a0 Z = true := hw _ (gw 153 rfl)
theorem own_held {tb : Tables} {e : Env} {args : Array Value} {s : State} (h : Calls_1 tb e args s) : ∀ p ∈ own_EL, Jvm.Lit.constHeld s p.1 p.2 := fun p hp => h.1 p hp
theorem own_safeNull {Z : State} {EL : List (String × Nat)} {vm : Vm} {h : Heap} {x : Addr} (hal : Z.vm.Alike vm) (E : Exa Z h x "java/lang/String") (F : Fld Z h x "java/lang/String" "value" "[B" .null) : Safe Z EL vm h x := fun B => by
  obtain ⟨cell, k, e1, e2, e3, -, -⟩ := E
  obtain ⟨cell', cf, kf, i, f, f1, f2, f3, f4, f5, f6, f7⟩ := F
  cases e1.symm.trans f1
  obtain ⟨p, -, u, a, -, q, -, F, rfl | rfl⟩ := B
  · cases (show h[q.sa]? = some q.sC from F.ha).symm.trans e1
    obtain ⟨cS, ⟨⟨s1, s2, s3, ⟨cv, kv, iv, s4, s4'⟩, s5, s6, s7, s8, s9, s10⟩, hfS, hcS⟩, -⟩ := F
    obtain ⟨kv', z4⟩ := ff_back (U := Wst Z vm h) hal s4
    cases f2.symm.trans z4
    cases f7.symm.trans s8
  · cases (show h[q.sd]? = some q.SA from F.hd).symm.trans e1
    obtain ⟨cS, -, -, g, -⟩ := F
    have g' : vm.findClass "[B" = some q.SA.cls := g
    rw [hal.findClass] at g'
    exact ids_ne e2 g' (by decide) rfl
/-! what every body's theorem says, its head and its calls, said once -/
abbrev own_Met (l : Launch) (Z : State) (y : MethodName) (bytes : ByteArray) (maxL : Nat) (ret : Option FieldType) (rm : Room) (as' : Array Value) (h : Heap) (Q : Option Value → Heap → List Loc → Prop) : Prop :=
  MetFree l y (head1 [Jvm.Cond.code y bytes maxL ret] rm) (fun a U => a = as' ∧ Z.Warmed39 U.vm ∧ U.heap = h) (fun _ _ _ _ _ => True) (fun _ U o U' => ∃ v L, o = .returned v ∧ Q v U'.heap L ∧ FrameEnd U o U' L rm.cells rm.slots)
abbrev own_MetW (l : Launch) (Z : State) (y : MethodName) (bytes : ByteArray) (maxL : Nat) (ret : Option FieldType) (rm : Room) (as' : Array Value) (h : Heap) (Q : Option Value → Heap → List Loc → Prop) : Prop :=
  MetFree l y (head1 [Jvm.Cond.code y bytes maxL ret] rm) (fun a U => a = as' ∧ Z.Warmed39 U.vm ∧ U.heap = h) (fun _ _ _ _ _ => True) (fun _ U o U' => ∃ v L, o = .returned v ∧ Q v U'.heap L ∧ ReturnedEndW U o U' L rm.cells rm.slots)
abbrev own_Ret (e : Env) (T : State) (m : MethodId) (v : Option Value) (fs : List Frame) : Prop := ∀ (f : JFrame) (acts : List Action), f.method = m → f.locked = none → f.entered = [] → (doReturn e (T.setTop f) acts v).1 = T.setFrames fs
theorem own_atH {T : State} {H : Heap} {Q : Option Value → Heap → List Loc → Prop} {v : Option Value} {L : List Loc} (E : T.heap = H) (q : Q v H L) : Q v T.heap L := by rw [E]; exact q
theorem own_body {l : Launch} {Z : State} {y : MethodName} {bytes : ByteArray} {maxL : Nat} {ret : Option FieldType} {rm : Room} {as' : Array Value} {h0 : Heap} {Q : Option Value → Heap → List Loc → Prop} {L0 : Array Slot} {ws : List Jvm.Cond} (hp : plainFor y = true) (hef : ∀ m, entryFrame m as' maxL = mkF m 0 L0 [])
    (H : ∀ (p : Program) (e : Env) (s : State) (m : MethodId) (below : List Frame) (meth : Method) (c : Code) (s₁ EN : State), p.tables.exec = Jvm.exec → c.code = bytes → c.maxLocals = maxL → s.vm.findClass y.cls = some m.cls → meth.name = y.name → meth.sig.returnType = ret → Stand p l e rm s m as' below meth c s₁ [] 0 0 → Z.Warmed39 s.vm → s₁.heap = h0 → s.heap = h0 → (∀ t, Steps p.tables e below (s₁.setTop (mkF m 0 L0 [])) t → Steps p.tables e below EN t) →
      (∀ (v : Option Value) (T : State) (locs : List Loc) (cells slots : Nat), Stand p l e rm s m as' below meth c T locs cells slots → (ret = none → v = none) → (∀ fs, own_Ret e T m v fs → Steps p.tables e below EN (T.setFrames fs)) → Q v T.heap locs → cells ≤ rm.cells → slots ≤ rm.slots → False) → False) :
    MetFree l y (head1 (Jvm.Cond.code y bytes maxL ret :: ws) rm) (fun a U => a = as' ∧ Z.Warmed39 U.vm ∧ U.heap = h0) (fun _ _ _ _ _ => True) (fun _ U o U' => ∃ v L, o = .returned v ∧ Q v U'.heap L ∧ FrameEnd U o U' L rm.cells rm.slots) := by
  refine MetFree.of_bodySF hp hisR ?_
  intro p e s m args below meth c s₁ Bd hml hP hK
  obtain ⟨rfl, hZ, hh⟩ := hP
  refine Classical.byContradiction fun hno => ?_
  have hnm := (name_of_methodNamed Bd.named Bd.method).1
  refine H p e s m below meth c s₁ _ Bd.exec Bd.bytes hml (findClass_of_methodNamed Bd.named) hnm Bd.returns (Stand.of_body Bd) hZ (by rw [← hh, Bd.state]; rfl) hh (fun t k => castTop (hef m) k) ?_
  intro v T locs cells slots X hv hst hQ hc hs
  obtain ⟨fs, hr, hrun, hended, hW, hsame⟩ := X.leave (v := v) (fun q => hv (Bd.returns ▸ q))
  exact hno ⟨_, _, hst fs hr, hrun, hended, _, _, rfl, hQ, ⟨_, rfl⟩, hW, hsame.mono hc hs⟩
section OwnCalls
variable {p : Program} {l : Launch} {e : Env} {R : Room} {s : State} {m : MethodId} {args : Array Value} {below : List Frame} {meth : Method} {c : Code} {T : State} {locs : List Loc} {cells slots : Nat} {Z : State} {a0 : Array Value} {h : Heap} {own C : String} {index count maxL mL0 pc W : Nat} {y z : MethodName} {bytes : ByteArray} {ret r : Option FieldType} {rm : Room} {as' : Array Value} {Q : Option Value → Heap → List Loc → Prop} {ps : List FieldType} {Ls : Array Slot} {argsL rest : List Value} {b : Addr}
abbrev own_Back (p : Program) (l : Launch) (e : Env) (R : Room) (s : State) (m : MethodId) (args : Array Value) (below : List Frame) (meth : Method) (c : Code) (T : State) (locs : List Loc) (cells slots pc n : Nat) (Ls : Array Slot) (S rest : List Value) (rm : Room) (Q : Option Value → Heap → List Loc → Prop) : Prop :=
  ∃ v T' L', Stand p l e R s m args below meth c T' (locs ++ L') (cells + rm.cells) (slots + rm.slots) ∧ Q v T'.heap L' ∧ ∀ target, Steps p.tables e below (T'.setTop (mkF m (pc + n) Ls (v.toList ++ rest))) target → Steps p.tables e below (T.setTop (mkF m pc Ls S)) target
theorem own_cS (X : Stand p l e R s m args below meth c T locs cells slots) (hx : p.tables.exec = Jvm.exec) (hZ : Z.Warmed39 s.vm) (hown : s.vm.findClass own = some m.cls) (w1 : (Cond.methodLink own index y).before a0 Z = true) (w2 : (Cond.static y).before a0 Z = true) (w3 : (Cond.initialized y.cls).before a0 Z = true) (w4 : (Cond.code y bytes maxL ret).before a0 Z = true)
    (hM : own_Met l Z y bytes maxL ret rm as' h Q) (eT : T.heap = h) (hdd : parseMethodDescriptor y.desc = some ⟨ps, r⟩) (hml : c.maxLocals = mL0) (hdec : decode c.code pc = .ok (.invokestatic index, 3)) (hsz : Ls.size = mL0 := by rfl) (hlen : argsL.length = ps.length := by rfl) (has : argsL.toArray = as' := by rfl) (hW : (rest.map fun v => v.category).sum ≤ W := by exact Nat.le_of_eq rfl)
    (hy : y.cls ≠ "java/lang/invoke/MethodHandle" ∧ y.cls ≠ "java/lang/invoke/VarHandle" := by decide) (hf : rm.frames + 1 ≤ R.frames := by decide) (hl : W + (maxL + 11) + rm.locals ≤ R.locals := by decide) (hc : cells + rm.cells ≤ R.cells := by decide) (hs : slots + rm.slots ≤ R.slots := by decide) :
    own_Back p l e R s m args below meth c T locs cells slots pc 3 Ls (argsL.reverse ++ rest) rest rm Q := by
  obtain ⟨v, _, ⟨T', L', k, n⟩, -, X', ⟨Lc, hQ, e1, e2, e3⟩, st⟩ := Jvm.LawKit.callS X hx (y := y) hown (mvT hZ w1) (mvT hZ w2) (mvT hZ w3) (mvT hZ w4) hy (backOf (W := W) hM hZ w4 w3 hf hl) (g := mkF m pc Ls (argsL.reverse ++ rest)) rfl (by rw [hml]; exact hsz) (argsL := argsL) (rest := rest) (lenOf hdd hlen) rfl (by show 2 * 0 + _ ≤ _; omega) hdec (fun _ _ => ⟨has, eT, hc, hs⟩)
  dsimp only [Pt.U, Pt.locs, Pt.cells, Pt.slots] at X' e1 e2 e3 st hQ
  subst e1 e2 e3
  exact ⟨v, T', Lc, X', hQ, st⟩
theorem own_cI (X : Stand p l e R s m args below meth c T locs cells slots) (hx : p.tables.exec = Jvm.exec) (hZ : Z.Warmed39 s.vm) (hown : s.vm.findClass own = some m.cls) (w1 : (Cond.methodLink own index y).before a0 Z = true) (w2 : (Cond.instanceMethod y).before a0 Z = true) (w3 : (Cond.initialized y.cls).before a0 Z = true) (w4 : (Cond.code y bytes maxL none).before a0 Z = true)
    (hM : own_Met l Z y bytes maxL none rm as' h Q) (eT : T.heap = h) (hdd : parseMethodDescriptor y.desc = some ⟨ps, r⟩) (hml : c.maxLocals = mL0) (hdec : decode c.code pc = .ok (.invokespecial index, 3)) (hni : y.name = "<init>" := by rfl) (hsz : Ls.size = mL0 := by rfl) (hlen : argsL.length = ps.length := by rfl) (has : (.ref b :: argsL).toArray = as' := by rfl) (hW : (rest.map fun v => v.category).sum ≤ W := by exact Nat.le_of_eq rfl)
    (hy : y.cls ≠ "java/lang/invoke/MethodHandle" ∧ y.cls ≠ "java/lang/invoke/VarHandle" := by decide) (hf : rm.frames + 1 ≤ R.frames := by decide) (hl : W + (maxL + 11) + rm.locals ≤ R.locals := by decide) (hc : cells + rm.cells ≤ R.cells := by decide) (hs : slots + rm.slots ≤ R.slots := by decide) :
    own_Back p l e R s m args below meth c T locs cells slots pc 3 Ls (argsL.reverse ++ .ref b :: rest) rest rm Q := by
  obtain ⟨v, _, ⟨T', L', k, n⟩, -, X', ⟨Lc, hQ, e1, e2, e3⟩, st⟩ := X.specialBack hx (y := y) hni hown (mvT hZ w1) (mvT hZ w2) (mvT hZ w4) hy (backOf (W := W) hM hZ w4 w3 hf hl) (g := mkF m pc Ls (argsL.reverse ++ .ref b :: rest)) rfl (by rw [hml]; exact hsz) (Steps.refl _) (a := b) (argsL := argsL) (rest := rest) (lenOf hdd hlen) rfl (by show 2 * 0 + _ ≤ _; omega) hdec (fun _ _ => ⟨has, eT, hc, hs⟩)
  dsimp only [Pt.U, Pt.locs, Pt.cells, Pt.slots] at X' e1 e2 e3 st hQ
  subst e1 e2 e3
  exact ⟨v, T', Lc, X', hQ, fun _ k => st.trans k⟩
theorem own_cV (X : Stand p l e R s m args below meth c T locs cells slots) (hx : p.tables.exec = Jvm.exec) (hZ : Z.Warmed39 s.vm) (hown : s.vm.findClass own = some m.cls) (w1 : (Cond.methodLink own index y).before a0 Z = true) (w2 : (Cond.declares y).before a0 Z = true) (nf : NotFace s y) (w3 : (Cond.selects C y z).before a0 Z = true) (w4 : (Cond.instanceMethod z).before a0 Z = true) (w5 : (Cond.initialized z.cls).before a0 Z = true) (w6 : (Cond.code z bytes maxL ret).before a0 Z = true)
    (E : Exa Z h b C) (hM : own_Met l Z z bytes maxL ret rm as' h Q) (eT : T.heap = h) (hdd : parseMethodDescriptor y.desc = some ⟨ps, r⟩) (hml : c.maxLocals = mL0) (hdec : decode c.code pc = .ok (.invokevirtual index, 3)) (hsz : Ls.size = mL0 := by rfl) (hlen : argsL.length = ps.length := by rfl) (has : (.ref b :: argsL).toArray = as' := by rfl) (hW : (rest.map fun v => v.category).sum ≤ W := by exact Nat.le_of_eq rfl)
    (hy : y.cls ≠ "java/lang/invoke/MethodHandle" ∧ y.cls ≠ "java/lang/invoke/VarHandle" := by decide) (hf : rm.frames + 1 ≤ R.frames := by decide) (hl : W + (maxL + 11) + rm.locals ≤ R.locals := by decide) (hc : cells + rm.cells ≤ R.cells := by decide) (hs : slots + rm.slots ≤ R.slots := by decide) :
    own_Back p l e R s m args below meth c T locs cells slots pc 3 Ls (argsL.reverse ++ .ref b :: rest) rest rm Q := by
  obtain ⟨cq, kq, qa, qb, qc⟩ := isOf hZ eT E
  obtain ⟨v, _, ⟨T', L', k, n⟩, -, X', ⟨Lc, hQ, e1, e2, e3⟩, st⟩ := X.virtualBack hx (y := y) (z := z) hown (mvT hZ w1) (mvT hZ w2) nf (mvT hZ w3) (mvT hZ w4) hy (backOf (W := W) hM hZ w6 w5 hf hl) qa qc (g := mkF m pc Ls (argsL.reverse ++ .ref b :: rest)) rfl (by rw [hml]; exact hsz) (Steps.refl _) (argsL := argsL) (rest := rest) (lenOf hdd hlen) rfl (by show 2 * 0 + _ ≤ _; omega) hdec (fun _ _ => ⟨has, eT, hc, hs⟩)
  dsimp only [Pt.U, Pt.locs, Pt.cells, Pt.slots] at X' e1 e2 e3 st hQ
  subst e1 e2 e3
  exact ⟨v, T', Lc, X', hQ, fun _ k => st.trans k⟩
end OwnCalls
section OwnCallsW
variable {p : Program} {l : Launch} {e : Env} {R : Room} {s : State} {m : MethodId} {args : Array Value} {below : List Frame} {meth : Method} {c : Code} {T : State} {locs : List Loc} {cells slots : Nat} {Z : State} {a0 : Array Value} {h : Heap} {own C : String} {index count maxL mL0 pc W k0 : Nat} {vm0 : Vm} {y z : MethodName} {bytes : ByteArray} {ret r : Option FieldType} {rm : Room} {as' : Array Value} {Q : Option Value → Heap → List Loc → Prop} {ps : List FieldType} {Ls : Array Slot} {argsL rest : List Value} {b : Addr}
abbrev own_BackW (p : Program) (l : Launch) (e : Env) (R : Room) (s : State) (m : MethodId) (args : Array Value) (below : List Frame) (meth : Method) (c : Code) (T : State) (locs : List Loc) (cells slots pc n : Nat) (Ls : Array Slot) (S rest : List Value) (rm : Room) (Q : Option Value → Heap → List Loc → Prop) (Z : State) (own : String) : Prop :=
  ∃ v T' L', Stand p l e R (s.setVm T'.vm) m args below meth c T' (locs ++ L') (cells + rm.cells) (slots + rm.slots) ∧ s.Since T'.vm T'.heap.size ∧ Z.Warmed39 (s.setVm T'.vm).vm ∧ (s.setVm T'.vm).vm.findClass own = some m.cls ∧ Q v T'.heap L' ∧ ∀ target, Steps p.tables e below (T'.setTop (mkF m (pc + n) Ls (v.toList ++ rest))) target → Steps p.tables e below (T.setTop (mkF m pc Ls S)) target
end OwnCallsW
abbrev own_MetH (l : Launch) (Z : State) (y : MethodName) (bytes : ByteArray) (maxL : Nat) (ret : Option FieldType) (rm : Room) (as' : Array Value) (h : Heap) (Q : Option Value → Heap → List Loc → Prop) : Prop :=
  MetFree l y (head1 [Jvm.Cond.code y bytes maxL ret] rm) (fun a U => a = as' ∧ Z.Warmed39 U.vm ∧ U.heap = h ∧ CHv Z own_EL U.vm h) (fun _ _ _ _ _ => True) (fun _ U o U' => ∃ v L, o = .returned v ∧ Q v U'.heap L ∧ CHr Z own_EL U.vm U.heap U'.vm U'.heap ∧ ReturnedEndW U o U' L rm.cells rm.slots)
theorem own_bodyH {l : Launch} {Z : State} {y : MethodName} {bytes : ByteArray} {maxL : Nat} {ret : Option FieldType} {rm : Room} {as' : Array Value} {h0 : Heap} {Q : Option Value → Heap → List Loc → Prop} {L0 : Array Slot} {ws : List Jvm.Cond} (hp : plainFor y = true) (hef : ∀ m, entryFrame m as' maxL = mkF m 0 L0 []) {a0 : Array Value} (hEL : EW Z a0 own_EL)
    (H : ∀ (p : Program) (e : Env) (s : State) (m : MethodId) (below : List Frame) (meth : Method) (c : Code) (s₁ EN : State), p.tables.exec = Jvm.exec → c.code = bytes → c.maxLocals = maxL → s.vm.findClass y.cls = some m.cls → meth.name = y.name → meth.sig.returnType = ret → Stand p l e rm s m as' below meth c s₁ [] 0 0 → Z.Warmed39 s.vm → s₁.heap = h0 → s.heap = h0 → (∀ t, Steps p.tables e below (s₁.setTop (mkF m 0 L0 [])) t → Steps p.tables e below EN t) → CHv Z own_EL s.vm h0 →
      (∀ (v : Option Value) (T : State) (locs : List Loc) (cells slots : Nat) (vm : Vm) (n : Nat), Stand p l e rm (s.setVm vm) m as' below meth c T locs cells slots → s.Since vm n → n ≤ T.heap.size → (ret = none → v = none) → (∀ fs, own_Ret e T m v fs → Steps p.tables e below EN (T.setFrames fs)) → Q v T.heap locs → Z.Warmed39 vm → CHr Z own_EL s.vm h0 vm T.heap → cells ≤ rm.cells → slots ≤ rm.slots → False) → False) :
    MetFree l y (head1 (Jvm.Cond.code y bytes maxL ret :: ws) rm) (fun a U => a = as' ∧ Z.Warmed39 U.vm ∧ U.heap = h0 ∧ CHv Z own_EL U.vm h0) (fun _ _ _ _ _ => True) (fun _ U o U' => ∃ v L, o = .returned v ∧ Q v U'.heap L ∧ CHr Z own_EL U.vm U.heap U'.vm U'.heap ∧ ReturnedEndW U o U' L rm.cells rm.slots) := by
  refine MetFree.of_bodySF hp hisR ?_
  intro p e s m args below meth c s₁ Bd hml hP hK
  obtain ⟨rfl, hZ, hh, hCH⟩ := hP
  refine Classical.byContradiction fun hno => ?_
  have hnm := (name_of_methodNamed Bd.named Bd.method).1
  refine H p e s m below meth c s₁ _ Bd.exec Bd.bytes hml (findClass_of_methodNamed Bd.named) hnm Bd.returns (Stand.of_body Bd) hZ (by rw [← hh, Bd.state]; rfl) hh (fun t k => castTop (hef m) k) hCH ?_
  intro v T locs cells slots vm n X hS hn hv hst hQ hZ' hCR hc hs
  obtain ⟨fs, hr, hrun, hended, hEnd⟩ := X.leaveW hS hn (v := v) (fun q => hv (Bd.returns ▸ q))
  have cfin : CHr Z own_EL s.vm s.heap (T.setFrames fs).vm (T.setFrames fs).heap := by
    show CHr Z own_EL s.vm s.heap T.vm T.heap
    rw [hh]; exact hCR.trans (CHv.at (s := s) (vm0 := vm) X hZ' hEL hCR.1)
  exact hno ⟨_, _, hst fs hr, hrun, hended, _, _, rfl, hQ, cfin, hEnd.1, hEnd.2.1, hEnd.2.2.1, hEnd.2.2.2.mono hc hs⟩
theorem own_body0H {l : Launch} {Z : State} {y : MethodName} {bytes : ByteArray} {maxL : Nat} {ret : Option FieldType} {rm : Room} {as' : Array Value} {h0 : Heap} {Q : Option Value → Heap → List Loc → Prop} {L0 : Array Slot} {ws : List Jvm.Cond} (hp : plainFor y = true) (hef : ∀ m, entryFrame m as' maxL = mkF m 0 L0 [])
    (H : ∀ (p : Program) (e : Env) (s : State) (m : MethodId) (below : List Frame) (meth : Method) (c : Code) (s₁ EN : State), p.tables.exec = Jvm.exec → c.code = bytes → c.maxLocals = maxL → s.vm.findClass y.cls = some m.cls → meth.name = y.name → meth.sig.returnType = ret → Stand p l e rm s m as' below meth c s₁ [] 0 0 → Z.Warmed39 s.vm → s₁.heap = h0 → s.heap = h0 → (∀ t, Steps p.tables e below (s₁.setTop (mkF m 0 L0 [])) t → Steps p.tables e below EN t) → CHv Z own_EL s.vm h0 →
      (∀ (v : Option Value) (T : State) (locs : List Loc) (cells slots : Nat) (vm : Vm) (n : Nat), Stand p l e rm (s.setVm vm) m as' below meth c T locs cells slots → s.Since vm n → n ≤ T.heap.size → (ret = none → v = none) → (∀ fs, own_Ret e T m v fs → Steps p.tables e below EN (T.setFrames fs)) → Q v T.heap locs → cells ≤ rm.cells → slots ≤ rm.slots → False) → False) :
    MetFree l y (head1 (Jvm.Cond.code y bytes maxL ret :: ws) rm) (fun a U => a = as' ∧ Z.Warmed39 U.vm ∧ U.heap = h0 ∧ CHv Z own_EL U.vm h0) (fun _ _ _ _ _ => True) (fun _ U o U' => ∃ v L, o = .returned v ∧ Q v U'.heap L ∧ ReturnedEndW U o U' L rm.cells rm.slots) := by
  refine MetFree.of_bodySF hp hisR ?_
  intro p e s m args below meth c s₁ Bd hml hP hK
  obtain ⟨rfl, hZ, hh, hCH⟩ := hP
  refine Classical.byContradiction fun hno => ?_
  have hnm := (name_of_methodNamed Bd.named Bd.method).1
  refine H p e s m below meth c s₁ _ Bd.exec Bd.bytes hml (findClass_of_methodNamed Bd.named) hnm Bd.returns (Stand.of_body Bd) hZ (by rw [← hh, Bd.state]; rfl) hh (fun t k => castTop (hef m) k) hCH ?_
  intro v T locs cells slots vm n X hS hn hv hst hQ hc hs
  obtain ⟨fs, hr, hrun, hended, hEnd⟩ := X.leaveW hS hn (v := v) (fun q => hv (Bd.returns ▸ q))
  exact hno ⟨_, _, hst fs hr, hrun, hended, _, _, rfl, hQ, hEnd.1, hEnd.2.1, hEnd.2.2.1, hEnd.2.2.2.mono hc hs⟩
section OwnCallsH
variable {p : Program} {l : Launch} {e : Env} {R : Room} {s : State} {m : MethodId} {args : Array Value} {below : List Frame} {meth : Method} {c : Code} {T : State} {locs : List Loc} {cells slots : Nat} {Z : State} {a0 : Array Value} {h : Heap} {own C : String} {index count maxL mL0 pc W k0 : Nat} {vm0 : Vm} {y z : MethodName} {bytes : ByteArray} {ret r : Option FieldType} {rm : Room} {as' : Array Value} {Q : Option Value → Heap → List Loc → Prop} {ps : List FieldType} {Ls : Array Slot} {argsL rest : List Value} {b : Addr}
abbrev own_BackH (p : Program) (l : Launch) (e : Env) (R : Room) (s : State) (m : MethodId) (args : Array Value) (below : List Frame) (meth : Method) (c : Code) (T : State) (locs : List Loc) (cells slots pc n : Nat) (Ls : Array Slot) (S rest : List Value) (rm : Room) (Q : Option Value → Heap → List Loc → Prop) (Z : State) (own : String) (vm0 : Vm) (h : Heap) : Prop :=
  ∃ v T' L', Stand p l e R (s.setVm T'.vm) m args below meth c T' (locs ++ L') (cells + rm.cells) (slots + rm.slots) ∧ s.Since T'.vm T'.heap.size ∧ Z.Warmed39 (s.setVm T'.vm).vm ∧ (s.setVm T'.vm).vm.findClass own = some m.cls ∧ CHr Z own_EL vm0 h T'.vm T'.heap ∧ Q v T'.heap L' ∧ ∀ target, Steps p.tables e below (T'.setTop (mkF m (pc + n) Ls (v.toList ++ rest))) target → Steps p.tables e below (T.setTop (mkF m pc Ls S)) target
theorem own_cSH (X : Stand p l e R (s.setVm vm0) m args below meth c T locs cells slots) (hx : p.tables.exec = Jvm.exec) (hZ : Z.Warmed39 vm0) (hown : vm0.findClass own = some m.cls) (hS : s.Since vm0 k0) (hk : k0 ≤ h.size) (hEL : EW Z a0 own_EL) (hCH : CHv Z own_EL vm0 h) (w1 : (Cond.methodLink own index y).before a0 Z = true) (w2 : (Cond.static y).before a0 Z = true) (w3 : (Cond.initialized y.cls).before a0 Z = true) (w4 : (Cond.code y bytes maxL ret).before a0 Z = true)
    (hM : own_MetH l Z y bytes maxL ret rm as' h Q) (eT : T.heap = h) (hdd : parseMethodDescriptor y.desc = some ⟨ps, r⟩) (hml : c.maxLocals = mL0) (hdec : decode c.code pc = .ok (.invokestatic index, 3)) (hsz : Ls.size = mL0 := by rfl) (hlen : argsL.length = ps.length := by rfl) (has : argsL.toArray = as' := by rfl) (hW : (rest.map fun v => v.category).sum ≤ W := by exact Nat.le_of_eq rfl)
    (hy : y.cls ≠ "java/lang/invoke/MethodHandle" ∧ y.cls ≠ "java/lang/invoke/VarHandle" := by decide) (hf : rm.frames + 1 ≤ R.frames := by decide) (hl : W + (maxL + 11) + rm.locals ≤ R.locals := by decide) (hc : cells + rm.cells ≤ R.cells := by decide) (hs : slots + rm.slots ≤ R.slots := by decide) :
    own_BackH p l e R s m args below meth c T locs cells slots pc 3 Ls (argsL.reverse ++ rest) rest rm Q Z own vm0 h := by
  have hZ' : Z.Warmed39 (s.setVm vm0).vm := hZ
  obtain ⟨v, _, ⟨T', L', k, n⟩, -, X', sn, gr, ⟨Lc, hQ, e1, e2, e3, cg⟩, st⟩ := callSS X hx (y := y) hown (mvT hZ' w1) (mvT hZ' w2) (mvT hZ' w3) (mvT hZ' w4) hy (backOfSH (s := s) (vm0 := vm0) (EL := own_EL) (W := W) hM hZ w4 w3 hf hl hEL hCH) (g := mkF m pc Ls (argsL.reverse ++ rest)) rfl (by rw [hml]; exact hsz) (argsL := argsL) (rest := rest) (lenOf hdd hlen) rfl (by show 2 * 0 + _ ≤ _; omega) hdec (fun _ _ => ⟨has, eT, hc, hs⟩)
  dsimp only [Pt.U, Pt.locs, Pt.cells, Pt.slots] at X' e1 e2 e3 st hQ sn gr cg
  subst e1 e2 e3
  rw [eT] at gr
  exact ⟨v, T', Lc, X', hS.trans sn (Nat.le_trans hk gr), State.Warmed39.trans (t := s.setVm vm0) hZ sn.1, by rw [show (s.setVm T'.vm).vm = T'.vm from rfl, sn.1.alike.findClass]; exact hown, cg, hQ, fun _ k => st.trans k⟩
theorem own_cIH (X : Stand p l e R (s.setVm vm0) m args below meth c T locs cells slots) (hx : p.tables.exec = Jvm.exec) (hZ : Z.Warmed39 vm0) (hown : vm0.findClass own = some m.cls) (hS : s.Since vm0 k0) (hk : k0 ≤ h.size) (hEL : EW Z a0 own_EL) (hCH : CHv Z own_EL vm0 h) (w1 : (Cond.methodLink own index y).before a0 Z = true) (w2 : (Cond.instanceMethod y).before a0 Z = true) (w3 : (Cond.initialized y.cls).before a0 Z = true) (w4 : (Cond.code y bytes maxL none).before a0 Z = true)
    (hM : own_MetH l Z y bytes maxL none rm as' h Q) (eT : T.heap = h) (hdd : parseMethodDescriptor y.desc = some ⟨ps, r⟩) (hml : c.maxLocals = mL0) (hdec : decode c.code pc = .ok (.invokespecial index, 3)) (hni : y.name = "<init>" := by rfl) (hsz : Ls.size = mL0 := by rfl) (hlen : argsL.length = ps.length := by rfl) (has : (.ref b :: argsL).toArray = as' := by rfl) (hW : (rest.map fun v => v.category).sum ≤ W := by exact Nat.le_of_eq rfl)
    (hy : y.cls ≠ "java/lang/invoke/MethodHandle" ∧ y.cls ≠ "java/lang/invoke/VarHandle" := by decide) (hf : rm.frames + 1 ≤ R.frames := by decide) (hl : W + (maxL + 11) + rm.locals ≤ R.locals := by decide) (hc : cells + rm.cells ≤ R.cells := by decide) (hs : slots + rm.slots ≤ R.slots := by decide) :
    own_BackH p l e R s m args below meth c T locs cells slots pc 3 Ls (argsL.reverse ++ .ref b :: rest) rest rm Q Z own vm0 h := by
  have hZ' : Z.Warmed39 (s.setVm vm0).vm := hZ
  obtain ⟨v, _, ⟨T', L', k, n⟩, -, X', sn, gr, ⟨Lc, hQ, e1, e2, e3, cg⟩, st⟩ := X.specialBackS hx (y := y) hni hown (mvT hZ' w1) (mvT hZ' w2) (mvT hZ' w4) hy (backOfSH (s := s) (vm0 := vm0) (EL := own_EL) (W := W) hM hZ w4 w3 hf hl hEL hCH) (g := mkF m pc Ls (argsL.reverse ++ .ref b :: rest)) rfl (by rw [hml]; exact hsz) (Steps.refl _) (a := b) (argsL := argsL) (rest := rest) (lenOf hdd hlen) rfl (by show 2 * 0 + _ ≤ _; omega) hdec (fun _ _ => ⟨has, eT, hc, hs⟩)
  dsimp only [Pt.U, Pt.locs, Pt.cells, Pt.slots] at X' e1 e2 e3 st hQ sn gr cg
  subst e1 e2 e3
  rw [eT] at gr
  exact ⟨v, T', Lc, X', hS.trans sn (Nat.le_trans hk gr), State.Warmed39.trans (t := s.setVm vm0) hZ sn.1, by rw [show (s.setVm T'.vm).vm = T'.vm from rfl, sn.1.alike.findClass]; exact hown, cg, hQ, fun _ k => st.trans k⟩
end OwnCallsH
theorem own_and3 (x : Int32) : x &&& 3 = 0 ∨ x &&& 3 = 1 ∨ x &&& 3 = 2 ∨ x &&& 3 = 3 := by
  have h := Jvm.Kit.i32_mask x 3 (k := 2) (by decide) (by decide +kernel)
  have e0 : (0 : Int32).toInt = 0 := by decide +kernel
  have e1 : (1 : Int32).toInt = 1 := by decide +kernel
  have e2 : (2 : Int32).toInt = 2 := by decide +kernel
  have e3 : (3 : Int32).toInt = 3 := by decide +kernel
  simp only [← Int32.toInt_inj, e0, e1, e2, e3]
  omega
theorem own_mod4 {y x : Int32} (h : y = x &&& 2147483647) : y % 4 = 0 ∨ y % 4 = 1 ∨ y % 4 = 2 ∨ y % 4 = 3 := by
  subst h
  have h := Jvm.Kit.i32_mask x 2147483647 (k := 31) (by decide) (by decide +kernel)
  have hn : (4 : Int32).toInt = 4 := by decide +kernel
  have h2 : ((x &&& 2147483647) % 4).toInt = (x &&& 2147483647).toInt % 4 := by rw [Jvm.Kit.i32_rem_nonneg (by omega), hn]
  have e0 : (0 : Int32).toInt = 0 := by decide +kernel
  have e1 : (1 : Int32).toInt = 1 := by decide +kernel
  have e2 : (2 : Int32).toInt = 2 := by decide +kernel
  have e3 : (3 : Int32).toInt = 3 := by decide +kernel
  simp only [← Int32.toInt_inj, e0, e1, e2, e3]
  omega
theorem own_mod5 {y x : Int32} (h : y = x &&& 2147483647) : y % 5 = 0 ∨ y % 5 = 1 ∨ y % 5 = 2 ∨ y % 5 = 3 ∨ y % 5 = 4 := by
  subst h
  have h := Jvm.Kit.i32_mask x 2147483647 (k := 31) (by decide) (by decide +kernel)
  have hn : (5 : Int32).toInt = 5 := by decide +kernel
  have h2 : ((x &&& 2147483647) % 5).toInt = (x &&& 2147483647).toInt % 5 := by rw [Jvm.Kit.i32_rem_nonneg (by omega), hn]
  have e0 : (0 : Int32).toInt = 0 := by decide +kernel
  have e1 : (1 : Int32).toInt = 1 := by decide +kernel
  have e2 : (2 : Int32).toInt = 2 := by decide +kernel
  have e3 : (3 : Int32).toInt = 3 := by decide +kernel
  have e4 : (4 : Int32).toInt = 4 := by decide +kernel
  simp only [← Int32.toInt_inj, e0, e1, e2, e3, e4]
  omega
theorem own_mod6 {y x : Int32} (h : y = x &&& 2147483647) : y % 6 = 0 ∨ y % 6 = 1 ∨ y % 6 = 2 ∨ y % 6 = 3 ∨ y % 6 = 4 ∨ y % 6 = 5 := by
  subst h
  have h := Jvm.Kit.i32_mask x 2147483647 (k := 31) (by decide) (by decide +kernel)
  have hn : (6 : Int32).toInt = 6 := by decide +kernel
  have h2 : ((x &&& 2147483647) % 6).toInt = (x &&& 2147483647).toInt % 6 := by rw [Jvm.Kit.i32_rem_nonneg (by omega), hn]
  have e0 : (0 : Int32).toInt = 0 := by decide +kernel
  have e1 : (1 : Int32).toInt = 1 := by decide +kernel
  have e2 : (2 : Int32).toInt = 2 := by decide +kernel
  have e3 : (3 : Int32).toInt = 3 := by decide +kernel
  have e4 : (4 : Int32).toInt = 4 := by decide +kernel
  have e5 : (5 : Int32).toInt = 5 := by decide +kernel
  simp only [← Int32.toInt_inj, e0, e1, e2, e3, e4, e5]
  omega
theorem own_mod7 {y x : Int32} (h : y = x &&& 2147483647) : y % 7 = 0 ∨ y % 7 = 1 ∨ y % 7 = 2 ∨ y % 7 = 3 ∨ y % 7 = 4 ∨ y % 7 = 5 ∨ y % 7 = 6 := by
  subst h
  have h := Jvm.Kit.i32_mask x 2147483647 (k := 31) (by decide) (by decide +kernel)
  have hn : (7 : Int32).toInt = 7 := by decide +kernel
  have h2 : ((x &&& 2147483647) % 7).toInt = (x &&& 2147483647).toInt % 7 := by rw [Jvm.Kit.i32_rem_nonneg (by omega), hn]
  have e0 : (0 : Int32).toInt = 0 := by decide +kernel
  have e1 : (1 : Int32).toInt = 1 := by decide +kernel
  have e2 : (2 : Int32).toInt = 2 := by decide +kernel
  have e3 : (3 : Int32).toInt = 3 := by decide +kernel
  have e4 : (4 : Int32).toInt = 4 := by decide +kernel
  have e5 : (5 : Int32).toInt = 5 := by decide +kernel
  have e6 : (6 : Int32).toInt = 6 := by decide +kernel
  simp only [← Int32.toInt_inj, e0, e1, e2, e3, e4, e5, e6]
  omega
theorem own_nar255 {y x : Int32} (h : y = x &&& 255) : nar .char y = y := by subst h; exact i2c_mask x
theorem own_i2c255 {y x : Int32} (h : y = x &&& 255) : y.toUInt32.toUInt16.toUInt32.toInt32 = y := by subst h; exact i2c_mask x
theorem own_lt255 {y x : Int32} (h : y = x &&& 255) : ¬ ((255 : Int32) < y) := by
  subst h
  have h := Jvm.Kit.i32_mask x 255 (k := 8) (by decide) (by decide +kernel)
  have e : (255 : Int32).toInt = 255 := by decide +kernel
  rw [Int32.lt_iff_toInt_lt, e]; omega
theorem own_i2b2 {y x : Int32} (h : y = x.toInt8.toInt32) : y.toInt8.toInt32 = y := by
  subst h; rw [Int8.toInt8_toInt32]
theorem own_b255 {b y x : Int32} (hb : b = y.toInt8.toInt32) (h : y = x &&& 255) : b &&& 255 = y := by
  subst hb
  have h1 := Jvm.Kit.i32_mask (y.toInt8.toInt32) 255 (k := 8) (by decide) (by decide +kernel)
  have h2 := Jvm.Kit.i32_mask x 255 (k := 8) (by decide) (by decide +kernel)
  rw [← h] at h2
  have h3 : y.toInt8.toInt32.toInt = y.toInt.bmod 256 := by rw [Int8.toInt_toInt32, Int32.toInt_toInt8]
  rw [← Int32.toInt_inj, h1, h3, Int.bmod_def]
  split <;> omega
theorem own_beq {b c y z u v : Int32} (h1 : b = y.toInt8.toInt32) (h2 : c = z.toInt8.toInt32) (h : y = z) : b = c := by rw [h1, h2, h]
theorem own_bne {b c y z u v : Int32} (h1 : b = y.toInt8.toInt32) (h2 : c = z.toInt8.toInt32) (m1 : y = u &&& 255) (m2 : z = v &&& 255) (h : ¬ y = z) : ¬ b = c := fun q => h (by rw [← own_b255 h1 m1, ← own_b255 h2 m2, q])
theorem own_ltk {y x k : Int32} (h : y = x &&& 255) (hk : 255 < k.toInt) : y < k := by
  subst h
  have h := Jvm.Kit.i32_mask x 255 (k := 8) (by decide) (by decide +kernel)
  rw [Int32.lt_iff_toInt_lt]; omega
theorem own_shr0 (n : Int32) : (n >>> ((0 : Int32) &&& 31)) = n := by
  have h : ((0 : Int32) &&& 31) = 0 := by decide +kernel
  rw [h]; simp
theorem own_nn {y x : Int32} (h : y = x &&& 255) : ¬ (y < (0 : Int32)) := by
  subst h
  have h := Jvm.Kit.i32_mask x 255 (k := 8) (by decide) (by decide +kernel)
  have e : (0 : Int32).toInt = 0 := by decide +kernel
  rw [Int32.lt_iff_toInt_lt, e]; omega
theorem own_mself {y : Int32} (h1 : ¬ ((255 : Int32) < y)) (h2 : ¬ (y < (0 : Int32))) : y = y &&& 255 := by
  have h := Jvm.Kit.i32_mask y 255 (k := 8) (by decide) (by decide +kernel)
  have e : (0 : Int32).toInt = 0 := by decide +kernel
  have e1 : (255 : Int32).toInt = 255 := by decide +kernel
  rw [Int32.lt_iff_toInt_lt, e1] at h1
  rw [Int32.lt_iff_toInt_lt, e] at h2
  rw [← Int32.toInt_inj, h]; omega
theorem own_ncR {y : Int32} (h1 : ¬ ((255 : Int32) < y)) (h2 : ¬ (y < (0 : Int32))) : nar .char y = y := own_nar255 (own_mself h1 h2)
theorem own_bnl {b y u k c : Int32} (h1 : b = y.toInt8.toInt32) (m1 : y = u &&& 255) (hc : (c &&& 255).toInt8.toInt32 = k) (h : ¬ y = c &&& 255) : ¬ b = k := by
  rw [← hc]; exact own_bne h1 rfl m1 rfl h
theorem own_bel {b y k c : Int32} (h1 : b = y.toInt8.toInt32) (hc : c.toInt8.toInt32 = k) (h : y = c) : b = k := by rw [h1, h, hc]
abbrev C_0 : String := "com/example/stern_warden/sternwarden/model/AccessMode"
abbrev C_1 : String := "Lcom/example/stern_warden/sternwarden/model/AccessMode;"
abbrev bc1 : ByteArray := jdk_42_method_54_code
theorem d1_0 : decode bc1 0 = .ok (.aload_n 0, 1) := by decide +kernel
theorem d1_1 : decode bc1 1 = .ok (.getfield 9, 3) := by decide +kernel
abbrev C_2 : String := "java/lang/String"
theorem d1_4 : decode bc1 4 = .ok (.arraylength, 1) := by decide +kernel
theorem d1_5 : decode bc1 5 = .ok (.aload_n 0, 1) := by decide +kernel
theorem d1_6 : decode bc1 6 = .ok (.invokevirtual 335, 3) := by decide +kernel
abbrev bc2 : ByteArray := jdk_42_method_152_code
theorem d2_0 : decode bc2 0 = .ok (.getstatic 38, 3) := by decide +kernel
theorem d2_3 : decode bc2 3 = .ok (.ifCond .eq 10, 3) := by decide +kernel
theorem d2_6 : decode bc2 6 = .ok (.aload_n 0, 1) := by decide +kernel
theorem d2_7 : decode bc2 7 = .ok (.getfield 15, 3) := by decide +kernel
theorem d2_10 : decode bc2 10 = .ok (.goto 4, 3) := by decide +kernel
theorem d2_14 : decode bc2 14 = .ok (.ireturn, 1) := by decide +kernel
abbrev M_0 : MethodName := ⟨"java/lang/String", "coder", "()B"⟩
theorem pn_0 : plainName "java/lang/String" = true := by first | (simp [plainName, overriddenIn]; done) | decide +kernel
theorem pd_0 : parseMethodDescriptor "()B" = some ⟨[], some .byte⟩ := by decide +kernel
theorem d1_9 : decode bc1 9 = .ok (.ishr, 1) := by decide +kernel
theorem d1_10 : decode bc1 10 = .ok (.ireturn, 1) := by decide +kernel
abbrev M_1 : MethodName := ⟨"java/lang/String", "length", "()I"⟩
theorem pd_1 : parseMethodDescriptor "()I" = some ⟨[], some .int⟩ := by decide +kernel
abbrev bc3 : ByteArray := method_2_code
theorem d3_0 : decode bc3 0 = .ok (.iload_n 1, 1) := by decide +kernel
theorem d3_1 : decode bc3 1 = .ok (.aload_n 0, 1) := by decide +kernel
theorem d3_2 : decode bc3 2 = .ok (.invokevirtual 7, 3) := by decide +kernel
theorem d3_5 : decode bc3 5 = .ok (.if_icmp .ge 11, 3) := by decide +kernel
theorem kll0_4 : (0 : Int32) < (4 : Int32) := by decide +kernel
theorem d3_8 : decode bc3 8 = .ok (.aload_n 0, 1) := by decide +kernel
theorem d3_9 : decode bc3 9 = .ok (.iload_n 1, 1) := by decide +kernel
theorem d3_10 : decode bc3 10 = .ok (.invokevirtual 13, 3) := by decide +kernel
abbrev bc4 : ByteArray := jdk_42_method_56_code
theorem d4_0 : decode bc4 0 = .ok (.aload_n 0, 1) := by decide +kernel
theorem d4_1 : decode bc4 1 = .ok (.invokevirtual 492, 3) := by decide +kernel
abbrev bc5 : ByteArray := jdk_42_method_154_code
theorem d5_0 : decode bc5 0 = .ok (.getstatic 38, 3) := by decide +kernel
theorem d5_3 : decode bc5 3 = .ok (.ifCond .eq 14, 3) := by decide +kernel
theorem d5_6 : decode bc5 6 = .ok (.aload_n 0, 1) := by decide +kernel
theorem d5_7 : decode bc5 7 = .ok (.getfield 15, 3) := by decide +kernel
theorem d5_10 : decode bc5 10 = .ok (.ifCond .ne 7, 3) := by decide +kernel
theorem d5_13 : decode bc5 13 = .ok (.iconst 1, 1) := by decide +kernel
theorem d5_14 : decode bc5 14 = .ok (.goto 4, 3) := by decide +kernel
theorem d5_18 : decode bc5 18 = .ok (.ireturn, 1) := by decide +kernel
abbrev M_2 : MethodName := ⟨"java/lang/String", "isLatin1", "()Z"⟩
theorem pd_2 : parseMethodDescriptor "()Z" = some ⟨[], some .boolean⟩ := by decide +kernel
theorem d4_4 : decode bc4 4 = .ok (.ifCond .eq 12, 3) := by decide +kernel
theorem d4_7 : decode bc4 7 = .ok (.aload_n 0, 1) := by decide +kernel
theorem d4_8 : decode bc4 8 = .ok (.getfield 9, 3) := by decide +kernel
theorem d4_11 : decode bc4 11 = .ok (.iload_n 1, 1) := by decide +kernel
theorem d4_12 : decode bc4 12 = .ok (.invokestatic 495, 3) := by decide +kernel
abbrev bc6 : ByteArray := jdk_43_method_2_code
theorem d6_0 : decode bc6 0 = .ok (.iload_n 1, 1) := by decide +kernel
theorem d6_1 : decode bc6 1 = .ok (.aload_n 0, 1) := by decide +kernel
theorem d6_2 : decode bc6 2 = .ok (.arraylength, 1) := by decide +kernel
theorem d6_3 : decode bc6 3 = .ok (.invokestatic 9, 3) := by decide +kernel
abbrev bc7 : ByteArray := jdk_42_method_155_code
theorem d7_0 : decode bc7 0 = .ok (.iload_n 0, 1) := by decide +kernel
theorem d7_1 : decode bc7 1 = .ok (.iload_n 1, 1) := by decide +kernel
theorem d7_2 : decode bc7 2 = .ok (.getstatic 1053, 3) := by decide +kernel
abbrev C_3 : String := "jdk/internal/util/Preconditions"
abbrev C_4 : String := "Ljava/util/function/BiFunction;"
theorem d7_5 : decode bc7 5 = .ok (.invokestatic 1059, 3) := by decide +kernel
abbrev bc8 : ByteArray := jdk_41_method_11_code
theorem d8_0 : decode bc8 0 = .ok (.iload_n 0, 1) := by decide +kernel
theorem d8_1 : decode bc8 1 = .ok (.ifCond .lt 8, 3) := by decide +kernel
theorem kll0_0 : ¬ ((0 : Int32) < (0 : Int32)) := by decide +kernel
theorem d8_4 : decode bc8 4 = .ok (.iload_n 0, 1) := by decide +kernel
theorem d8_5 : decode bc8 5 = .ok (.iload_n 1, 1) := by decide +kernel
theorem d8_6 : decode bc8 6 = .ok (.if_icmp .lt 10, 3) := by decide +kernel
theorem d8_16 : decode bc8 16 = .ok (.iload_n 0, 1) := by decide +kernel
theorem d8_17 : decode bc8 17 = .ok (.ireturn, 1) := by decide +kernel
abbrev M_3 : MethodName := ⟨"jdk/internal/util/Preconditions", "checkIndex", "(IILjava/util/function/BiFunction;)I"⟩
theorem pn_1 : plainName "jdk/internal/util/Preconditions" = true := by first | (simp [plainName, overriddenIn]; done) | decide +kernel
theorem pd_3 : parseMethodDescriptor "(IILjava/util/function/BiFunction;)I" = some ⟨[.int, .int, (.object "java/util/function/BiFunction")], some .int⟩ := by decide +kernel
theorem d7_8 : decode bc7 8 = .ok (.pop, 1) := by decide +kernel
theorem d7_9 : decode bc7 9 = .ok (.return_, 1) := by decide +kernel
abbrev M_4 : MethodName := ⟨"java/lang/String", "checkIndex", "(II)V"⟩
theorem pd_4 : parseMethodDescriptor "(II)V" = some ⟨[.int, .int], none⟩ := by decide +kernel
theorem d6_6 : decode bc6 6 = .ok (.aload_n 0, 1) := by decide +kernel
theorem d6_7 : decode bc6 7 = .ok (.iload_n 1, 1) := by decide +kernel
theorem d6_8 : decode bc6 8 = .ok (.baload, 1) := by decide +kernel
theorem d6_9 : decode bc6 9 = .ok (.sipush 255, 3) := by decide +kernel
theorem d6_12 : decode bc6 12 = .ok (.iand, 1) := by decide +kernel
theorem d6_13 : decode bc6 13 = .ok (.i2c, 1) := by decide +kernel
theorem d6_14 : decode bc6 14 = .ok (.ireturn, 1) := by decide +kernel
abbrev M_5 : MethodName := ⟨"java/lang/StringLatin1", "charAt", "([BI)C"⟩
theorem pn_2 : plainName "java/lang/StringLatin1" = true := by first | (simp [plainName, overriddenIn]; done) | decide +kernel
theorem pd_5 : parseMethodDescriptor "([BI)C" = some ⟨[(.array .byte), .int], some .char⟩ := by decide +kernel
theorem d4_15 : decode bc4 15 = .ok (.ireturn, 1) := by decide +kernel
abbrev M_6 : MethodName := ⟨"java/lang/String", "charAt", "(I)C"⟩
theorem pd_6 : parseMethodDescriptor "(I)C" = some ⟨[.int], some .char⟩ := by decide +kernel
theorem d3_13 : decode bc3 13 = .ok (.goto 4, 3) := by decide +kernel
theorem d3_17 : decode bc3 17 = .ok (.ireturn, 1) := by decide +kernel
abbrev M_7 : MethodName := ⟨"com/example/stern_warden/sternwarden/model/AccessModeFromNamePinLaw", "at", "(Ljava/lang/String;I)C"⟩
theorem pn_3 : plainName "com/example/stern_warden/sternwarden/model/AccessModeFromNamePinLaw" = true := by first | (simp [plainName, overriddenIn]; done) | decide +kernel
theorem pd_7 : parseMethodDescriptor "(Ljava/lang/String;I)C" = some ⟨[(.object "java/lang/String"), .int], some .char⟩ := by decide +kernel
theorem knc82 : nar .char (82 : Int32) = (82 : Int32) := by decide +kernel
theorem kll1_4 : (1 : Int32) < (4 : Int32) := by decide +kernel
theorem kll1_0 : ¬ ((1 : Int32) < (0 : Int32)) := by decide +kernel
theorem knc101 : nar .char (101 : Int32) = (101 : Int32) := by decide +kernel
theorem kll2_4 : (2 : Int32) < (4 : Int32) := by decide +kernel
theorem kll2_0 : ¬ ((2 : Int32) < (0 : Int32)) := by decide +kernel
theorem knc97 : nar .char (97 : Int32) = (97 : Int32) := by decide +kernel
theorem kll3_4 : (3 : Int32) < (4 : Int32) := by decide +kernel
theorem kll3_0 : ¬ ((3 : Int32) < (0 : Int32)) := by decide +kernel
theorem knc100 : nar .char (100 : Int32) = (100 : Int32) := by decide +kernel
theorem kll4_4 : ¬ ((4 : Int32) < (4 : Int32)) := by decide +kernel
theorem d3_16 : decode bc3 16 = .ok (.iconst 0, 1) := by decide +kernel
theorem knc0 : nar .char (0 : Int32) = (0 : Int32) := by decide +kernel
theorem kll5_4 : ¬ ((5 : Int32) < (4 : Int32)) := by decide +kernel
theorem kll6_4 : ¬ ((6 : Int32) < (4 : Int32)) := by decide +kernel
theorem kll7_4 : ¬ ((7 : Int32) < (4 : Int32)) := by decide +kernel
abbrev C_5 : String := "Ljava/lang/String;"
theorem kle4_0 : ¬ ((4 : Int32) = (0 : Int32)) := by decide +kernel
abbrev bc9 : ByteArray := method_3_code
theorem d9_0 : decode bc9 0 = .ok (.iload_n 1, 1) := by decide +kernel
theorem d9_1 : decode bc9 1 = .ok (.ifCond .gt 14, 3) := by decide +kernel
theorem d9_15 : decode bc9 15 = .ok (.iload_n 1, 1) := by decide +kernel
theorem d9_16 : decode bc9 16 = .ok (.iconst 1, 1) := by decide +kernel
theorem d9_17 : decode bc9 17 = .ok (.if_icmp .ne 20, 3) := by decide +kernel
theorem kle4_1 : ¬ ((4 : Int32) = (1 : Int32)) := by decide +kernel
theorem d9_37 : decode bc9 37 = .ok (.iload_n 1, 1) := by decide +kernel
theorem d9_38 : decode bc9 38 = .ok (.iconst 2, 1) := by decide +kernel
theorem d9_39 : decode bc9 39 = .ok (.if_icmp .ne 26, 3) := by decide +kernel
theorem kle4_2 : ¬ ((4 : Int32) = (2 : Int32)) := by decide +kernel
theorem d9_65 : decode bc9 65 = .ok (.iload_n 1, 1) := by decide +kernel
theorem d9_66 : decode bc9 66 = .ok (.iconst 3, 1) := by decide +kernel
theorem d9_67 : decode bc9 67 = .ok (.if_icmp .ne 32, 3) := by decide +kernel
theorem kle4_3 : ¬ ((4 : Int32) = (3 : Int32)) := by decide +kernel
theorem d9_99 : decode bc9 99 = .ok (.iload_n 1, 1) := by decide +kernel
theorem d9_100 : decode bc9 100 = .ok (.iconst 4, 1) := by decide +kernel
theorem d9_101 : decode bc9 101 = .ok (.if_icmp .ne 38, 3) := by decide +kernel
theorem d9_104 : decode bc9 104 = .ok (.new 8, 3) := by decide +kernel
theorem d9_107 : decode bc9 107 = .ok (.dup, 1) := by decide +kernel
theorem d9_108 : decode bc9 108 = .ok (.iconst 4, 1) := by decide +kernel
theorem d9_109 : decode bc9 109 = .ok (.newarray .char, 2) := by decide +kernel
theorem d9_111 : decode bc9 111 = .ok (.dup, 1) := by decide +kernel
theorem d9_112 : decode bc9 112 = .ok (.iconst 0, 1) := by decide +kernel
theorem d9_113 : decode bc9 113 = .ok (.aload_n 0, 1) := by decide +kernel
theorem d9_114 : decode bc9 114 = .ok (.iconst 0, 1) := by decide +kernel
theorem d9_115 : decode bc9 115 = .ok (.caload, 1) := by decide +kernel
theorem d9_116 : decode bc9 116 = .ok (.castore, 1) := by decide +kernel
theorem kll255_82 : ¬ ((255 : Int32) < (82 : Int32)) := by decide +kernel
theorem kll82_0 : ¬ ((82 : Int32) < (0 : Int32)) := by decide +kernel
theorem d9_117 : decode bc9 117 = .ok (.dup, 1) := by decide +kernel
theorem d9_118 : decode bc9 118 = .ok (.iconst 1, 1) := by decide +kernel
theorem d9_119 : decode bc9 119 = .ok (.aload_n 0, 1) := by decide +kernel
theorem d9_120 : decode bc9 120 = .ok (.iconst 1, 1) := by decide +kernel
theorem d9_121 : decode bc9 121 = .ok (.caload, 1) := by decide +kernel
theorem d9_122 : decode bc9 122 = .ok (.castore, 1) := by decide +kernel
theorem kll255_101 : ¬ ((255 : Int32) < (101 : Int32)) := by decide +kernel
theorem kll101_0 : ¬ ((101 : Int32) < (0 : Int32)) := by decide +kernel
theorem d9_123 : decode bc9 123 = .ok (.dup, 1) := by decide +kernel
theorem d9_124 : decode bc9 124 = .ok (.iconst 2, 1) := by decide +kernel
theorem d9_125 : decode bc9 125 = .ok (.aload_n 0, 1) := by decide +kernel
theorem d9_126 : decode bc9 126 = .ok (.iconst 2, 1) := by decide +kernel
theorem d9_127 : decode bc9 127 = .ok (.caload, 1) := by decide +kernel
theorem d9_128 : decode bc9 128 = .ok (.castore, 1) := by decide +kernel
theorem kll255_97 : ¬ ((255 : Int32) < (97 : Int32)) := by decide +kernel
theorem kll97_0 : ¬ ((97 : Int32) < (0 : Int32)) := by decide +kernel
theorem d9_129 : decode bc9 129 = .ok (.dup, 1) := by decide +kernel
theorem d9_130 : decode bc9 130 = .ok (.iconst 3, 1) := by decide +kernel
theorem d9_131 : decode bc9 131 = .ok (.aload_n 0, 1) := by decide +kernel
theorem d9_132 : decode bc9 132 = .ok (.iconst 3, 1) := by decide +kernel
theorem d9_133 : decode bc9 133 = .ok (.caload, 1) := by decide +kernel
theorem d9_134 : decode bc9 134 = .ok (.castore, 1) := by decide +kernel
theorem kll255_100 : ¬ ((255 : Int32) < (100 : Int32)) := by decide +kernel
theorem kll100_0 : ¬ ((100 : Int32) < (0 : Int32)) := by decide +kernel
theorem d9_135 : decode bc9 135 = .ok (.invokespecial 17, 3) := by decide +kernel
abbrev bc10 : ByteArray := jdk_42_method_3_code
theorem d10_0 : decode bc10 0 = .ok (.aload_n 0, 1) := by decide +kernel
theorem d10_1 : decode bc10 1 = .ok (.aload_n 1, 1) := by decide +kernel
theorem d10_2 : decode bc10 2 = .ok (.iconst 0, 1) := by decide +kernel
theorem d10_3 : decode bc10 3 = .ok (.aload_n 1, 1) := by decide +kernel
theorem d10_4 : decode bc10 4 = .ok (.arraylength, 1) := by decide +kernel
theorem d10_5 : decode bc10 5 = .ok (.aconst_null, 1) := by decide +kernel
theorem d10_6 : decode bc10 6 = .ok (.invokespecial 27, 3) := by decide +kernel
abbrev bc11 : ByteArray := jdk_42_method_149_code
theorem d11_0 : decode bc11 0 = .ok (.aload_n 0, 1) := by decide +kernel
theorem d11_1 : decode bc11 1 = .ok (.invokespecial 1, 3) := by decide +kernel
theorem d11_4 : decode bc11 4 = .ok (.iload_n 3, 1) := by decide +kernel
theorem d11_5 : decode bc11 5 = .ok (.ifCond .ne 22, 3) := by decide +kernel
theorem d11_27 : decode bc11 27 = .ok (.getstatic 38, 3) := by decide +kernel
theorem d11_30 : decode bc11 30 = .ok (.ifCond .eq 28, 3) := by decide +kernel
theorem d11_33 : decode bc11 33 = .ok (.aload_n 1, 1) := by decide +kernel
theorem d11_34 : decode bc11 34 = .ok (.iload_n 2, 1) := by decide +kernel
theorem d11_35 : decode bc11 35 = .ok (.iload_n 3, 1) := by decide +kernel
theorem d11_36 : decode bc11 36 = .ok (.invokestatic 177, 3) := by decide +kernel
abbrev bc13 : ByteArray := jdk_52_method_16_code
theorem d13_0 : decode bc13 0 = .ok (.iload_n 2, 1) := by decide +kernel
theorem d13_1 : decode bc13 1 = .ok (.newarray .byte, 2) := by decide +kernel
theorem d13_3 : decode bc13 3 = .ok (.astore_n 3, 1) := by decide +kernel
theorem d13_4 : decode bc13 4 = .ok (.aload_n 0, 1) := by decide +kernel
theorem d13_5 : decode bc13 5 = .ok (.iload_n 1, 1) := by decide +kernel
theorem d13_6 : decode bc13 6 = .ok (.aload_n 3, 1) := by decide +kernel
theorem d13_7 : decode bc13 7 = .ok (.iconst 0, 1) := by decide +kernel
theorem d13_8 : decode bc13 8 = .ok (.iload_n 2, 1) := by decide +kernel
theorem d13_9 : decode bc13 9 = .ok (.invokestatic 115, 3) := by decide +kernel
abbrev bc14 : ByteArray := jdk_52_method_21_code
theorem d14_0 : decode bc14 0 = .ok (.iconst 0, 1) := by decide +kernel
theorem d14_1 : decode bc14 1 = .ok (.istore 5, 2) := by decide +kernel
theorem d14_3 : decode bc14 3 = .ok (.iload 5, 2) := by decide +kernel
theorem d14_5 : decode bc14 5 = .ok (.iload 4, 2) := by decide +kernel
theorem d14_7 : decode bc14 7 = .ok (.if_icmp .ge 37, 3) := by decide +kernel
theorem d14_10 : decode bc14 10 = .ok (.aload_n 0, 1) := by decide +kernel
theorem d14_11 : decode bc14 11 = .ok (.iload_n 1, 1) := by decide +kernel
theorem d14_12 : decode bc14 12 = .ok (.caload, 1) := by decide +kernel
theorem d14_13 : decode bc14 13 = .ok (.istore 6, 2) := by decide +kernel
theorem d14_15 : decode bc14 15 = .ok (.iload 6, 2) := by decide +kernel
theorem d14_17 : decode bc14 17 = .ok (.sipush 255, 3) := by decide +kernel
theorem d14_20 : decode bc14 20 = .ok (.if_icmp .le 6, 3) := by decide +kernel
theorem d14_26 : decode bc14 26 = .ok (.aload_n 2, 1) := by decide +kernel
theorem d14_27 : decode bc14 27 = .ok (.iload_n 3, 1) := by decide +kernel
theorem d14_28 : decode bc14 28 = .ok (.iload 6, 2) := by decide +kernel
theorem d14_30 : decode bc14 30 = .ok (.i2b, 1) := by decide +kernel
theorem d14_31 : decode bc14 31 = .ok (.bastore, 1) := by decide +kernel
theorem d14_32 : decode bc14 32 = .ok (.iinc 1 1, 3) := by decide +kernel
theorem d14_35 : decode bc14 35 = .ok (.iinc 3 1, 3) := by decide +kernel
theorem d14_38 : decode bc14 38 = .ok (.iinc 5 1, 3) := by decide +kernel
theorem d14_41 : decode bc14 41 = .ok (.goto (-38), 3) := by decide +kernel
theorem d14_44 : decode bc14 44 = .ok (.iload 4, 2) := by decide +kernel
theorem d14_46 : decode bc14 46 = .ok (.ireturn, 1) := by decide +kernel
abbrev M_8 : MethodName := ⟨"java/lang/StringUTF16", "compress", "([CI[BII)I"⟩
theorem pn_4 : plainName "java/lang/StringUTF16" = true := by first | (simp [plainName, overriddenIn]; done) | decide +kernel
theorem pd_8 : parseMethodDescriptor "([CI[BII)I" = some ⟨[(.array .char), .int, (.array .byte), .int, .int], some .int⟩ := by decide +kernel
theorem d13_12 : decode bc13 12 = .ok (.istore 4, 2) := by decide +kernel
theorem d13_14 : decode bc13 14 = .ok (.iload 4, 2) := by decide +kernel
theorem d13_16 : decode bc13 16 = .ok (.iload_n 2, 1) := by decide +kernel
theorem d13_17 : decode bc13 17 = .ok (.if_icmp .eq 40, 3) := by decide +kernel
theorem d13_57 : decode bc13 57 = .ok (.aload_n 3, 1) := by decide +kernel
theorem d13_58 : decode bc13 58 = .ok (.areturn, 1) := by decide +kernel
abbrev M_9 : MethodName := ⟨"java/lang/StringUTF16", "compress", "([CII)[B"⟩
theorem pd_9 : parseMethodDescriptor "([CII)[B" = some ⟨[(.array .char), .int, .int], some (.array .byte)⟩ := by decide +kernel
theorem d11_39 : decode bc11 39 = .ok (.astore 5, 2) := by decide +kernel
theorem d11_41 : decode bc11 41 = .ok (.aload_n 0, 1) := by decide +kernel
theorem d11_42 : decode bc11 42 = .ok (.aload 5, 2) := by decide +kernel
theorem d11_44 : decode bc11 44 = .ok (.iload_n 3, 1) := by decide +kernel
theorem d11_45 : decode bc11 45 = .ok (.invokestatic 47, 3) := by decide +kernel
abbrev bc15 : ByteArray := jdk_52_method_15_code
theorem d15_0 : decode bc15 0 = .ok (.iload_n 1, 1) := by decide +kernel
theorem d15_1 : decode bc15 1 = .ok (.aload_n 0, 1) := by decide +kernel
theorem d15_2 : decode bc15 2 = .ok (.arraylength, 1) := by decide +kernel
theorem d15_3 : decode bc15 3 = .ok (.isub, 1) := by decide +kernel
theorem d15_4 : decode bc15 4 = .ok (.bipush 31, 2) := by decide +kernel
theorem d15_6 : decode bc15 6 = .ok (.iushr, 1) := by decide +kernel
theorem d15_7 : decode bc15 7 = .ok (.i2b, 1) := by decide +kernel
theorem d15_8 : decode bc15 8 = .ok (.ireturn, 1) := by decide +kernel
abbrev M_10 : MethodName := ⟨"java/lang/StringUTF16", "coderFromArrayLen", "([BI)B"⟩
theorem pd_10 : parseMethodDescriptor "([BI)B" = some ⟨[(.array .byte), .int], some .byte⟩ := by decide +kernel
theorem d11_48 : decode bc11 48 = .ok (.putfield 15, 3) := by decide +kernel
theorem d11_51 : decode bc11 51 = .ok (.aload_n 0, 1) := by decide +kernel
theorem d11_52 : decode bc11 52 = .ok (.aload 5, 2) := by decide +kernel
theorem d11_54 : decode bc11 54 = .ok (.putfield 9, 3) := by decide +kernel
theorem own_sl0 {Z : State} {a0 : Array Value} (hw : own_HW Z a0) : Jvm.RoadKit.slotOf Z "java/lang/String" "value" "[B" ≠ Jvm.RoadKit.slotOf Z "java/lang/String" "coder" "B" := slot_ne (Or.inr (ww7 hw)) (Or.inr (ww8 hw)) (by decide) (t := (.array .byte)) (t' := .byte) (by decide) (by decide)
theorem d11_57 : decode bc11 57 = .ok (.return_, 1) := by decide +kernel
theorem own_sl1 {Z : State} {a0 : Array Value} (hw : own_HW Z a0) : Jvm.RoadKit.slotOf Z "java/lang/String" "coder" "B" ≠ Jvm.RoadKit.slotOf Z "java/lang/String" "value" "[B" := slot_ne (Or.inr (ww8 hw)) (Or.inr (ww7 hw)) (by decide) (t := .byte) (t' := (.array .byte)) (by decide) (by decide)
abbrev M_11 : MethodName := ⟨"java/lang/String", "<init>", "([CIILjava/lang/Void;)V"⟩
theorem pd_11 : parseMethodDescriptor "([CIILjava/lang/Void;)V" = some ⟨[(.array .char), .int, .int, (.object "java/lang/Void")], none⟩ := by decide +kernel
theorem d10_9 : decode bc10 9 = .ok (.return_, 1) := by decide +kernel
abbrev M_12 : MethodName := ⟨"java/lang/String", "<init>", "([C)V"⟩
theorem pd_12 : parseMethodDescriptor "([C)V" = some ⟨[(.array .char)], none⟩ := by decide +kernel
theorem d9_138 : decode bc9 138 = .ok (.areturn, 1) := by decide +kernel
abbrev M_13 : MethodName := ⟨"com/example/stern_warden/sternwarden/model/AccessModeFromNamePinLaw", "str", "([CI)Ljava/lang/String;"⟩
theorem pd_13 : parseMethodDescriptor "([CI)Ljava/lang/String;" = some ⟨[(.array .char), .int], some (.object "java/lang/String")⟩ := by decide +kernel
theorem kb82 {i : Int32} (h : i = ((82 : Int32).toInt8.toInt32)) : (82 : Int32) = i := by subst h; decide +kernel
theorem kb101 {i : Int32} (h : i = ((101 : Int32).toInt8.toInt32)) : (101 : Int32) = i := by subst h; decide +kernel
theorem kb97 {i : Int32} (h : i = ((97 : Int32).toInt8.toInt32)) : (97 : Int32) = i := by subst h; decide +kernel
theorem kb100 {i : Int32} (h : i = ((100 : Int32).toInt8.toInt32)) : (100 : Int32) = i := by subst h; decide +kernel
abbrev bc16 : ByteArray := prog_2_method_8_code
theorem d16_0 : decode bc16 0 = .ok (.invokestatic 46, 3) := by decide +kernel
abbrev bc17 : ByteArray := prog_2_method_1_code
theorem d17_0 : decode bc17 0 = .ok (.getstatic 16, 3) := by decide +kernel
abbrev C_6 : String := "[Lcom/example/stern_warden/sternwarden/model/AccessMode;"
theorem d17_3 : decode bc17 3 = .ok (.invokevirtual 20, 3) := by decide +kernel
theorem d17_6 : decode bc17 6 = .ok (.checkcast 21, 3) := by decide +kernel
theorem d17_9 : decode bc17 9 = .ok (.areturn, 1) := by decide +kernel
abbrev M_14 : MethodName := ⟨"com/example/stern_warden/sternwarden/model/AccessMode", "values", "()[Lcom/example/stern_warden/sternwarden/model/AccessMode;"⟩
theorem pn_5 : plainName "com/example/stern_warden/sternwarden/model/AccessMode" = true := by first | (simp [plainName, overriddenIn]; done) | decide +kernel
theorem pd_14 : parseMethodDescriptor "()[Lcom/example/stern_warden/sternwarden/model/AccessMode;" = some ⟨[], some (.array (.object "com/example/stern_warden/sternwarden/model/AccessMode"))⟩ := by decide +kernel
theorem d16_3 : decode bc16 3 = .ok (.astore_n 1, 1) := by decide +kernel
theorem d16_4 : decode bc16 4 = .ok (.aload_n 1, 1) := by decide +kernel
theorem d16_5 : decode bc16 5 = .ok (.arraylength, 1) := by decide +kernel
theorem d16_6 : decode bc16 6 = .ok (.istore_n 2, 1) := by decide +kernel
theorem d16_7 : decode bc16 7 = .ok (.iconst 0, 1) := by decide +kernel
theorem d16_8 : decode bc16 8 = .ok (.istore_n 3, 1) := by decide +kernel
theorem d16_9 : decode bc16 9 = .ok (.iload_n 3, 1) := by decide +kernel
theorem d16_10 : decode bc16 10 = .ok (.iload_n 2, 1) := by decide +kernel
theorem d16_11 : decode bc16 11 = .ok (.if_icmp .ge 32, 3) := by decide +kernel
theorem d16_14 : decode bc16 14 = .ok (.aload_n 1, 1) := by decide +kernel
theorem d16_15 : decode bc16 15 = .ok (.iload_n 3, 1) := by decide +kernel
theorem d16_16 : decode bc16 16 = .ok (.aaload, 1) := by decide +kernel
theorem d16_17 : decode bc16 17 = .ok (.astore 4, 2) := by decide +kernel
theorem d16_19 : decode bc16 19 = .ok (.aload 4, 2) := by decide +kernel
theorem d16_21 : decode bc16 21 = .ok (.getfield 35, 3) := by decide +kernel
theorem d16_24 : decode bc16 24 = .ok (.aload_n 0, 1) := by decide +kernel
theorem d16_25 : decode bc16 25 = .ok (.invokevirtual 67, 3) := by decide +kernel
abbrev bc18 : ByteArray := jdk_42_method_66_code
theorem d18_0 : decode bc18 0 = .ok (.aload_n 0, 1) := by decide +kernel
theorem d18_1 : decode bc18 1 = .ok (.aload_n 1, 1) := by decide +kernel
theorem d18_2 : decode bc18 2 = .ok (.if_acmp .ne 5, 3) := by decide +kernel
theorem d18_7 : decode bc18 7 = .ok (.aload_n 1, 1) := by decide +kernel
theorem d18_8 : decode bc18 8 = .ok (.instanceof 10, 3) := by decide +kernel
theorem d18_11 : decode bc18 11 = .ok (.ifCond .eq 43, 3) := by decide +kernel
theorem d18_14 : decode bc18 14 = .ok (.aload_n 1, 1) := by decide +kernel
theorem d18_15 : decode bc18 15 = .ok (.checkcast 10, 3) := by decide +kernel
theorem d18_18 : decode bc18 18 = .ok (.astore_n 2, 1) := by decide +kernel
theorem d18_19 : decode bc18 19 = .ok (.getstatic 38, 3) := by decide +kernel
theorem d18_22 : decode bc18 22 = .ok (.ifCond .eq 14, 3) := by decide +kernel
theorem d18_25 : decode bc18 25 = .ok (.aload_n 0, 1) := by decide +kernel
theorem d18_26 : decode bc18 26 = .ok (.getfield 15, 3) := by decide +kernel
theorem d18_29 : decode bc18 29 = .ok (.aload_n 2, 1) := by decide +kernel
theorem d18_30 : decode bc18 30 = .ok (.getfield 15, 3) := by decide +kernel
theorem d18_33 : decode bc18 33 = .ok (.if_icmp .ne 21, 3) := by decide +kernel
theorem d18_36 : decode bc18 36 = .ok (.aload_n 0, 1) := by decide +kernel
theorem d18_37 : decode bc18 37 = .ok (.getfield 9, 3) := by decide +kernel
theorem d18_40 : decode bc18 40 = .ok (.aload_n 2, 1) := by decide +kernel
theorem d18_41 : decode bc18 41 = .ok (.getfield 9, 3) := by decide +kernel
theorem d18_44 : decode bc18 44 = .ok (.invokestatic 541, 3) := by decide +kernel
abbrev bc19 : ByteArray := jdk_43_method_13_code
theorem d19_0 : decode bc19 0 = .ok (.aload_n 0, 1) := by decide +kernel
theorem d19_1 : decode bc19 1 = .ok (.arraylength, 1) := by decide +kernel
theorem d19_2 : decode bc19 2 = .ok (.aload_n 1, 1) := by decide +kernel
theorem d19_3 : decode bc19 3 = .ok (.arraylength, 1) := by decide +kernel
theorem d19_4 : decode bc19 4 = .ok (.if_icmp .ne 30, 3) := by decide +kernel
theorem d19_7 : decode bc19 7 = .ok (.iconst 0, 1) := by decide +kernel
theorem d19_8 : decode bc19 8 = .ok (.istore_n 2, 1) := by decide +kernel
theorem d19_9 : decode bc19 9 = .ok (.iload_n 2, 1) := by decide +kernel
theorem d19_10 : decode bc19 10 = .ok (.aload_n 0, 1) := by decide +kernel
theorem d19_11 : decode bc19 11 = .ok (.arraylength, 1) := by decide +kernel
theorem d19_12 : decode bc19 12 = .ok (.if_icmp .ge 20, 3) := by decide +kernel
theorem d19_15 : decode bc19 15 = .ok (.aload_n 0, 1) := by decide +kernel
theorem d19_16 : decode bc19 16 = .ok (.iload_n 2, 1) := by decide +kernel
theorem d19_17 : decode bc19 17 = .ok (.baload, 1) := by decide +kernel
theorem d19_18 : decode bc19 18 = .ok (.aload_n 1, 1) := by decide +kernel
theorem d19_19 : decode bc19 19 = .ok (.iload_n 2, 1) := by decide +kernel
theorem d19_20 : decode bc19 20 = .ok (.baload, 1) := by decide +kernel
theorem d19_21 : decode bc19 21 = .ok (.if_icmp .eq 5, 3) := by decide +kernel
theorem d19_26 : decode bc19 26 = .ok (.iinc 2 1, 3) := by decide +kernel
theorem d19_29 : decode bc19 29 = .ok (.goto (-20), 3) := by decide +kernel
theorem d19_32 : decode bc19 32 = .ok (.iconst 1, 1) := by decide +kernel
theorem d19_33 : decode bc19 33 = .ok (.ireturn, 1) := by decide +kernel
theorem d19_24 : decode bc19 24 = .ok (.iconst 0, 1) := by decide +kernel
theorem d19_25 : decode bc19 25 = .ok (.ireturn, 1) := by decide +kernel
abbrev M_15 : MethodName := ⟨"java/lang/StringLatin1", "equals", "([B[B)Z"⟩
theorem pd_15 : parseMethodDescriptor "([B[B)Z" = some ⟨[(.array .byte), (.array .byte)], some .boolean⟩ := by decide +kernel
theorem d18_47 : decode bc18 47 = .ok (.ifCond .eq 7, 3) := by decide +kernel
theorem d18_50 : decode bc18 50 = .ok (.iconst 1, 1) := by decide +kernel
theorem d18_51 : decode bc18 51 = .ok (.goto 4, 3) := by decide +kernel
theorem d18_55 : decode bc18 55 = .ok (.ireturn, 1) := by decide +kernel
theorem d18_54 : decode bc18 54 = .ok (.iconst 0, 1) := by decide +kernel
abbrev M_16 : MethodName := ⟨"java/lang/String", "equals", "(Ljava/lang/Object;)Z"⟩
theorem pd_16 : parseMethodDescriptor "(Ljava/lang/Object;)Z" = some ⟨[(.object "java/lang/Object")], some .boolean⟩ := by decide +kernel
theorem d16_28 : decode bc16 28 = .ok (.ifCond .eq 9, 3) := by decide +kernel
theorem d16_31 : decode bc16 31 = .ok (.aload 4, 2) := by decide +kernel
theorem d16_33 : decode bc16 33 = .ok (.invokestatic 73, 3) := by decide +kernel
abbrev bc22 : ByteArray := jdk_32_method_3_code
theorem d22_0 : decode bc22 0 = .ok (.new 2, 3) := by decide +kernel
abbrev C_7 : String := "java/util/Optional"
abbrev C_8 : String := "Ljava/lang/Object;"
theorem d22_3 : decode bc22 3 = .ok (.dup, 1) := by decide +kernel
theorem d22_4 : decode bc22 4 = .ok (.aload_n 0, 1) := by decide +kernel
theorem d22_5 : decode bc22 5 = .ok (.invokestatic 17, 3) := by decide +kernel
abbrev bc23 : ByteArray := jdk_31_method_10_code
theorem d23_0 : decode bc23 0 = .ok (.aload_n 0, 1) := by decide +kernel
theorem d23_1 : decode bc23 1 = .ok (.ifnonnull 11, 3) := by decide +kernel
theorem d23_12 : decode bc23 12 = .ok (.aload_n 0, 1) := by decide +kernel
theorem d23_13 : decode bc23 13 = .ok (.areturn, 1) := by decide +kernel
abbrev M_17 : MethodName := ⟨"java/util/Objects", "requireNonNull", "(Ljava/lang/Object;)Ljava/lang/Object;"⟩
theorem pn_6 : plainName "java/util/Objects" = true := by first | (simp [plainName, overriddenIn]; done) | decide +kernel
theorem pd_17 : parseMethodDescriptor "(Ljava/lang/Object;)Ljava/lang/Object;" = some ⟨[(.object "java/lang/Object")], some (.object "java/lang/Object")⟩ := by decide +kernel
theorem d22_8 : decode bc22 8 = .ok (.invokespecial 23, 3) := by decide +kernel
abbrev bc24 : ByteArray := jdk_32_method_2_code
theorem d24_0 : decode bc24 0 = .ok (.aload_n 0, 1) := by decide +kernel
theorem d24_1 : decode bc24 1 = .ok (.invokespecial 7, 3) := by decide +kernel
theorem d24_4 : decode bc24 4 = .ok (.aload_n 0, 1) := by decide +kernel
theorem d24_5 : decode bc24 5 = .ok (.aload_n 1, 1) := by decide +kernel
theorem d24_6 : decode bc24 6 = .ok (.putfield 13, 3) := by decide +kernel
theorem d24_9 : decode bc24 9 = .ok (.return_, 1) := by decide +kernel
abbrev M_18 : MethodName := ⟨"java/util/Optional", "<init>", "(Ljava/lang/Object;)V"⟩
theorem pn_7 : plainName "java/util/Optional" = true := by first | (simp [plainName, overriddenIn]; done) | decide +kernel
theorem pd_18 : parseMethodDescriptor "(Ljava/lang/Object;)V" = some ⟨[(.object "java/lang/Object")], none⟩ := by decide +kernel
theorem d22_11 : decode bc22 11 = .ok (.areturn, 1) := by decide +kernel
abbrev M_19 : MethodName := ⟨"java/util/Optional", "of", "(Ljava/lang/Object;)Ljava/util/Optional;"⟩
theorem pd_19 : parseMethodDescriptor "(Ljava/lang/Object;)Ljava/util/Optional;" = some ⟨[(.object "java/lang/Object")], some (.object "java/util/Optional")⟩ := by decide +kernel
theorem d16_36 : decode bc16 36 = .ok (.areturn, 1) := by decide +kernel
theorem d16_37 : decode bc16 37 = .ok (.iinc 3 1, 3) := by decide +kernel
theorem d16_40 : decode bc16 40 = .ok (.goto (-31), 3) := by decide +kernel
theorem kle5_4 : ¬ ((5 : Int32) = (4 : Int32)) := by decide +kernel
theorem d19_34 : decode bc19 34 = .ok (.iconst 0, 1) := by decide +kernel
theorem d19_35 : decode bc19 35 = .ok (.ireturn, 1) := by decide +kernel
theorem kle6_4 : ¬ ((6 : Int32) = (4 : Int32)) := by decide +kernel
theorem kle7_4 : ¬ ((7 : Int32) = (4 : Int32)) := by decide +kernel
theorem d16_43 : decode bc16 43 = .ok (.invokestatic 79, 3) := by decide +kernel
abbrev bc20 : ByteArray := jdk_32_method_1_code
theorem d20_0 : decode bc20 0 = .ok (.getstatic 1, 3) := by decide +kernel
abbrev C_9 : String := "Ljava/util/Optional;"
theorem d20_3 : decode bc20 3 = .ok (.astore_n 0, 1) := by decide +kernel
theorem d20_4 : decode bc20 4 = .ok (.aload_n 0, 1) := by decide +kernel
theorem d20_5 : decode bc20 5 = .ok (.areturn, 1) := by decide +kernel
abbrev M_20 : MethodName := ⟨"java/util/Optional", "empty", "()Ljava/util/Optional;"⟩
theorem pd_20 : parseMethodDescriptor "()Ljava/util/Optional;" = some ⟨[], some (.object "java/util/Optional")⟩ := by decide +kernel
theorem d16_46 : decode bc16 46 = .ok (.areturn, 1) := by decide +kernel
abbrev M_21 : MethodName := ⟨"com/example/stern_warden/sternwarden/model/AccessMode", "fromName", "(Ljava/lang/String;)Ljava/util/Optional;"⟩
theorem pd_21 : parseMethodDescriptor "(Ljava/lang/String;)Ljava/util/Optional;" = some ⟨[(.object "java/lang/String")], some (.object "java/util/Optional")⟩ := by decide +kernel
theorem pd_22 : parseMethodDescriptor "()Ljava/lang/Object;" = some ⟨[], some (.object "java/lang/Object")⟩ := by decide +kernel
abbrev bc25 : ByteArray := jdk_32_method_6_code
theorem d25_0 : decode bc25 0 = .ok (.aload_n 0, 1) := by decide +kernel
theorem d25_1 : decode bc25 1 = .ok (.getfield 13, 3) := by decide +kernel
theorem d25_4 : decode bc25 4 = .ok (.ifnull 7, 3) := by decide +kernel
theorem d25_7 : decode bc25 7 = .ok (.iconst 1, 1) := by decide +kernel
theorem d25_8 : decode bc25 8 = .ok (.goto 4, 3) := by decide +kernel
theorem d25_12 : decode bc25 12 = .ok (.ireturn, 1) := by decide +kernel
abbrev M_22 : MethodName := ⟨"java/util/Optional", "isPresent", "()Z"⟩
abbrev bc26 : ByteArray := jdk_32_method_5_code
theorem d26_0 : decode bc26 0 = .ok (.aload_n 0, 1) := by decide +kernel
theorem d26_1 : decode bc26 1 = .ok (.getfield 13, 3) := by decide +kernel
theorem d26_4 : decode bc26 4 = .ok (.ifnonnull 13, 3) := by decide +kernel
theorem d26_17 : decode bc26 17 = .ok (.aload_n 0, 1) := by decide +kernel
theorem d26_18 : decode bc26 18 = .ok (.getfield 13, 3) := by decide +kernel
theorem d26_21 : decode bc26 21 = .ok (.areturn, 1) := by decide +kernel
abbrev M_23 : MethodName := ⟨"java/util/Optional", "get", "()Ljava/lang/Object;"⟩
theorem kle82_82 : (82 : Int32) = (82 : Int32) := by decide +kernel
theorem kle101_101 : (101 : Int32) = (101 : Int32) := by decide +kernel
theorem kle97_97 : (97 : Int32) = (97 : Int32) := by decide +kernel
theorem kle100_100 : (100 : Int32) = (100 : Int32) := by decide +kernel
abbrev bc21 : ByteArray := jdk_32_method_7_code
theorem d21_0 : decode bc21 0 = .ok (.aload_n 0, 1) := by decide +kernel
theorem d21_1 : decode bc21 1 = .ok (.getfield 13, 3) := by decide +kernel
theorem d21_4 : decode bc21 4 = .ok (.ifnonnull 7, 3) := by decide +kernel
theorem d21_7 : decode bc21 7 = .ok (.iconst 1, 1) := by decide +kernel
theorem d21_8 : decode bc21 8 = .ok (.goto 4, 3) := by decide +kernel
theorem d21_12 : decode bc21 12 = .ok (.ireturn, 1) := by decide +kernel
abbrev M_24 : MethodName := ⟨"java/util/Optional", "isEmpty", "()Z"⟩
theorem d9_4 : decode bc9 4 = .ok (.new 8, 3) := by decide +kernel
theorem d9_7 : decode bc9 7 = .ok (.dup, 1) := by decide +kernel
theorem d9_8 : decode bc9 8 = .ok (.iconst 0, 1) := by decide +kernel
theorem d9_9 : decode bc9 9 = .ok (.newarray .char, 2) := by decide +kernel
theorem d9_11 : decode bc9 11 = .ok (.invokespecial 17, 3) := by decide +kernel
theorem d11_8 : decode bc11 8 = .ok (.aload_n 0, 1) := by decide +kernel
theorem d11_9 : decode bc11 9 = .ok (.ldc 7, 2) := by decide +kernel
theorem d11_11 : decode bc11 11 = .ok (.getfield 9, 3) := by decide +kernel
theorem d11_14 : decode bc11 14 = .ok (.putfield 9, 3) := by decide +kernel
theorem d11_17 : decode bc11 17 = .ok (.aload_n 0, 1) := by decide +kernel
theorem d11_18 : decode bc11 18 = .ok (.ldc 7, 2) := by decide +kernel
theorem d11_20 : decode bc11 20 = .ok (.getfield 15, 3) := by decide +kernel
theorem d11_23 : decode bc11 23 = .ok (.putfield 15, 3) := by decide +kernel
theorem d11_26 : decode bc11 26 = .ok (.return_, 1) := by decide +kernel
theorem d9_14 : decode bc9 14 = .ok (.areturn, 1) := by decide +kernel
theorem kle5_0 : ¬ ((5 : Int32) = (0 : Int32)) := by decide +kernel
theorem kle6_0 : ¬ ((6 : Int32) = (0 : Int32)) := by decide +kernel
theorem kle7_0 : ¬ ((7 : Int32) = (0 : Int32)) := by decide +kernel
theorem d9_20 : decode bc9 20 = .ok (.new 8, 3) := by decide +kernel
theorem d9_23 : decode bc9 23 = .ok (.dup, 1) := by decide +kernel
theorem d9_24 : decode bc9 24 = .ok (.iconst 1, 1) := by decide +kernel
theorem d9_25 : decode bc9 25 = .ok (.newarray .char, 2) := by decide +kernel
theorem d9_27 : decode bc9 27 = .ok (.dup, 1) := by decide +kernel
theorem d9_28 : decode bc9 28 = .ok (.iconst 0, 1) := by decide +kernel
theorem d9_29 : decode bc9 29 = .ok (.aload_n 0, 1) := by decide +kernel
theorem d9_30 : decode bc9 30 = .ok (.iconst 0, 1) := by decide +kernel
theorem d9_31 : decode bc9 31 = .ok (.caload, 1) := by decide +kernel
theorem d9_32 : decode bc9 32 = .ok (.castore, 1) := by decide +kernel
theorem d9_33 : decode bc9 33 = .ok (.invokespecial 17, 3) := by decide +kernel
theorem d9_36 : decode bc9 36 = .ok (.areturn, 1) := by decide +kernel
theorem kle5_1 : ¬ ((5 : Int32) = (1 : Int32)) := by decide +kernel
theorem kle6_1 : ¬ ((6 : Int32) = (1 : Int32)) := by decide +kernel
theorem kle7_1 : ¬ ((7 : Int32) = (1 : Int32)) := by decide +kernel
theorem d9_42 : decode bc9 42 = .ok (.new 8, 3) := by decide +kernel
theorem d9_45 : decode bc9 45 = .ok (.dup, 1) := by decide +kernel
theorem d9_46 : decode bc9 46 = .ok (.iconst 2, 1) := by decide +kernel
theorem d9_47 : decode bc9 47 = .ok (.newarray .char, 2) := by decide +kernel
theorem d9_49 : decode bc9 49 = .ok (.dup, 1) := by decide +kernel
theorem d9_50 : decode bc9 50 = .ok (.iconst 0, 1) := by decide +kernel
theorem d9_51 : decode bc9 51 = .ok (.aload_n 0, 1) := by decide +kernel
theorem d9_52 : decode bc9 52 = .ok (.iconst 0, 1) := by decide +kernel
theorem d9_53 : decode bc9 53 = .ok (.caload, 1) := by decide +kernel
theorem d9_54 : decode bc9 54 = .ok (.castore, 1) := by decide +kernel
theorem d9_55 : decode bc9 55 = .ok (.dup, 1) := by decide +kernel
theorem d9_56 : decode bc9 56 = .ok (.iconst 1, 1) := by decide +kernel
theorem d9_57 : decode bc9 57 = .ok (.aload_n 0, 1) := by decide +kernel
theorem d9_58 : decode bc9 58 = .ok (.iconst 1, 1) := by decide +kernel
theorem d9_59 : decode bc9 59 = .ok (.caload, 1) := by decide +kernel
theorem d9_60 : decode bc9 60 = .ok (.castore, 1) := by decide +kernel
theorem d9_61 : decode bc9 61 = .ok (.invokespecial 17, 3) := by decide +kernel
theorem d9_64 : decode bc9 64 = .ok (.areturn, 1) := by decide +kernel
theorem kle5_2 : ¬ ((5 : Int32) = (2 : Int32)) := by decide +kernel
theorem kle6_2 : ¬ ((6 : Int32) = (2 : Int32)) := by decide +kernel
theorem kle7_2 : ¬ ((7 : Int32) = (2 : Int32)) := by decide +kernel
theorem d9_70 : decode bc9 70 = .ok (.new 8, 3) := by decide +kernel
theorem d9_73 : decode bc9 73 = .ok (.dup, 1) := by decide +kernel
theorem d9_74 : decode bc9 74 = .ok (.iconst 3, 1) := by decide +kernel
theorem d9_75 : decode bc9 75 = .ok (.newarray .char, 2) := by decide +kernel
theorem d9_77 : decode bc9 77 = .ok (.dup, 1) := by decide +kernel
theorem d9_78 : decode bc9 78 = .ok (.iconst 0, 1) := by decide +kernel
theorem d9_79 : decode bc9 79 = .ok (.aload_n 0, 1) := by decide +kernel
theorem d9_80 : decode bc9 80 = .ok (.iconst 0, 1) := by decide +kernel
theorem d9_81 : decode bc9 81 = .ok (.caload, 1) := by decide +kernel
theorem d9_82 : decode bc9 82 = .ok (.castore, 1) := by decide +kernel
theorem d9_83 : decode bc9 83 = .ok (.dup, 1) := by decide +kernel
theorem d9_84 : decode bc9 84 = .ok (.iconst 1, 1) := by decide +kernel
theorem d9_85 : decode bc9 85 = .ok (.aload_n 0, 1) := by decide +kernel
theorem d9_86 : decode bc9 86 = .ok (.iconst 1, 1) := by decide +kernel
theorem d9_87 : decode bc9 87 = .ok (.caload, 1) := by decide +kernel
theorem d9_88 : decode bc9 88 = .ok (.castore, 1) := by decide +kernel
theorem d9_89 : decode bc9 89 = .ok (.dup, 1) := by decide +kernel
theorem d9_90 : decode bc9 90 = .ok (.iconst 2, 1) := by decide +kernel
theorem d9_91 : decode bc9 91 = .ok (.aload_n 0, 1) := by decide +kernel
theorem d9_92 : decode bc9 92 = .ok (.iconst 2, 1) := by decide +kernel
theorem d9_93 : decode bc9 93 = .ok (.caload, 1) := by decide +kernel
theorem d9_94 : decode bc9 94 = .ok (.castore, 1) := by decide +kernel
theorem d9_95 : decode bc9 95 = .ok (.invokespecial 17, 3) := by decide +kernel
theorem d9_98 : decode bc9 98 = .ok (.areturn, 1) := by decide +kernel
theorem kle5_3 : ¬ ((5 : Int32) = (3 : Int32)) := by decide +kernel
theorem kle6_3 : ¬ ((6 : Int32) = (3 : Int32)) := by decide +kernel
theorem kle7_3 : ¬ ((7 : Int32) = (3 : Int32)) := by decide +kernel
theorem kll0_5 : (0 : Int32) < (5 : Int32) := by decide +kernel
theorem d9_139 : decode bc9 139 = .ok (.iload_n 1, 1) := by decide +kernel
theorem d9_140 : decode bc9 140 = .ok (.iconst 5, 1) := by decide +kernel
theorem d9_141 : decode bc9 141 = .ok (.if_icmp .ne 44, 3) := by decide +kernel
theorem d9_144 : decode bc9 144 = .ok (.new 8, 3) := by decide +kernel
theorem d9_147 : decode bc9 147 = .ok (.dup, 1) := by decide +kernel
theorem d9_148 : decode bc9 148 = .ok (.iconst 5, 1) := by decide +kernel
theorem d9_149 : decode bc9 149 = .ok (.newarray .char, 2) := by decide +kernel
theorem d9_151 : decode bc9 151 = .ok (.dup, 1) := by decide +kernel
theorem d9_152 : decode bc9 152 = .ok (.iconst 0, 1) := by decide +kernel
theorem d9_153 : decode bc9 153 = .ok (.aload_n 0, 1) := by decide +kernel
theorem d9_154 : decode bc9 154 = .ok (.iconst 0, 1) := by decide +kernel
theorem d9_155 : decode bc9 155 = .ok (.caload, 1) := by decide +kernel
theorem d9_156 : decode bc9 156 = .ok (.castore, 1) := by decide +kernel
theorem d9_157 : decode bc9 157 = .ok (.dup, 1) := by decide +kernel
theorem d9_158 : decode bc9 158 = .ok (.iconst 1, 1) := by decide +kernel
theorem d9_159 : decode bc9 159 = .ok (.aload_n 0, 1) := by decide +kernel
theorem d9_160 : decode bc9 160 = .ok (.iconst 1, 1) := by decide +kernel
theorem d9_161 : decode bc9 161 = .ok (.caload, 1) := by decide +kernel
theorem d9_162 : decode bc9 162 = .ok (.castore, 1) := by decide +kernel
theorem d9_163 : decode bc9 163 = .ok (.dup, 1) := by decide +kernel
theorem d9_164 : decode bc9 164 = .ok (.iconst 2, 1) := by decide +kernel
theorem d9_165 : decode bc9 165 = .ok (.aload_n 0, 1) := by decide +kernel
theorem d9_166 : decode bc9 166 = .ok (.iconst 2, 1) := by decide +kernel
theorem d9_167 : decode bc9 167 = .ok (.caload, 1) := by decide +kernel
theorem d9_168 : decode bc9 168 = .ok (.castore, 1) := by decide +kernel
theorem d9_169 : decode bc9 169 = .ok (.dup, 1) := by decide +kernel
theorem d9_170 : decode bc9 170 = .ok (.iconst 3, 1) := by decide +kernel
theorem d9_171 : decode bc9 171 = .ok (.aload_n 0, 1) := by decide +kernel
theorem d9_172 : decode bc9 172 = .ok (.iconst 3, 1) := by decide +kernel
theorem d9_173 : decode bc9 173 = .ok (.caload, 1) := by decide +kernel
theorem d9_174 : decode bc9 174 = .ok (.castore, 1) := by decide +kernel
theorem d9_175 : decode bc9 175 = .ok (.dup, 1) := by decide +kernel
theorem d9_176 : decode bc9 176 = .ok (.iconst 4, 1) := by decide +kernel
theorem d9_177 : decode bc9 177 = .ok (.aload_n 0, 1) := by decide +kernel
theorem d9_178 : decode bc9 178 = .ok (.iconst 4, 1) := by decide +kernel
theorem d9_179 : decode bc9 179 = .ok (.caload, 1) := by decide +kernel
theorem d9_180 : decode bc9 180 = .ok (.castore, 1) := by decide +kernel
theorem d9_181 : decode bc9 181 = .ok (.invokespecial 17, 3) := by decide +kernel
theorem kll1_5 : (1 : Int32) < (5 : Int32) := by decide +kernel
theorem kll2_5 : (2 : Int32) < (5 : Int32) := by decide +kernel
theorem kll3_5 : (3 : Int32) < (5 : Int32) := by decide +kernel
theorem kll4_5 : (4 : Int32) < (5 : Int32) := by decide +kernel
theorem kll5_5 : ¬ ((5 : Int32) < (5 : Int32)) := by decide +kernel
theorem d9_184 : decode bc9 184 = .ok (.areturn, 1) := by decide +kernel
theorem kle4_5 : ¬ ((4 : Int32) = (5 : Int32)) := by decide +kernel
theorem kle6_5 : ¬ ((6 : Int32) = (5 : Int32)) := by decide +kernel
theorem kle7_5 : ¬ ((7 : Int32) = (5 : Int32)) := by decide +kernel
theorem knc87 : nar .char (87 : Int32) = (87 : Int32) := by decide +kernel
theorem knc114 : nar .char (114 : Int32) = (114 : Int32) := by decide +kernel
theorem knc105 : nar .char (105 : Int32) = (105 : Int32) := by decide +kernel
theorem knc116 : nar .char (116 : Int32) = (116 : Int32) := by decide +kernel
theorem kll4_0 : ¬ ((4 : Int32) < (0 : Int32)) := by decide +kernel
theorem kll6_5 : ¬ ((6 : Int32) < (5 : Int32)) := by decide +kernel
theorem kll7_5 : ¬ ((7 : Int32) < (5 : Int32)) := by decide +kernel
theorem kll255_87 : ¬ ((255 : Int32) < (87 : Int32)) := by decide +kernel
theorem kll87_0 : ¬ ((87 : Int32) < (0 : Int32)) := by decide +kernel
theorem kll255_114 : ¬ ((255 : Int32) < (114 : Int32)) := by decide +kernel
theorem kll114_0 : ¬ ((114 : Int32) < (0 : Int32)) := by decide +kernel
theorem kll255_105 : ¬ ((255 : Int32) < (105 : Int32)) := by decide +kernel
theorem kll105_0 : ¬ ((105 : Int32) < (0 : Int32)) := by decide +kernel
theorem kll255_116 : ¬ ((255 : Int32) < (116 : Int32)) := by decide +kernel
theorem kll116_0 : ¬ ((116 : Int32) < (0 : Int32)) := by decide +kernel
theorem kb87 {i : Int32} (h : i = ((87 : Int32).toInt8.toInt32)) : (87 : Int32) = i := by subst h; decide +kernel
theorem kb114 {i : Int32} (h : i = ((114 : Int32).toInt8.toInt32)) : (114 : Int32) = i := by subst h; decide +kernel
theorem kb105 {i : Int32} (h : i = ((105 : Int32).toInt8.toInt32)) : (105 : Int32) = i := by subst h; decide +kernel
theorem kb116 {i : Int32} (h : i = ((116 : Int32).toInt8.toInt32)) : (116 : Int32) = i := by subst h; decide +kernel
theorem kle87_87 : (87 : Int32) = (87 : Int32) := by decide +kernel
theorem kle114_114 : (114 : Int32) = (114 : Int32) := by decide +kernel
theorem kle105_105 : (105 : Int32) = (105 : Int32) := by decide +kernel
theorem kle116_116 : (116 : Int32) = (116 : Int32) := by decide +kernel
theorem kll0_6 : (0 : Int32) < (6 : Int32) := by decide +kernel
theorem d9_185 : decode bc9 185 = .ok (.iload_n 1, 1) := by decide +kernel
theorem d9_186 : decode bc9 186 = .ok (.bipush 6, 2) := by decide +kernel
theorem d9_188 : decode bc9 188 = .ok (.if_icmp .ne 51, 3) := by decide +kernel
theorem d9_191 : decode bc9 191 = .ok (.new 8, 3) := by decide +kernel
theorem d9_194 : decode bc9 194 = .ok (.dup, 1) := by decide +kernel
theorem d9_195 : decode bc9 195 = .ok (.bipush 6, 2) := by decide +kernel
theorem d9_197 : decode bc9 197 = .ok (.newarray .char, 2) := by decide +kernel
theorem d9_199 : decode bc9 199 = .ok (.dup, 1) := by decide +kernel
theorem d9_200 : decode bc9 200 = .ok (.iconst 0, 1) := by decide +kernel
theorem d9_201 : decode bc9 201 = .ok (.aload_n 0, 1) := by decide +kernel
theorem d9_202 : decode bc9 202 = .ok (.iconst 0, 1) := by decide +kernel
theorem d9_203 : decode bc9 203 = .ok (.caload, 1) := by decide +kernel
theorem d9_204 : decode bc9 204 = .ok (.castore, 1) := by decide +kernel
theorem d9_205 : decode bc9 205 = .ok (.dup, 1) := by decide +kernel
theorem d9_206 : decode bc9 206 = .ok (.iconst 1, 1) := by decide +kernel
theorem d9_207 : decode bc9 207 = .ok (.aload_n 0, 1) := by decide +kernel
theorem d9_208 : decode bc9 208 = .ok (.iconst 1, 1) := by decide +kernel
theorem d9_209 : decode bc9 209 = .ok (.caload, 1) := by decide +kernel
theorem d9_210 : decode bc9 210 = .ok (.castore, 1) := by decide +kernel
theorem d9_211 : decode bc9 211 = .ok (.dup, 1) := by decide +kernel
theorem d9_212 : decode bc9 212 = .ok (.iconst 2, 1) := by decide +kernel
theorem d9_213 : decode bc9 213 = .ok (.aload_n 0, 1) := by decide +kernel
theorem d9_214 : decode bc9 214 = .ok (.iconst 2, 1) := by decide +kernel
theorem d9_215 : decode bc9 215 = .ok (.caload, 1) := by decide +kernel
theorem d9_216 : decode bc9 216 = .ok (.castore, 1) := by decide +kernel
theorem d9_217 : decode bc9 217 = .ok (.dup, 1) := by decide +kernel
theorem d9_218 : decode bc9 218 = .ok (.iconst 3, 1) := by decide +kernel
theorem d9_219 : decode bc9 219 = .ok (.aload_n 0, 1) := by decide +kernel
theorem d9_220 : decode bc9 220 = .ok (.iconst 3, 1) := by decide +kernel
theorem d9_221 : decode bc9 221 = .ok (.caload, 1) := by decide +kernel
theorem d9_222 : decode bc9 222 = .ok (.castore, 1) := by decide +kernel
theorem d9_223 : decode bc9 223 = .ok (.dup, 1) := by decide +kernel
theorem d9_224 : decode bc9 224 = .ok (.iconst 4, 1) := by decide +kernel
theorem d9_225 : decode bc9 225 = .ok (.aload_n 0, 1) := by decide +kernel
theorem d9_226 : decode bc9 226 = .ok (.iconst 4, 1) := by decide +kernel
theorem d9_227 : decode bc9 227 = .ok (.caload, 1) := by decide +kernel
theorem d9_228 : decode bc9 228 = .ok (.castore, 1) := by decide +kernel
theorem d9_229 : decode bc9 229 = .ok (.dup, 1) := by decide +kernel
theorem d9_230 : decode bc9 230 = .ok (.iconst 5, 1) := by decide +kernel
theorem d9_231 : decode bc9 231 = .ok (.aload_n 0, 1) := by decide +kernel
theorem d9_232 : decode bc9 232 = .ok (.iconst 5, 1) := by decide +kernel
theorem d9_233 : decode bc9 233 = .ok (.caload, 1) := by decide +kernel
theorem d9_234 : decode bc9 234 = .ok (.castore, 1) := by decide +kernel
theorem d9_235 : decode bc9 235 = .ok (.invokespecial 17, 3) := by decide +kernel
theorem kll1_6 : (1 : Int32) < (6 : Int32) := by decide +kernel
theorem kll2_6 : (2 : Int32) < (6 : Int32) := by decide +kernel
theorem kll3_6 : (3 : Int32) < (6 : Int32) := by decide +kernel
theorem kll4_6 : (4 : Int32) < (6 : Int32) := by decide +kernel
theorem kll5_6 : (5 : Int32) < (6 : Int32) := by decide +kernel
theorem kll6_6 : ¬ ((6 : Int32) < (6 : Int32)) := by decide +kernel
theorem d9_238 : decode bc9 238 = .ok (.areturn, 1) := by decide +kernel
theorem kle4_6 : ¬ ((4 : Int32) = (6 : Int32)) := by decide +kernel
theorem kle5_6 : ¬ ((5 : Int32) = (6 : Int32)) := by decide +kernel
theorem kle7_6 : ¬ ((7 : Int32) = (6 : Int32)) := by decide +kernel
theorem knc65 : nar .char (65 : Int32) = (65 : Int32) := by decide +kernel
theorem knc112 : nar .char (112 : Int32) = (112 : Int32) := by decide +kernel
theorem knc110 : nar .char (110 : Int32) = (110 : Int32) := by decide +kernel
theorem kll5_0 : ¬ ((5 : Int32) < (0 : Int32)) := by decide +kernel
theorem kll7_6 : ¬ ((7 : Int32) < (6 : Int32)) := by decide +kernel
theorem kll255_65 : ¬ ((255 : Int32) < (65 : Int32)) := by decide +kernel
theorem kll65_0 : ¬ ((65 : Int32) < (0 : Int32)) := by decide +kernel
theorem kll255_112 : ¬ ((255 : Int32) < (112 : Int32)) := by decide +kernel
theorem kll112_0 : ¬ ((112 : Int32) < (0 : Int32)) := by decide +kernel
theorem kll255_110 : ¬ ((255 : Int32) < (110 : Int32)) := by decide +kernel
theorem kll110_0 : ¬ ((110 : Int32) < (0 : Int32)) := by decide +kernel
theorem kb65 {i : Int32} (h : i = ((65 : Int32).toInt8.toInt32)) : (65 : Int32) = i := by subst h; decide +kernel
theorem kb112 {i : Int32} (h : i = ((112 : Int32).toInt8.toInt32)) : (112 : Int32) = i := by subst h; decide +kernel
theorem kb110 {i : Int32} (h : i = ((110 : Int32).toInt8.toInt32)) : (110 : Int32) = i := by subst h; decide +kernel
theorem kle65_65 : (65 : Int32) = (65 : Int32) := by decide +kernel
theorem kle112_112 : (112 : Int32) = (112 : Int32) := by decide +kernel
theorem kle110_110 : (110 : Int32) = (110 : Int32) := by decide +kernel
theorem kll0_7 : (0 : Int32) < (7 : Int32) := by decide +kernel
theorem d9_239 : decode bc9 239 = .ok (.iload_n 1, 1) := by decide +kernel
theorem d9_240 : decode bc9 240 = .ok (.bipush 7, 2) := by decide +kernel
theorem d9_242 : decode bc9 242 = .ok (.if_icmp .ne 59, 3) := by decide +kernel
theorem d9_245 : decode bc9 245 = .ok (.new 8, 3) := by decide +kernel
theorem d9_248 : decode bc9 248 = .ok (.dup, 1) := by decide +kernel
theorem d9_249 : decode bc9 249 = .ok (.bipush 7, 2) := by decide +kernel
theorem d9_251 : decode bc9 251 = .ok (.newarray .char, 2) := by decide +kernel
theorem d9_253 : decode bc9 253 = .ok (.dup, 1) := by decide +kernel
theorem d9_254 : decode bc9 254 = .ok (.iconst 0, 1) := by decide +kernel
theorem d9_255 : decode bc9 255 = .ok (.aload_n 0, 1) := by decide +kernel
theorem d9_256 : decode bc9 256 = .ok (.iconst 0, 1) := by decide +kernel
theorem d9_257 : decode bc9 257 = .ok (.caload, 1) := by decide +kernel
theorem d9_258 : decode bc9 258 = .ok (.castore, 1) := by decide +kernel
theorem d9_259 : decode bc9 259 = .ok (.dup, 1) := by decide +kernel
theorem d9_260 : decode bc9 260 = .ok (.iconst 1, 1) := by decide +kernel
theorem d9_261 : decode bc9 261 = .ok (.aload_n 0, 1) := by decide +kernel
theorem d9_262 : decode bc9 262 = .ok (.iconst 1, 1) := by decide +kernel
theorem d9_263 : decode bc9 263 = .ok (.caload, 1) := by decide +kernel
theorem d9_264 : decode bc9 264 = .ok (.castore, 1) := by decide +kernel
theorem d9_265 : decode bc9 265 = .ok (.dup, 1) := by decide +kernel
theorem d9_266 : decode bc9 266 = .ok (.iconst 2, 1) := by decide +kernel
theorem d9_267 : decode bc9 267 = .ok (.aload_n 0, 1) := by decide +kernel
theorem d9_268 : decode bc9 268 = .ok (.iconst 2, 1) := by decide +kernel
theorem d9_269 : decode bc9 269 = .ok (.caload, 1) := by decide +kernel
theorem d9_270 : decode bc9 270 = .ok (.castore, 1) := by decide +kernel
theorem d9_271 : decode bc9 271 = .ok (.dup, 1) := by decide +kernel
theorem d9_272 : decode bc9 272 = .ok (.iconst 3, 1) := by decide +kernel
theorem d9_273 : decode bc9 273 = .ok (.aload_n 0, 1) := by decide +kernel
theorem d9_274 : decode bc9 274 = .ok (.iconst 3, 1) := by decide +kernel
theorem d9_275 : decode bc9 275 = .ok (.caload, 1) := by decide +kernel
theorem d9_276 : decode bc9 276 = .ok (.castore, 1) := by decide +kernel
theorem d9_277 : decode bc9 277 = .ok (.dup, 1) := by decide +kernel
theorem d9_278 : decode bc9 278 = .ok (.iconst 4, 1) := by decide +kernel
theorem d9_279 : decode bc9 279 = .ok (.aload_n 0, 1) := by decide +kernel
theorem d9_280 : decode bc9 280 = .ok (.iconst 4, 1) := by decide +kernel
theorem d9_281 : decode bc9 281 = .ok (.caload, 1) := by decide +kernel
theorem d9_282 : decode bc9 282 = .ok (.castore, 1) := by decide +kernel
theorem d9_283 : decode bc9 283 = .ok (.dup, 1) := by decide +kernel
theorem d9_284 : decode bc9 284 = .ok (.iconst 5, 1) := by decide +kernel
theorem d9_285 : decode bc9 285 = .ok (.aload_n 0, 1) := by decide +kernel
theorem d9_286 : decode bc9 286 = .ok (.iconst 5, 1) := by decide +kernel
theorem d9_287 : decode bc9 287 = .ok (.caload, 1) := by decide +kernel
theorem d9_288 : decode bc9 288 = .ok (.castore, 1) := by decide +kernel
theorem d9_289 : decode bc9 289 = .ok (.dup, 1) := by decide +kernel
theorem d9_290 : decode bc9 290 = .ok (.bipush 6, 2) := by decide +kernel
theorem d9_292 : decode bc9 292 = .ok (.aload_n 0, 1) := by decide +kernel
theorem d9_293 : decode bc9 293 = .ok (.bipush 6, 2) := by decide +kernel
theorem d9_295 : decode bc9 295 = .ok (.caload, 1) := by decide +kernel
theorem d9_296 : decode bc9 296 = .ok (.castore, 1) := by decide +kernel
theorem d9_297 : decode bc9 297 = .ok (.invokespecial 17, 3) := by decide +kernel
theorem kll1_7 : (1 : Int32) < (7 : Int32) := by decide +kernel
theorem kll2_7 : (2 : Int32) < (7 : Int32) := by decide +kernel
theorem kll3_7 : (3 : Int32) < (7 : Int32) := by decide +kernel
theorem kll4_7 : (4 : Int32) < (7 : Int32) := by decide +kernel
theorem kll5_7 : (5 : Int32) < (7 : Int32) := by decide +kernel
theorem kll6_7 : (6 : Int32) < (7 : Int32) := by decide +kernel
theorem kll7_7 : ¬ ((7 : Int32) < (7 : Int32)) := by decide +kernel
theorem d9_300 : decode bc9 300 = .ok (.areturn, 1) := by decide +kernel
theorem kle4_7 : ¬ ((4 : Int32) = (7 : Int32)) := by decide +kernel
theorem kle5_7 : ¬ ((5 : Int32) = (7 : Int32)) := by decide +kernel
theorem kle6_7 : ¬ ((6 : Int32) = (7 : Int32)) := by decide +kernel
theorem knc67 : nar .char (67 : Int32) = (67 : Int32) := by decide +kernel
theorem knc111 : nar .char (111 : Int32) = (111 : Int32) := by decide +kernel
theorem kll6_0 : ¬ ((6 : Int32) < (0 : Int32)) := by decide +kernel
theorem knc108 : nar .char (108 : Int32) = (108 : Int32) := by decide +kernel
theorem kll255_67 : ¬ ((255 : Int32) < (67 : Int32)) := by decide +kernel
theorem kll67_0 : ¬ ((67 : Int32) < (0 : Int32)) := by decide +kernel
theorem kll255_111 : ¬ ((255 : Int32) < (111 : Int32)) := by decide +kernel
theorem kll111_0 : ¬ ((111 : Int32) < (0 : Int32)) := by decide +kernel
theorem kll255_108 : ¬ ((255 : Int32) < (108 : Int32)) := by decide +kernel
theorem kll108_0 : ¬ ((108 : Int32) < (0 : Int32)) := by decide +kernel
theorem kb67 {i : Int32} (h : i = ((67 : Int32).toInt8.toInt32)) : (67 : Int32) = i := by subst h; decide +kernel
theorem kb111 {i : Int32} (h : i = ((111 : Int32).toInt8.toInt32)) : (111 : Int32) = i := by subst h; decide +kernel
theorem kb108 {i : Int32} (h : i = ((108 : Int32).toInt8.toInt32)) : (108 : Int32) = i := by subst h; decide +kernel
theorem kle67_67 : (67 : Int32) = (67 : Int32) := by decide +kernel
theorem kle111_111 : (111 : Int32) = (111 : Int32) := by decide +kernel
theorem kle108_108 : (108 : Int32) = (108 : Int32) := by decide +kernel
theorem d9_301 : decode bc9 301 = .ok (.new 8, 3) := by decide +kernel
theorem d9_304 : decode bc9 304 = .ok (.dup, 1) := by decide +kernel
theorem d9_305 : decode bc9 305 = .ok (.bipush 8, 2) := by decide +kernel
theorem d9_307 : decode bc9 307 = .ok (.newarray .char, 2) := by decide +kernel
theorem d9_309 : decode bc9 309 = .ok (.dup, 1) := by decide +kernel
theorem d9_310 : decode bc9 310 = .ok (.iconst 0, 1) := by decide +kernel
theorem d9_311 : decode bc9 311 = .ok (.aload_n 0, 1) := by decide +kernel
theorem d9_312 : decode bc9 312 = .ok (.iconst 0, 1) := by decide +kernel
theorem d9_313 : decode bc9 313 = .ok (.caload, 1) := by decide +kernel
theorem d9_314 : decode bc9 314 = .ok (.castore, 1) := by decide +kernel
theorem d9_315 : decode bc9 315 = .ok (.dup, 1) := by decide +kernel
theorem d9_316 : decode bc9 316 = .ok (.iconst 1, 1) := by decide +kernel
theorem d9_317 : decode bc9 317 = .ok (.aload_n 0, 1) := by decide +kernel
theorem d9_318 : decode bc9 318 = .ok (.iconst 1, 1) := by decide +kernel
theorem d9_319 : decode bc9 319 = .ok (.caload, 1) := by decide +kernel
theorem d9_320 : decode bc9 320 = .ok (.castore, 1) := by decide +kernel
theorem d9_321 : decode bc9 321 = .ok (.dup, 1) := by decide +kernel
theorem d9_322 : decode bc9 322 = .ok (.iconst 2, 1) := by decide +kernel
theorem d9_323 : decode bc9 323 = .ok (.aload_n 0, 1) := by decide +kernel
theorem d9_324 : decode bc9 324 = .ok (.iconst 2, 1) := by decide +kernel
theorem d9_325 : decode bc9 325 = .ok (.caload, 1) := by decide +kernel
theorem d9_326 : decode bc9 326 = .ok (.castore, 1) := by decide +kernel
theorem d9_327 : decode bc9 327 = .ok (.dup, 1) := by decide +kernel
theorem d9_328 : decode bc9 328 = .ok (.iconst 3, 1) := by decide +kernel
theorem d9_329 : decode bc9 329 = .ok (.aload_n 0, 1) := by decide +kernel
theorem d9_330 : decode bc9 330 = .ok (.iconst 3, 1) := by decide +kernel
theorem d9_331 : decode bc9 331 = .ok (.caload, 1) := by decide +kernel
theorem d9_332 : decode bc9 332 = .ok (.castore, 1) := by decide +kernel
theorem d9_333 : decode bc9 333 = .ok (.dup, 1) := by decide +kernel
theorem d9_334 : decode bc9 334 = .ok (.iconst 4, 1) := by decide +kernel
theorem d9_335 : decode bc9 335 = .ok (.aload_n 0, 1) := by decide +kernel
theorem d9_336 : decode bc9 336 = .ok (.iconst 4, 1) := by decide +kernel
theorem d9_337 : decode bc9 337 = .ok (.caload, 1) := by decide +kernel
theorem d9_338 : decode bc9 338 = .ok (.castore, 1) := by decide +kernel
theorem d9_339 : decode bc9 339 = .ok (.dup, 1) := by decide +kernel
theorem d9_340 : decode bc9 340 = .ok (.iconst 5, 1) := by decide +kernel
theorem d9_341 : decode bc9 341 = .ok (.aload_n 0, 1) := by decide +kernel
theorem d9_342 : decode bc9 342 = .ok (.iconst 5, 1) := by decide +kernel
theorem d9_343 : decode bc9 343 = .ok (.caload, 1) := by decide +kernel
theorem d9_344 : decode bc9 344 = .ok (.castore, 1) := by decide +kernel
theorem d9_345 : decode bc9 345 = .ok (.dup, 1) := by decide +kernel
theorem d9_346 : decode bc9 346 = .ok (.bipush 6, 2) := by decide +kernel
theorem d9_348 : decode bc9 348 = .ok (.aload_n 0, 1) := by decide +kernel
theorem d9_349 : decode bc9 349 = .ok (.bipush 6, 2) := by decide +kernel
theorem d9_351 : decode bc9 351 = .ok (.caload, 1) := by decide +kernel
theorem d9_352 : decode bc9 352 = .ok (.castore, 1) := by decide +kernel
theorem d9_353 : decode bc9 353 = .ok (.dup, 1) := by decide +kernel
theorem d9_354 : decode bc9 354 = .ok (.bipush 7, 2) := by decide +kernel
theorem d9_356 : decode bc9 356 = .ok (.aload_n 0, 1) := by decide +kernel
theorem d9_357 : decode bc9 357 = .ok (.bipush 7, 2) := by decide +kernel
theorem d9_359 : decode bc9 359 = .ok (.caload, 1) := by decide +kernel
theorem d9_360 : decode bc9 360 = .ok (.castore, 1) := by decide +kernel
theorem d9_361 : decode bc9 361 = .ok (.invokespecial 17, 3) := by decide +kernel
theorem d9_364 : decode bc9 364 = .ok (.areturn, 1) := by decide +kernel
theorem kle4_8 : ¬ ((4 : Int32) = (8 : Int32)) := by decide +kernel
theorem kle5_8 : ¬ ((5 : Int32) = (8 : Int32)) := by decide +kernel
theorem kle6_8 : ¬ ((6 : Int32) = (8 : Int32)) := by decide +kernel
theorem kle7_8 : ¬ ((7 : Int32) = (8 : Int32)) := by decide +kernel
def Q2_3 (Z : State) (a1 : Addr) (p2 : Int32) (h0 : Heap) (n0 : Nat) (v : Option Value) (h : Heap) (L : List Loc) : Prop := (v = some (.int 0) ∧ Fr n0 L ∧ h = h0)
theorem rm2_3 (l : Launch) (Z : State) (a0 : Array Value) (hw : own_HW Z a0) (a1 : Addr) (p2 : Int32) (h0 : Heap) (n0 : Nat) (O0 : Old Z n0 h0) (S_3 : Sta Z Z.heap C_2 "COMPACT_STRINGS" "Z" (.int p2)) (hk5 : ¬ (p2 = 0)) (F6 : Fld Z h0 a1 C_2 "coder" "B" (.int 0)) : own_Met l Z M_0 bc2 1 (some .byte) ({ frames := 0, cells := 0, slots := 0, locals := 0 } : Room) #[(.ref a1)] h0 (Q2_3 Z a1 p2 h0 n0) := by
 refine own_body (L0 := #[vR a1]) (plainFor_of_name pn_0) (fun m => by first | (simp [entryFrame, mkF, argsToLocals, Value.category]; done) | rfl) fun p e s m below meth c s₁ EN hx hby hml hown hnm hret X0 hZ e0 hh pre0 fin => ?_
 have N0 := Fr.nil n0
 have hq := And.intro hx hby
 obtain ⟨T4, X4, e4, st4⟩ := getS2 X0 hx hZ hown (host := "") (Or.inl (ww22 hw)) Via.refl e0 (Sta.ext O0.2 S_3) (g := (mkF m 0 #[vR a1] [])) rfl (hb hby d2_0)
 obtain ⟨T7, X7, e7, st7⟩ := getF X4 hx hZ hown (host := "") (Or.inl (ww23 hw)) Via.refl e4 F6 (g := (mkF m 7 #[vR a1] [(.ref a1)])) rfl rfl (hb hby d2_7)
 refine fin (some (.int 0)) _ _ _ _ X7 nofun (fun fs hr => pre0 _ ?_) (own_atH e7 ?_) (by decide) (by decide)
 ·
  refine st4 _ (o_ifN X4 hq d2_3 ((if0 _ _).trans (feq hk5).1) (o_aloadN X4 hq d2_6 rfl rfl (st7 _ (o_goto X7 hq d2_10 (pc := 10) (pc' := 14) ?_))))
  exact retN X7 hx (t := .byte) hret (by simp) (hb hby d2_14) hr
 ·
  exact ⟨rfl, N0, rfl⟩
def Q1_2 (Z : State) (a1 a2 : Addr) (vl5 : List Value) (p6 : Int32) (k7 : ClassId) (p10 : Int32) (h0 : Heap) (n0 : Nat) (v : Option Value) (h : Heap) (L : List Loc) : Prop := (v = some (.int p6) ∧ Fr n0 L ∧ h = h0)
theorem rm1_2 (l : Launch) (Z : State) (a0 : Array Value) (hw : own_HW Z a0) (a1 a2 : Addr) (vl5 : List Value) (p6 : Int32) (k7 : ClassId) (p10 : Int32) (h0 : Heap) (n0 : Nat) (O0 : Old Z n0 h0) (F3 : Fld Z h0 a1 C_2 "value" "[B" (.ref a2)) (V8 : Arv Z h0 a2 k7 .byte p6 vl5 (.int 0)) (E_9 : Exa Z h0 a1 C_2) (S_11 : Sta Z Z.heap C_2 "COMPACT_STRINGS" "Z" (.int p10)) (hk12 : ¬ (p10 = 0)) (F13 : Fld Z h0 a1 C_2 "coder" "B" (.int 0)) : own_Met l Z M_1 bc1 1 (some .int) ({ frames := 1, cells := 0, slots := 0, locals := 13 } : Room) #[(.ref a1)] h0 (Q1_2 Z a1 a2 vl5 p6 k7 p10 h0 n0) := by
 refine own_body (L0 := #[vR a1]) (plainFor_of_name pn_0) (fun m => by first | (simp [entryFrame, mkF, argsToLocals, Value.category]; done) | rfl) fun p e s m below meth c s₁ EN hx hby hml hown hnm hret X0 hZ e0 hh pre0 fin => ?_
 have N0 := Fr.nil n0
 have hq := And.intro hx hby
 obtain ⟨T4, X4, e4, st4⟩ := getF X0 hx hZ hown (host := "") (Or.inl (ww16 hw)) Via.refl e0 F3 (g := (mkF m 1 #[vR a1] [(.ref a1)])) rfl rfl (hb hby d1_1)
 obtain ⟨_, T14, L14, X14, hQ14, st14⟩ := own_cV X4 hx hZ hown (ww17 hw) (ww18 hw) (notFace_of_selects (args := #[]) (mvT hZ (ww20 hw))) (ww20 hw) (ww19 hw) (ww4 hw) (ww21 hw) E_9 (rm2_3 l Z a0 hw a1 p10 h0 n0 O0 S_11 hk12 F13) e4 pd_0 hml (hb hby d1_6) (Ls := #[vR a1]) (W := 1) (argsL := []) (rest := [(.int p6)])
 obtain ⟨rfl, u16, u17⟩ := hQ14
 have N14 := Fr.app N0 u16
 refine fin (some (.int p6)) _ _ _ _ X14 nofun (fun fs hr => pre0 _ ?_) (own_atH u17 ?_) (by decide) (by decide)
 ·
  refine o_aloadN X0 hq d1_0 rfl rfl (st4 _ (o_alen X4 hq d1_4 hZ e4 V8 (o_aloadN X4 hq d1_5 rfl rfl (st14 _ (o_ishr X14 hq d1_9 (z := p6) (own_shr0 p6) ?_)))))
  exact retI X14 hx hret (hb hby d1_10) hr
 ·
  exact ⟨rfl, N14, rfl⟩
def Q5_6 (Z : State) (a1 : Addr) (p2 : Int32) (h0 : Heap) (n0 : Nat) (v : Option Value) (h : Heap) (L : List Loc) : Prop := (v = some (.int 1) ∧ Fr n0 L ∧ h = h0)
theorem rm5_6 (l : Launch) (Z : State) (a0 : Array Value) (hw : own_HW Z a0) (a1 : Addr) (p2 : Int32) (h0 : Heap) (n0 : Nat) (O0 : Old Z n0 h0) (S_3 : Sta Z Z.heap C_2 "COMPACT_STRINGS" "Z" (.int p2)) (hk5 : ¬ (p2 = 0)) (F6 : Fld Z h0 a1 C_2 "coder" "B" (.int 0)) : own_Met l Z M_2 bc5 1 (some .boolean) ({ frames := 0, cells := 0, slots := 0, locals := 0 } : Room) #[(.ref a1)] h0 (Q5_6 Z a1 p2 h0 n0) := by
 refine own_body (L0 := #[vR a1]) (plainFor_of_name pn_0) (fun m => by first | (simp [entryFrame, mkF, argsToLocals, Value.category]; done) | rfl) fun p e s m below meth c s₁ EN hx hby hml hown hnm hret X0 hZ e0 hh pre0 fin => ?_
 have N0 := Fr.nil n0
 have hq := And.intro hx hby
 obtain ⟨T4, X4, e4, st4⟩ := getS2 X0 hx hZ hown (host := "") (Or.inl (ww22 hw)) Via.refl e0 (Sta.ext O0.2 S_3) (g := (mkF m 0 #[vR a1] [])) rfl (hb hby d5_0)
 obtain ⟨T7, X7, e7, st7⟩ := getF X4 hx hZ hown (host := "") (Or.inl (ww23 hw)) Via.refl e4 F6 (g := (mkF m 7 #[vR a1] [(.ref a1)])) rfl rfl (hb hby d5_7)
 refine fin (some (.int 1)) _ _ _ _ X7 nofun (fun fs hr => pre0 _ ?_) (own_atH e7 ?_) (by decide) (by decide)
 ·
  refine st4 _ (o_ifN X4 hq d5_3 ((if0 _ _).trans (feq hk5).1) (o_aloadN X4 hq d5_6 rfl rfl (st7 _ (o_ifN X7 hq d5_10 (by decide +kernel) (o_iconst X7 hq d5_13 (x := 1) rfl (o_goto X7 hq d5_14 (pc := 14) (pc' := 18) ?_))))))
  exact retN X7 hx (t := .boolean) hret (by simp) (hb hby d5_18) hr
 ·
  exact ⟨rfl, N0, rfl⟩
def Q8_9 (Z : State) (p1 p2 : Int32) (va3 : Value) (h0 : Heap) (n0 : Nat) (v : Option Value) (h : Heap) (L : List Loc) : Prop := (v = some (.int p1) ∧ Fr n0 L ∧ h = h0)
theorem rm8_9 (l : Launch) (Z : State) (a0 : Array Value) (hw : own_HW Z a0) (p1 p2 : Int32) (va3 : Value) (h0 : Heap) (n0 : Nat) (O0 : Old Z n0 h0) (ir_va3 : va3.isRef = true) (hk4 : ¬ (p1 < 0)) (hk5 : p1 < p2) : own_Met l Z M_3 bc8 3 (some .int) ({ frames := 0, cells := 0, slots := 0, locals := 0 } : Room) #[(.int p1), (.int p2), va3] h0 (Q8_9 Z p1 p2 va3 h0 n0) := by
 refine own_body (L0 := #[vI p1, vI p2, .val va3]) (plainFor_of_name pn_1) (fun m => by rcases ref_cases ir_va3 with h | ⟨_, h⟩ <;> subst h <;> rfl) fun p e s m below meth c s₁ EN hx hby hml hown hnm hret X0 hZ e0 hh pre0 fin => ?_
 have N0 := Fr.nil n0
 have hq := And.intro hx hby
 refine fin (some (.int p1)) _ _ _ _ X0 nofun (fun fs hr => pre0 _ ?_) (own_atH e0 ?_) (by decide) (by decide)
 ·
  refine o_iloadN X0 hq d8_0 rfl (o_ifN X0 hq d8_1 ((if0 _ _).trans (flt hk4).1) (o_iloadN X0 hq d8_4 rfl (o_iloadN X0 hq d8_5 rfl (o_icmpY X0 hq d8_6 (pc := 6) (pc' := 16) (tlt hk5).1 (o_iloadN X0 hq d8_16 rfl ?_)))))
  exact retI X0 hx hret (hb hby d8_17) hr
 ·
  exact ⟨rfl, N0, rfl⟩
def Q7_8 (Z : State) (p1 p2 : Int32) (va3 : Value) (h0 : Heap) (n0 : Nat) (v : Option Value) (h : Heap) (L : List Loc) : Prop := (v = none ∧ Fr n0 L ∧ h = h0)
theorem rm7_8 (l : Launch) (Z : State) (a0 : Array Value) (hw : own_HW Z a0) (p1 p2 : Int32) (va3 : Value) (h0 : Heap) (n0 : Nat) (O0 : Old Z n0 h0) (S_4 : Sta Z Z.heap C_3 "SIOOBE_FORMATTER" C_4 va3) (hk6 : ¬ (p1 < 0)) (hk7 : p1 < p2) (ir_va3 : va3.isRef = true) : own_Met l Z M_4 bc7 2 none ({ frames := 1, cells := 0, slots := 0, locals := 14 } : Room) #[(.int p1), (.int p2)] h0 (Q7_8 Z p1 p2 va3 h0 n0) := by
 refine own_body (L0 := #[vI p1, vI p2]) (plainFor_of_name pn_0) (fun m => by first | (simp [entryFrame, mkF, argsToLocals, Value.category]; done) | rfl) fun p e s m below meth c s₁ EN hx hby hml hown hnm hret X0 hZ e0 hh pre0 fin => ?_
 have N0 := Fr.nil n0
 have hq := And.intro hx hby
 obtain ⟨T5, X5, e5, st5⟩ := getS2 X0 hx hZ hown (host := "") (Or.inl (ww46 hw)) Via.refl e0 (Sta.ext O0.2 S_4) (g := (mkF m 2 #[vI p1, vI p2] [(.int p2), (.int p1)])) rfl (hb hby d7_2)
 obtain ⟨_, T8, L8, X8, hQ8, st8⟩ := own_cS X5 hx hZ hown (ww48 hw) (ww49 hw) (ww47 hw) (ww50 hw) (rm8_9 l Z a0 hw p1 p2 va3 h0 n0 O0 ir_va3 hk6 hk7) e5 pd_3 hml (hb hby d7_5) (Ls := #[vI p1, vI p2]) (W := 0) (argsL := [(.int p1), (.int p2), va3]) (rest := [])
 obtain ⟨rfl, u10, u11⟩ := hQ8
 have N8 := Fr.app N0 u10
 refine fin none _ _ _ _ X8 (fun _ => rfl) (fun fs hr => pre0 _ ?_) (own_atH u11 ?_) (by decide) (by decide)
 ·
  refine o_iloadN X0 hq d7_0 rfl (o_iloadN X0 hq d7_1 rfl (st5 _ (st8 _ (o_pop X8 hq d7_8 rfl ?_))))
  exact X8.returnOut hx hret (hb hby d7_9) hr
 ·
  exact ⟨rfl, N8, rfl⟩
def Q6_7 (Z : State) (a1 : Addr) (p2 : Int32) (vl3 : List Value) (p4 : Int32) (k5 : ClassId) (va7 : Value) (p15 : Int32) (h0 : Heap) (n0 : Nat) (v : Option Value) (h : Heap) (L : List Loc) : Prop := (∃ (i17 : Int32), i17 = (p15 &&& (255 : Int32)) ∧ v = some (.int i17) ∧ Fr n0 L ∧ h = h0)
theorem rm6_7 (l : Launch) (Z : State) (a0 : Array Value) (hw : own_HW Z a0) (a1 : Addr) (p2 : Int32) (vl3 : List Value) (p4 : Int32) (k5 : ClassId) (va7 : Value) (p15 : Int32) (h0 : Heap) (n0 : Nat) (O0 : Old Z n0 h0) (V6 : Arv Z h0 a1 k5 .byte p4 vl3 (.int 0)) (S_8 : Sta Z Z.heap C_3 "SIOOBE_FORMATTER" C_4 va7) (hk9 : ¬ (p2 < 0)) (hk10 : p2 < p4) (ir_va7 : va7.isRef = true) (hg16 : vl3.getD (p2).toNatClampNeg (.int 0) = .int p15) : own_Met l Z M_5 bc6 2 (some .char) ({ frames := 2, cells := 0, slots := 0, locals := 27 } : Room) #[(.ref a1), (.int p2)] h0 (Q6_7 Z a1 p2 vl3 p4 k5 va7 p15 h0 n0) := by
 refine own_body (L0 := #[vR a1, vI p2]) (plainFor_of_name pn_2) (fun m => by first | (simp [entryFrame, mkF, argsToLocals, Value.category]; done) | rfl) fun p e s m below meth c s₁ EN hx hby hml hown hnm hret X0 hZ e0 hh pre0 fin => ?_
 have N0 := Fr.nil n0
 have hq := And.intro hx hby
 obtain ⟨_, T11, L11, X11, hQ11, st11⟩ := own_cS X0 hx hZ hown (ww43 hw) (ww44 hw) (ww4 hw) (ww45 hw) (rm7_8 l Z a0 hw p2 p4 va7 h0 n0 O0 S_8 hk9 hk10 ir_va7) e0 pd_4 hml (hb hby d6_3) (Ls := #[vR a1, vI p2]) (W := 0) (argsL := [(.int p2), (.int p4)]) (rest := [])
 obtain ⟨rfl, u13, u14⟩ := hQ11
 have N11 := Fr.app N0 u13
 obtain ⟨i17, hi17⟩ : ∃ z, z = (p15 &&& (255 : Int32)) := ⟨_, rfl⟩
 refine fin (some (.int i17)) _ _ _ _ X11 nofun (fun fs hr => pre0 _ ?_) (own_atH u14 ?_) (by decide) (by decide)
 ·
  refine o_iloadN X0 hq d6_0 rfl (o_aloadN X0 hq d6_1 rfl rfl (o_alen X0 hq d6_2 hZ e0 V6 (st11 _ (o_aloadN X11 hq d6_6 rfl rfl (o_iloadN X11 hq d6_7 rfl (o_baload X11 hq d6_8 hZ u14 V6 (i := p2) (v := .int p15) ⟨hk9, hk10⟩ hg16 (o_sipush X11 hq d6_9 (x := 255) rfl (o_iand X11 hq d6_12 (z := i17) hi17.symm (o_i2c X11 hq d6_13 (z := i17) (own_i2c255 hi17) ?_)))))))))
  exact retN X11 hx (t := .char) hret (by simp) (hb hby d6_14) (by rw [(own_nar255 hi17)]; exact hr)
 ·
  exact ⟨i17, hi17, rfl, N11, rfl⟩
def Q4_5 (Z : State) (a1 : Addr) (p2 p4 : Int32) (a12 : Addr) (vl15 : List Value) (p16 : Int32) (k17 : ClassId) (va19 : Value) (p23 : Int32) (h0 : Heap) (n0 : Nat) (v : Option Value) (h : Heap) (L : List Loc) : Prop := (∃ (i26 : Int32), i26 = (p23 &&& (255 : Int32)) ∧ v = some (.int i26) ∧ Fr n0 L ∧ h = h0)
theorem rm4_5 (l : Launch) (Z : State) (a0 : Array Value) (hw : own_HW Z a0) (a1 : Addr) (p2 p4 : Int32) (a12 : Addr) (vl15 : List Value) (p16 : Int32) (k17 : ClassId) (va19 : Value) (p23 : Int32) (h0 : Heap) (n0 : Nat) (O0 : Old Z n0 h0) (E_3 : Exa Z h0 a1 C_2) (S_5 : Sta Z Z.heap C_2 "COMPACT_STRINGS" "Z" (.int p4)) (hk6 : ¬ (p4 = 0)) (F7 : Fld Z h0 a1 C_2 "coder" "B" (.int 0)) (F13 : Fld Z h0 a1 C_2 "value" "[B" (.ref a12)) (V18 : Arv Z h0 a12 k17 .byte p16 vl15 (.int 0)) (S_20 : Sta Z Z.heap C_3 "SIOOBE_FORMATTER" C_4 va19) (hk21 : ¬ (p2 < 0)) (hk22 : p2 < p16) (hg24 : vl15.getD (p2).toNatClampNeg (.int 0) = .int p23) (ir_va19 : va19.isRef = true) : own_Met l Z M_6 bc4 2 (some .char) ({ frames := 3, cells := 0, slots := 0, locals := 40 } : Room) #[(.ref a1), (.int p2)] h0 (Q4_5 Z a1 p2 p4 a12 vl15 p16 k17 va19 p23 h0 n0) := by
 refine own_body (L0 := #[vR a1, vI p2]) (plainFor_of_name pn_0) (fun m => by first | (simp [entryFrame, mkF, argsToLocals, Value.category]; done) | rfl) fun p e s m below meth c s₁ EN hx hby hml hown hnm hret X0 hZ e0 hh pre0 fin => ?_
 have N0 := Fr.nil n0
 have hq := And.intro hx hby
 obtain ⟨_, T8, L8, X8, hQ8, st8⟩ := own_cV X0 hx hZ hown (ww34 hw) (ww35 hw) (notFace_of_selects (args := #[]) (mvT hZ (ww37 hw))) (ww37 hw) (ww36 hw) (ww4 hw) (ww38 hw) E_3 (rm5_6 l Z a0 hw a1 p4 h0 n0 O0 S_5 hk6 F7) e0 pd_2 hml (hb hby d4_1) (Ls := #[vR a1, vI p2]) (W := 0) (argsL := []) (rest := [])
 obtain ⟨rfl, u10, u11⟩ := hQ8
 have N8 := Fr.app N0 u10
 obtain ⟨T14, X14, e14, st14⟩ := getF X8 hx hZ hown (host := "") (Or.inl (ww16 hw)) Via.refl u11 F13 (g := (mkF m 8 #[vR a1, vI p2] [(.ref a1)])) rfl rfl (hb hby d4_8)
 obtain ⟨_, T25, L25, X25, hQ25, st25⟩ := own_cS X14 hx hZ hown (ww39 hw) (ww40 hw) (ww41 hw) (ww42 hw) (rm6_7 l Z a0 hw a12 p2 _ p16 k17 va19 p23 h0 n0 O0 V18 S_20 hk21 hk22 ir_va19 hg24) e14 pd_5 hml (hb hby d4_12) (Ls := #[vR a1, vI p2]) (W := 0) (argsL := [(.ref a12), (.int p2)]) (rest := [])
 obtain ⟨i26, u27, rfl, u29, u30⟩ := hQ25
 have N25 := Fr.app N8 u29
 refine fin (some (.int i26)) _ _ _ _ X25 nofun (fun fs hr => pre0 _ ?_) (own_atH u30 ?_) (by decide) (by decide)
 ·
  refine o_aloadN X0 hq d4_0 rfl rfl (st8 _ (o_ifN X8 hq d4_4 (by decide +kernel) (o_aloadN X8 hq d4_7 rfl rfl (st14 _ (o_iloadN X14 hq d4_11 rfl (st25 _ ?_))))))
  exact retN X25 hx (t := .char) hret (by simp) (hb hby d4_15) (by rw [(own_nar255 u27)]; exact hr)
 ·
  exact ⟨i26, u27, rfl, N25, rfl⟩
def Q3_4 (Z : State) (a1 : Addr) (p2 : Int32) (a4 : Addr) (vl6 : List Value) (p7 : Int32) (k8 : ClassId) (p10 : Int32) (va19 : Value) (p22 : Int32) (h0 : Heap) (n0 : Nat) (v : Option Value) (h : Heap) (L : List Loc) : Prop := (∃ (i25 : Int32), i25 = (p22 &&& (255 : Int32)) ∧ v = some (.int i25) ∧ Fr n0 L ∧ h = h0)
theorem rm3_4 (l : Launch) (Z : State) (a0 : Array Value) (hw : own_HW Z a0) (a1 : Addr) (p2 : Int32) (a4 : Addr) (vl6 : List Value) (p7 : Int32) (k8 : ClassId) (p10 : Int32) (va19 : Value) (p22 : Int32) (h0 : Heap) (n0 : Nat) (O0 : Old Z n0 h0) (E_3 : Exa Z h0 a1 C_2) (F5 : Fld Z h0 a1 C_2 "value" "[B" (.ref a4)) (V9 : Arv Z h0 a4 k8 .byte p7 vl6 (.int 0)) (S_11 : Sta Z Z.heap C_2 "COMPACT_STRINGS" "Z" (.int p10)) (hk12 : ¬ (p10 = 0)) (F13 : Fld Z h0 a1 C_2 "coder" "B" (.int 0)) (hk18 : p2 < p7) (S_20 : Sta Z Z.heap C_3 "SIOOBE_FORMATTER" C_4 va19) (hk21 : ¬ (p2 < 0)) (hg23 : vl6.getD (p2).toNatClampNeg (.int 0) = .int p22) (ir_va19 : va19.isRef = true) : own_Met l Z M_7 bc3 2 (some .char) ({ frames := 4, cells := 0, slots := 0, locals := 53 } : Room) #[(.ref a1), (.int p2)] h0 (Q3_4 Z a1 p2 a4 vl6 p7 k8 p10 va19 p22 h0 n0) := by
 refine own_body (L0 := #[vR a1, vI p2]) (plainFor_of_name pn_3) (fun m => by first | (simp [entryFrame, mkF, argsToLocals, Value.category]; done) | rfl) fun p e s m below meth c s₁ EN hx hby hml hown hnm hret X0 hZ e0 hh pre0 fin => ?_
 have N0 := Fr.nil n0
 have hq := And.intro hx hby
 obtain ⟨_, T14, L14, X14, hQ14, st14⟩ := own_cV X0 hx hZ hown (ww11 hw) (ww12 hw) (notFace_of_selects (args := #[]) (mvT hZ (ww14 hw))) (ww14 hw) (ww13 hw) (ww4 hw) (ww15 hw) E_3 (rm1_2 l Z a0 hw a1 a4 _ p7 k8 p10 h0 n0 O0 F5 V9 E_3 S_11 hk12 F13) e0 pd_1 hml (hb hby d3_2) (Ls := #[vR a1, vI p2]) (W := 1) (argsL := []) (rest := [(.int p2)])
 obtain ⟨rfl, u16, u17⟩ := hQ14
 have N14 := Fr.app N0 u16
 obtain ⟨_, T24, L24, X24, hQ24, st24⟩ := own_cV X14 hx hZ hown (ww29 hw) (ww30 hw) (notFace_of_selects (args := #[]) (mvT hZ (ww32 hw))) (ww32 hw) (ww31 hw) (ww4 hw) (ww33 hw) E_3 (rm4_5 l Z a0 hw a1 p2 p10 a4 _ p7 k8 va19 p22 h0 n0 O0 E_3 S_11 hk12 F13 F5 V9 S_20 hk21 hk18 hg23 ir_va19) u17 pd_6 hml (hb hby d3_10) (Ls := #[vR a1, vI p2]) (W := 0) (argsL := [(.int p2)]) (rest := [])
 obtain ⟨i25, u26, rfl, u28, u29⟩ := hQ24
 have N24 := Fr.app N14 u28
 refine fin (some (.int i25)) _ _ _ _ X24 nofun (fun fs hr => pre0 _ ?_) (own_atH u29 ?_) (by decide) (by decide)
 ·
  refine o_iloadN X0 hq d3_0 rfl (o_aloadN X0 hq d3_1 rfl rfl (st14 _ (o_icmpN X14 hq d3_5 (tlt hk18).2.1 (o_aloadN X14 hq d3_8 rfl rfl (o_iloadN X14 hq d3_9 rfl (st24 _ (o_goto X24 hq d3_13 (pc := 13) (pc' := 17) ?_)))))))
  exact retN X24 hx (t := .char) hret (by simp) (hb hby d3_17) (by rw [(own_nar255 u26)]; exact hr)
 ·
  exact ⟨i25, u26, rfl, N24, rfl⟩
def Q3_10 (Z : State) (a1 : Addr) (p2 : Int32) (a4 : Addr) (vl6 : List Value) (p7 : Int32) (k8 : ClassId) (p10 : Int32) (h0 : Heap) (n0 : Nat) (v : Option Value) (h : Heap) (L : List Loc) : Prop := (v = some (.int 0) ∧ Fr n0 L ∧ h = h0)
theorem rm3_10 (l : Launch) (Z : State) (a0 : Array Value) (hw : own_HW Z a0) (a1 : Addr) (p2 : Int32) (a4 : Addr) (vl6 : List Value) (p7 : Int32) (k8 : ClassId) (p10 : Int32) (h0 : Heap) (n0 : Nat) (O0 : Old Z n0 h0) (E_3 : Exa Z h0 a1 C_2) (F5 : Fld Z h0 a1 C_2 "value" "[B" (.ref a4)) (V9 : Arv Z h0 a4 k8 .byte p7 vl6 (.int 0)) (S_11 : Sta Z Z.heap C_2 "COMPACT_STRINGS" "Z" (.int p10)) (hk12 : ¬ (p10 = 0)) (F13 : Fld Z h0 a1 C_2 "coder" "B" (.int 0)) (hk18 : ¬ (p2 < p7)) : own_Met l Z M_7 bc3 2 (some .char) ({ frames := 2, cells := 0, slots := 0, locals := 26 } : Room) #[(.ref a1), (.int p2)] h0 (Q3_10 Z a1 p2 a4 vl6 p7 k8 p10 h0 n0) := by
 refine own_body (L0 := #[vR a1, vI p2]) (plainFor_of_name pn_3) (fun m => by first | (simp [entryFrame, mkF, argsToLocals, Value.category]; done) | rfl) fun p e s m below meth c s₁ EN hx hby hml hown hnm hret X0 hZ e0 hh pre0 fin => ?_
 have N0 := Fr.nil n0
 have hq := And.intro hx hby
 obtain ⟨_, T14, L14, X14, hQ14, st14⟩ := own_cV X0 hx hZ hown (ww11 hw) (ww12 hw) (notFace_of_selects (args := #[]) (mvT hZ (ww14 hw))) (ww14 hw) (ww13 hw) (ww4 hw) (ww15 hw) E_3 (rm1_2 l Z a0 hw a1 a4 _ p7 k8 p10 h0 n0 O0 F5 V9 E_3 S_11 hk12 F13) e0 pd_1 hml (hb hby d3_2) (Ls := #[vR a1, vI p2]) (W := 1) (argsL := []) (rest := [(.int p2)])
 obtain ⟨rfl, u16, u17⟩ := hQ14
 have N14 := Fr.app N0 u16
 refine fin (some (.int 0)) _ _ _ _ X14 nofun (fun fs hr => pre0 _ ?_) (own_atH u17 ?_) (by decide) (by decide)
 ·
  refine o_iloadN X0 hq d3_0 rfl (o_aloadN X0 hq d3_1 rfl rfl (st14 _ (o_icmpY X14 hq d3_5 (pc := 5) (pc' := 16) (flt hk18).2.1 (o_iconst X14 hq d3_16 (x := 0) rfl ?_))))
  exact retN X14 hx (t := .char) hret (by simp) (hb hby d3_17) hr
 ·
  exact ⟨rfl, N14, rfl⟩
def Q14_15 (Z : State) (a1 a2 : Addr) (p3 p4 : Int32) (p5 p6 : Int32) (k7 k12 : ClassId) (h0 : Heap) (n0 : Nat) (v : Option Value) (h : Heap) (L : List Loc) : Prop := (∃ (i11 i20 : Int32) (i25 i30 : Int32), i11 = (p3.toInt8.toInt32) ∧ i20 = (p4.toInt8.toInt32) ∧ i25 = (p5.toInt8.toInt32) ∧ i30 = (p6.toInt8.toInt32) ∧ v = some (.int 4) ∧ Fr n0 L ∧ Keep h0 h [a2] ∧ Exa Z h a2 "[B" ∧ Arv Z h a2 k12 .byte 4 [(.int i11), (.int i20), (.int i25), (.int i30)] (.int 0))
theorem rm14_15 (l : Launch) (Z : State) (a0 : Array Value) (hw : own_HW Z a0) (a1 a2 : Addr) (p3 p4 : Int32) (p5 p6 : Int32) (k7 k12 : ClassId) (h0 : Heap) (n0 : Nat) (O0 : Old Z n0 h0) (V8 : Arv Z h0 a1 k7 .char 4 [(.int p3), (.int p4), (.int p5), (.int p6)] (.int 0)) (hk10 : ¬ (255 < p3)) (V13 : Arv Z h0 a2 k12 .byte 4 [] (.int 0)) (g_a2 : n0 ≤ a2) (E_15 : Exa Z h0 a2 "[B") (hne16 : a1 ≠ a2) (hk19 : ¬ (255 < p4)) (hk24 : ¬ (255 < p5)) (hk29 : ¬ (255 < p6)) : own_Met l Z M_8 bc14 7 (some .int) ({ frames := 0, cells := 0, slots := 0, locals := 0 } : Room) #[(.ref a1), (.int 0), (.ref a2), (.int 0), (.int 4)] h0 (Q14_15 Z a1 a2 p3 p4 p5 p6 k7 k12 h0 n0) := by
 refine own_body (L0 := #[vR a1, vI 0, vR a2, vI 0, vI 4, .unset, .unset]) (plainFor_of_name pn_4) (fun m => by first | (simp [entryFrame, mkF, argsToLocals, Value.category]; done) | rfl) fun p e s m below meth c s₁ EN hx hby hml hown hnm hret X0 hZ e0 hh pre0 fin => ?_
 have N0 := Fr.nil n0
 have hq := And.intro hx hby
 obtain ⟨i11, hi11⟩ : ∃ z, z = (p3.toInt8.toInt32) := ⟨_, rfl⟩
 obtain ⟨T14, h14, X14, e14, W14, V14, st14⟩ := own_stB X0 hx hZ e0 V13 1 0 i11 i11 0 (own_i2b2 hi11 : (i11.toInt8.toInt32) = i11) (hb hby d14_31) #[vR a1, vI 0, vR a2, vI 0, vI 4, vI 0, vI p3] [] (vs2 := [(.int i11)])
 have N14 := Fr.snoc X14 N0 g_a2
 have f17 := (V8.other W14 hne16)
 obtain ⟨i20, hi20⟩ : ∃ z, z = (p4.toInt8.toInt32) := ⟨_, rfl⟩
 obtain ⟨T21, h21, X21, e21, W21, V21, st21⟩ := own_stB X14 hx hZ e14 V14 1 1 i20 i20 1 (own_i2b2 hi20 : (i20.toInt8.toInt32) = i20) (hb hby d14_31) #[vR a1, vI 1, vR a2, vI 1, vI 4, vI 1, vI p4] [] (vs2 := [(.int i11), (.int i20)])
 have N21 := Fr.snoc X21 N14 g_a2
 have f22 := (f17.other W21 hne16)
 obtain ⟨i25, hi25⟩ : ∃ z, z = (p5.toInt8.toInt32) := ⟨_, rfl⟩
 obtain ⟨T26, h26, X26, e26, W26, V26, st26⟩ := own_stB X21 hx hZ e21 V21 1 2 i25 i25 2 (own_i2b2 hi25 : (i25.toInt8.toInt32) = i25) (hb hby d14_31) #[vR a1, vI 2, vR a2, vI 2, vI 4, vI 2, vI p5] [] (vs2 := [(.int i11), (.int i20), (.int i25)])
 have N26 := Fr.snoc X26 N21 g_a2
 have f27 := (f22.other W26 hne16)
 obtain ⟨i30, hi30⟩ : ∃ z, z = (p6.toInt8.toInt32) := ⟨_, rfl⟩
 obtain ⟨T31, h31, X31, e31, W31, V31, st31⟩ := own_stB X26 hx hZ e26 V26 1 3 i30 i30 3 (own_i2b2 hi30 : (i30.toInt8.toInt32) = i30) (hb hby d14_31) #[vR a1, vI 3, vR a2, vI 3, vI 4, vI 3, vI p6] [] (vs2 := [(.int i11), (.int i20), (.int i25), (.int i30)])
 have N31 := Fr.snoc X31 N26 g_a2
 have f32 := (Exa.wr W31 (Exa.wr W26 (Exa.wr W21 (Exa.wr W14 E_15))))
 refine fin (some (.int 4)) _ _ _ _ X31 nofun (fun fs hr => pre0 _ ?_) (own_atH e31 ?_) (by decide) (by decide)
 ·
  refine o_iconst X0 hq d14_0 (x := 0) rfl (o_istore X0 hq d14_1 rfl (o_iload X0 hq d14_3 rfl (o_iload X0 hq d14_5 rfl (o_icmpN X0 hq d14_7 (by decide +kernel) (o_aloadN X0 hq d14_10 rfl rfl (o_iloadN X0 hq d14_11 rfl (o_caload X0 hq d14_12 hZ e0 V8 (i := 0) (v := .int p3) (by decide +kernel) rfl (o_istore X0 hq d14_13 rfl (o_iload X0 hq d14_15 rfl (o_sipush X0 hq d14_17 (x := 255) rfl (o_icmpY X0 hq d14_20 (pc := 20) (pc' := 26) (flt hk10).2.2.2 (o_aloadN X0 hq d14_26 rfl rfl (o_iloadN X0 hq d14_27 rfl (o_iload X0 hq d14_28 rfl (o_i2b X0 hq d14_30 (z := i11) hi11.symm (st14 _ (o_iinc X14 hq d14_32 rfl (z := 1) (k' := 1) rfl (by decide +kernel) rfl (o_iinc X14 hq d14_35 rfl (z := 1) (k' := 1) rfl (by decide +kernel) rfl (o_iinc X14 hq d14_38 rfl (z := 1) (k' := 1) rfl (by decide +kernel) rfl (o_goto X14 hq d14_41 (pc := 41) (pc' := 3) (o_iload X14 hq d14_3 rfl (o_iload X14 hq d14_5 rfl (o_icmpN X14 hq d14_7 (by decide +kernel) (o_aloadN X14 hq d14_10 rfl rfl (o_iloadN X14 hq d14_11 rfl (o_caload X14 hq d14_12 hZ e14 f17 (i := 1) (v := .int p4) (by decide +kernel) rfl (o_istore X14 hq d14_13 rfl (o_iload X14 hq d14_15 rfl (o_sipush X14 hq d14_17 (x := 255) rfl (o_icmpY X14 hq d14_20 (pc := 20) (pc' := 26) (flt hk19).2.2.2 (o_aloadN X14 hq d14_26 rfl rfl (o_iloadN X14 hq d14_27 rfl (o_iload X14 hq d14_28 rfl (o_i2b X14 hq d14_30 (z := i20) hi20.symm (st21 _ (o_iinc X21 hq d14_32 rfl (z := 2) (k' := 1) rfl (by decide +kernel) rfl (o_iinc X21 hq d14_35 rfl (z := 2) (k' := 1) rfl (by decide +kernel) rfl (o_iinc X21 hq d14_38 rfl (z := 2) (k' := 1) rfl (by decide +kernel) rfl (o_goto X21 hq d14_41 (pc := 41) (pc' := 3) ?_)))))))))))))))))))))))))))))))))))))))
  refine o_iload X21 hq d14_3 rfl (o_iload X21 hq d14_5 rfl (o_icmpN X21 hq d14_7 (by decide +kernel) (o_aloadN X21 hq d14_10 rfl rfl (o_iloadN X21 hq d14_11 rfl (o_caload X21 hq d14_12 hZ e21 f22 (i := 2) (v := .int p5) (by decide +kernel) rfl (o_istore X21 hq d14_13 rfl (o_iload X21 hq d14_15 rfl (o_sipush X21 hq d14_17 (x := 255) rfl (o_icmpY X21 hq d14_20 (pc := 20) (pc' := 26) (flt hk24).2.2.2 (o_aloadN X21 hq d14_26 rfl rfl (o_iloadN X21 hq d14_27 rfl (o_iload X21 hq d14_28 rfl (o_i2b X21 hq d14_30 (z := i25) hi25.symm (st26 _ (o_iinc X26 hq d14_32 rfl (z := 3) (k' := 1) rfl (by decide +kernel) rfl (o_iinc X26 hq d14_35 rfl (z := 3) (k' := 1) rfl (by decide +kernel) rfl (o_iinc X26 hq d14_38 rfl (z := 3) (k' := 1) rfl (by decide +kernel) rfl (o_goto X26 hq d14_41 (pc := 41) (pc' := 3) (o_iload X26 hq d14_3 rfl (o_iload X26 hq d14_5 rfl (o_icmpN X26 hq d14_7 (by decide +kernel) (o_aloadN X26 hq d14_10 rfl rfl (o_iloadN X26 hq d14_11 rfl (o_caload X26 hq d14_12 hZ e26 f27 (i := 3) (v := .int p6) (by decide +kernel) rfl (o_istore X26 hq d14_13 rfl (o_iload X26 hq d14_15 rfl (o_sipush X26 hq d14_17 (x := 255) rfl (o_icmpY X26 hq d14_20 (pc := 20) (pc' := 26) (flt hk29).2.2.2 (o_aloadN X26 hq d14_26 rfl rfl (o_iloadN X26 hq d14_27 rfl (o_iload X26 hq d14_28 rfl (o_i2b X26 hq d14_30 (z := i30) hi30.symm (st31 _ (o_iinc X31 hq d14_32 rfl (z := 4) (k' := 1) rfl (by decide +kernel) rfl (o_iinc X31 hq d14_35 rfl (z := 4) (k' := 1) rfl (by decide +kernel) rfl (o_iinc X31 hq d14_38 rfl (z := 4) (k' := 1) rfl (by decide +kernel) rfl (o_goto X31 hq d14_41 (pc := 41) (pc' := 3) (o_iload X31 hq d14_3 rfl (o_iload X31 hq d14_5 rfl ?_)))))))))))))))))))))))))))))))))))))))
  refine o_icmpY X31 hq d14_7 (pc := 7) (pc' := 44) (by decide +kernel) (o_iload X31 hq d14_44 rfl ?_)
  exact retI X31 hx hret (hb hby d14_46) hr
 ·
  exact ⟨i11, i20, i25, i30, hi11, hi20, hi25, hi30, rfl, N31, (((((Keep.refl h0 [a2]).wr W14 (Or.inl (List.mem_of_getElem? (i := 0) rfl))).wr W21 (Or.inl (List.mem_of_getElem? (i := 0) rfl))).wr W26 (Or.inl (List.mem_of_getElem? (i := 0) rfl))).wr W31 (Or.inl (List.mem_of_getElem? (i := 0) rfl))), f32, V31⟩
def Q13_14 (Z : State) (a1 : Addr) (p3 p4 : Int32) (p5 p6 : Int32) (k7 : ClassId) (h0 : Heap) (n0 : Nat) (v : Option Value) (h : Heap) (L : List Loc) : Prop := (∃ (i15 i16 : Int32) (i17 i18 : Int32) (b2 : Addr) (k2 : ClassId), i15 = (p3.toInt8.toInt32) ∧ i16 = (p4.toInt8.toInt32) ∧ i17 = (p5.toInt8.toInt32) ∧ i18 = (p6.toInt8.toInt32) ∧ v = some (.ref b2) ∧ Fr n0 L ∧ h0.size ≤ b2 ∧ b2 < h.size ∧ Keep h0 h [] ∧ Exa Z h b2 "[B" ∧ Arv Z h b2 k2 .byte 4 [(.int i15), (.int i16), (.int i17), (.int i18)] (.int 0))
theorem rm13_14 (l : Launch) (Z : State) (a0 : Array Value) (hw : own_HW Z a0) (a1 : Addr) (p3 p4 : Int32) (p5 p6 : Int32) (k7 : ClassId) (h0 : Heap) (n0 : Nat) (O0 : Old Z n0 h0) (V8 : Arv Z h0 a1 k7 .char 4 [(.int p3), (.int p4), (.int p5), (.int p6)] (.int 0)) (hk9 : ¬ (255 < p3)) (lt_a1 : a1 < h0.size) (hk10 : ¬ (255 < p4)) (hk11 : ¬ (255 < p5)) (hk12 : ¬ (255 < p6)) : own_Met l Z M_9 bc13 6 (some (.array .byte)) ({ frames := 1, cells := 1, slots := 4, locals := 18 } : Room) #[(.ref a1), (.int 0), (.int 4)] h0 (Q13_14 Z a1 p3 p4 p5 p6 k7 h0 n0) := by
 refine own_body (L0 := #[vR a1, vI 0, vI 4, .unset, .unset, .unset]) (plainFor_of_name pn_4) (fun m => by first | (simp [entryFrame, mkF, argsToLocals, Value.category]; done) | rfl) fun p e s m below meth c s₁ EN hx hby hml hown hnm hret X0 hZ e0 hh pre0 fin => ?_
 have N0 := Fr.nil n0
 have hq := And.intro hx hby
 obtain ⟨T2, h2, k2, X2, e2, E2, A2, Ex2, st2⟩ := newPE (aty := .byte) X0 hx hZ (ww6 hw) e0 (g := (mkF m 1 #[vR a1, vI 0, vI 4, .unset, .unset, .unset] [(.int 4)])) rfl (hb hby d13_1) rfl (by decide +kernel) (cap := 4) (by decide +kernel) (by decide) (by decide) (by decide) (ad := "[B") (by decide +kernel)
 obtain ⟨b2, g2⟩ : ∃ z, z = h0.size := ⟨_, rfl⟩
 rw [← g2] at A2 Ex2 st2
 have O2 := O0.ext E2
 have bd_b2 : h0.size ≤ b2 := Nat.le_of_eq g2.symm
 have g_b2 : n0 ≤ b2 := Nat.le_trans (own_z O0) bd_b2
 have sz_b2 : h0.size ≤ b2 := Nat.le_trans (Nat.le_refl _) bd_b2
 have lt_b2 : b2 < h2.size := A2.lt
 have V2 : Arv Z h2 b2 k2 .byte 4 [] (.int 0) := Arv.new A2 (by decide +kernel)
 have f13 := (V8.ext E2)
 obtain ⟨_, T14, L14, X14, hQ14, st14⟩ := own_cS X2 hx hZ hown (ww70 hw) (ww71 hw) (ww68 hw) (ww72 hw) (rm14_15 l Z a0 hw a1 b2 p3 p4 p5 p6 k7 k2 h2 n0 O2 f13 hk9 V2 g_b2 Ex2 (own_n lt_a1 bd_b2) hk10 hk11 hk12) e2 pd_8 hml (hb hby d13_9) (Ls := #[vR a1, vI 0, vI 4, vR b2, .unset, .unset]) (W := 0) (argsL := [(.ref a1), (.int 0), (.ref b2), (.int 0), (.int 4)]) (rest := [])
 obtain ⟨i15, i16, i17, i18, u19, u20, u21, u22, rfl, u24, Ku25, u26, u27⟩ := hQ14
 have N14 := Fr.app N0 u24
 refine fin (some (.ref b2)) _ _ _ _ X14 nofun (fun fs hr => pre0 _ ?_) ?_ (by decide) (by decide)
 ·
  refine o_iloadN X0 hq d13_0 rfl (st2 _ (o_astoreN X2 hq d13_3 rfl rfl (o_aloadN X2 hq d13_4 rfl rfl (o_iloadN X2 hq d13_5 rfl (o_aloadN X2 hq d13_6 rfl rfl (o_iconst X2 hq d13_7 (x := 0) rfl (o_iloadN X2 hq d13_8 rfl (st14 _ (o_istore X14 hq d13_12 rfl (o_iload X14 hq d13_14 rfl (o_iloadN X14 hq d13_16 rfl (o_icmpY X14 hq d13_17 (pc := 17) (pc' := 57) (by decide +kernel) (o_aloadN X14 hq d13_57 rfl rfl ?_)))))))))))))
  show Steps p.tables e below (T14.setTop (mkF m 58 #[vR a1, vI 0, vI 4, vR b2, vI 4, .unset] [(.ref b2)])) _
  jvm_step X14.here [X14.here.top, hx, (hb hby d13_58), X14.method', hret, Value.isRef, FieldType.isReference]
  first | (intro acts; rw [hr _ acts rfl rfl rfl]) | rw [hr _ _ rfl rfl rfl]
  exact Steps.refl _
 ·
  exact ⟨i15, i16, i17, i18, b2, k2, u19, u20, u21, u22, rfl, N14, sz_b2, (own_t lt_b2 Ku25.1), (((Keep.refl h0 []).ext E2).trans Ku25 (allS (Or.inr sz_b2) all0)), u26, u27⟩
def Q15_16 (Z : State) (a1 : Addr) (p2 p3 : Int32) (p4 p5 : Int32) (k6 : ClassId) (h0 : Heap) (n0 : Nat) (v : Option Value) (h : Heap) (L : List Loc) : Prop := (v = some (.int 0) ∧ Fr n0 L ∧ h = h0)
theorem rm15_16 (l : Launch) (Z : State) (a0 : Array Value) (hw : own_HW Z a0) (a1 : Addr) (p2 p3 : Int32) (p4 p5 : Int32) (k6 : ClassId) (h0 : Heap) (n0 : Nat) (O0 : Old Z n0 h0) (V7 : Arv Z h0 a1 k6 .byte 4 [(.int p2), (.int p3), (.int p4), (.int p5)] (.int 0)) : own_Met l Z M_10 bc15 2 (some .byte) ({ frames := 0, cells := 0, slots := 0, locals := 0 } : Room) #[(.ref a1), (.int 4)] h0 (Q15_16 Z a1 p2 p3 p4 p5 k6 h0 n0) := by
 refine own_body (L0 := #[vR a1, vI 4]) (plainFor_of_name pn_4) (fun m => by first | (simp [entryFrame, mkF, argsToLocals, Value.category]; done) | rfl) fun p e s m below meth c s₁ EN hx hby hml hown hnm hret X0 hZ e0 hh pre0 fin => ?_
 have N0 := Fr.nil n0
 have hq := And.intro hx hby
 refine fin (some (.int 0)) _ _ _ _ X0 nofun (fun fs hr => pre0 _ ?_) (own_atH e0 ?_) (by decide) (by decide)
 ·
  refine o_iloadN X0 hq d15_0 rfl (o_aloadN X0 hq d15_1 rfl rfl (o_alen X0 hq d15_2 hZ e0 V7 (o_isub X0 hq d15_3 (z := 0) (by decide +kernel) (o_bipush X0 hq d15_4 (x := 31) rfl (o_iushr X0 hq d15_6 (z := 0) (by decide +kernel) (o_i2b X0 hq d15_7 (z := 0) (by decide +kernel) ?_))))))
  exact retN X0 hx (t := .byte) hret (by simp) (hb hby d15_8) hr
 ·
  exact ⟨rfl, N0, rfl⟩
def Q11_13 (Z : State) (a1 a2 : Addr) (p4 p8 : Int32) (p9 p10 p11 : Int32) (k12 : ClassId) (h0 : Heap) (n0 : Nat) (v : Option Value) (h : Heap) (L : List Loc) : Prop := (∃ (i19 i20 : Int32) (i21 i22 : Int32) (b23 : Addr) (k24 : ClassId), i19 = (p8.toInt8.toInt32) ∧ i20 = (p9.toInt8.toInt32) ∧ i21 = (p10.toInt8.toInt32) ∧ i22 = (p11.toInt8.toInt32) ∧ v = none ∧ Fr n0 L ∧ h0.size ≤ b23 ∧ b23 < h.size ∧ Keep h0 h [a1] ∧ Exa Z h a1 C_2 ∧ Fld Z h a1 C_2 "coder" "B" (.int 0) ∧ Fld Z h a1 C_2 "value" "[B" (.ref b23) ∧ Exa Z h b23 "[B" ∧ Arv Z h b23 k24 .byte 4 [(.int i19), (.int i20), (.int i21), (.int i22)] (.int 0))
theorem rm11_13 (l : Launch) (Z : State) (a0 : Array Value) (hw : own_HW Z a0) (a1 a2 : Addr) (p4 p8 : Int32) (p9 p10 p11 : Int32) (k12 : ClassId) (h0 : Heap) (n0 : Nat) (O0 : Old Z n0 h0) (S_5 : Sta Z Z.heap C_2 "COMPACT_STRINGS" "Z" (.int p4)) (hk7 : ¬ (p4 = 0)) (V13 : Arv Z h0 a2 k12 .char 4 [(.int p8), (.int p9), (.int p10), (.int p11)] (.int 0)) (hk14 : ¬ (255 < p8)) (hk15 : ¬ (255 < p9)) (hk16 : ¬ (255 < p10)) (hk17 : ¬ (255 < p11)) (lt_a2 : a2 < h0.size) (E_40 : Exa Z h0 a1 C_2) (F41 : Fld Z h0 a1 C_2 "coder" "B" (.int 0)) (F42 : Fld Z h0 a1 C_2 "value" "[B" .null) (g_a1 : n0 ≤ a1) (lt_a1 : a1 < h0.size) : own_Met l Z M_11 bc11 6 none ({ frames := 2, cells := 1, slots := 4, locals := 35 } : Room) #[(.ref a1), (.ref a2), (.int 0), (.int 4), .null] h0 (Q11_13 Z a1 a2 p4 p8 p9 p10 p11 k12 h0 n0) := by
 refine own_body (L0 := #[vR a1, vR a2, vI 0, vI 4, vN, .unset]) (plainFor_of_name pn_0) (fun m => by first | (simp [entryFrame, mkF, argsToLocals, Value.category]; done) | rfl) fun p e s m below meth c s₁ EN hx hby hml hown hnm hret X0 hZ e0 hh pre0 fin => ?_
 have N0 := Fr.nil n0
 have hq := And.intro hx hby
 obtain ⟨T3, X3, e3, st3⟩ := initO X0 hx hZ hown (ww63 hw) (ww64 hw) (ww65 hw) e0 (g := (mkF m 1 #[vR a1, vR a2, vI 0, vI 4, vN, .unset] [(.ref a1)])) rfl (by rw [hml]; rfl) rfl (hb hby d11_1) (by decide) (W := 0) (by show 2 * 0 + _ ≤ _; exact Nat.le_of_eq rfl) (by decide)
 obtain ⟨T6, X6, e6, st6⟩ := getS2 X3 hx hZ hown (host := "") (Or.inl (ww22 hw)) Via.refl e3 (Sta.ext O0.2 S_5) (g := (mkF m 27 #[vR a1, vR a2, vI 0, vI 4, vN, .unset] [])) rfl (hb hby d11_27)
 obtain ⟨_, T18, L18, X18, hQ18, st18⟩ := own_cS X6 hx hZ hown (ww66 hw) (ww67 hw) (ww68 hw) (ww69 hw) (rm13_14 l Z a0 hw a2 p8 p9 p10 p11 k12 h0 n0 O0 V13 hk14 lt_a2 hk15 hk16 hk17) e6 pd_9 hml (hb hby d11_36) (Ls := #[vR a1, vR a2, vI 0, vI 4, vN, .unset]) (W := 0) (argsL := [(.ref a2), (.int 0), (.int 4)]) (rest := [])
 obtain ⟨i19, i20, i21, i22, b23, k24, u25, u26, u27, u28, rfl, u30, u31, u32, Ku33, u34, u35⟩ := hQ18
 have Ou33 := O0.keep Ku33 all0
 have sz_b23 : h0.size ≤ b23 := Nat.le_trans (Nat.le_refl _) u31
 have N18 := Fr.app N0 u30
 obtain ⟨_, T36, L36, X36, hQ36, st36⟩ := own_cS X18 hx hZ hown (ww73 hw) (ww74 hw) (ww68 hw) (ww75 hw) (rm15_16 l Z a0 hw b23 i19 i20 i21 i22 k24 T18.heap n0 Ou33 u35) rfl pd_10 hml (hb hby d11_45) (Ls := #[vR a1, vR a2, vI 0, vI 4, vN, vR b23]) (W := 1) (argsL := [(.ref b23), (.int 4)]) (rest := [(.ref a1)])
 obtain ⟨rfl, u38, u39⟩ := hQ36
 have N36 := Fr.app N18 u38
 have f43 := (F41.keep Ku33 nin0)
 have f44 := (E_40.keep Ku33)
 obtain ⟨T45, h45, X45, e45, W45, st45⟩ := putFN X36 hx hZ hown (ww23 hw) Via.refl u39 f43 f44 (Or.inr ⟨(ww8 hw), rfl, hnm⟩) (ww5 hw) (ty := .byte) (v' := (.int 0)) (by decide) (by exact congrArg Value.int (by decide +kernel : (nar .byte (0 : Int32)) = (0 : Int32))) ((by decide +kernel : (nar .byte (0 : Int32)) = (0 : Int32)) ▸ fits_nar_byte _) (g := (mkF m 48 #[vR a1, vR a2, vI 0, vI 4, vN, vR b23] [(.int 0), (.ref a1)])) rfl rfl (hb hby d11_48)
 have Fw45 : Fld Z h45 a1 C_2 "coder" "B" (.int 0) := Fld.same W45 f43
 have N45 := Fr.snoc X45 N36 g_a1
 have f46 := (Fld.other W45 (F42.keep Ku33 nin0) (Or.inr (own_sl0 hw)))
 have f47 := (Exa.wr W45 f44)
 obtain ⟨T48, h48, X48, e48, W48, st48⟩ := putF X45 hx hZ hown (host := "") (Or.inl (ww16 hw)) Via.refl e45 f46 f47 (Or.inr ⟨(ww7 hw), rfl, hnm⟩) (ww5 hw) (ty := (.array .byte)) (by decide) rfl rfl (g := (mkF m 54 #[vR a1, vR a2, vI 0, vI 4, vN, vR b23] [(.ref b23), (.ref a1)])) rfl rfl (hb hby d11_54)
 have Fw48 : Fld Z h48 a1 C_2 "value" "[B" (.ref b23) := Fld.same W48 f46
 have N48 := Fr.snoc X48 N45 g_a1
 have f49 := (Exa.wr W48 f47)
 have f50 := (Fld.other W48 Fw45 (Or.inr (own_sl1 hw)))
 have f51 := (Exa.wr W48 (Exa.wr W45 u34))
 have f52 := ((u35.other W45 (Ne.symm (own_n lt_a1 u31))).other W48 (Ne.symm (own_n lt_a1 u31)))
 refine fin none _ _ _ _ X48 (fun _ => rfl) (fun fs hr => pre0 _ ?_) (own_atH e48 ?_) (by decide) (by decide)
 ·
  refine o_aloadN X0 hq d11_0 rfl rfl (st3 _ (o_iloadN X3 hq d11_4 rfl (o_ifY X3 hq d11_5 (pc := 5) (pc' := 27) (by decide +kernel) (st6 _ (o_ifN X6 hq d11_30 ((if0 _ _).trans (feq hk7).1) (o_aloadN X6 hq d11_33 rfl rfl (o_iloadN X6 hq d11_34 rfl (o_iloadN X6 hq d11_35 rfl (st18 _ (o_astore X18 hq d11_39 rfl rfl (o_aloadN X18 hq d11_41 rfl rfl (o_aload X18 hq d11_42 rfl rfl (o_iloadN X18 hq d11_44 rfl (st36 _ (st45 _ (o_aloadN X45 hq d11_51 rfl rfl (o_aload X45 hq d11_52 rfl rfl (st48 _ ?_))))))))))))))))))
  exact X48.returnOut hx hret (hb hby d11_57) hr
 ·
  exact ⟨i19, i20, i21, i22, b23, k24, u25, u26, u27, u28, rfl, N48, sz_b23, (own_t (own_t u32 (Keep.of_wr W45).1) (Keep.of_wr W48).1), ((((Keep.refl h0 [a1]).trans Ku33 all0).wr W45 (Or.inl (List.mem_of_getElem? (i := 0) rfl))).wr W48 (Or.inl (List.mem_of_getElem? (i := 0) rfl))), f49, f50, Fw48, f51, f52⟩
def Q10_12 (Z : State) (a1 a2 : Addr) (p3 p4 : Int32) (p5 p6 : Int32) (k7 : ClassId) (p9 : Int32) (h0 : Heap) (n0 : Nat) (v : Option Value) (h : Heap) (L : List Loc) : Prop := (∃ (i20 i21 : Int32) (i22 i23 : Int32) (b24 : Addr) (k25 : ClassId), i20 = (p3.toInt8.toInt32) ∧ i21 = (p4.toInt8.toInt32) ∧ i22 = (p5.toInt8.toInt32) ∧ i23 = (p6.toInt8.toInt32) ∧ v = none ∧ Fr n0 L ∧ h0.size ≤ b24 ∧ b24 < h.size ∧ Keep h0 h [a1] ∧ Exa Z h a1 C_2 ∧ Fld Z h a1 C_2 "coder" "B" (.int 0) ∧ Fld Z h a1 C_2 "value" "[B" (.ref b24) ∧ Exa Z h b24 "[B" ∧ Arv Z h b24 k25 .byte 4 [(.int i20), (.int i21), (.int i22), (.int i23)] (.int 0))
theorem rm10_12 (l : Launch) (Z : State) (a0 : Array Value) (hw : own_HW Z a0) (a1 a2 : Addr) (p3 p4 : Int32) (p5 p6 : Int32) (k7 : ClassId) (p9 : Int32) (h0 : Heap) (n0 : Nat) (O0 : Old Z n0 h0) (V8 : Arv Z h0 a2 k7 .char 4 [(.int p3), (.int p4), (.int p5), (.int p6)] (.int 0)) (S_10 : Sta Z Z.heap C_2 "COMPACT_STRINGS" "Z" (.int p9)) (hk11 : ¬ (p9 = 0)) (hk12 : ¬ (255 < p3)) (hk13 : ¬ (255 < p4)) (hk14 : ¬ (255 < p5)) (hk15 : ¬ (255 < p6)) (E_16 : Exa Z h0 a1 C_2) (F17 : Fld Z h0 a1 C_2 "coder" "B" (.int 0)) (F18 : Fld Z h0 a1 C_2 "value" "[B" .null) (lt_a2 : a2 < h0.size) (g_a1 : n0 ≤ a1) (lt_a1 : a1 < h0.size) : own_Met l Z M_12 bc10 2 none ({ frames := 3, cells := 1, slots := 4, locals := 52 } : Room) #[(.ref a1), (.ref a2)] h0 (Q10_12 Z a1 a2 p3 p4 p5 p6 k7 p9 h0 n0) := by
 refine own_body (L0 := #[vR a1, vR a2]) (plainFor_of_name pn_0) (fun m => by first | (simp [entryFrame, mkF, argsToLocals, Value.category]; done) | rfl) fun p e s m below meth c s₁ EN hx hby hml hown hnm hret X0 hZ e0 hh pre0 fin => ?_
 have N0 := Fr.nil n0
 have hq := And.intro hx hby
 obtain ⟨_, T19, L19, X19, hQ19, st19⟩ := own_cI X0 hx hZ hown (ww59 hw) (ww60 hw) (ww4 hw) (ww62 hw) (rm11_13 l Z a0 hw a1 a2 p9 p3 p4 p5 p6 k7 h0 n0 O0 S_10 hk11 V8 hk12 hk13 hk14 hk15 lt_a2 E_16 F17 F18 g_a1 lt_a1) e0 pd_11 hml (hb hby d10_6) (Ls := #[vR a1, vR a2]) (W := 0) (argsL := [(.ref a2), (.int 0), (.int 4), .null]) (rest := []) (b := a1)
 obtain ⟨i20, i21, i22, i23, b24, k25, u26, u27, u28, u29, rfl, u31, u32, u33, Ku34, u35, u36, u37, u38, u39⟩ := hQ19
 have sz_b24 : h0.size ≤ b24 := Nat.le_trans (Nat.le_refl _) u32
 have N19 := Fr.app N0 u31
 refine fin none _ _ _ _ X19 (fun _ => rfl) (fun fs hr => pre0 _ ?_) ?_ (by decide) (by decide)
 ·
  refine o_aloadN X0 hq d10_0 rfl rfl (o_aloadN X0 hq d10_1 rfl rfl (o_iconst X0 hq d10_2 (x := 0) rfl (o_aloadN X0 hq d10_3 rfl rfl (o_alen X0 hq d10_4 hZ e0 V8 (o_null X0 hq d10_5 (st19 _ ?_))))))
  exact X19.returnOut hx hret (hb hby d10_9) hr
 ·
  exact ⟨i20, i21, i22, i23, b24, k25, u26, u27, u28, u29, rfl, N19, sz_b24, u33, ((Keep.refl h0 [a1]).trans Ku34 (allS (Or.inl (List.mem_of_getElem? (i := 0) rfl)) all0)), u35, u36, u37, u38, u39⟩
def Q9_11 (Z : State) (a1 : Addr) (p4 p5 : Int32) (p6 p7 : Int32) (p8 p9 : Int32) (p10 p11 : Int32) (k12 : ClassId) (p34 : Int32) (h0 : Heap) (n0 : Nat) (v : Option Value) (h : Heap) (L : List Loc) : Prop := (∃ (i43 i44 : Int32) (i45 i46 : Int32) (b2 b47 : Addr) (k48 : ClassId), i43 = (p4.toInt8.toInt32) ∧ i44 = (p5.toInt8.toInt32) ∧ i45 = (p6.toInt8.toInt32) ∧ i46 = (p7.toInt8.toInt32) ∧ v = some (.ref b2) ∧ Fr n0 L ∧ h0.size ≤ b2 ∧ b2 < h.size ∧ h0.size ≤ b47 ∧ b47 < h.size ∧ b2 ≠ b47 ∧ Keep h0 h [] ∧ Exa Z h b2 C_2 ∧ Fld Z h b2 C_2 "coder" "B" (.int 0) ∧ Fld Z h b2 C_2 "value" "[B" (.ref b47) ∧ Exa Z h b47 "[B" ∧ Arv Z h b47 k48 .byte 4 [(.int i43), (.int i44), (.int i45), (.int i46)] (.int 0))
theorem rm9_11 (l : Launch) (Z : State) (a0 : Array Value) (hw : own_HW Z a0) (a1 : Addr) (p4 p5 : Int32) (p6 p7 : Int32) (p8 p9 : Int32) (p10 p11 : Int32) (k12 : ClassId) (p34 : Int32) (h0 : Heap) (n0 : Nat) (O0 : Old Z n0 h0) (V13 : Arv Z h0 a1 k12 .char 8 [(.int p4), (.int p5), (.int p6), (.int p7), (.int p8), (.int p9), (.int p10), (.int p11)] (.int 0)) (hk16 : ¬ (255 < p4)) (hk17 : ¬ (p4 < 0)) (lt_a1 : a1 < h0.size) (hk21 : ¬ (255 < p5)) (hk22 : ¬ (p5 < 0)) (hk26 : ¬ (255 < p6)) (hk27 : ¬ (p6 < 0)) (hk31 : ¬ (255 < p7)) (hk32 : ¬ (p7 < 0)) (S_35 : Sta Z Z.heap C_2 "COMPACT_STRINGS" "Z" (.int p34)) (hk36 : ¬ (p34 = 0)) : own_Met l Z M_13 bc9 2 (some (.object "java/lang/String")) ({ frames := 4, cells := 3, slots := 12, locals := 66 } : Room) #[(.ref a1), (.int 4)] h0 (Q9_11 Z a1 p4 p5 p6 p7 p8 p9 p10 p11 k12 p34 h0 n0) := by
 refine own_body (L0 := #[vR a1, vI 4]) (plainFor_of_name pn_3) (fun m => by first | (simp [entryFrame, mkF, argsToLocals, Value.category]; done) | rfl) fun p e s m below meth c s₁ EN hx hby hml hown hnm hret X0 hZ e0 hh pre0 fin => ?_
 have N0 := Fr.nil n0
 have hq := And.intro hx hby
 obtain ⟨T2, h2, X2, e2, E2, A2, D2, -, st2⟩ := newO X0 hx hZ hown (ww55 hw) (ww5 hw) (ww4 hw) e0 (g := (mkF m 104 #[vR a1, vI 4] [])) rfl (hb hby d9_104) (by decide) (by decide)
 obtain ⟨b2, g2⟩ : ∃ z, z = h0.size := ⟨_, rfl⟩
 rw [← g2] at A2 D2 st2
 have O2 := O0.ext E2
 have bd_b2 : h0.size ≤ b2 := Nat.le_of_eq g2.symm
 have g_b2 : n0 ≤ b2 := Nat.le_trans (own_z O0) bd_b2
 have sz_b2 : h0.size ≤ b2 := Nat.le_trans (Nat.le_refl _) bd_b2
 have lt_b2 : b2 < h2.size := A2.lt
 have D2_7 : Fld Z h2 b2 C_2 "value" "[B" .null := D2 (Or.inr (ww7 hw)) (ty := (.array .byte)) (by decide)
 have D2_8 : Fld Z h2 b2 C_2 "coder" "B" (.int 0) := D2 (Or.inr (ww8 hw)) (ty := .byte) (by decide)
 obtain ⟨T3, h3, k3, X3, e3, E3, A3, Ex3, st3⟩ := newPE (aty := .char) X2 hx hZ (ww24 hw) e2 (g := (mkF m 109 #[vR a1, vI 4] [(.int 4), (.ref b2), (.ref b2)])) rfl (hb hby d9_109) rfl (by decide +kernel) (cap := 4) (by decide +kernel) (by decide) (by decide) (by decide) (ad := "[C") (by decide +kernel)
 obtain ⟨b3, g3⟩ : ∃ z, z = h2.size := ⟨_, rfl⟩
 rw [← g3] at A3 Ex3 st3
 have O3 := O2.ext E3
 have bd_b3 : h2.size ≤ b3 := Nat.le_of_eq g3.symm
 have g_b3 : n0 ≤ b3 := Nat.le_trans (own_z O2) bd_b3
 have sz_b3 : h0.size ≤ b3 := Nat.le_trans E2.1 bd_b3
 have lt_b3 : b3 < h3.size := A3.lt
 have V3 : Arv Z h3 b3 k3 .char 4 [] (.int 0) := Arv.new A3 (by decide +kernel)
 have f14 := ((V13.ext E2).ext E3)
 obtain ⟨T18, h18, X18, e18, W18, V18, st18⟩ := own_stC X3 hx hZ e3 V3 1 0 p4 p4 0 (own_ncR hk16 hk17) (hb hby d9_116) #[vR a1, vI 4] [(.ref b3), (.ref b2), (.ref b2)] (vs2 := [(.int p4)])
 have O18 := O3.wr W18 g_b3
 have N18 := Fr.snoc X18 N0 g_b3
 have f19 := (f14.other W18 (own_n (own_t lt_a1 E2.1) bd_b3))
 obtain ⟨T23, h23, X23, e23, W23, V23, st23⟩ := own_stC X18 hx hZ e18 V18 1 1 p5 p5 1 (own_ncR hk21 hk22) (hb hby d9_122) #[vR a1, vI 4] [(.ref b3), (.ref b2), (.ref b2)] (vs2 := [(.int p4), (.int p5)])
 have O23 := O18.wr W23 g_b3
 have N23 := Fr.snoc X23 N18 g_b3
 have f24 := (f19.other W23 (own_n (own_t lt_a1 E2.1) bd_b3))
 obtain ⟨T28, h28, X28, e28, W28, V28, st28⟩ := own_stC X23 hx hZ e23 V23 1 2 p6 p6 2 (own_ncR hk26 hk27) (hb hby d9_128) #[vR a1, vI 4] [(.ref b3), (.ref b2), (.ref b2)] (vs2 := [(.int p4), (.int p5), (.int p6)])
 have O28 := O23.wr W28 g_b3
 have N28 := Fr.snoc X28 N23 g_b3
 have f29 := (f24.other W28 (own_n (own_t lt_a1 E2.1) bd_b3))
 obtain ⟨T33, h33, X33, e33, W33, V33, st33⟩ := own_stC X28 hx hZ e28 V28 1 3 p7 p7 3 (own_ncR hk31 hk32) (hb hby d9_134) #[vR a1, vI 4] [(.ref b3), (.ref b2), (.ref b2)] (vs2 := [(.int p4), (.int p5), (.int p6), (.int p7)])
 have O33 := O28.wr W33 g_b3
 have N33 := Fr.snoc X33 N28 g_b3
 have lt37 : b3 < h33.size := (own_t (own_t (own_t (own_t lt_b3 (Keep.of_wr W18).1) (Keep.of_wr W23).1) (Keep.of_wr W28).1) (Keep.of_wr W33).1)
 have lt38 : b2 < h33.size := (own_t (own_t (own_t (own_t (own_t lt_b2 E3.1) (Keep.of_wr W18).1) (Keep.of_wr W23).1) (Keep.of_wr W28).1) (Keep.of_wr W33).1)
 have f39 := (Exa.wr W33 (Exa.wr W28 (Exa.wr W23 (Exa.wr W18 (Exa.ext E3 A2)))))
 have f40 := (Fld.other W33 (Fld.other W28 (Fld.other W23 (Fld.other W18 (Fld.ext E3 D2_8) (Or.inl (own_n lt_b2 bd_b3))) (Or.inl (own_n lt_b2 bd_b3))) (Or.inl (own_n lt_b2 bd_b3))) (Or.inl (own_n lt_b2 bd_b3)))
 have f41 := (Fld.other W33 (Fld.other W28 (Fld.other W23 (Fld.other W18 (Fld.ext E3 D2_7) (Or.inl (own_n lt_b2 bd_b3))) (Or.inl (own_n lt_b2 bd_b3))) (Or.inl (own_n lt_b2 bd_b3))) (Or.inl (own_n lt_b2 bd_b3)))
 obtain ⟨_, T42, L42, X42, hQ42, st42⟩ := own_cI X33 hx hZ hown (ww56 hw) (ww57 hw) (ww4 hw) (ww58 hw) (rm10_12 l Z a0 hw b2 b3 p4 p5 p6 p7 k3 p34 h33 n0 O33 V33 S_35 hk36 hk16 hk21 hk26 hk31 f39 f40 f41 lt37 g_b2 lt38) e33 pd_12 hml (hb hby d9_135) (Ls := #[vR a1, vI 4]) (W := 1) (argsL := [(.ref b3)]) (rest := [(.ref b2)]) (b := b2)
 obtain ⟨i43, i44, i45, i46, b47, k48, u49, u50, u51, u52, rfl, u54, u55, u56, Ku57, u58, u59, u60, u61, u62⟩ := hQ42
 have sz_b47 : h0.size ≤ b47 := Nat.le_trans (Nat.le_trans (Nat.le_trans (Nat.le_trans (Nat.le_trans (Nat.le_trans E2.1 E3.1) (Keep.of_wr W18).1) (Keep.of_wr W23).1) (Keep.of_wr W28).1) (Keep.of_wr W33).1) u55
 have N42 := Fr.app N33 u54
 refine fin (some (.ref b2)) _ _ _ _ X42 nofun (fun fs hr => pre0 _ ?_) ?_ (by decide) (by decide)
 ·
  refine o_iloadN X0 hq d9_0 rfl (o_ifY X0 hq d9_1 (pc := 1) (pc' := 15) (by decide +kernel) (o_iloadN X0 hq d9_15 rfl (o_iconst X0 hq d9_16 (x := 1) rfl (o_icmpY X0 hq d9_17 (pc := 17) (pc' := 37) (by decide +kernel) (o_iloadN X0 hq d9_37 rfl (o_iconst X0 hq d9_38 (x := 2) rfl (o_icmpY X0 hq d9_39 (pc := 39) (pc' := 65) (by decide +kernel) (o_iloadN X0 hq d9_65 rfl (o_iconst X0 hq d9_66 (x := 3) rfl (o_icmpY X0 hq d9_67 (pc := 67) (pc' := 99) (by decide +kernel) (o_iloadN X0 hq d9_99 rfl (o_iconst X0 hq d9_100 (x := 4) rfl (o_icmpN X0 hq d9_101 (by decide +kernel) (st2 _ (o_dup X2 hq d9_107 rfl (o_iconst X2 hq d9_108 (x := 4) rfl (st3 _ (o_dup X3 hq d9_111 rfl (o_iconst X3 hq d9_112 (x := 0) rfl (o_aloadN X3 hq d9_113 rfl rfl (o_iconst X3 hq d9_114 (x := 0) rfl (o_caload X3 hq d9_115 hZ e3 f14 (i := 0) (v := .int p4) (by decide +kernel) rfl (st18 _ (o_dup X18 hq d9_117 rfl (o_iconst X18 hq d9_118 (x := 1) rfl (o_aloadN X18 hq d9_119 rfl rfl (o_iconst X18 hq d9_120 (x := 1) rfl (o_caload X18 hq d9_121 hZ e18 f19 (i := 1) (v := .int p5) (by decide +kernel) rfl (st23 _ (o_dup X23 hq d9_123 rfl (o_iconst X23 hq d9_124 (x := 2) rfl (o_aloadN X23 hq d9_125 rfl rfl (o_iconst X23 hq d9_126 (x := 2) rfl (o_caload X23 hq d9_127 hZ e23 f24 (i := 2) (v := .int p6) (by decide +kernel) rfl (st28 _ (o_dup X28 hq d9_129 rfl (o_iconst X28 hq d9_130 (x := 3) rfl (o_aloadN X28 hq d9_131 rfl rfl (o_iconst X28 hq d9_132 (x := 3) rfl ?_)))))))))))))))))))))))))))))))))))))))
  refine o_caload X28 hq d9_133 hZ e28 f29 (i := 3) (v := .int p7) (by decide +kernel) rfl (st33 _ (st42 _ ?_))
  show Steps p.tables e below (T42.setTop (mkF m 138 #[vR a1, vI 4] [(.ref b2)])) _
  jvm_step X42.here [X42.here.top, hx, (hb hby d9_138), X42.method', hret, Value.isRef, FieldType.isReference]
  first | (intro acts; rw [hr _ acts rfl rfl rfl]) | rw [hr _ _ rfl rfl rfl]
  exact Steps.refl _
 ·
  exact ⟨i43, i44, i45, i46, b2, b47, k48, u49, u50, u51, u52, rfl, N42, sz_b2, (own_t lt38 Ku57.1), sz_b47, u56, (own_n lt38 u55), ((((((((Keep.refl h0 []).ext E2).ext E3).wr W18 (Or.inr sz_b3)).wr W23 (Or.inr sz_b3)).wr W28 (Or.inr sz_b3)).wr W33 (Or.inr sz_b3)).trans Ku57 (allS (Or.inr sz_b2) all0)), u58, u59, u60, u61, u62⟩
def Q17_18 (Z : State) (a1 a4 : Addr) (a5 a6 a7 : Addr) (k8 : ClassId) (h0 : Heap) (n0 : Nat) (v : Option Value) (h : Heap) (L : List Loc) : Prop := (∃ (b11 : Addr), v = some (.ref b11) ∧ Fr n0 L ∧ h0.size ≤ b11 ∧ b11 < h.size ∧ Keep h0 h [] ∧ Exa Z h b11 C_6 ∧ Arv Z h b11 k8 (.object "com/example/stern_warden/sternwarden/model/AccessMode") (4 : Int32) [(.ref a4), (.ref a5), (.ref a6), (.ref a7)] .null)
theorem rm17_18 (l : Launch) (Z : State) (a0 : Array Value) (hw : own_HW Z a0) (a1 a4 : Addr) (a5 a6 a7 : Addr) (k8 : ClassId) (h0 : Heap) (n0 : Nat) (O0 : Old Z n0 h0) (S_2 : Sta Z Z.heap C_0 "$VALUES" C_6 (.ref a1)) (V9 : Arv Z Z.heap a1 k8 (.object "com/example/stern_warden/sternwarden/model/AccessMode") (4 : Int32) [(.ref a4), (.ref a5), (.ref a6), (.ref a7)] .null) (E_10 : Exa Z Z.heap a1 C_6) : own_Met l Z M_14 bc17 0 (some (.array (.object "com/example/stern_warden/sternwarden/model/AccessMode"))) ({ frames := 1, cells := 1, slots := 4, locals := 14 } : Room) #[] h0 (Q17_18 Z a1 a4 a5 a6 a7 k8 h0 n0) := by
 refine own_body (L0 := #[]) (plainFor_of_name pn_5) (fun m => by first | (simp [entryFrame, mkF, argsToLocals, Value.category]; done) | rfl) fun p e s m below meth c s₁ EN hx hby hml hown hnm hret X0 hZ e0 hh pre0 fin => ?_
 have N0 := Fr.nil n0
 have hq := And.intro hx hby
 obtain ⟨T3, X3, e3, st3⟩ := getS2 X0 hx hZ hown (host := "") (Or.inl (ww82 hw)) Via.refl e0 (Sta.ext O0.2 S_2) (g := (mkF m 0 #[] [])) rfl (hb hby d17_0)
 obtain ⟨T11, h11, X11, e11, E11, A11, Ex11, st11⟩ := cloneH X3 hx hZ hown (ww84 hw) (ww85 hw) (ww89 hw) (ww87 hw) (ww88 hw) (ww90 hw) e3 (Arv.arh (V9.ext O0.2)) (Exa.ext O0.2 E_10) (g := (mkF m 3 #[] [(.ref a1)])) rfl (by rw [hml]; rfl) rfl (hb hby d17_3) (by decide) (W := 0) (cap := 4) (by show 2 * 0 + _ ≤ _; exact Nat.le_of_eq rfl) (by decide) (by decide +kernel) (by decide) (by decide)
 obtain ⟨b11, g11⟩ : ∃ z, z = h0.size := ⟨_, rfl⟩
 rw [← g11] at A11 Ex11 st11
 have bd_b11 : h0.size ≤ b11 := Nat.le_of_eq g11.symm
 have sz_b11 : h0.size ≤ b11 := Nat.le_trans (Nat.le_refl _) bd_b11
 have lt_b11 : b11 < h11.size := A11.lt
 have V11 : Arv Z h11 b11 k8 (.object "com/example/stern_warden/sternwarden/model/AccessMode") (4 : Int32) [(.ref a4), (.ref a5), (.ref a6), (.ref a7)] .null := A11
 obtain ⟨T12, X12, e12, st12⟩ := castY X11 hx hZ hown (ww95 hw) e11 (Ins.self Ex11) (g := (mkF m 6 #[] [(.ref b11)])) rfl rfl (hb hby d17_6)
 refine fin (some (.ref b11)) _ _ _ _ X12 nofun (fun fs hr => pre0 _ ?_) (own_atH e12 ?_) (by decide) (by decide)
 ·
  refine st3 _ (st11 _ (st12 _ ?_))
  show Steps p.tables e below (T12.setTop (mkF m 9 #[] [(.ref b11)])) _
  jvm_step X12.here [X12.here.top, hx, (hb hby d17_9), X12.method', hret, Value.isRef, FieldType.isReference]
  first | (intro acts; rw [hr _ acts rfl rfl rfl]) | rw [hr _ _ rfl rfl rfl]
  exact Steps.refl _
 ·
  exact ⟨b11, rfl, N0, sz_b11, lt_b11, ((Keep.refl h0 []).ext E11), Ex11, V11⟩
def Q19_20 (Z : State) (a1 a2 : Addr) (k3 : ClassId) (p5 p6 : Int32) (p7 p8 : Int32) (k9 : ClassId) (h0 : Heap) (n0 : Nat) (v : Option Value) (h : Heap) (L : List Loc) : Prop := (82 = p5 ∧ 101 = p6 ∧ 97 = p7 ∧ 100 = p8 ∧ v = some (.int 1) ∧ Fr n0 L ∧ h = h0) ∨ (¬ (82 = p5 ∧ 101 = p6 ∧ 97 = p7 ∧ 100 = p8) ∧ v = some (.int 0) ∧ Fr n0 L ∧ h = h0)
theorem rm19_20 (l : Launch) (Z : State) (a0 : Array Value) (hw : own_HW Z a0) (a1 a2 : Addr) (k3 : ClassId) (p5 p6 : Int32) (p7 p8 : Int32) (k9 : ClassId) (h0 : Heap) (n0 : Nat) (O0 : Old Z n0 h0) (V4 : Arv Z Z.heap a1 k3 .byte 4 [(.int 82), (.int 101), (.int 97), (.int 100)] (.int 0)) (V10 : Arv Z h0 a2 k9 .byte 4 [(.int p5), (.int p6), (.int p7), (.int p8)] (.int 0)) : own_Met l Z M_15 bc19 3 (some .boolean) ({ frames := 0, cells := 0, slots := 0, locals := 0 } : Room) #[(.ref a1), (.ref a2)] h0 (Q19_20 Z a1 a2 k3 p5 p6 p7 p8 k9 h0 n0) := by
 refine own_body (L0 := #[vR a1, vR a2, .unset]) (plainFor_of_name pn_2) (fun m => by first | (simp [entryFrame, mkF, argsToLocals, Value.category]; done) | rfl) fun p e s m below meth c s₁ EN hx hby hml hown hnm hret X0 hZ e0 hh pre0 fin => ?_
 have N0 := Fr.nil n0
 have hq := And.intro hx hby
 have pre13 : oS p e below EN s₁ (mkF m 21 #[vR a1, vR a2, vI 0] [(.int p5), (.int 82)]) := fun t kt => pre0 t (o_aloadN X0 hq d19_0 rfl rfl (o_alen X0 hq d19_1 hZ e0 (V4.ext O0.2) (o_aloadN X0 hq d19_2 rfl rfl (o_alen X0 hq d19_3 hZ e0 V10 (o_icmpN X0 hq d19_4 (by decide +kernel) (o_iconst X0 hq d19_7 (x := 0) rfl (o_istoreN X0 hq d19_8 rfl (o_iloadN X0 hq d19_9 rfl (o_aloadN X0 hq d19_10 rfl rfl (o_alen X0 hq d19_11 hZ e0 (V4.ext O0.2) (o_icmpN X0 hq d19_12 (by decide +kernel) (o_aloadN X0 hq d19_15 rfl rfl (o_iloadN X0 hq d19_16 rfl (o_baload X0 hq d19_17 hZ e0 (V4.ext O0.2) (i := 0) (v := .int 82) (by decide +kernel) rfl (o_aloadN X0 hq d19_18 rfl rfl (o_iloadN X0 hq d19_19 rfl (o_baload X0 hq d19_20 hZ e0 V10 (i := 0) (v := .int p5) (by decide +kernel) rfl kt)))))))))))))))))
 by_cases hc14 : 82 = p5
 ·
  have pre17 : oS p e below EN s₁ (mkF m 21 #[vR a1, vR a2, vI 1] [(.int p6), (.int 101)]) := fun t kt => pre13 t (o_icmpY X0 hq d19_21 (pc := 21) (pc' := 26) (teq hc14).1 (o_iinc X0 hq d19_26 rfl (z := 1) (k' := 1) rfl (by decide +kernel) rfl (o_goto X0 hq d19_29 (pc := 29) (pc' := 9) (o_iloadN X0 hq d19_9 rfl (o_aloadN X0 hq d19_10 rfl rfl (o_alen X0 hq d19_11 hZ e0 (V4.ext O0.2) (o_icmpN X0 hq d19_12 (by decide +kernel) (o_aloadN X0 hq d19_15 rfl rfl (o_iloadN X0 hq d19_16 rfl (o_baload X0 hq d19_17 hZ e0 (V4.ext O0.2) (i := 1) (v := .int 101) (by decide +kernel) rfl (o_aloadN X0 hq d19_18 rfl rfl (o_iloadN X0 hq d19_19 rfl (o_baload X0 hq d19_20 hZ e0 V10 (i := 1) (v := .int p6) (by decide +kernel) rfl kt)))))))))))))
  by_cases hc18 : 101 = p6
  ·
   have pre21 : oS p e below EN s₁ (mkF m 21 #[vR a1, vR a2, vI 2] [(.int p7), (.int 97)]) := fun t kt => pre17 t (o_icmpY X0 hq d19_21 (pc := 21) (pc' := 26) (teq hc18).1 (o_iinc X0 hq d19_26 rfl (z := 2) (k' := 1) rfl (by decide +kernel) rfl (o_goto X0 hq d19_29 (pc := 29) (pc' := 9) (o_iloadN X0 hq d19_9 rfl (o_aloadN X0 hq d19_10 rfl rfl (o_alen X0 hq d19_11 hZ e0 (V4.ext O0.2) (o_icmpN X0 hq d19_12 (by decide +kernel) (o_aloadN X0 hq d19_15 rfl rfl (o_iloadN X0 hq d19_16 rfl (o_baload X0 hq d19_17 hZ e0 (V4.ext O0.2) (i := 2) (v := .int 97) (by decide +kernel) rfl (o_aloadN X0 hq d19_18 rfl rfl (o_iloadN X0 hq d19_19 rfl (o_baload X0 hq d19_20 hZ e0 V10 (i := 2) (v := .int p7) (by decide +kernel) rfl kt)))))))))))))
   by_cases hc22 : 97 = p7
   ·
    have pre25 : oS p e below EN s₁ (mkF m 21 #[vR a1, vR a2, vI 3] [(.int p8), (.int 100)]) := fun t kt => pre21 t (o_icmpY X0 hq d19_21 (pc := 21) (pc' := 26) (teq hc22).1 (o_iinc X0 hq d19_26 rfl (z := 3) (k' := 1) rfl (by decide +kernel) rfl (o_goto X0 hq d19_29 (pc := 29) (pc' := 9) (o_iloadN X0 hq d19_9 rfl (o_aloadN X0 hq d19_10 rfl rfl (o_alen X0 hq d19_11 hZ e0 (V4.ext O0.2) (o_icmpN X0 hq d19_12 (by decide +kernel) (o_aloadN X0 hq d19_15 rfl rfl (o_iloadN X0 hq d19_16 rfl (o_baload X0 hq d19_17 hZ e0 (V4.ext O0.2) (i := 3) (v := .int 100) (by decide +kernel) rfl (o_aloadN X0 hq d19_18 rfl rfl (o_iloadN X0 hq d19_19 rfl (o_baload X0 hq d19_20 hZ e0 V10 (i := 3) (v := .int p8) (by decide +kernel) rfl kt)))))))))))))
    by_cases hc26 : 100 = p8
    ·
     refine fin (some (.int 1)) _ _ _ _ X0 nofun (fun fs hr => pre25 _ ?_) (own_atH e0 ?_) (by decide) (by decide)
     ·
      refine o_icmpY X0 hq d19_21 (pc := 21) (pc' := 26) (teq hc26).1 (o_iinc X0 hq d19_26 rfl (z := 4) (k' := 1) rfl (by decide +kernel) rfl (o_goto X0 hq d19_29 (pc := 29) (pc' := 9) (o_iloadN X0 hq d19_9 rfl (o_aloadN X0 hq d19_10 rfl rfl (o_alen X0 hq d19_11 hZ e0 (V4.ext O0.2) (o_icmpY X0 hq d19_12 (pc := 12) (pc' := 32) (by decide +kernel) (o_iconst X0 hq d19_32 (x := 1) rfl ?_)))))))
      exact retN X0 hx (t := .boolean) hret (by simp) (hb hby d19_33) hr
     ·
      exact Or.inl (⟨hc14, hc18, hc22, hc26, rfl, N0, rfl⟩)
    ·
     refine fin (some (.int 0)) _ _ _ _ X0 nofun (fun fs hr => pre25 _ ?_) (own_atH e0 ?_) (by decide) (by decide)
     ·
      refine o_icmpN X0 hq d19_21 (feq hc26).1 (o_iconst X0 hq d19_24 (x := 0) rfl ?_)
      exact retN X0 hx (t := .boolean) hret (by simp) (hb hby d19_25) hr
     ·
      exact Or.inr (⟨(fun q => hc26 q.2.2.2), rfl, N0, rfl⟩)
   ·
    refine fin (some (.int 0)) _ _ _ _ X0 nofun (fun fs hr => pre21 _ ?_) (own_atH e0 ?_) (by decide) (by decide)
    ·
     refine o_icmpN X0 hq d19_21 (feq hc22).1 (o_iconst X0 hq d19_24 (x := 0) rfl ?_)
     exact retN X0 hx (t := .boolean) hret (by simp) (hb hby d19_25) hr
    ·
     exact Or.inr (⟨(fun q => hc22 q.2.2.1), rfl, N0, rfl⟩)
  ·
   refine fin (some (.int 0)) _ _ _ _ X0 nofun (fun fs hr => pre17 _ ?_) (own_atH e0 ?_) (by decide) (by decide)
   ·
    refine o_icmpN X0 hq d19_21 (feq hc18).1 (o_iconst X0 hq d19_24 (x := 0) rfl ?_)
    exact retN X0 hx (t := .boolean) hret (by simp) (hb hby d19_25) hr
   ·
    exact Or.inr (⟨(fun q => hc18 q.2.1), rfl, N0, rfl⟩)
 ·
  refine fin (some (.int 0)) _ _ _ _ X0 nofun (fun fs hr => pre13 _ ?_) (own_atH e0 ?_) (by decide) (by decide)
  ·
   refine o_icmpN X0 hq d19_21 (feq hc14).1 (o_iconst X0 hq d19_24 (x := 0) rfl ?_)
   exact retN X0 hx (t := .boolean) hret (by simp) (hb hby d19_25) hr
  ·
   exact Or.inr (⟨(fun q => hc14 q.1), rfl, N0, rfl⟩)
def Q18_19 (Z : State) (a1 a2 : Addr) (p7 : Int32) (a15 a18 : Addr) (k21 : ClassId) (p23 p24 : Int32) (p25 p26 : Int32) (k27 : ClassId) (h0 : Heap) (n0 : Nat) (v : Option Value) (h : Heap) (L : List Loc) : Prop := (82 = p23 ∧ 101 = p24 ∧ 97 = p25 ∧ 100 = p26 ∧ v = some (.int 1) ∧ Fr n0 L ∧ h = h0) ∨ (¬ (82 = p23 ∧ 101 = p24 ∧ 97 = p25 ∧ 100 = p26) ∧ v = some (.int 0) ∧ Fr n0 L ∧ h = h0)
theorem rm18_19 (l : Launch) (Z : State) (a0 : Array Value) (hw : own_HW Z a0) (a1 a2 : Addr) (p7 : Int32) (a15 a18 : Addr) (k21 : ClassId) (p23 p24 : Int32) (p25 p26 : Int32) (k27 : ClassId) (h0 : Heap) (n0 : Nat) (O0 : Old Z n0 h0) (hne3 : a1 ≠ a2) (E_4 : Exa Z h0 a2 C_2) (S_8 : Sta Z Z.heap C_2 "COMPACT_STRINGS" "Z" (.int p7)) (hk10 : ¬ (p7 = 0)) (F11 : Fld Z Z.heap a1 C_2 "coder" "B" (.int 0)) (F13 : Fld Z h0 a2 C_2 "coder" "B" (.int 0)) (F16 : Fld Z Z.heap a1 C_2 "value" "[B" (.ref a15)) (F19 : Fld Z h0 a2 C_2 "value" "[B" (.ref a18)) (V22 : Arv Z Z.heap a15 k21 .byte 4 [(.int 82), (.int 101), (.int 97), (.int 100)] (.int 0)) (V28 : Arv Z h0 a18 k27 .byte 4 [(.int p23), (.int p24), (.int p25), (.int p26)] (.int 0)) : own_Met l Z M_16 bc18 3 (some .boolean) ({ frames := 1, cells := 0, slots := 0, locals := 14 } : Room) #[(.ref a1), (.ref a2)] h0 (Q18_19 Z a1 a2 p7 a15 a18 k21 p23 p24 p25 p26 k27 h0 n0) := by
 refine own_body (L0 := #[vR a1, vR a2, .unset]) (plainFor_of_name pn_0) (fun m => by first | (simp [entryFrame, mkF, argsToLocals, Value.category]; done) | rfl) fun p e s m below meth c s₁ EN hx hby hml hown hnm hret X0 hZ e0 hh pre0 fin => ?_
 have N0 := Fr.nil n0
 have hq := And.intro hx hby
 obtain ⟨T5, X5, e5, st5⟩ := instY X0 hx hZ hown (ww104 hw) e0 (Ins.self E_4) (g := (mkF m 8 #[vR a1, vR a2, .unset] [(.ref a2)])) rfl rfl (hb hby d18_8)
 obtain ⟨T6, X6, e6, st6⟩ := castY X5 hx hZ hown (ww104 hw) e5 (Ins.self E_4) (g := (mkF m 15 #[vR a1, vR a2, .unset] [(.ref a2)])) rfl rfl (hb hby d18_15)
 obtain ⟨T9, X9, e9, st9⟩ := getS2 X6 hx hZ hown (host := "") (Or.inl (ww22 hw)) Via.refl e6 (Sta.ext O0.2 S_8) (g := (mkF m 19 #[vR a1, vR a2, vR a2] [])) rfl (hb hby d18_19)
 obtain ⟨T12, X12, e12, st12⟩ := getF X9 hx hZ hown (host := "") (Or.inl (ww23 hw)) Via.refl e9 (Fld.ext O0.2 F11) (g := (mkF m 26 #[vR a1, vR a2, vR a2] [(.ref a1)])) rfl rfl (hb hby d18_26)
 obtain ⟨T14, X14, e14, st14⟩ := getF X12 hx hZ hown (host := "") (Or.inl (ww23 hw)) Via.refl e12 F13 (g := (mkF m 30 #[vR a1, vR a2, vR a2] [(.ref a2), (.int 0)])) rfl rfl (hb hby d18_30)
 obtain ⟨T17, X17, e17, st17⟩ := getF X14 hx hZ hown (host := "") (Or.inl (ww16 hw)) Via.refl e14 (Fld.ext O0.2 F16) (g := (mkF m 37 #[vR a1, vR a2, vR a2] [(.ref a1)])) rfl rfl (hb hby d18_37)
 obtain ⟨T20, X20, e20, st20⟩ := getF X17 hx hZ hown (host := "") (Or.inl (ww16 hw)) Via.refl e17 F19 (g := (mkF m 41 #[vR a1, vR a2, vR a2] [(.ref a2), (.ref a15)])) rfl rfl (hb hby d18_41)
 have pre30 : oS p e below EN T20 (mkF m 44 #[vR a1, vR a2, vR a2] [(.ref a18), (.ref a15)]) := fun t kt => pre0 t (o_aloadN X0 hq d18_0 rfl rfl (o_aloadN X0 hq d18_1 rfl rfl (Jvm.RoadKit.acmp (g := (mkF m 2 #[vR a1, vR a2, .unset] [(.ref a2), (.ref a1)])) X0 hx rfl rfl rfl (pc0 := 2) (pc' := 7) (same := false) rfl (hb hby d18_2) rfl (decide_eq_false fun q => hne3 (Value.ref.inj q)) (by decide) (by decide) (o_aloadN X0 hq d18_7 rfl rfl (st5 _ (o_ifN X5 hq d18_11 (by decide +kernel) (o_aloadN X5 hq d18_14 rfl rfl (st6 _ (o_astoreN X6 hq d18_18 rfl rfl (st9 _ (o_ifN X9 hq d18_22 ((if0 _ _).trans (feq hk10).1) (o_aloadN X9 hq d18_25 rfl rfl (st12 _ (o_aloadN X12 hq d18_29 rfl rfl (st14 _ (o_icmpN X14 hq d18_33 (by decide +kernel) (o_aloadN X14 hq d18_36 rfl rfl (st17 _ (o_aloadN X17 hq d18_40 rfl rfl (st20 _ kt))))))))))))))))))))
 obtain ⟨_, T29, L29, X29, hQ29, st29⟩ := own_cS X20 hx hZ hown (ww105 hw) (ww106 hw) (ww41 hw) (ww107 hw) (rm19_20 l Z a0 hw a15 a18 k21 p23 p24 p25 p26 k27 h0 n0 O0 V22 V28) e20 pd_15 hml (hb hby d18_44) (Ls := #[vR a1, vR a2, vR a2]) (W := 0) (argsL := [(.ref a15), (.ref a18)]) (rest := [])
 rcases hQ29 with ⟨u31, u32, u33, u34, rfl, u36, u37⟩ | ⟨u38, rfl, u40, u41⟩
 ·
  have N29 := Fr.app N0 u36
  refine fin (some (.int 1)) _ _ _ _ X29 nofun (fun fs hr => pre30 _ ?_) (own_atH u37 ?_) (by decide) (by decide)
  ·
   refine st29 _ (o_ifN X29 hq d18_47 (by decide +kernel) (o_iconst X29 hq d18_50 (x := 1) rfl (o_goto X29 hq d18_51 (pc := 51) (pc' := 55) ?_)))
   exact retN X29 hx (t := .boolean) hret (by simp) (hb hby d18_55) hr
  ·
   exact Or.inl (⟨u31, u32, u33, u34, rfl, N29, rfl⟩)
 ·
  have N29 := Fr.app N0 u40
  refine fin (some (.int 0)) _ _ _ _ X29 nofun (fun fs hr => pre30 _ ?_) (own_atH u41 ?_) (by decide) (by decide)
  ·
   refine st29 _ (o_ifY X29 hq d18_47 (pc := 47) (pc' := 54) (by decide +kernel) (o_iconst X29 hq d18_54 (x := 0) rfl ?_))
   exact retN X29 hx (t := .boolean) hret (by simp) (hb hby d18_55) hr
  ·
   exact Or.inr (⟨u38, rfl, N29, rfl⟩)
def Q23_22 (Z : State) (a1 : Addr) (h0 : Heap) (n0 : Nat) (v : Option Value) (h : Heap) (L : List Loc) : Prop := (v = some (.ref a1) ∧ Fr n0 L ∧ h = h0)
theorem rm23_22 (l : Launch) (Z : State) (a0 : Array Value) (hw : own_HW Z a0) (a1 : Addr) (h0 : Heap) (n0 : Nat) (O0 : Old Z n0 h0) : own_Met l Z M_17 bc23 1 (some (.object "java/lang/Object")) ({ frames := 0, cells := 0, slots := 0, locals := 0 } : Room) #[(.ref a1)] h0 (Q23_22 Z a1 h0 n0) := by
 refine own_body (L0 := #[vR a1]) (plainFor_of_name pn_6) (fun m => by first | (simp [entryFrame, mkF, argsToLocals, Value.category]; done) | rfl) fun p e s m below meth c s₁ EN hx hby hml hown hnm hret X0 hZ e0 hh pre0 fin => ?_
 have N0 := Fr.nil n0
 have hq := And.intro hx hby
 refine fin (some (.ref a1)) _ _ _ _ X0 nofun (fun fs hr => pre0 _ ?_) (own_atH e0 ?_) (by decide) (by decide)
 ·
  refine o_aloadN X0 hq d23_0 rfl rfl (o_ifnonnullY X0 hq d23_1 (pc := 1) (pc' := 12) (o_aloadN X0 hq d23_12 rfl rfl ?_))
  show Steps p.tables e below (s₁.setTop (mkF m 13 #[vR a1] [(.ref a1)])) _
  jvm_step X0.here [X0.here.top, hx, (hb hby d23_13), X0.method', hret, Value.isRef, FieldType.isReference]
  first | (intro acts; rw [hr _ acts rfl rfl rfl]) | rw [hr _ _ rfl rfl rfl]
  exact Steps.refl _
 ·
  exact ⟨rfl, N0, rfl⟩
def Q24_23 (Z : State) (a1 a2 : Addr) (h0 : Heap) (n0 : Nat) (v : Option Value) (h : Heap) (L : List Loc) : Prop := (v = none ∧ Fr n0 L ∧ Keep h0 h [a1] ∧ Exa Z h a1 C_7 ∧ Fld Z h a1 C_7 "value" C_8 (.ref a2))
theorem rm24_23 (l : Launch) (Z : State) (a0 : Array Value) (hw : own_HW Z a0) (a1 a2 : Addr) (h0 : Heap) (n0 : Nat) (O0 : Old Z n0 h0) (E_4 : Exa Z h0 a1 C_7) (F5 : Fld Z h0 a1 C_7 "value" C_8 .null) (g_a1 : n0 ≤ a1) : own_Met l Z M_18 bc24 2 none ({ frames := 1, cells := 0, slots := 0, locals := 12 } : Room) #[(.ref a1), (.ref a2)] h0 (Q24_23 Z a1 a2 h0 n0) := by
 refine own_body (L0 := #[vR a1, vR a2]) (plainFor_of_name pn_7) (fun m => by first | (simp [entryFrame, mkF, argsToLocals, Value.category]; done) | rfl) fun p e s m below meth c s₁ EN hx hby hml hown hnm hret X0 hZ e0 hh pre0 fin => ?_
 have N0 := Fr.nil n0
 have hq := And.intro hx hby
 obtain ⟨T3, X3, e3, st3⟩ := initO X0 hx hZ hown (ww139 hw) (ww64 hw) (ww65 hw) e0 (g := (mkF m 1 #[vR a1, vR a2] [(.ref a1)])) rfl (by rw [hml]; rfl) rfl (hb hby d24_1) (by decide) (W := 0) (by show 2 * 0 + _ ≤ _; exact Nat.le_of_eq rfl) (by decide)
 obtain ⟨T6, h6, X6, e6, W6, st6⟩ := putF X3 hx hZ hown (host := "") (Or.inl (ww118 hw)) Via.refl e3 F5 E_4 (Or.inr ⟨(ww119 hw), rfl, hnm⟩) (ww130 hw) (ty := (.object "java/lang/Object")) (by decide) rfl rfl (g := (mkF m 6 #[vR a1, vR a2] [(.ref a2), (.ref a1)])) rfl rfl (hb hby d24_6)
 have Fw6 : Fld Z h6 a1 C_7 "value" C_8 (.ref a2) := Fld.same W6 F5
 have N6 := Fr.snoc X6 N0 g_a1
 have f7 := (Exa.wr W6 E_4)
 refine fin none _ _ _ _ X6 (fun _ => rfl) (fun fs hr => pre0 _ ?_) (own_atH e6 ?_) (by decide) (by decide)
 ·
  refine o_aloadN X0 hq d24_0 rfl rfl (st3 _ (o_aloadN X3 hq d24_4 rfl rfl (o_aloadN X3 hq d24_5 rfl rfl (st6 _ ?_))))
  exact X6.returnOut hx hret (hb hby d24_9) hr
 ·
  exact ⟨rfl, N6, ((Keep.refl h0 [a1]).wr W6 (Or.inl (List.mem_of_getElem? (i := 0) rfl))), f7, Fw6⟩
def Q22_21 (Z : State) (a1 : Addr) (h0 : Heap) (n0 : Nat) (v : Option Value) (h : Heap) (L : List Loc) : Prop := (∃ (b2 : Addr), v = some (.ref b2) ∧ Fr n0 L ∧ h0.size ≤ b2 ∧ b2 < h.size ∧ Keep h0 h [] ∧ Exa Z h b2 C_7 ∧ Fld Z h b2 C_7 "value" C_8 (.ref a1))
theorem rm22_21 (l : Launch) (Z : State) (a0 : Array Value) (hw : own_HW Z a0) (a1 : Addr) (h0 : Heap) (n0 : Nat) (O0 : Old Z n0 h0) : own_Met l Z M_19 bc22 1 (some (.object "java/util/Optional")) ({ frames := 2, cells := 1, slots := 1, locals := 26 } : Room) #[(.ref a1)] h0 (Q22_21 Z a1 h0 n0) := by
 refine own_body (L0 := #[vR a1]) (plainFor_of_name pn_7) (fun m => by first | (simp [entryFrame, mkF, argsToLocals, Value.category]; done) | rfl) fun p e s m below meth c s₁ EN hx hby hml hown hnm hret X0 hZ e0 hh pre0 fin => ?_
 have N0 := Fr.nil n0
 have hq := And.intro hx hby
 obtain ⟨T2, h2, X2, e2, E2, A2, D2, -, st2⟩ := newO X0 hx hZ hown (ww129 hw) (ww130 hw) (ww110 hw) e0 (g := (mkF m 0 #[vR a1] [])) rfl (hb hby d22_0) (by decide) (by decide)
 obtain ⟨b2, g2⟩ : ∃ z, z = h0.size := ⟨_, rfl⟩
 rw [← g2] at A2 D2 st2
 have O2 := O0.ext E2
 have bd_b2 : h0.size ≤ b2 := Nat.le_of_eq g2.symm
 have g_b2 : n0 ≤ b2 := Nat.le_trans (own_z O0) bd_b2
 have sz_b2 : h0.size ≤ b2 := Nat.le_trans (Nat.le_refl _) bd_b2
 have lt_b2 : b2 < h2.size := A2.lt
 have D2_119 : Fld Z h2 b2 C_7 "value" C_8 .null := D2 (Or.inr (ww119 hw)) (ty := (.object "java/lang/Object")) (by decide)
 obtain ⟨_, T3, L3, X3, hQ3, st3⟩ := own_cS X2 hx hZ hown (ww131 hw) (ww132 hw) (ww133 hw) (ww134 hw) (rm23_22 l Z a0 hw a1 h2 n0 O2) e2 pd_17 hml (hb hby d22_5) (Ls := #[vR a1]) (W := 2) (argsL := [(.ref a1)]) (rest := [(.ref b2), (.ref b2)])
 obtain ⟨rfl, u5, u6⟩ := hQ3
 have N3 := Fr.app N0 u5
 obtain ⟨_, T7, L7, X7, hQ7, st7⟩ := own_cI X3 hx hZ hown (ww135 hw) (ww136 hw) (ww110 hw) (ww138 hw) (rm24_23 l Z a0 hw b2 a1 h2 n0 O2 A2 D2_119 g_b2) u6 pd_18 hml (hb hby d22_8) (Ls := #[vR a1]) (W := 1) (argsL := [(.ref a1)]) (rest := [(.ref b2)]) (b := b2)
 obtain ⟨rfl, u9, Ku10, u11, u12⟩ := hQ7
 have N7 := Fr.app N3 u9
 refine fin (some (.ref b2)) _ _ _ _ X7 nofun (fun fs hr => pre0 _ ?_) ?_ (by decide) (by decide)
 ·
  refine st2 _ (o_dup X2 hq d22_3 rfl (o_aloadN X2 hq d22_4 rfl rfl (st3 _ (st7 _ ?_))))
  show Steps p.tables e below (T7.setTop (mkF m 11 #[vR a1] [(.ref b2)])) _
  jvm_step X7.here [X7.here.top, hx, (hb hby d22_11), X7.method', hret, Value.isRef, FieldType.isReference]
  first | (intro acts; rw [hr _ acts rfl rfl rfl]) | rw [hr _ _ rfl rfl rfl]
  exact Steps.refl _
 ·
  exact ⟨b2, rfl, N7, sz_b2, (own_t lt_b2 Ku10.1), (((Keep.refl h0 []).ext E2).trans Ku10 (allS (Or.inr sz_b2) all0)), u11, u12⟩
def Q19_25 (Z : State) (a1 a2 : Addr) (vl3 : List Value) (p4 : Int32) (k5 : ClassId) (vl7 : List Value) (p8 : Int32) (k9 : ClassId) (h0 : Heap) (n0 : Nat) (v : Option Value) (h : Heap) (L : List Loc) : Prop := (v = some (.int 0) ∧ Fr n0 L ∧ h = h0)
theorem rm19_25 (l : Launch) (Z : State) (a0 : Array Value) (hw : own_HW Z a0) (a1 a2 : Addr) (vl3 : List Value) (p4 : Int32) (k5 : ClassId) (vl7 : List Value) (p8 : Int32) (k9 : ClassId) (h0 : Heap) (n0 : Nat) (O0 : Old Z n0 h0) (V6 : Arv Z Z.heap a1 k5 .byte p4 vl3 (.int 0)) (V10 : Arv Z h0 a2 k9 .byte p8 vl7 (.int 0)) (hk11 : ¬ (p4 = p8)) : own_Met l Z M_15 bc19 3 (some .boolean) ({ frames := 0, cells := 0, slots := 0, locals := 0 } : Room) #[(.ref a1), (.ref a2)] h0 (Q19_25 Z a1 a2 vl3 p4 k5 vl7 p8 k9 h0 n0) := by
 refine own_body (L0 := #[vR a1, vR a2, .unset]) (plainFor_of_name pn_2) (fun m => by first | (simp [entryFrame, mkF, argsToLocals, Value.category]; done) | rfl) fun p e s m below meth c s₁ EN hx hby hml hown hnm hret X0 hZ e0 hh pre0 fin => ?_
 have N0 := Fr.nil n0
 have hq := And.intro hx hby
 refine fin (some (.int 0)) _ _ _ _ X0 nofun (fun fs hr => pre0 _ ?_) (own_atH e0 ?_) (by decide) (by decide)
 ·
  refine o_aloadN X0 hq d19_0 rfl rfl (o_alen X0 hq d19_1 hZ e0 (V6.ext O0.2) (o_aloadN X0 hq d19_2 rfl rfl (o_alen X0 hq d19_3 hZ e0 V10 (o_icmpY X0 hq d19_4 (pc := 4) (pc' := 34) (feq hk11).2 (o_iconst X0 hq d19_34 (x := 0) rfl ?_)))))
  exact retN X0 hx (t := .boolean) hret (by simp) (hb hby d19_35) hr
 ·
  exact ⟨rfl, N0, rfl⟩
def Q18_24 (Z : State) (a1 a2 : Addr) (p7 : Int32) (a15 a18 : Addr) (vl21 : List Value) (p22 : Int32) (k23 : ClassId) (vl25 : List Value) (p26 : Int32) (k27 : ClassId) (h0 : Heap) (n0 : Nat) (v : Option Value) (h : Heap) (L : List Loc) : Prop := (v = some (.int 0) ∧ Fr n0 L ∧ h = h0)
theorem rm18_24 (l : Launch) (Z : State) (a0 : Array Value) (hw : own_HW Z a0) (a1 a2 : Addr) (p7 : Int32) (a15 a18 : Addr) (vl21 : List Value) (p22 : Int32) (k23 : ClassId) (vl25 : List Value) (p26 : Int32) (k27 : ClassId) (h0 : Heap) (n0 : Nat) (O0 : Old Z n0 h0) (hne3 : a1 ≠ a2) (E_4 : Exa Z h0 a2 C_2) (S_8 : Sta Z Z.heap C_2 "COMPACT_STRINGS" "Z" (.int p7)) (hk10 : ¬ (p7 = 0)) (F11 : Fld Z Z.heap a1 C_2 "coder" "B" (.int 0)) (F13 : Fld Z h0 a2 C_2 "coder" "B" (.int 0)) (F16 : Fld Z Z.heap a1 C_2 "value" "[B" (.ref a15)) (F19 : Fld Z h0 a2 C_2 "value" "[B" (.ref a18)) (V24 : Arv Z Z.heap a15 k23 .byte p22 vl21 (.int 0)) (V28 : Arv Z h0 a18 k27 .byte p26 vl25 (.int 0)) (hk29 : ¬ (p22 = p26)) : own_Met l Z M_16 bc18 3 (some .boolean) ({ frames := 1, cells := 0, slots := 0, locals := 14 } : Room) #[(.ref a1), (.ref a2)] h0 (Q18_24 Z a1 a2 p7 a15 a18 vl21 p22 k23 vl25 p26 k27 h0 n0) := by
 refine own_body (L0 := #[vR a1, vR a2, .unset]) (plainFor_of_name pn_0) (fun m => by first | (simp [entryFrame, mkF, argsToLocals, Value.category]; done) | rfl) fun p e s m below meth c s₁ EN hx hby hml hown hnm hret X0 hZ e0 hh pre0 fin => ?_
 have N0 := Fr.nil n0
 have hq := And.intro hx hby
 obtain ⟨T5, X5, e5, st5⟩ := instY X0 hx hZ hown (ww104 hw) e0 (Ins.self E_4) (g := (mkF m 8 #[vR a1, vR a2, .unset] [(.ref a2)])) rfl rfl (hb hby d18_8)
 obtain ⟨T6, X6, e6, st6⟩ := castY X5 hx hZ hown (ww104 hw) e5 (Ins.self E_4) (g := (mkF m 15 #[vR a1, vR a2, .unset] [(.ref a2)])) rfl rfl (hb hby d18_15)
 obtain ⟨T9, X9, e9, st9⟩ := getS2 X6 hx hZ hown (host := "") (Or.inl (ww22 hw)) Via.refl e6 (Sta.ext O0.2 S_8) (g := (mkF m 19 #[vR a1, vR a2, vR a2] [])) rfl (hb hby d18_19)
 obtain ⟨T12, X12, e12, st12⟩ := getF X9 hx hZ hown (host := "") (Or.inl (ww23 hw)) Via.refl e9 (Fld.ext O0.2 F11) (g := (mkF m 26 #[vR a1, vR a2, vR a2] [(.ref a1)])) rfl rfl (hb hby d18_26)
 obtain ⟨T14, X14, e14, st14⟩ := getF X12 hx hZ hown (host := "") (Or.inl (ww23 hw)) Via.refl e12 F13 (g := (mkF m 30 #[vR a1, vR a2, vR a2] [(.ref a2), (.int 0)])) rfl rfl (hb hby d18_30)
 obtain ⟨T17, X17, e17, st17⟩ := getF X14 hx hZ hown (host := "") (Or.inl (ww16 hw)) Via.refl e14 (Fld.ext O0.2 F16) (g := (mkF m 37 #[vR a1, vR a2, vR a2] [(.ref a1)])) rfl rfl (hb hby d18_37)
 obtain ⟨T20, X20, e20, st20⟩ := getF X17 hx hZ hown (host := "") (Or.inl (ww16 hw)) Via.refl e17 F19 (g := (mkF m 41 #[vR a1, vR a2, vR a2] [(.ref a2), (.ref a15)])) rfl rfl (hb hby d18_41)
 obtain ⟨_, T30, L30, X30, hQ30, st30⟩ := own_cS X20 hx hZ hown (ww105 hw) (ww106 hw) (ww41 hw) (ww107 hw) (rm19_25 l Z a0 hw a15 a18 _ p22 k23 _ p26 k27 h0 n0 O0 V24 V28 hk29) e20 pd_15 hml (hb hby d18_44) (Ls := #[vR a1, vR a2, vR a2]) (W := 0) (argsL := [(.ref a15), (.ref a18)]) (rest := [])
 obtain ⟨rfl, u32, u33⟩ := hQ30
 have N30 := Fr.app N0 u32
 refine fin (some (.int 0)) _ _ _ _ X30 nofun (fun fs hr => pre0 _ ?_) (own_atH u33 ?_) (by decide) (by decide)
 ·
  refine o_aloadN X0 hq d18_0 rfl rfl (o_aloadN X0 hq d18_1 rfl rfl (Jvm.RoadKit.acmp (g := (mkF m 2 #[vR a1, vR a2, .unset] [(.ref a2), (.ref a1)])) X0 hx rfl rfl rfl (pc0 := 2) (pc' := 7) (same := false) rfl (hb hby d18_2) rfl (decide_eq_false fun q => hne3 (Value.ref.inj q)) (by decide) (by decide) (o_aloadN X0 hq d18_7 rfl rfl (st5 _ (o_ifN X5 hq d18_11 (by decide +kernel) (o_aloadN X5 hq d18_14 rfl rfl (st6 _ (o_astoreN X6 hq d18_18 rfl rfl (st9 _ (o_ifN X9 hq d18_22 ((if0 _ _).trans (feq hk10).1) (o_aloadN X9 hq d18_25 rfl rfl (st12 _ (o_aloadN X12 hq d18_29 rfl rfl (st14 _ (o_icmpN X14 hq d18_33 (by decide +kernel) (o_aloadN X14 hq d18_36 rfl rfl (st17 _ (o_aloadN X17 hq d18_40 rfl rfl (st20 _ (st30 _ (o_ifY X30 hq d18_47 (pc := 47) (pc' := 54) (by decide +kernel) (o_iconst X30 hq d18_54 (x := 0) rfl ?_))))))))))))))))))))))
  exact retN X30 hx (t := .boolean) hret (by simp) (hb hby d18_55) hr
 ·
  exact ⟨rfl, N30, rfl⟩
def Q20_26 (Z : State) (a1 : Addr) (h0 : Heap) (n0 : Nat) (v : Option Value) (h : Heap) (L : List Loc) : Prop := (v = some (.ref a1) ∧ Fr n0 L ∧ h = h0)
theorem rm20_26 (l : Launch) (Z : State) (a0 : Array Value) (hw : own_HW Z a0) (a1 : Addr) (h0 : Heap) (n0 : Nat) (O0 : Old Z n0 h0) (S_2 : Sta Z Z.heap C_7 "EMPTY" C_9 (.ref a1)) : own_Met l Z M_20 bc20 1 (some (.object "java/util/Optional")) ({ frames := 0, cells := 0, slots := 0, locals := 0 } : Room) #[] h0 (Q20_26 Z a1 h0 n0) := by
 refine own_body (L0 := #[.unset]) (plainFor_of_name pn_7) (fun m => by first | (simp [entryFrame, mkF, argsToLocals, Value.category]; done) | rfl) fun p e s m below meth c s₁ EN hx hby hml hown hnm hret X0 hZ e0 hh pre0 fin => ?_
 have N0 := Fr.nil n0
 have hq := And.intro hx hby
 obtain ⟨T3, X3, e3, st3⟩ := getS2 X0 hx hZ hown (host := "") (Or.inl (ww112 hw)) Via.refl e0 (Sta.ext O0.2 S_2) (g := (mkF m 0 #[.unset] [])) rfl (hb hby d20_0)
 refine fin (some (.ref a1)) _ _ _ _ X3 nofun (fun fs hr => pre0 _ ?_) (own_atH e3 ?_) (by decide) (by decide)
 ·
  refine st3 _ (o_astoreN X3 hq d20_3 rfl rfl (o_aloadN X3 hq d20_4 rfl rfl ?_))
  show Steps p.tables e below (T3.setTop (mkF m 5 #[vR a1] [(.ref a1)])) _
  jvm_step X3.here [X3.here.top, hx, (hb hby d20_5), X3.method', hret, Value.isRef, FieldType.isReference]
  first | (intro acts; rw [hr _ acts rfl rfl rfl]) | rw [hr _ _ rfl rfl rfl]
  exact Steps.refl _
 ·
  exact ⟨rfl, N0, rfl⟩
def Q16_17 (Z : State) (a1 a2 : Addr) (a4 a6 : Addr) (a7 a8 a9 : Addr) (k10 : ClassId) (a23 : Addr) (p29 : Int32) (a34 : Addr) (k36 : ClassId) (p38 p39 : Int32) (p40 p41 : Int32) (k42 : ClassId) (a71 a77 : Addr) (k79 : ClassId) (a86 a92 : Addr) (k94 : ClassId) (a101 a107 : Addr) (k109 : ClassId) (a115 : Addr) (h0 : Heap) (n0 : Nat) (v : Option Value) (h : Heap) (L : List Loc) : Prop := (∃ (b62 : Addr), 82 = p38 ∧ 101 = p39 ∧ 97 = p40 ∧ 100 = p41 ∧ v = some (.ref b62) ∧ Fr n0 L ∧ h0.size ≤ b62 ∧ b62 < h.size ∧ Keep h0 h [] ∧ Exa Z h b62 C_7 ∧ Fld Z h b62 C_7 "value" C_8 (.ref a6)) ∨ (¬ (82 = p38 ∧ 101 = p39 ∧ 97 = p40 ∧ 100 = p41) ∧ v = some (.ref a115) ∧ Fr n0 L ∧ Keep h0 h [])
theorem rm16_17 (l : Launch) (Z : State) (a0 : Array Value) (hw : own_HW Z a0) (a1 a2 : Addr) (a4 a6 : Addr) (a7 a8 a9 : Addr) (k10 : ClassId) (a23 : Addr) (p29 : Int32) (a34 : Addr) (k36 : ClassId) (p38 p39 : Int32) (p40 p41 : Int32) (k42 : ClassId) (a71 a77 : Addr) (k79 : ClassId) (a86 a92 : Addr) (k94 : ClassId) (a101 a107 : Addr) (k109 : ClassId) (a115 : Addr) (h0 : Heap) (n0 : Nat) (O0 : Old Z n0 h0) (S_3 : Sta Z Z.heap C_0 "$VALUES" C_6 (.ref a2)) (F5 : Fld Z h0 a1 C_2 "value" "[B" (.ref a4)) (V11 : Arv Z Z.heap a2 k10 (.object "com/example/stern_warden/sternwarden/model/AccessMode") (4 : Int32) [(.ref a6), (.ref a7), (.ref a8), (.ref a9)] .null) (E_12 : Exa Z Z.heap a2 C_6) (F24 : Fld Z Z.heap a6 C_0 "localName" C_5 (.ref a23)) (E_26 : Exa Z Z.heap a23 C_2) (hne27 : a23 ≠ a1) (E_28 : Exa Z h0 a1 C_2) (S_30 : Sta Z Z.heap C_2 "COMPACT_STRINGS" "Z" (.int p29)) (hk31 : ¬ (p29 = 0)) (F32 : Fld Z Z.heap a23 C_2 "coder" "B" (.int 0)) (F33 : Fld Z h0 a1 C_2 "coder" "B" (.int 0)) (F35 : Fld Z Z.heap a23 C_2 "value" "[B" (.ref a34)) (V37 : Arv Z Z.heap a34 k36 .byte 4 [(.int 82), (.int 101), (.int 97), (.int 100)] (.int 0)) (V43 : Arv Z h0 a4 k42 .byte 4 [(.int p38), (.int p39), (.int p40), (.int p41)] (.int 0)) (F72 : Fld Z Z.heap a7 C_0 "localName" C_5 (.ref a71)) (E_74 : Exa Z Z.heap a71 C_2) (hne75 : a71 ≠ a1) (F76 : Fld Z Z.heap a71 C_2 "coder" "B" (.int 0)) (F78 : Fld Z Z.heap a71 C_2 "value" "[B" (.ref a77)) (V80 : Arv Z Z.heap a77 k79 .byte 5 [(.int 87), (.int 114), (.int 105), (.int 116), (.int 101)] (.int 0)) (F87 : Fld Z Z.heap a8 C_0 "localName" C_5 (.ref a86)) (E_89 : Exa Z Z.heap a86 C_2) (hne90 : a86 ≠ a1) (F91 : Fld Z Z.heap a86 C_2 "coder" "B" (.int 0)) (F93 : Fld Z Z.heap a86 C_2 "value" "[B" (.ref a92)) (V95 : Arv Z Z.heap a92 k94 .byte 6 [(.int 65), (.int 112), (.int 112), (.int 101), (.int 110), (.int 100)] (.int 0)) (F102 : Fld Z Z.heap a9 C_0 "localName" C_5 (.ref a101)) (E_104 : Exa Z Z.heap a101 C_2) (hne105 : a101 ≠ a1) (F106 : Fld Z Z.heap a101 C_2 "coder" "B" (.int 0)) (F108 : Fld Z Z.heap a101 C_2 "value" "[B" (.ref a107)) (V110 : Arv Z Z.heap a107 k109 .byte 7 [(.int 67), (.int 111), (.int 110), (.int 116), (.int 114), (.int 111), (.int 108)] (.int 0)) (S_116 : Sta Z Z.heap C_7 "EMPTY" C_9 (.ref a115)) : own_Met l Z M_21 bc16 5 (some (.object "java/util/Optional")) ({ frames := 3, cells := 2, slots := 5, locals := 38 } : Room) #[(.ref a1)] h0 (Q16_17 Z a1 a2 a4 a6 a7 a8 a9 k10 a23 p29 a34 k36 p38 p39 p40 p41 k42 a71 a77 k79 a86 a92 k94 a101 a107 k109 a115 h0 n0) := by
 refine own_body (L0 := #[vR a1, .unset, .unset, .unset, .unset]) (plainFor_of_name pn_5) (fun m => by first | (simp [entryFrame, mkF, argsToLocals, Value.category]; done) | rfl) fun p e s m below meth c s₁ EN hx hby hml hown hnm hret X0 hZ e0 hh pre0 fin => ?_
 have N0 := Fr.nil n0
 have hq := And.intro hx hby
 obtain ⟨_, T13, L13, X13, hQ13, st13⟩ := own_cS X0 hx hZ hown (ww79 hw) (ww80 hw) (ww1 hw) (ww81 hw) (rm17_18 l Z a0 hw a2 a6 a7 a8 a9 k10 h0 n0 O0 S_3 V11 E_12) e0 pd_14 hml (hb hby d16_0) (Ls := #[vR a1, .unset, .unset, .unset, .unset]) (W := 0) (argsL := []) (rest := [])
 obtain ⟨b14, rfl, u16, u17, u18, Ku19, u20, u21⟩ := hQ13
 have Ou19 := O0.keep Ku19 all0
 have N13 := Fr.app N0 u16
 obtain ⟨cl22, Ar22, -, Sz22, -, Hh22, -⟩ := id u21
 have hin22 : ¬ ((0 : Int32) < 0 ∨ cl22.slots.size ≤ ((0 : Int32)).toNatClampNeg) := inb_of Sz22 ⟨by decide +kernel, by decide +kernel⟩
 have hat22 : cl22.slots[((0 : Int32)).toNatClampNeg]? = some (.ref a6) := Has.at Hh22 hin22 rfl
 obtain ⟨T25, X25, e25, st25⟩ := getF X13 hx hZ hown (host := "") (Or.inl (ww97 hw)) Via.refl rfl (Fld.ext Ou19.2 F24) (g := (mkF m 21 #[vR a1, vR b14, vI 4, vI 0, vR a6] [(.ref a6)])) rfl rfl (hb hby d16_21)
 have f44 := (E_28.keep Ku19)
 have f45 := (F33.keep Ku19 nin0)
 have f46 := (F5.keep Ku19 nin0)
 have f47 := (V43.keep Ku19 nin0)
 have pre49 : oS p e below EN T25 (mkF m 25 #[vR a1, vR b14, vI 4, vI 0, vR a6] [(.ref a1), (.ref a23)]) := fun t kt => pre0 t (st13 _ (o_astoreN X13 hq d16_3 rfl rfl (o_aloadN X13 hq d16_4 rfl rfl (o_alen X13 hq d16_5 hZ rfl u21 (o_istoreN X13 hq d16_6 rfl (o_iconst X13 hq d16_7 (x := 0) rfl (o_istoreN X13 hq d16_8 rfl (o_iloadN X13 hq d16_9 rfl (o_iloadN X13 hq d16_10 rfl (o_icmpN X13 hq d16_11 (by decide +kernel) (o_aloadN X13 hq d16_14 rfl rfl (o_iloadN X13 hq d16_15 rfl (X13.aaload hx (j := 0) (v := (.ref a6)) Ar22.1 (State.isArrayOf_alike hZ.alike Ar22.2.1) rfl Ar22.2.2 hin22 hat22 (g := (mkF m 16 #[vR a1, vR b14, vI 4, vI 0, .unset] [(.int 0), (.ref b14)])) rfl rfl (hb hby d16_16) _ (o_astore X13 hq d16_17 rfl rfl (o_aload X13 hq d16_19 rfl rfl (st25 _ (o_aloadN X25 hq d16_24 rfl rfl kt)))))))))))))))))
 obtain ⟨_, T48, L48, X48, hQ48, st48⟩ := own_cV X25 hx hZ hown (ww99 hw) (ww100 hw) (notFace_of_selects (args := #[]) (mvT hZ (ww102 hw))) (ww102 hw) (ww101 hw) (ww4 hw) (ww103 hw) (Exa.ext Ou19.2 E_26) (rm18_19 l Z a0 hw a23 a1 p29 a34 a4 k36 p38 p39 p40 p41 k42 T13.heap n0 Ou19 hne27 f44 S_30 hk31 F32 f45 F35 f46 V37 f47) e25 pd_16 hml (hb hby d16_25) (Ls := #[vR a1, vR b14, vI 4, vI 0, vR a6]) (W := 0) (argsL := [(.ref a1)]) (rest := [])
 rcases hQ48 with ⟨u50, u51, u52, u53, rfl, u55, u56⟩ | ⟨u57, rfl, u59, u60⟩
 ·
  have N48 := Fr.app N13 u55
  obtain ⟨_, T61, L61, X61, hQ61, st61⟩ := own_cS X48 hx hZ hown (ww126 hw) (ww127 hw) (ww110 hw) (ww128 hw) (rm22_21 l Z a0 hw a6 T13.heap n0 Ou19) u56 pd_19 hml (hb hby d16_33) (Ls := #[vR a1, vR b14, vI 4, vI 0, vR a6]) (W := 0) (argsL := [(.ref a6)]) (rest := [])
  obtain ⟨b62, rfl, u64, u65, u66, Ku67, u68, u69⟩ := hQ61
  have sz_b62 : h0.size ≤ b62 := Nat.le_trans Ku19.1 u65
  have N61 := Fr.app N48 u64
  refine fin (some (.ref b62)) _ _ _ _ X61 nofun (fun fs hr => pre49 _ ?_) ?_ (by decide) (by decide)
  ·
   refine st48 _ (o_ifN X48 hq d16_28 (by decide +kernel) (o_aload X48 hq d16_31 rfl rfl (st61 _ ?_)))
   show Steps p.tables e below (T61.setTop (mkF m 36 #[vR a1, vR b14, vI 4, vI 0, vR a6] [(.ref b62)])) _
   jvm_step X61.here [X61.here.top, hx, (hb hby d16_36), X61.method', hret, Value.isRef, FieldType.isReference]
   first | (intro acts; rw [hr _ acts rfl rfl rfl]) | rw [hr _ _ rfl rfl rfl]
   exact Steps.refl _
  ·
   exact Or.inl (⟨b62, u50, u51, u52, u53, rfl, N61, sz_b62, u66, (((Keep.refl h0 []).trans Ku19 all0).trans Ku67 all0), u68, u69⟩)
 ·
  have N48 := Fr.app N13 u59
  obtain ⟨cl70, Ar70, -, Sz70, -, Hh70, -⟩ := id u21
  have hin70 : ¬ ((1 : Int32) < 0 ∨ cl70.slots.size ≤ ((1 : Int32)).toNatClampNeg) := inb_of Sz70 ⟨by decide +kernel, by decide +kernel⟩
  have hat70 : cl70.slots[((1 : Int32)).toNatClampNeg]? = some (.ref a7) := Has.at Hh70 hin70 rfl
  obtain ⟨T73, X73, e73, st73⟩ := getF X48 hx hZ hown (host := "") (Or.inl (ww97 hw)) Via.refl u60 (Fld.ext Ou19.2 F72) (g := (mkF m 21 #[vR a1, vR b14, vI 4, vI 1, vR a7] [(.ref a7)])) rfl rfl (hb hby d16_21)
  obtain ⟨_, T81, L81, X81, hQ81, st81⟩ := own_cV X73 hx hZ hown (ww99 hw) (ww100 hw) (notFace_of_selects (args := #[]) (mvT hZ (ww102 hw))) (ww102 hw) (ww101 hw) (ww4 hw) (ww103 hw) (Exa.ext Ou19.2 E_74) (rm18_24 l Z a0 hw a71 a1 p29 a77 a4 _ 5 k79 _ 4 k42 T13.heap n0 Ou19 hne75 f44 S_30 hk31 F76 f45 F78 f46 V80 f47 kle5_4) e73 pd_16 hml (hb hby d16_25) (Ls := #[vR a1, vR b14, vI 4, vI 1, vR a7]) (W := 0) (argsL := [(.ref a1)]) (rest := [])
  obtain ⟨rfl, u83, u84⟩ := hQ81
  have N81 := Fr.app N48 u83
  obtain ⟨cl85, Ar85, -, Sz85, -, Hh85, -⟩ := id u21
  have hin85 : ¬ ((2 : Int32) < 0 ∨ cl85.slots.size ≤ ((2 : Int32)).toNatClampNeg) := inb_of Sz85 ⟨by decide +kernel, by decide +kernel⟩
  have hat85 : cl85.slots[((2 : Int32)).toNatClampNeg]? = some (.ref a8) := Has.at Hh85 hin85 rfl
  obtain ⟨T88, X88, e88, st88⟩ := getF X81 hx hZ hown (host := "") (Or.inl (ww97 hw)) Via.refl u84 (Fld.ext Ou19.2 F87) (g := (mkF m 21 #[vR a1, vR b14, vI 4, vI 2, vR a8] [(.ref a8)])) rfl rfl (hb hby d16_21)
  obtain ⟨_, T96, L96, X96, hQ96, st96⟩ := own_cV X88 hx hZ hown (ww99 hw) (ww100 hw) (notFace_of_selects (args := #[]) (mvT hZ (ww102 hw))) (ww102 hw) (ww101 hw) (ww4 hw) (ww103 hw) (Exa.ext Ou19.2 E_89) (rm18_24 l Z a0 hw a86 a1 p29 a92 a4 _ 6 k94 _ 4 k42 T13.heap n0 Ou19 hne90 f44 S_30 hk31 F91 f45 F93 f46 V95 f47 kle6_4) e88 pd_16 hml (hb hby d16_25) (Ls := #[vR a1, vR b14, vI 4, vI 2, vR a8]) (W := 0) (argsL := [(.ref a1)]) (rest := [])
  obtain ⟨rfl, u98, u99⟩ := hQ96
  have N96 := Fr.app N81 u98
  obtain ⟨cl100, Ar100, -, Sz100, -, Hh100, -⟩ := id u21
  have hin100 : ¬ ((3 : Int32) < 0 ∨ cl100.slots.size ≤ ((3 : Int32)).toNatClampNeg) := inb_of Sz100 ⟨by decide +kernel, by decide +kernel⟩
  have hat100 : cl100.slots[((3 : Int32)).toNatClampNeg]? = some (.ref a9) := Has.at Hh100 hin100 rfl
  obtain ⟨T103, X103, e103, st103⟩ := getF X96 hx hZ hown (host := "") (Or.inl (ww97 hw)) Via.refl u99 (Fld.ext Ou19.2 F102) (g := (mkF m 21 #[vR a1, vR b14, vI 4, vI 3, vR a9] [(.ref a9)])) rfl rfl (hb hby d16_21)
  obtain ⟨_, T111, L111, X111, hQ111, st111⟩ := own_cV X103 hx hZ hown (ww99 hw) (ww100 hw) (notFace_of_selects (args := #[]) (mvT hZ (ww102 hw))) (ww102 hw) (ww101 hw) (ww4 hw) (ww103 hw) (Exa.ext Ou19.2 E_104) (rm18_24 l Z a0 hw a101 a1 p29 a107 a4 _ 7 k109 _ 4 k42 T13.heap n0 Ou19 hne105 f44 S_30 hk31 F106 f45 F108 f46 V110 f47 kle7_4) e103 pd_16 hml (hb hby d16_25) (Ls := #[vR a1, vR b14, vI 4, vI 3, vR a9]) (W := 0) (argsL := [(.ref a1)]) (rest := [])
  obtain ⟨rfl, u113, u114⟩ := hQ111
  have N111 := Fr.app N96 u113
  obtain ⟨_, T117, L117, X117, hQ117, st117⟩ := own_cS X111 hx hZ hown (ww108 hw) (ww109 hw) (ww110 hw) (ww111 hw) (rm20_26 l Z a0 hw a115 T13.heap n0 Ou19 S_116) u114 pd_20 hml (hb hby d16_43) (Ls := #[vR a1, vR b14, vI 4, vI 4, vR a9]) (W := 0) (argsL := []) (rest := [])
  obtain ⟨rfl, u119, u120⟩ := hQ117
  have N117 := Fr.app N111 u119
  refine fin (some (.ref a115)) _ _ _ _ X117 nofun (fun fs hr => pre49 _ ?_) (own_atH u120 ?_) (by decide) (by decide)
  ·
   refine st48 _ (o_ifY X48 hq d16_28 (pc := 28) (pc' := 37) (by decide +kernel) (o_iinc X48 hq d16_37 rfl (z := 1) (k' := 1) rfl (by decide +kernel) rfl (o_goto X48 hq d16_40 (pc := 40) (pc' := 9) (o_iloadN X48 hq d16_9 rfl (o_iloadN X48 hq d16_10 rfl (o_icmpN X48 hq d16_11 (by decide +kernel) (o_aloadN X48 hq d16_14 rfl rfl (o_iloadN X48 hq d16_15 rfl (X48.aaload hx (j := 1) (v := (.ref a7)) (by rw [u60]; exact Ar70.1) (State.isArrayOf_alike hZ.alike Ar70.2.1) rfl Ar70.2.2 hin70 hat70 (g := (mkF m 16 #[vR a1, vR b14, vI 4, vI 1, vR a6] [(.int 1), (.ref b14)])) rfl rfl (hb hby d16_16) _ (o_astore X48 hq d16_17 rfl rfl (o_aload X48 hq d16_19 rfl rfl (st73 _ (o_aloadN X73 hq d16_24 rfl rfl (st81 _ (o_ifY X81 hq d16_28 (pc := 28) (pc' := 37) (by decide +kernel) (o_iinc X81 hq d16_37 rfl (z := 2) (k' := 1) rfl (by decide +kernel) rfl (o_goto X81 hq d16_40 (pc := 40) (pc' := 9) (o_iloadN X81 hq d16_9 rfl (o_iloadN X81 hq d16_10 rfl (o_icmpN X81 hq d16_11 (by decide +kernel) (o_aloadN X81 hq d16_14 rfl rfl (o_iloadN X81 hq d16_15 rfl (X81.aaload hx (j := 2) (v := (.ref a8)) (by rw [u84]; exact Ar85.1) (State.isArrayOf_alike hZ.alike Ar85.2.1) rfl Ar85.2.2 hin85 hat85 (g := (mkF m 16 #[vR a1, vR b14, vI 4, vI 2, vR a7] [(.int 2), (.ref b14)])) rfl rfl (hb hby d16_16) _ (o_astore X81 hq d16_17 rfl rfl (o_aload X81 hq d16_19 rfl rfl (st88 _ (o_aloadN X88 hq d16_24 rfl rfl (st96 _ (o_ifY X96 hq d16_28 (pc := 28) (pc' := 37) (by decide +kernel) (o_iinc X96 hq d16_37 rfl (z := 3) (k' := 1) rfl (by decide +kernel) rfl (o_goto X96 hq d16_40 (pc := 40) (pc' := 9) (o_iloadN X96 hq d16_9 rfl (o_iloadN X96 hq d16_10 rfl (o_icmpN X96 hq d16_11 (by decide +kernel) (o_aloadN X96 hq d16_14 rfl rfl (o_iloadN X96 hq d16_15 rfl (X96.aaload hx (j := 3) (v := (.ref a9)) (by rw [u99]; exact Ar100.1) (State.isArrayOf_alike hZ.alike Ar100.2.1) rfl Ar100.2.2 hin100 hat100 (g := (mkF m 16 #[vR a1, vR b14, vI 4, vI 3, vR a8] [(.int 3), (.ref b14)])) rfl rfl (hb hby d16_16) _ (o_astore X96 hq d16_17 rfl rfl (o_aload X96 hq d16_19 rfl rfl ?_)))))))))))))))))))))))))))))))))))))))
   refine st103 _ (o_aloadN X103 hq d16_24 rfl rfl (st111 _ (o_ifY X111 hq d16_28 (pc := 28) (pc' := 37) (by decide +kernel) (o_iinc X111 hq d16_37 rfl (z := 4) (k' := 1) rfl (by decide +kernel) rfl (o_goto X111 hq d16_40 (pc := 40) (pc' := 9) (o_iloadN X111 hq d16_9 rfl (o_iloadN X111 hq d16_10 rfl (o_icmpY X111 hq d16_11 (pc := 11) (pc' := 43) (by decide +kernel) (st117 _ ?_)))))))))
   show Steps p.tables e below (T117.setTop (mkF m 46 #[vR a1, vR b14, vI 4, vI 4, vR a9] [(.ref a115)])) _
   jvm_step X117.here [X117.here.top, hx, (hb hby d16_46), X117.method', hret, Value.isRef, FieldType.isReference]
   first | (intro acts; rw [hr _ acts rfl rfl rfl]) | rw [hr _ _ rfl rfl rfl]
   exact Steps.refl _
  ·
   exact Or.inr (⟨u57, rfl, N117, ((Keep.refl h0 []).trans Ku19 all0)⟩)
def Q25_27 (Z : State) (a1 a2 : Addr) (h0 : Heap) (n0 : Nat) (v : Option Value) (h : Heap) (L : List Loc) : Prop := (v = some (.int 1) ∧ Fr n0 L ∧ h = h0)
theorem rm25_27 (l : Launch) (Z : State) (a0 : Array Value) (hw : own_HW Z a0) (a1 a2 : Addr) (h0 : Heap) (n0 : Nat) (O0 : Old Z n0 h0) (F3 : Fld Z h0 a1 C_7 "value" C_8 (.ref a2)) : own_Met l Z M_22 bc25 1 (some .boolean) ({ frames := 0, cells := 0, slots := 0, locals := 0 } : Room) #[(.ref a1)] h0 (Q25_27 Z a1 a2 h0 n0) := by
 refine own_body (L0 := #[vR a1]) (plainFor_of_name pn_7) (fun m => by first | (simp [entryFrame, mkF, argsToLocals, Value.category]; done) | rfl) fun p e s m below meth c s₁ EN hx hby hml hown hnm hret X0 hZ e0 hh pre0 fin => ?_
 have N0 := Fr.nil n0
 have hq := And.intro hx hby
 obtain ⟨T4, X4, e4, st4⟩ := getF X0 hx hZ hown (host := "") (Or.inl (ww118 hw)) Via.refl e0 F3 (g := (mkF m 1 #[vR a1] [(.ref a1)])) rfl rfl (hb hby d25_1)
 refine fin (some (.int 1)) _ _ _ _ X4 nofun (fun fs hr => pre0 _ ?_) (own_atH e4 ?_) (by decide) (by decide)
 ·
  refine o_aloadN X0 hq d25_0 rfl rfl (st4 _ (o_ifnullN X4 hq d25_4 (o_iconst X4 hq d25_7 (x := 1) rfl (o_goto X4 hq d25_8 (pc := 8) (pc' := 12) ?_))))
  exact retN X4 hx (t := .boolean) hret (by simp) (hb hby d25_12) hr
 ·
  exact ⟨rfl, N0, rfl⟩
def Q26_28 (Z : State) (a1 a2 : Addr) (h0 : Heap) (n0 : Nat) (v : Option Value) (h : Heap) (L : List Loc) : Prop := (v = some (.ref a2) ∧ Fr n0 L ∧ h = h0)
theorem rm26_28 (l : Launch) (Z : State) (a0 : Array Value) (hw : own_HW Z a0) (a1 a2 : Addr) (h0 : Heap) (n0 : Nat) (O0 : Old Z n0 h0) (F3 : Fld Z h0 a1 C_7 "value" C_8 (.ref a2)) : own_Met l Z M_23 bc26 1 (some (.object "java/lang/Object")) ({ frames := 0, cells := 0, slots := 0, locals := 0 } : Room) #[(.ref a1)] h0 (Q26_28 Z a1 a2 h0 n0) := by
 refine own_body (L0 := #[vR a1]) (plainFor_of_name pn_7) (fun m => by first | (simp [entryFrame, mkF, argsToLocals, Value.category]; done) | rfl) fun p e s m below meth c s₁ EN hx hby hml hown hnm hret X0 hZ e0 hh pre0 fin => ?_
 have N0 := Fr.nil n0
 have hq := And.intro hx hby
 obtain ⟨T4, X4, e4, st4⟩ := getF X0 hx hZ hown (host := "") (Or.inl (ww118 hw)) Via.refl e0 F3 (g := (mkF m 1 #[vR a1] [(.ref a1)])) rfl rfl (hb hby d26_1)
 obtain ⟨T5, X5, e5, st5⟩ := getF X4 hx hZ hown (host := "") (Or.inl (ww118 hw)) Via.refl e4 F3 (g := (mkF m 18 #[vR a1] [(.ref a1)])) rfl rfl (hb hby d26_18)
 refine fin (some (.ref a2)) _ _ _ _ X5 nofun (fun fs hr => pre0 _ ?_) (own_atH e5 ?_) (by decide) (by decide)
 ·
  refine o_aloadN X0 hq d26_0 rfl rfl (st4 _ (o_ifnonnullY X4 hq d26_4 (pc := 4) (pc' := 17) (o_aloadN X4 hq d26_17 rfl rfl (st5 _ ?_))))
  show Steps p.tables e below (T5.setTop (mkF m 21 #[vR a1] [(.ref a2)])) _
  jvm_step X5.here [X5.here.top, hx, (hb hby d26_21), X5.method', hret, Value.isRef, FieldType.isReference]
  first | (intro acts; rw [hr _ acts rfl rfl rfl]) | rw [hr _ _ rfl rfl rfl]
  exact Steps.refl _
 ·
  exact ⟨rfl, N0, rfl⟩
theorem own_tP {l : Launch} {Z : State} {a0 : Array Value} (hw : own_HW Z a0) {p : Program} {e : Env} {s : State} {m : MethodId} {args : Array Value} {below : List Frame} {meth : Method} {c : Code} {T : State} {locs : List Loc} {cells slots n0 : Nat} {b a : Addr} (X : Stand p l e room_1 s m args below meth c T locs cells slots) (hx : p.tables.exec = Jvm.exec) (hby : c.code = code) (hml : c.maxLocals = 15) (hZ : Z.Warmed39 s.vm) (hown : s.vm.findClass "com/example/stern_warden/sternwarden/model/AccessModeFromNamePinLaw" = some m.cls) (O : Old Z n0 T.heap) (E : Exa Z T.heap b C_7) (F : Fld Z T.heap b C_7 "value" C_8 (.ref a)) (Ls : Array Slot) {Ls' : Array Slot} (hL : Ls' = (storeLocals Ls 14 (.ref b)).getD #[]) (h1 : storeLocals Ls 14 (.ref b) = some Ls' := by rfl) (h13 : Ls'[13]? = some (.val (.int 1)) := by rfl) (h14 : Ls'[14]? = some (.val (.ref b)) := by rfl) (h5 : Ls'[5]? = some (.val (.ref a)) := by rfl) (hsz : Ls'.size = 15 := by rfl) (hc : cells ≤ room_1.cells := by decide) (hs : slots ≤ room_1.slots := by decide) :
  ∃ T' L', Stand p l e room_1 s m args below meth c T' (locs ++ L') cells slots ∧ Fr n0 L' ∧ T'.heap = T.heap ∧ ∀ t, Steps p.tables e below (T'.setTop (mkF m 326 Ls' [.int 1])) t → Steps p.tables e below (T.setTop (mkF m 290 Ls [.ref b])) t := by
 have hq := And.intro hx hby
 obtain ⟨_, T1, L1, X1, hQ1, st1⟩ := own_cV X hx hZ hown (ww140 hw) (ww141 hw) (notFace_of_selects (args := #[]) (mvT hZ (ww143 hw))) (ww143 hw) (ww142 hw) (ww110 hw) (ww144 hw) E (rm25_27 l Z a0 hw b a T.heap n0 O F) rfl pd_2 hml (hb hby at_305) (hsz := hsz) (hc := hc) (hs := hs) (Ls := Ls') (W := 0) (argsL := []) (rest := [])
 obtain ⟨rfl, u1, u2⟩ := hQ1
 obtain ⟨_, T2, L2, X2, hQ2, st2⟩ := own_cV X1 hx hZ hown (ww145 hw) (ww146 hw) (notFace_of_selects (args := #[]) (mvT hZ (ww148 hw))) (ww148 hw) (ww147 hw) (ww110 hw) (ww149 hw) E (rm26_28 l Z a0 hw b a T.heap n0 O F) u2 pd_22 hml (hb hby at_313) (hsz := hsz) (hc := hc) (hs := hs) (Ls := Ls') (W := 0) (argsL := []) (rest := [])
 obtain ⟨rfl, u3, u4⟩ := hQ2
 exact ⟨T2, L1 ++ L2, List.append_assoc _ _ _ ▸ X2, Fr.app u1 u3, u4, fun t k => o_astore X hq at_290 rfl (Ls' := Ls') h1 (o_iload X hq at_292 h13 (o_ifY X hq at_294 (pc := 294) (pc' := 303) (by decide +kernel) (o_aload X hq at_303 h14 rfl (st1 _ (o_ifN X1 hq at_308 (by decide +kernel) (o_aload X1 hq at_311 h14 rfl (st2 _ (o_aload X2 hq at_316 h5 rfl (Jvm.RoadKit.acmp (g := (mkF m 318 Ls' [(.ref a), (.ref a)])) X2 hx rfl rfl rfl (pc0 := 318) (pc' := 321) (same := true) rfl (hb hby at_318) rfl (decide_eq_true rfl) (by decide) (by decide) (o_iconst X2 hq at_321 (x := 1) rfl (o_goto X2 hq at_322 (pc := 322) (pc' := 326) k)))))))))))⟩
def Q21_29 (Z : State) (a1 : Addr) (h0 : Heap) (n0 : Nat) (v : Option Value) (h : Heap) (L : List Loc) : Prop := (v = some (.int 1) ∧ Fr n0 L ∧ h = h0)
theorem rm21_29 (l : Launch) (Z : State) (a0 : Array Value) (hw : own_HW Z a0) (a1 : Addr) (h0 : Heap) (n0 : Nat) (O0 : Old Z n0 h0) (F2 : Fld Z Z.heap a1 C_7 "value" C_8 .null) : own_Met l Z M_24 bc21 1 (some .boolean) ({ frames := 0, cells := 0, slots := 0, locals := 0 } : Room) #[(.ref a1)] h0 (Q21_29 Z a1 h0 n0) := by
 refine own_body (L0 := #[vR a1]) (plainFor_of_name pn_7) (fun m => by first | (simp [entryFrame, mkF, argsToLocals, Value.category]; done) | rfl) fun p e s m below meth c s₁ EN hx hby hml hown hnm hret X0 hZ e0 hh pre0 fin => ?_
 have N0 := Fr.nil n0
 have hq := And.intro hx hby
 obtain ⟨T3, X3, e3, st3⟩ := getF X0 hx hZ hown (host := "") (Or.inl (ww118 hw)) Via.refl e0 (Fld.ext O0.2 F2) (g := (mkF m 1 #[vR a1] [(.ref a1)])) rfl rfl (hb hby d21_1)
 refine fin (some (.int 1)) _ _ _ _ X3 nofun (fun fs hr => pre0 _ ?_) (own_atH e3 ?_) (by decide) (by decide)
 ·
  refine o_aloadN X0 hq d21_0 rfl rfl (st3 _ (o_ifnonnullN X3 hq d21_4 (o_iconst X3 hq d21_7 (x := 1) rfl (o_goto X3 hq d21_8 (pc := 8) (pc' := 12) ?_))))
  exact retN X3 hx (t := .boolean) hret (by simp) (hb hby d21_12) hr
 ·
  exact ⟨rfl, N0, rfl⟩
theorem own_tE {l : Launch} {Z : State} {a0 : Array Value} (hw : own_HW Z a0) {p : Program} {e : Env} {s : State} {m : MethodId} {args : Array Value} {below : List Frame} {meth : Method} {c : Code} {T : State} {locs : List Loc} {cells slots n0 : Nat} {b : Addr} (X : Stand p l e room_1 s m args below meth c T locs cells slots) (hx : p.tables.exec = Jvm.exec) (hby : c.code = code) (hml : c.maxLocals = 15) (hZ : Z.Warmed39 s.vm) (hown : s.vm.findClass "com/example/stern_warden/sternwarden/model/AccessModeFromNamePinLaw" = some m.cls) (O : Old Z n0 T.heap) (E : Exa Z Z.heap b C_7) (F : Fld Z Z.heap b C_7 "value" C_8 .null) (Ls : Array Slot) {Ls' : Array Slot} (hL : Ls' = (storeLocals Ls 14 (.ref b)).getD #[]) (h1 : storeLocals Ls 14 (.ref b) = some Ls' := by rfl) (h13 : Ls'[13]? = some (.val (.int 0)) := by rfl) (h14 : Ls'[14]? = some (.val (.ref b)) := by rfl) (hsz : Ls'.size = 15 := by rfl) (hc : cells ≤ room_1.cells := by decide) (hs : slots ≤ room_1.slots := by decide) :
  ∃ T' L', Stand p l e room_1 s m args below meth c T' (locs ++ L') cells slots ∧ Fr n0 L' ∧ T'.heap = T.heap ∧ ∀ t, Steps p.tables e below (T'.setTop (mkF m 302 Ls' [.int 1])) t → Steps p.tables e below (T.setTop (mkF m 290 Ls [.ref b])) t := by
 have hq := And.intro hx hby
 obtain ⟨_, T', L', X', hQ, st⟩ := own_cV X hx hZ hown (ww113 hw) (ww114 hw) (notFace_of_selects (args := #[]) (mvT hZ (ww116 hw))) (ww116 hw) (ww115 hw) (ww110 hw) (ww117 hw) (Exa.ext O.2 E) (rm21_29 l Z a0 hw b T.heap n0 O F) rfl pd_2 hml (hb hby at_299) (hsz := hsz) (hc := hc) (hs := hs) (Ls := Ls') (W := 0) (argsL := []) (rest := [])
 obtain ⟨rfl, u1, u2⟩ := hQ
 exact ⟨T', L', X', u1, u2, fun t k => o_astore X hq at_290 rfl (Ls' := Ls') h1 (o_iload X hq at_292 h13 (o_ifN X hq at_294 (by decide +kernel) (o_aload X hq at_297 h14 rfl (st _ k))))⟩
def Q11_32 (Z : State) (a1 a2 : Addr) (h0 : Heap) (n0 : Nat) (v : Option Value) (h : Heap) (L : List Loc) : Prop := (∃ (bv4 : Addr) (k4 : ClassId), v = none ∧ Fr n0 L ∧ bv4 < h.size ∧ Keep h0 h [a1] ∧ Exa Z h a1 C_2 ∧ Fld Z h a1 C_2 "coder" "B" (.int 0) ∧ Fld Z h a1 C_2 "value" "[B" (.ref bv4) ∧ Arv Z h bv4 k4 .byte 0 [] (.int 0))
theorem rm11_32 (l : Launch) (Z : State) (a0 : Array Value) (hw : own_HW Z a0) (a1 a2 : Addr) (h0 : Heap) (n0 : Nat) (O0 : Old Z n0 h0) (E_6 : Exa Z h0 a1 C_2) (F7 : Fld Z h0 a1 C_2 "coder" "B" (.int 0)) (F8 : Fld Z h0 a1 C_2 "value" "[B" .null) (g_a1 : n0 ≤ a1) (lt_a1 : a1 < h0.size) : own_MetH l Z M_11 bc11 6 none ({ frames := 1, cells := 4, slots := 8, locals := 12 } : Room) #[(.ref a1), (.ref a2), (.int 0), (.int 0), .null] h0 (Q11_32 Z a1 a2 h0 n0) := by
 refine own_bodyH (L0 := #[vR a1, vR a2, vI 0, vI 0, vN, .unset]) (plainFor_of_name pn_0) (fun m => by first | (simp [entryFrame, mkF, argsToLocals, Value.category]; done) | rfl) (own_EW hw) fun p e s m below meth c s₁ EN hx hby hml hown hnm hret X0 hZ e0 hh pre0 hCH fin => ?_
 have N0 := Fr.nil n0
 have hq := And.intro hx hby
 have Y0 : h0.size ≤ h0.size := Nat.le_refl _
 have hS0 : s.Since s.vm h0.size := (State.WarmedH.refl s).since _
 have CR0 : CHr Z own_EL s.vm h0 s.vm h0 := CHr.refl hCH
 obtain ⟨T3, X3, e3, st3⟩ := initO X0 hx hZ hown (ww63 hw) (ww64 hw) (ww65 hw) e0 (g := (mkF m 1 #[vR a1, vR a2, vI 0, vI 0, vN, .unset] [(.ref a1)])) rfl (by rw [hml]; rfl) rfl (hb hby d11_1) (by decide) (W := 0) (by show 2 * 0 + _ ≤ _; exact Nat.le_of_eq rfl) (by decide)
 obtain ⟨b4, T4, h4, kk4, bv4, k4, X4, e4, E4, hS4, hk4, hZ4, hown4, A4, Fc4, Fv4, V4, lta4, ltb4, cg4, Lt4, ns4, st4⟩ := ldcCH (s := s) (vm0 := s.vm) (EL := own_EL) X3 hx hZ hown (ww150 hw) (own_wS hw) e3 hS0 Y0 (own_EW hw) (by decide) CR0.1 (vs := []) (z := 0) (by decide +kernel) (by decide +kernel) (by decide +kernel) (g := (mkF m 9 #[vR a1, vR a2, vI 0, vI 0, vN, .unset] [(.ref a1)])) rfl (hb hby d11_9) (n := 0) (by decide +kernel) (by decide) (by decide) (by decide)
 have ch4 := cg4
 have CR4 := CR0.trans ch4
 obtain ⟨T5, X5, e5, st5⟩ := getF X4 hx hZ4 hown4 (host := "") (Or.inl (ww16 hw)) Via.refl e4 Fv4 (g := (mkF m 11 #[vR a1, vR a2, vI 0, vI 0, vN, .unset] [(.ref b4), (.ref a1)])) rfl rfl (hb hby d11_11)
 have f10 := (Exa.ext E4 E_6)
 have f11 := (Fld.ext E4 F8)
 have sf9 : Safe Z own_EL T4.vm h4 a1 := own_safeNull hZ4.alike f10 f11
 obtain ⟨T12, h12, X12, e12, W12, st12⟩ := putF X5 hx hZ4 hown4 (host := "") (Or.inl (ww16 hw)) Via.refl e5 f11 f10 (Or.inr ⟨(ww7 hw), rfl, hnm⟩) (ww5 hw) (ty := (.array .byte)) (by decide) rfl rfl (g := (mkF m 14 #[vR a1, vR a2, vI 0, vI 0, vN, .unset] [(.ref bv4), (.ref a1)])) rfl rfl (hb hby d11_14)
 have ch12 := CHr.wr W12 sf9 CR4.1
 have CR12 := CR4.trans ch12
 have Fw12 : Fld Z h12 a1 C_2 "value" "[B" (.ref bv4) := Fld.same W12 f11
 have N12 := Fr.snoc X12 N0 g_a1
 obtain ⟨b13, T13, h13, kk13, bv13, k13, X13, e13, E13, hS13, hk13, hZ13, hown13, A13, Fc13, Fv13, V13, lta13, ltb13, cg13, Lt13, ns13, st13⟩ := ldcCH (s := s) (vm0 := T4.vm) (EL := own_EL) X12 hx hZ4 hown4 (ww150 hw) (own_wS hw) e12 hS4 (Nat.le_trans hk4 (Keep.of_wr W12).1) (own_EW hw) (by decide) CR12.1 (vs := []) (z := 0) (by decide +kernel) (by decide +kernel) (by decide +kernel) (g := (mkF m 18 #[vR a1, vR a2, vI 0, vI 0, vN, .unset] [(.ref a1)])) rfl (hb hby d11_18) (n := 0) (by decide +kernel) (by decide) (by decide) (by decide)
 have ch13 := cg13
 have CR13 := CR12.trans ch13
 obtain ⟨T14, X14, e14, st14⟩ := getF X13 hx hZ13 hown13 (host := "") (Or.inl (ww23 hw)) Via.refl e13 Fc13 (g := (mkF m 20 #[vR a1, vR a2, vI 0, vI 0, vN, .unset] [(.ref b13), (.ref a1)])) rfl rfl (hb hby d11_20)
 have sf15 : Safe Z own_EL T13.vm h13 a1 := (ch13.safe (own_t (own_t lt_a1 E4.1) (Keep.of_wr W12).1) (ch12.safe (own_t lt_a1 E4.1) sf9))
 have f16 := (Fld.ext E13 (Fld.other W12 (Fld.ext E4 F7) (Or.inr (own_sl1 hw))))
 have f17 := (Exa.ext E13 (Exa.wr W12 f10))
 obtain ⟨T18, h18, X18, e18, W18, st18⟩ := putFN X14 hx hZ13 hown13 (ww23 hw) Via.refl e14 f16 f17 (Or.inr ⟨(ww8 hw), rfl, hnm⟩) (ww5 hw) (ty := .byte) (v' := (.int 0)) (by decide) (by exact congrArg Value.int (by decide +kernel : (nar .byte (0 : Int32)) = (0 : Int32))) ((by decide +kernel : (nar .byte (0 : Int32)) = (0 : Int32)) ▸ fits_nar_byte _) (g := (mkF m 23 #[vR a1, vR a2, vI 0, vI 0, vN, .unset] [(.int 0), (.ref a1)])) rfl rfl (hb hby d11_23)
 have ch18 := CHr.wr W18 sf15 CR13.1
 have CR18 := CR13.trans ch18
 have Fw18 : Fld Z h18 a1 C_2 "coder" "B" (.int 0) := Fld.same W18 f16
 have N18 := Fr.snoc X18 N12 g_a1
 have f19 := (Exa.wr W18 f17)
 have f20 := (Fld.other W18 (Fld.ext E13 Fw12) (Or.inr (own_sl0 hw)))
 have f21 := (((V4.other W12 (Ne.symm (ns4 a1 sf9).2)).ext E13).other W18 (Ne.symm (ns4 a1 sf9).2))
 refine fin none _ _ _ _ T13.vm _ X18 hS13 (by rw [e18]; exact (Nat.le_trans hk13 (Keep.of_wr W18).1)) (fun _ => rfl) (fun fs hr => pre0 _ ?_) (own_atH e18 ?_) hZ13 (by rw [e18]; exact CR18) (by decide) (by decide)
 ·
  refine o_aloadN X0 hq d11_0 rfl rfl (st3 _ (o_iloadN X3 hq d11_4 rfl (o_ifN X3 hq d11_5 (by decide +kernel) (o_aloadN X3 hq d11_8 rfl rfl (st4 _ (st5 _ (st12 _ (o_aloadN X12 hq d11_17 rfl rfl (st13 _ (st14 _ (st18 _ ?_)))))))))))
  exact X18.returnOut hx hret (hb hby d11_26) hr
 ·
  exact ⟨bv4, k4, rfl, N18, (own_t (own_t (own_t ltb4 (Keep.of_wr W12).1) E13.1) (Keep.of_wr W18).1), (((((Keep.refl h0 [a1]).ext E4).wr W12 (Or.inl (List.mem_of_getElem? (i := 0) rfl))).ext E13).wr W18 (Or.inl (List.mem_of_getElem? (i := 0) rfl))), f19, Fw18, f20, f21⟩
def Q10_31 (Z : State) (a1 a2 : Addr) (k3 : ClassId) (h0 : Heap) (n0 : Nat) (v : Option Value) (h : Heap) (L : List Loc) : Prop := (∃ (b9 : Addr) (k10 : ClassId), v = none ∧ Fr n0 L ∧ b9 < h.size ∧ Keep h0 h [a1] ∧ Exa Z h a1 C_2 ∧ Fld Z h a1 C_2 "coder" "B" (.int 0) ∧ Fld Z h a1 C_2 "value" "[B" (.ref b9) ∧ Arv Z h b9 k10 .byte 0 [] (.int 0))
theorem rm10_31 (l : Launch) (Z : State) (a0 : Array Value) (hw : own_HW Z a0) (a1 a2 : Addr) (k3 : ClassId) (h0 : Heap) (n0 : Nat) (O0 : Old Z n0 h0) (V4 : Arv Z h0 a2 k3 .char 0 [] (.int 0)) (E_5 : Exa Z h0 a1 C_2) (F6 : Fld Z h0 a1 C_2 "coder" "B" (.int 0)) (F7 : Fld Z h0 a1 C_2 "value" "[B" .null) (g_a1 : n0 ≤ a1) (lt_a1 : a1 < h0.size) : own_MetH l Z M_12 bc10 2 none ({ frames := 2, cells := 4, slots := 8, locals := 29 } : Room) #[(.ref a1), (.ref a2)] h0 (Q10_31 Z a1 a2 k3 h0 n0) := by
 refine own_bodyH (L0 := #[vR a1, vR a2]) (plainFor_of_name pn_0) (fun m => by first | (simp [entryFrame, mkF, argsToLocals, Value.category]; done) | rfl) (own_EW hw) fun p e s m below meth c s₁ EN hx hby hml hown hnm hret X0 hZ e0 hh pre0 hCH fin => ?_
 have N0 := Fr.nil n0
 have hq := And.intro hx hby
 have Y0 : h0.size ≤ h0.size := Nat.le_refl _
 have hS0 : s.Since s.vm h0.size := (State.WarmedH.refl s).since _
 have CR0 : CHr Z own_EL s.vm h0 s.vm h0 := CHr.refl hCH
 obtain ⟨_, T8, L8, X8, hS8, hZ8, hown8, cg8, hQ8, st8⟩ := own_cIH (s := s) (vm0 := s.vm) X0 hx hZ hown hS0 Y0 (own_EW hw) CR0.1 (ww59 hw) (ww60 hw) (ww4 hw) (ww62 hw) (rm11_32 l Z a0 hw a1 a2 h0 n0 O0 E_5 F6 F7 g_a1 lt_a1) e0 pd_11 hml (hb hby d10_6) (Ls := #[vR a1, vR a2]) (W := 0) (argsL := [(.ref a2), (.int 0), (.int 0), .null]) (rest := []) (b := a1)
 obtain ⟨b9, k10, rfl, u12, u13, Ku14, u15, u16, u17, u18⟩ := hQ8
 have chu14 := cg8
 have CRu14 := CR0.trans chu14
 have N8 := Fr.app N0 u12
 refine fin none _ _ _ _ T8.vm _ X8 hS8 (Nat.le_refl _) (fun _ => rfl) (fun fs hr => pre0 _ ?_) ?_ hZ8 CRu14 (by decide) (by decide)
 ·
  refine o_aloadN X0 hq d10_0 rfl rfl (o_aloadN X0 hq d10_1 rfl rfl (o_iconst X0 hq d10_2 (x := 0) rfl (o_aloadN X0 hq d10_3 rfl rfl (o_alen X0 hq d10_4 hZ e0 V4 (o_null X0 hq d10_5 (st8 _ ?_))))))
  exact X8.returnOut hx hret (hb hby d10_9) hr
 ·
  exact ⟨b9, k10, rfl, N8, u13, ((Keep.refl h0 [a1]).trans Ku14 (allS (Or.inl (List.mem_of_getElem? (i := 0) rfl)) all0)), u15, u16, u17, u18⟩
def Q9_30 (Z : State) (a1 : Addr) (h0 : Heap) (n0 : Nat) (v : Option Value) (h : Heap) (L : List Loc) : Prop := (∃ (b2 b8 : Addr) (k9 : ClassId), v = some (.ref b2) ∧ Fr n0 L ∧ h0.size ≤ b2 ∧ b2 < h.size ∧ b8 < h.size ∧ Keep h0 h [] ∧ Exa Z h b2 C_2 ∧ Fld Z h b2 C_2 "coder" "B" (.int 0) ∧ Fld Z h b2 C_2 "value" "[B" (.ref b8) ∧ Arv Z h b8 k9 .byte 0 [] (.int 0))
theorem rm9_30 (l : Launch) (Z : State) (a0 : Array Value) (hw : own_HW Z a0) (a1 : Addr) (h0 : Heap) (n0 : Nat) (O0 : Old Z n0 h0) : own_MetH l Z M_13 bc9 2 (some (.object "java/lang/String")) ({ frames := 3, cells := 6, slots := 12, locals := 43 } : Room) #[(.ref a1), (.int 0)] h0 (Q9_30 Z a1 h0 n0) := by
 refine own_bodyH (L0 := #[vR a1, vI 0]) (plainFor_of_name pn_3) (fun m => by first | (simp [entryFrame, mkF, argsToLocals, Value.category]; done) | rfl) (own_EW hw) fun p e s m below meth c s₁ EN hx hby hml hown hnm hret X0 hZ e0 hh pre0 hCH fin => ?_
 have N0 := Fr.nil n0
 have hq := And.intro hx hby
 have Y0 : h0.size ≤ h0.size := Nat.le_refl _
 have hS0 : s.Since s.vm h0.size := (State.WarmedH.refl s).since _
 have CR0 : CHr Z own_EL s.vm h0 s.vm h0 := CHr.refl hCH
 obtain ⟨T2, h2, X2, e2, E2, A2, D2, -, st2⟩ := newO X0 hx hZ hown (ww55 hw) (ww5 hw) (ww4 hw) e0 (g := (mkF m 4 #[vR a1, vI 0] [])) rfl (hb hby d9_4) (by decide) (by decide)
 obtain ⟨b2, g2⟩ : ∃ z, z = h0.size := ⟨_, rfl⟩
 rw [← g2] at A2 D2 st2
 have O2 := O0.ext E2
 have ch2 := CHr.ext E2 CR0.1
 have CR2 := CR0.trans ch2
 have bd_b2 : h0.size ≤ b2 := Nat.le_of_eq g2.symm
 have g_b2 : n0 ≤ b2 := Nat.le_trans (own_z O0) bd_b2
 have sz_b2 : h0.size ≤ b2 := Nat.le_trans (Nat.le_refl _) bd_b2
 have lt_b2 : b2 < h2.size := A2.lt
 have D2_7 : Fld Z h2 b2 C_2 "value" "[B" .null := D2 (Or.inr (ww7 hw)) (ty := (.array .byte)) (by decide)
 have D2_8 : Fld Z h2 b2 C_2 "coder" "B" (.int 0) := D2 (Or.inr (ww8 hw)) (ty := .byte) (by decide)
 obtain ⟨T3, h3, k3, X3, e3, E3, A3, Ex3, st3⟩ := newPE (aty := .char) X2 hx hZ (ww24 hw) e2 (g := (mkF m 9 #[vR a1, vI 0] [(.int 0), (.ref b2), (.ref b2)])) rfl (hb hby d9_9) rfl (by decide +kernel) (cap := 0) (by decide +kernel) (by decide) (by decide) (by decide) (ad := "[C") (by decide +kernel)
 obtain ⟨b3, g3⟩ : ∃ z, z = h2.size := ⟨_, rfl⟩
 rw [← g3] at A3 Ex3 st3
 have O3 := O2.ext E3
 have ch3 := CHr.ext E3 CR2.1
 have CR3 := CR2.trans ch3
 have V3 : Arv Z h3 b3 k3 .char 0 [] (.int 0) := Arv.new A3 (by decide +kernel)
 have f4 := (Exa.ext E3 A2)
 have f5 := (Fld.ext E3 D2_8)
 have f6 := (Fld.ext E3 D2_7)
 obtain ⟨_, T7, L7, X7, hS7, hZ7, hown7, cg7, hQ7, st7⟩ := own_cIH (s := s) (vm0 := s.vm) X3 hx hZ hown hS0 (Nat.le_trans (Nat.le_trans Y0 E2.1) E3.1) (own_EW hw) CR3.1 (ww56 hw) (ww57 hw) (ww4 hw) (ww58 hw) (rm10_31 l Z a0 hw b2 b3 k3 h3 n0 O3 V3 f4 f5 f6 g_b2 (own_t lt_b2 E3.1)) e3 pd_12 hml (hb hby d9_11) (Ls := #[vR a1, vI 0]) (W := 1) (argsL := [(.ref b3)]) (rest := [(.ref b2)]) (b := b2)
 obtain ⟨b8, k9, rfl, u11, u12, Ku13, u14, u15, u16, u17⟩ := hQ7
 have chu13 := cg7
 have CRu13 := CR3.trans chu13
 have N7 := Fr.app N0 u11
 refine fin (some (.ref b2)) _ _ _ _ T7.vm _ X7 hS7 (Nat.le_refl _) nofun (fun fs hr => pre0 _ ?_) ?_ hZ7 CRu13 (by decide) (by decide)
 ·
  refine o_iloadN X0 hq d9_0 rfl (o_ifN X0 hq d9_1 (by decide +kernel) (st2 _ (o_dup X2 hq d9_7 rfl (o_iconst X2 hq d9_8 (x := 0) rfl (st3 _ (st7 _ ?_))))))
  show Steps p.tables e below (T7.setTop (mkF m 14 #[vR a1, vI 0] [(.ref b2)])) _
  jvm_step X7.here [X7.here.top, hx, (hb hby d9_14), X7.method', hret, Value.isRef, FieldType.isReference]
  first | (intro acts; rw [hr _ acts rfl rfl rfl]) | rw [hr _ _ rfl rfl rfl]
  exact Steps.refl _
 ·
  exact ⟨b2, b8, k9, rfl, N7, sz_b2, (own_t (own_t lt_b2 E3.1) Ku13.1), u12, ((((Keep.refl h0 []).ext E2).ext E3).trans Ku13 (allS (Or.inr sz_b2) all0)), u14, u15, u16, u17⟩
def Q19_35 (Z : State) (a1 a2 : Addr) (vl3 : List Value) (p4 : Int32) (k5 : ClassId) (vl7 : List Value) (p8 : Int32) (k9 : ClassId) (h0 : Heap) (n0 : Nat) (v : Option Value) (h : Heap) (L : List Loc) : Prop := (v = some (.int 0) ∧ Fr n0 L ∧ h = h0)
theorem rm19_35 (l : Launch) (Z : State) (a0 : Array Value) (hw : own_HW Z a0) (a1 a2 : Addr) (vl3 : List Value) (p4 : Int32) (k5 : ClassId) (vl7 : List Value) (p8 : Int32) (k9 : ClassId) (h0 : Heap) (n0 : Nat) (O0 : Old Z n0 h0) (V6 : Arv Z Z.heap a1 k5 .byte p4 vl3 (.int 0)) (V10 : Arv Z h0 a2 k9 .byte p8 vl7 (.int 0)) (hk11 : ¬ (p4 = p8)) : own_Met l Z M_15 bc19 3 (some .boolean) ({ frames := 0, cells := 0, slots := 0, locals := 0 } : Room) #[(.ref a1), (.ref a2)] h0 (Q19_35 Z a1 a2 vl3 p4 k5 vl7 p8 k9 h0 n0) := by
 refine own_body (L0 := #[vR a1, vR a2, .unset]) (plainFor_of_name pn_2) (fun m => by first | (simp [entryFrame, mkF, argsToLocals, Value.category]; done) | rfl) fun p e s m below meth c s₁ EN hx hby hml hown hnm hret X0 hZ e0 hh pre0 fin => ?_
 have N0 := Fr.nil n0
 have hq := And.intro hx hby
 refine fin (some (.int 0)) _ _ _ _ X0 nofun (fun fs hr => pre0 _ ?_) (own_atH e0 ?_) (by decide) (by decide)
 ·
  refine o_aloadN X0 hq d19_0 rfl rfl (o_alen X0 hq d19_1 hZ e0 (V6.ext O0.2) (o_aloadN X0 hq d19_2 rfl rfl (o_alen X0 hq d19_3 hZ e0 V10 (o_icmpY X0 hq d19_4 (pc := 4) (pc' := 34) (feq hk11).2 (o_iconst X0 hq d19_34 (x := 0) rfl ?_)))))
  exact retN X0 hx (t := .boolean) hret (by simp) (hb hby d19_35) hr
 ·
  exact ⟨rfl, N0, rfl⟩
def Q18_34 (Z : State) (a1 a2 : Addr) (p7 : Int32) (a15 a18 : Addr) (vl21 : List Value) (p22 : Int32) (k23 : ClassId) (vl25 : List Value) (p26 : Int32) (k27 : ClassId) (h0 : Heap) (n0 : Nat) (v : Option Value) (h : Heap) (L : List Loc) : Prop := (v = some (.int 0) ∧ Fr n0 L ∧ h = h0)
theorem rm18_34 (l : Launch) (Z : State) (a0 : Array Value) (hw : own_HW Z a0) (a1 a2 : Addr) (p7 : Int32) (a15 a18 : Addr) (vl21 : List Value) (p22 : Int32) (k23 : ClassId) (vl25 : List Value) (p26 : Int32) (k27 : ClassId) (h0 : Heap) (n0 : Nat) (O0 : Old Z n0 h0) (hne3 : a1 ≠ a2) (E_4 : Exa Z h0 a2 C_2) (S_8 : Sta Z Z.heap C_2 "COMPACT_STRINGS" "Z" (.int p7)) (hk10 : ¬ (p7 = 0)) (F11 : Fld Z Z.heap a1 C_2 "coder" "B" (.int 0)) (F13 : Fld Z h0 a2 C_2 "coder" "B" (.int 0)) (F16 : Fld Z Z.heap a1 C_2 "value" "[B" (.ref a15)) (F19 : Fld Z h0 a2 C_2 "value" "[B" (.ref a18)) (V24 : Arv Z Z.heap a15 k23 .byte p22 vl21 (.int 0)) (V28 : Arv Z h0 a18 k27 .byte p26 vl25 (.int 0)) (hk29 : ¬ (p22 = p26)) : own_Met l Z M_16 bc18 3 (some .boolean) ({ frames := 1, cells := 0, slots := 0, locals := 14 } : Room) #[(.ref a1), (.ref a2)] h0 (Q18_34 Z a1 a2 p7 a15 a18 vl21 p22 k23 vl25 p26 k27 h0 n0) := by
 refine own_body (L0 := #[vR a1, vR a2, .unset]) (plainFor_of_name pn_0) (fun m => by first | (simp [entryFrame, mkF, argsToLocals, Value.category]; done) | rfl) fun p e s m below meth c s₁ EN hx hby hml hown hnm hret X0 hZ e0 hh pre0 fin => ?_
 have N0 := Fr.nil n0
 have hq := And.intro hx hby
 obtain ⟨T5, X5, e5, st5⟩ := instY X0 hx hZ hown (ww104 hw) e0 (Ins.self E_4) (g := (mkF m 8 #[vR a1, vR a2, .unset] [(.ref a2)])) rfl rfl (hb hby d18_8)
 obtain ⟨T6, X6, e6, st6⟩ := castY X5 hx hZ hown (ww104 hw) e5 (Ins.self E_4) (g := (mkF m 15 #[vR a1, vR a2, .unset] [(.ref a2)])) rfl rfl (hb hby d18_15)
 obtain ⟨T9, X9, e9, st9⟩ := getS2 X6 hx hZ hown (host := "") (Or.inl (ww22 hw)) Via.refl e6 (Sta.ext O0.2 S_8) (g := (mkF m 19 #[vR a1, vR a2, vR a2] [])) rfl (hb hby d18_19)
 obtain ⟨T12, X12, e12, st12⟩ := getF X9 hx hZ hown (host := "") (Or.inl (ww23 hw)) Via.refl e9 (Fld.ext O0.2 F11) (g := (mkF m 26 #[vR a1, vR a2, vR a2] [(.ref a1)])) rfl rfl (hb hby d18_26)
 obtain ⟨T14, X14, e14, st14⟩ := getF X12 hx hZ hown (host := "") (Or.inl (ww23 hw)) Via.refl e12 F13 (g := (mkF m 30 #[vR a1, vR a2, vR a2] [(.ref a2), (.int 0)])) rfl rfl (hb hby d18_30)
 obtain ⟨T17, X17, e17, st17⟩ := getF X14 hx hZ hown (host := "") (Or.inl (ww16 hw)) Via.refl e14 (Fld.ext O0.2 F16) (g := (mkF m 37 #[vR a1, vR a2, vR a2] [(.ref a1)])) rfl rfl (hb hby d18_37)
 obtain ⟨T20, X20, e20, st20⟩ := getF X17 hx hZ hown (host := "") (Or.inl (ww16 hw)) Via.refl e17 F19 (g := (mkF m 41 #[vR a1, vR a2, vR a2] [(.ref a2), (.ref a15)])) rfl rfl (hb hby d18_41)
 obtain ⟨_, T30, L30, X30, hQ30, st30⟩ := own_cS X20 hx hZ hown (ww105 hw) (ww106 hw) (ww41 hw) (ww107 hw) (rm19_35 l Z a0 hw a15 a18 _ p22 k23 _ p26 k27 h0 n0 O0 V24 V28 hk29) e20 pd_15 hml (hb hby d18_44) (Ls := #[vR a1, vR a2, vR a2]) (W := 0) (argsL := [(.ref a15), (.ref a18)]) (rest := [])
 obtain ⟨rfl, u32, u33⟩ := hQ30
 have N30 := Fr.app N0 u32
 refine fin (some (.int 0)) _ _ _ _ X30 nofun (fun fs hr => pre0 _ ?_) (own_atH u33 ?_) (by decide) (by decide)
 ·
  refine o_aloadN X0 hq d18_0 rfl rfl (o_aloadN X0 hq d18_1 rfl rfl (Jvm.RoadKit.acmp (g := (mkF m 2 #[vR a1, vR a2, .unset] [(.ref a2), (.ref a1)])) X0 hx rfl rfl rfl (pc0 := 2) (pc' := 7) (same := false) rfl (hb hby d18_2) rfl (decide_eq_false fun q => hne3 (Value.ref.inj q)) (by decide) (by decide) (o_aloadN X0 hq d18_7 rfl rfl (st5 _ (o_ifN X5 hq d18_11 (by decide +kernel) (o_aloadN X5 hq d18_14 rfl rfl (st6 _ (o_astoreN X6 hq d18_18 rfl rfl (st9 _ (o_ifN X9 hq d18_22 ((if0 _ _).trans (feq hk10).1) (o_aloadN X9 hq d18_25 rfl rfl (st12 _ (o_aloadN X12 hq d18_29 rfl rfl (st14 _ (o_icmpN X14 hq d18_33 (by decide +kernel) (o_aloadN X14 hq d18_36 rfl rfl (st17 _ (o_aloadN X17 hq d18_40 rfl rfl (st20 _ (st30 _ (o_ifY X30 hq d18_47 (pc := 47) (pc' := 54) (by decide +kernel) (o_iconst X30 hq d18_54 (x := 0) rfl ?_))))))))))))))))))))))
  exact retN X30 hx (t := .boolean) hret (by simp) (hb hby d18_55) hr
 ·
  exact ⟨rfl, N30, rfl⟩
def Q16_33 (Z : State) (a1 a2 : Addr) (a4 a6 : Addr) (a7 a8 a9 : Addr) (k10 : ClassId) (a23 : Addr) (p29 : Int32) (a34 : Addr) (k36 : ClassId) (vl38 : List Value) (p39 : Int32) (k40 : ClassId) (a52 a58 : Addr) (k60 : ClassId) (a68 a74 : Addr) (k76 : ClassId) (a84 a90 : Addr) (k92 : ClassId) (a99 : Addr) (h0 : Heap) (n0 : Nat) (v : Option Value) (h : Heap) (L : List Loc) : Prop := (v = some (.ref a99) ∧ Fr n0 L ∧ Keep h0 h [])
theorem rm16_33 (l : Launch) (Z : State) (a0 : Array Value) (hw : own_HW Z a0) (a1 a2 : Addr) (a4 a6 : Addr) (a7 a8 a9 : Addr) (k10 : ClassId) (a23 : Addr) (p29 : Int32) (a34 : Addr) (k36 : ClassId) (vl38 : List Value) (p39 : Int32) (k40 : ClassId) (a52 a58 : Addr) (k60 : ClassId) (a68 a74 : Addr) (k76 : ClassId) (a84 a90 : Addr) (k92 : ClassId) (a99 : Addr) (h0 : Heap) (n0 : Nat) (O0 : Old Z n0 h0) (S_3 : Sta Z Z.heap C_0 "$VALUES" C_6 (.ref a2)) (F5 : Fld Z h0 a1 C_2 "value" "[B" (.ref a4)) (V11 : Arv Z Z.heap a2 k10 (.object "com/example/stern_warden/sternwarden/model/AccessMode") (4 : Int32) [(.ref a6), (.ref a7), (.ref a8), (.ref a9)] .null) (E_12 : Exa Z Z.heap a2 C_6) (F24 : Fld Z Z.heap a6 C_0 "localName" C_5 (.ref a23)) (E_26 : Exa Z Z.heap a23 C_2) (hne27 : a23 ≠ a1) (E_28 : Exa Z h0 a1 C_2) (S_30 : Sta Z Z.heap C_2 "COMPACT_STRINGS" "Z" (.int p29)) (hk31 : ¬ (p29 = 0)) (F32 : Fld Z Z.heap a23 C_2 "coder" "B" (.int 0)) (F33 : Fld Z h0 a1 C_2 "coder" "B" (.int 0)) (F35 : Fld Z Z.heap a23 C_2 "value" "[B" (.ref a34)) (V37 : Arv Z Z.heap a34 k36 .byte 4 [(.int 82), (.int 101), (.int 97), (.int 100)] (.int 0)) (V41 : Arv Z h0 a4 k40 .byte p39 vl38 (.int 0)) (hk42 : ¬ (4 = p39)) (F53 : Fld Z Z.heap a7 C_0 "localName" C_5 (.ref a52)) (E_55 : Exa Z Z.heap a52 C_2) (hne56 : a52 ≠ a1) (F57 : Fld Z Z.heap a52 C_2 "coder" "B" (.int 0)) (F59 : Fld Z Z.heap a52 C_2 "value" "[B" (.ref a58)) (V61 : Arv Z Z.heap a58 k60 .byte 5 [(.int 87), (.int 114), (.int 105), (.int 116), (.int 101)] (.int 0)) (hk62 : ¬ (5 = p39)) (F69 : Fld Z Z.heap a8 C_0 "localName" C_5 (.ref a68)) (E_71 : Exa Z Z.heap a68 C_2) (hne72 : a68 ≠ a1) (F73 : Fld Z Z.heap a68 C_2 "coder" "B" (.int 0)) (F75 : Fld Z Z.heap a68 C_2 "value" "[B" (.ref a74)) (V77 : Arv Z Z.heap a74 k76 .byte 6 [(.int 65), (.int 112), (.int 112), (.int 101), (.int 110), (.int 100)] (.int 0)) (hk78 : ¬ (6 = p39)) (F85 : Fld Z Z.heap a9 C_0 "localName" C_5 (.ref a84)) (E_87 : Exa Z Z.heap a84 C_2) (hne88 : a84 ≠ a1) (F89 : Fld Z Z.heap a84 C_2 "coder" "B" (.int 0)) (F91 : Fld Z Z.heap a84 C_2 "value" "[B" (.ref a90)) (V93 : Arv Z Z.heap a90 k92 .byte 7 [(.int 67), (.int 111), (.int 110), (.int 116), (.int 114), (.int 111), (.int 108)] (.int 0)) (hk94 : ¬ (7 = p39)) (S_100 : Sta Z Z.heap C_7 "EMPTY" C_9 (.ref a99)) : own_Met l Z M_21 bc16 5 (some (.object "java/util/Optional")) ({ frames := 2, cells := 1, slots := 4, locals := 28 } : Room) #[(.ref a1)] h0 (Q16_33 Z a1 a2 a4 a6 a7 a8 a9 k10 a23 p29 a34 k36 vl38 p39 k40 a52 a58 k60 a68 a74 k76 a84 a90 k92 a99 h0 n0) := by
 refine own_body (L0 := #[vR a1, .unset, .unset, .unset, .unset]) (plainFor_of_name pn_5) (fun m => by first | (simp [entryFrame, mkF, argsToLocals, Value.category]; done) | rfl) fun p e s m below meth c s₁ EN hx hby hml hown hnm hret X0 hZ e0 hh pre0 fin => ?_
 have N0 := Fr.nil n0
 have hq := And.intro hx hby
 obtain ⟨_, T13, L13, X13, hQ13, st13⟩ := own_cS X0 hx hZ hown (ww79 hw) (ww80 hw) (ww1 hw) (ww81 hw) (rm17_18 l Z a0 hw a2 a6 a7 a8 a9 k10 h0 n0 O0 S_3 V11 E_12) e0 pd_14 hml (hb hby d16_0) (Ls := #[vR a1, .unset, .unset, .unset, .unset]) (W := 0) (argsL := []) (rest := [])
 obtain ⟨b14, rfl, u16, u17, u18, Ku19, u20, u21⟩ := hQ13
 have Ou19 := O0.keep Ku19 all0
 have N13 := Fr.app N0 u16
 obtain ⟨cl22, Ar22, -, Sz22, -, Hh22, -⟩ := id u21
 have hin22 : ¬ ((0 : Int32) < 0 ∨ cl22.slots.size ≤ ((0 : Int32)).toNatClampNeg) := inb_of Sz22 ⟨by decide +kernel, by decide +kernel⟩
 have hat22 : cl22.slots[((0 : Int32)).toNatClampNeg]? = some (.ref a6) := Has.at Hh22 hin22 rfl
 obtain ⟨T25, X25, e25, st25⟩ := getF X13 hx hZ hown (host := "") (Or.inl (ww97 hw)) Via.refl rfl (Fld.ext Ou19.2 F24) (g := (mkF m 21 #[vR a1, vR b14, vI 4, vI 0, vR a6] [(.ref a6)])) rfl rfl (hb hby d16_21)
 have f43 := (E_28.keep Ku19)
 have f44 := (F33.keep Ku19 nin0)
 have f45 := (F5.keep Ku19 nin0)
 have f46 := (V41.keep Ku19 nin0)
 obtain ⟨_, T47, L47, X47, hQ47, st47⟩ := own_cV X25 hx hZ hown (ww99 hw) (ww100 hw) (notFace_of_selects (args := #[]) (mvT hZ (ww102 hw))) (ww102 hw) (ww101 hw) (ww4 hw) (ww103 hw) (Exa.ext Ou19.2 E_26) (rm18_34 l Z a0 hw a23 a1 p29 a34 a4 _ 4 k36 _ p39 k40 T13.heap n0 Ou19 hne27 f43 S_30 hk31 F32 f44 F35 f45 V37 f46 hk42) e25 pd_16 hml (hb hby d16_25) (Ls := #[vR a1, vR b14, vI 4, vI 0, vR a6]) (W := 0) (argsL := [(.ref a1)]) (rest := [])
 obtain ⟨rfl, u49, u50⟩ := hQ47
 have N47 := Fr.app N13 u49
 obtain ⟨cl51, Ar51, -, Sz51, -, Hh51, -⟩ := id u21
 have hin51 : ¬ ((1 : Int32) < 0 ∨ cl51.slots.size ≤ ((1 : Int32)).toNatClampNeg) := inb_of Sz51 ⟨by decide +kernel, by decide +kernel⟩
 have hat51 : cl51.slots[((1 : Int32)).toNatClampNeg]? = some (.ref a7) := Has.at Hh51 hin51 rfl
 obtain ⟨T54, X54, e54, st54⟩ := getF X47 hx hZ hown (host := "") (Or.inl (ww97 hw)) Via.refl u50 (Fld.ext Ou19.2 F53) (g := (mkF m 21 #[vR a1, vR b14, vI 4, vI 1, vR a7] [(.ref a7)])) rfl rfl (hb hby d16_21)
 obtain ⟨_, T63, L63, X63, hQ63, st63⟩ := own_cV X54 hx hZ hown (ww99 hw) (ww100 hw) (notFace_of_selects (args := #[]) (mvT hZ (ww102 hw))) (ww102 hw) (ww101 hw) (ww4 hw) (ww103 hw) (Exa.ext Ou19.2 E_55) (rm18_34 l Z a0 hw a52 a1 p29 a58 a4 _ 5 k60 _ p39 k40 T13.heap n0 Ou19 hne56 f43 S_30 hk31 F57 f44 F59 f45 V61 f46 hk62) e54 pd_16 hml (hb hby d16_25) (Ls := #[vR a1, vR b14, vI 4, vI 1, vR a7]) (W := 0) (argsL := [(.ref a1)]) (rest := [])
 obtain ⟨rfl, u65, u66⟩ := hQ63
 have N63 := Fr.app N47 u65
 obtain ⟨cl67, Ar67, -, Sz67, -, Hh67, -⟩ := id u21
 have hin67 : ¬ ((2 : Int32) < 0 ∨ cl67.slots.size ≤ ((2 : Int32)).toNatClampNeg) := inb_of Sz67 ⟨by decide +kernel, by decide +kernel⟩
 have hat67 : cl67.slots[((2 : Int32)).toNatClampNeg]? = some (.ref a8) := Has.at Hh67 hin67 rfl
 obtain ⟨T70, X70, e70, st70⟩ := getF X63 hx hZ hown (host := "") (Or.inl (ww97 hw)) Via.refl u66 (Fld.ext Ou19.2 F69) (g := (mkF m 21 #[vR a1, vR b14, vI 4, vI 2, vR a8] [(.ref a8)])) rfl rfl (hb hby d16_21)
 obtain ⟨_, T79, L79, X79, hQ79, st79⟩ := own_cV X70 hx hZ hown (ww99 hw) (ww100 hw) (notFace_of_selects (args := #[]) (mvT hZ (ww102 hw))) (ww102 hw) (ww101 hw) (ww4 hw) (ww103 hw) (Exa.ext Ou19.2 E_71) (rm18_34 l Z a0 hw a68 a1 p29 a74 a4 _ 6 k76 _ p39 k40 T13.heap n0 Ou19 hne72 f43 S_30 hk31 F73 f44 F75 f45 V77 f46 hk78) e70 pd_16 hml (hb hby d16_25) (Ls := #[vR a1, vR b14, vI 4, vI 2, vR a8]) (W := 0) (argsL := [(.ref a1)]) (rest := [])
 obtain ⟨rfl, u81, u82⟩ := hQ79
 have N79 := Fr.app N63 u81
 obtain ⟨cl83, Ar83, -, Sz83, -, Hh83, -⟩ := id u21
 have hin83 : ¬ ((3 : Int32) < 0 ∨ cl83.slots.size ≤ ((3 : Int32)).toNatClampNeg) := inb_of Sz83 ⟨by decide +kernel, by decide +kernel⟩
 have hat83 : cl83.slots[((3 : Int32)).toNatClampNeg]? = some (.ref a9) := Has.at Hh83 hin83 rfl
 obtain ⟨T86, X86, e86, st86⟩ := getF X79 hx hZ hown (host := "") (Or.inl (ww97 hw)) Via.refl u82 (Fld.ext Ou19.2 F85) (g := (mkF m 21 #[vR a1, vR b14, vI 4, vI 3, vR a9] [(.ref a9)])) rfl rfl (hb hby d16_21)
 obtain ⟨_, T95, L95, X95, hQ95, st95⟩ := own_cV X86 hx hZ hown (ww99 hw) (ww100 hw) (notFace_of_selects (args := #[]) (mvT hZ (ww102 hw))) (ww102 hw) (ww101 hw) (ww4 hw) (ww103 hw) (Exa.ext Ou19.2 E_87) (rm18_34 l Z a0 hw a84 a1 p29 a90 a4 _ 7 k92 _ p39 k40 T13.heap n0 Ou19 hne88 f43 S_30 hk31 F89 f44 F91 f45 V93 f46 hk94) e86 pd_16 hml (hb hby d16_25) (Ls := #[vR a1, vR b14, vI 4, vI 3, vR a9]) (W := 0) (argsL := [(.ref a1)]) (rest := [])
 obtain ⟨rfl, u97, u98⟩ := hQ95
 have N95 := Fr.app N79 u97
 obtain ⟨_, T101, L101, X101, hQ101, st101⟩ := own_cS X95 hx hZ hown (ww108 hw) (ww109 hw) (ww110 hw) (ww111 hw) (rm20_26 l Z a0 hw a99 T13.heap n0 Ou19 S_100) u98 pd_20 hml (hb hby d16_43) (Ls := #[vR a1, vR b14, vI 4, vI 4, vR a9]) (W := 0) (argsL := []) (rest := [])
 obtain ⟨rfl, u103, u104⟩ := hQ101
 have N101 := Fr.app N95 u103
 refine fin (some (.ref a99)) _ _ _ _ X101 nofun (fun fs hr => pre0 _ ?_) (own_atH u104 ?_) (by decide) (by decide)
 ·
  refine st13 _ (o_astoreN X13 hq d16_3 rfl rfl (o_aloadN X13 hq d16_4 rfl rfl (o_alen X13 hq d16_5 hZ rfl u21 (o_istoreN X13 hq d16_6 rfl (o_iconst X13 hq d16_7 (x := 0) rfl (o_istoreN X13 hq d16_8 rfl (o_iloadN X13 hq d16_9 rfl (o_iloadN X13 hq d16_10 rfl (o_icmpN X13 hq d16_11 (by decide +kernel) (o_aloadN X13 hq d16_14 rfl rfl (o_iloadN X13 hq d16_15 rfl (X13.aaload hx (j := 0) (v := (.ref a6)) Ar22.1 (State.isArrayOf_alike hZ.alike Ar22.2.1) rfl Ar22.2.2 hin22 hat22 (g := (mkF m 16 #[vR a1, vR b14, vI 4, vI 0, .unset] [(.int 0), (.ref b14)])) rfl rfl (hb hby d16_16) _ (o_astore X13 hq d16_17 rfl rfl (o_aload X13 hq d16_19 rfl rfl (st25 _ (o_aloadN X25 hq d16_24 rfl rfl (st47 _ (o_ifY X47 hq d16_28 (pc := 28) (pc' := 37) (by decide +kernel) (o_iinc X47 hq d16_37 rfl (z := 1) (k' := 1) rfl (by decide +kernel) rfl (o_goto X47 hq d16_40 (pc := 40) (pc' := 9) (o_iloadN X47 hq d16_9 rfl (o_iloadN X47 hq d16_10 rfl (o_icmpN X47 hq d16_11 (by decide +kernel) (o_aloadN X47 hq d16_14 rfl rfl (o_iloadN X47 hq d16_15 rfl (X47.aaload hx (j := 1) (v := (.ref a7)) (by rw [u50]; exact Ar51.1) (State.isArrayOf_alike hZ.alike Ar51.2.1) rfl Ar51.2.2 hin51 hat51 (g := (mkF m 16 #[vR a1, vR b14, vI 4, vI 1, vR a6] [(.int 1), (.ref b14)])) rfl rfl (hb hby d16_16) _ (o_astore X47 hq d16_17 rfl rfl (o_aload X47 hq d16_19 rfl rfl (st54 _ (o_aloadN X54 hq d16_24 rfl rfl (st63 _ (o_ifY X63 hq d16_28 (pc := 28) (pc' := 37) (by decide +kernel) (o_iinc X63 hq d16_37 rfl (z := 2) (k' := 1) rfl (by decide +kernel) rfl (o_goto X63 hq d16_40 (pc := 40) (pc' := 9) (o_iloadN X63 hq d16_9 rfl (o_iloadN X63 hq d16_10 rfl (o_icmpN X63 hq d16_11 (by decide +kernel) (o_aloadN X63 hq d16_14 rfl rfl (o_iloadN X63 hq d16_15 rfl ?_)))))))))))))))))))))))))))))))))))))))
  refine X63.aaload hx (j := 2) (v := (.ref a8)) (by rw [u66]; exact Ar67.1) (State.isArrayOf_alike hZ.alike Ar67.2.1) rfl Ar67.2.2 hin67 hat67 (g := (mkF m 16 #[vR a1, vR b14, vI 4, vI 2, vR a7] [(.int 2), (.ref b14)])) rfl rfl (hb hby d16_16) _ (o_astore X63 hq d16_17 rfl rfl (o_aload X63 hq d16_19 rfl rfl (st70 _ (o_aloadN X70 hq d16_24 rfl rfl (st79 _ (o_ifY X79 hq d16_28 (pc := 28) (pc' := 37) (by decide +kernel) (o_iinc X79 hq d16_37 rfl (z := 3) (k' := 1) rfl (by decide +kernel) rfl (o_goto X79 hq d16_40 (pc := 40) (pc' := 9) (o_iloadN X79 hq d16_9 rfl (o_iloadN X79 hq d16_10 rfl (o_icmpN X79 hq d16_11 (by decide +kernel) (o_aloadN X79 hq d16_14 rfl rfl (o_iloadN X79 hq d16_15 rfl (X79.aaload hx (j := 3) (v := (.ref a9)) (by rw [u82]; exact Ar83.1) (State.isArrayOf_alike hZ.alike Ar83.2.1) rfl Ar83.2.2 hin83 hat83 (g := (mkF m 16 #[vR a1, vR b14, vI 4, vI 3, vR a8] [(.int 3), (.ref b14)])) rfl rfl (hb hby d16_16) _ (o_astore X79 hq d16_17 rfl rfl (o_aload X79 hq d16_19 rfl rfl (st86 _ (o_aloadN X86 hq d16_24 rfl rfl (st95 _ (o_ifY X95 hq d16_28 (pc := 28) (pc' := 37) (by decide +kernel) (o_iinc X95 hq d16_37 rfl (z := 4) (k' := 1) rfl (by decide +kernel) rfl (o_goto X95 hq d16_40 (pc := 40) (pc' := 9) (o_iloadN X95 hq d16_9 rfl (o_iloadN X95 hq d16_10 rfl (o_icmpY X95 hq d16_11 (pc := 11) (pc' := 43) (by decide +kernel) (st101 _ ?_))))))))))))))))))))))))))
  show Steps p.tables e below (T101.setTop (mkF m 46 #[vR a1, vR b14, vI 4, vI 4, vR a9] [(.ref a99)])) _
  jvm_step X101.here [X101.here.top, hx, (hb hby d16_46), X101.method', hret, Value.isRef, FieldType.isReference]
  first | (intro acts; rw [hr _ acts rfl rfl rfl]) | rw [hr _ _ rfl rfl rfl]
  exact Steps.refl _
 ·
  exact ⟨rfl, N101, ((Keep.refl h0 []).trans Ku19 all0)⟩
def Q14_40 (Z : State) (a1 a2 : Addr) (p3 : Int32) (k4 k9 : ClassId) (h0 : Heap) (n0 : Nat) (v : Option Value) (h : Heap) (L : List Loc) : Prop := (∃ (i8 : Int32), i8 = (p3.toInt8.toInt32) ∧ v = some (.int 1) ∧ Fr n0 L ∧ Keep h0 h [a2] ∧ Exa Z h a2 "[B" ∧ Arv Z h a2 k9 .byte 1 [(.int i8)] (.int 0))
theorem rm14_40 (l : Launch) (Z : State) (a0 : Array Value) (hw : own_HW Z a0) (a1 a2 : Addr) (p3 : Int32) (k4 k9 : ClassId) (h0 : Heap) (n0 : Nat) (O0 : Old Z n0 h0) (V5 : Arv Z h0 a1 k4 .char 1 [(.int p3)] (.int 0)) (hk7 : ¬ (255 < p3)) (V10 : Arv Z h0 a2 k9 .byte 1 [] (.int 0)) (g_a2 : n0 ≤ a2) (E_12 : Exa Z h0 a2 "[B") : own_Met l Z M_8 bc14 7 (some .int) ({ frames := 0, cells := 0, slots := 0, locals := 0 } : Room) #[(.ref a1), (.int 0), (.ref a2), (.int 0), (.int 1)] h0 (Q14_40 Z a1 a2 p3 k4 k9 h0 n0) := by
 refine own_body (L0 := #[vR a1, vI 0, vR a2, vI 0, vI 1, .unset, .unset]) (plainFor_of_name pn_4) (fun m => by first | (simp [entryFrame, mkF, argsToLocals, Value.category]; done) | rfl) fun p e s m below meth c s₁ EN hx hby hml hown hnm hret X0 hZ e0 hh pre0 fin => ?_
 have N0 := Fr.nil n0
 have hq := And.intro hx hby
 obtain ⟨i8, hi8⟩ : ∃ z, z = (p3.toInt8.toInt32) := ⟨_, rfl⟩
 obtain ⟨T11, h11, X11, e11, W11, V11, st11⟩ := own_stB X0 hx hZ e0 V10 1 0 i8 i8 0 (own_i2b2 hi8 : (i8.toInt8.toInt32) = i8) (hb hby d14_31) #[vR a1, vI 0, vR a2, vI 0, vI 1, vI 0, vI p3] [] (vs2 := [(.int i8)])
 have N11 := Fr.snoc X11 N0 g_a2
 have f13 := (Exa.wr W11 E_12)
 refine fin (some (.int 1)) _ _ _ _ X11 nofun (fun fs hr => pre0 _ ?_) (own_atH e11 ?_) (by decide) (by decide)
 ·
  refine o_iconst X0 hq d14_0 (x := 0) rfl (o_istore X0 hq d14_1 rfl (o_iload X0 hq d14_3 rfl (o_iload X0 hq d14_5 rfl (o_icmpN X0 hq d14_7 (by decide +kernel) (o_aloadN X0 hq d14_10 rfl rfl (o_iloadN X0 hq d14_11 rfl (o_caload X0 hq d14_12 hZ e0 V5 (i := 0) (v := .int p3) (by decide +kernel) rfl (o_istore X0 hq d14_13 rfl (o_iload X0 hq d14_15 rfl (o_sipush X0 hq d14_17 (x := 255) rfl (o_icmpY X0 hq d14_20 (pc := 20) (pc' := 26) (flt hk7).2.2.2 (o_aloadN X0 hq d14_26 rfl rfl (o_iloadN X0 hq d14_27 rfl (o_iload X0 hq d14_28 rfl (o_i2b X0 hq d14_30 (z := i8) hi8.symm (st11 _ (o_iinc X11 hq d14_32 rfl (z := 1) (k' := 1) rfl (by decide +kernel) rfl (o_iinc X11 hq d14_35 rfl (z := 1) (k' := 1) rfl (by decide +kernel) rfl (o_iinc X11 hq d14_38 rfl (z := 1) (k' := 1) rfl (by decide +kernel) rfl (o_goto X11 hq d14_41 (pc := 41) (pc' := 3) (o_iload X11 hq d14_3 rfl (o_iload X11 hq d14_5 rfl (o_icmpY X11 hq d14_7 (pc := 7) (pc' := 44) (by decide +kernel) (o_iload X11 hq d14_44 rfl ?_))))))))))))))))))))))))
  exact retI X11 hx hret (hb hby d14_46) hr
 ·
  exact ⟨i8, hi8, rfl, N11, ((Keep.refl h0 [a2]).wr W11 (Or.inl (List.mem_of_getElem? (i := 0) rfl))), f13, V11⟩
def Q13_39 (Z : State) (a1 : Addr) (p3 : Int32) (k4 : ClassId) (h0 : Heap) (n0 : Nat) (v : Option Value) (h : Heap) (L : List Loc) : Prop := (∃ (i9 : Int32) (b2 : Addr) (k2 : ClassId), i9 = (p3.toInt8.toInt32) ∧ v = some (.ref b2) ∧ Fr n0 L ∧ h0.size ≤ b2 ∧ b2 < h.size ∧ Keep h0 h [] ∧ Exa Z h b2 "[B" ∧ Arv Z h b2 k2 .byte 1 [(.int i9)] (.int 0))
theorem rm13_39 (l : Launch) (Z : State) (a0 : Array Value) (hw : own_HW Z a0) (a1 : Addr) (p3 : Int32) (k4 : ClassId) (h0 : Heap) (n0 : Nat) (O0 : Old Z n0 h0) (V5 : Arv Z h0 a1 k4 .char 1 [(.int p3)] (.int 0)) (hk6 : ¬ (255 < p3)) : own_Met l Z M_9 bc13 6 (some (.array .byte)) ({ frames := 1, cells := 1, slots := 1, locals := 18 } : Room) #[(.ref a1), (.int 0), (.int 1)] h0 (Q13_39 Z a1 p3 k4 h0 n0) := by
 refine own_body (L0 := #[vR a1, vI 0, vI 1, .unset, .unset, .unset]) (plainFor_of_name pn_4) (fun m => by first | (simp [entryFrame, mkF, argsToLocals, Value.category]; done) | rfl) fun p e s m below meth c s₁ EN hx hby hml hown hnm hret X0 hZ e0 hh pre0 fin => ?_
 have N0 := Fr.nil n0
 have hq := And.intro hx hby
 obtain ⟨T2, h2, k2, X2, e2, E2, A2, Ex2, st2⟩ := newPE (aty := .byte) X0 hx hZ (ww6 hw) e0 (g := (mkF m 1 #[vR a1, vI 0, vI 1, .unset, .unset, .unset] [(.int 1)])) rfl (hb hby d13_1) rfl (by decide +kernel) (cap := 1) (by decide +kernel) (by decide) (by decide) (by decide) (ad := "[B") (by decide +kernel)
 obtain ⟨b2, g2⟩ : ∃ z, z = h0.size := ⟨_, rfl⟩
 rw [← g2] at A2 Ex2 st2
 have O2 := O0.ext E2
 have bd_b2 : h0.size ≤ b2 := Nat.le_of_eq g2.symm
 have g_b2 : n0 ≤ b2 := Nat.le_trans (own_z O0) bd_b2
 have sz_b2 : h0.size ≤ b2 := Nat.le_trans (Nat.le_refl _) bd_b2
 have lt_b2 : b2 < h2.size := A2.lt
 have V2 : Arv Z h2 b2 k2 .byte 1 [] (.int 0) := Arv.new A2 (by decide +kernel)
 have f7 := (V5.ext E2)
 obtain ⟨_, T8, L8, X8, hQ8, st8⟩ := own_cS X2 hx hZ hown (ww70 hw) (ww71 hw) (ww68 hw) (ww72 hw) (rm14_40 l Z a0 hw a1 b2 p3 k4 k2 h2 n0 O2 f7 hk6 V2 g_b2 Ex2) e2 pd_8 hml (hb hby d13_9) (Ls := #[vR a1, vI 0, vI 1, vR b2, .unset, .unset]) (W := 0) (argsL := [(.ref a1), (.int 0), (.ref b2), (.int 0), (.int 1)]) (rest := [])
 obtain ⟨i9, u10, rfl, u12, Ku13, u14, u15⟩ := hQ8
 have N8 := Fr.app N0 u12
 refine fin (some (.ref b2)) _ _ _ _ X8 nofun (fun fs hr => pre0 _ ?_) ?_ (by decide) (by decide)
 ·
  refine o_iloadN X0 hq d13_0 rfl (st2 _ (o_astoreN X2 hq d13_3 rfl rfl (o_aloadN X2 hq d13_4 rfl rfl (o_iloadN X2 hq d13_5 rfl (o_aloadN X2 hq d13_6 rfl rfl (o_iconst X2 hq d13_7 (x := 0) rfl (o_iloadN X2 hq d13_8 rfl (st8 _ (o_istore X8 hq d13_12 rfl (o_iload X8 hq d13_14 rfl (o_iloadN X8 hq d13_16 rfl (o_icmpY X8 hq d13_17 (pc := 17) (pc' := 57) (by decide +kernel) (o_aloadN X8 hq d13_57 rfl rfl ?_)))))))))))))
  show Steps p.tables e below (T8.setTop (mkF m 58 #[vR a1, vI 0, vI 1, vR b2, vI 1, .unset] [(.ref b2)])) _
  jvm_step X8.here [X8.here.top, hx, (hb hby d13_58), X8.method', hret, Value.isRef, FieldType.isReference]
  first | (intro acts; rw [hr _ acts rfl rfl rfl]) | rw [hr _ _ rfl rfl rfl]
  exact Steps.refl _
 ·
  exact ⟨i9, b2, k2, u10, rfl, N8, sz_b2, (own_t lt_b2 Ku13.1), (((Keep.refl h0 []).ext E2).trans Ku13 (allS (Or.inr sz_b2) all0)), u14, u15⟩
def Q15_41 (Z : State) (a1 : Addr) (p2 : Int32) (k3 : ClassId) (h0 : Heap) (n0 : Nat) (v : Option Value) (h : Heap) (L : List Loc) : Prop := (v = some (.int 0) ∧ Fr n0 L ∧ h = h0)
theorem rm15_41 (l : Launch) (Z : State) (a0 : Array Value) (hw : own_HW Z a0) (a1 : Addr) (p2 : Int32) (k3 : ClassId) (h0 : Heap) (n0 : Nat) (O0 : Old Z n0 h0) (V4 : Arv Z h0 a1 k3 .byte 1 [(.int p2)] (.int 0)) : own_Met l Z M_10 bc15 2 (some .byte) ({ frames := 0, cells := 0, slots := 0, locals := 0 } : Room) #[(.ref a1), (.int 1)] h0 (Q15_41 Z a1 p2 k3 h0 n0) := by
 refine own_body (L0 := #[vR a1, vI 1]) (plainFor_of_name pn_4) (fun m => by first | (simp [entryFrame, mkF, argsToLocals, Value.category]; done) | rfl) fun p e s m below meth c s₁ EN hx hby hml hown hnm hret X0 hZ e0 hh pre0 fin => ?_
 have N0 := Fr.nil n0
 have hq := And.intro hx hby
 refine fin (some (.int 0)) _ _ _ _ X0 nofun (fun fs hr => pre0 _ ?_) (own_atH e0 ?_) (by decide) (by decide)
 ·
  refine o_iloadN X0 hq d15_0 rfl (o_aloadN X0 hq d15_1 rfl rfl (o_alen X0 hq d15_2 hZ e0 V4 (o_isub X0 hq d15_3 (z := 0) (by decide +kernel) (o_bipush X0 hq d15_4 (x := 31) rfl (o_iushr X0 hq d15_6 (z := 0) (by decide +kernel) (o_i2b X0 hq d15_7 (z := 0) (by decide +kernel) ?_))))))
  exact retN X0 hx (t := .byte) hret (by simp) (hb hby d15_8) hr
 ·
  exact ⟨rfl, N0, rfl⟩
def Q11_38 (Z : State) (a1 a2 : Addr) (p4 p8 : Int32) (k9 : ClassId) (h0 : Heap) (n0 : Nat) (v : Option Value) (h : Heap) (L : List Loc) : Prop := (∃ (i13 : Int32) (b14 : Addr) (k15 : ClassId), i13 = (p8.toInt8.toInt32) ∧ v = none ∧ Fr n0 L ∧ h0.size ≤ b14 ∧ b14 < h.size ∧ Keep h0 h [a1] ∧ Exa Z h a1 C_2 ∧ Fld Z h a1 C_2 "coder" "B" (.int 0) ∧ Fld Z h a1 C_2 "value" "[B" (.ref b14) ∧ Exa Z h b14 "[B" ∧ Arv Z h b14 k15 .byte 1 [(.int i13)] (.int 0))
theorem rm11_38 (l : Launch) (Z : State) (a0 : Array Value) (hw : own_HW Z a0) (a1 a2 : Addr) (p4 p8 : Int32) (k9 : ClassId) (h0 : Heap) (n0 : Nat) (O0 : Old Z n0 h0) (S_5 : Sta Z Z.heap C_2 "COMPACT_STRINGS" "Z" (.int p4)) (hk7 : ¬ (p4 = 0)) (V10 : Arv Z h0 a2 k9 .char 1 [(.int p8)] (.int 0)) (hk11 : ¬ (255 < p8)) (E_28 : Exa Z h0 a1 C_2) (F29 : Fld Z h0 a1 C_2 "coder" "B" (.int 0)) (F30 : Fld Z h0 a1 C_2 "value" "[B" .null) (g_a1 : n0 ≤ a1) (lt_a1 : a1 < h0.size) : own_Met l Z M_11 bc11 6 none ({ frames := 2, cells := 1, slots := 1, locals := 35 } : Room) #[(.ref a1), (.ref a2), (.int 0), (.int 1), .null] h0 (Q11_38 Z a1 a2 p4 p8 k9 h0 n0) := by
 refine own_body (L0 := #[vR a1, vR a2, vI 0, vI 1, vN, .unset]) (plainFor_of_name pn_0) (fun m => by first | (simp [entryFrame, mkF, argsToLocals, Value.category]; done) | rfl) fun p e s m below meth c s₁ EN hx hby hml hown hnm hret X0 hZ e0 hh pre0 fin => ?_
 have N0 := Fr.nil n0
 have hq := And.intro hx hby
 obtain ⟨T3, X3, e3, st3⟩ := initO X0 hx hZ hown (ww63 hw) (ww64 hw) (ww65 hw) e0 (g := (mkF m 1 #[vR a1, vR a2, vI 0, vI 1, vN, .unset] [(.ref a1)])) rfl (by rw [hml]; rfl) rfl (hb hby d11_1) (by decide) (W := 0) (by show 2 * 0 + _ ≤ _; exact Nat.le_of_eq rfl) (by decide)
 obtain ⟨T6, X6, e6, st6⟩ := getS2 X3 hx hZ hown (host := "") (Or.inl (ww22 hw)) Via.refl e3 (Sta.ext O0.2 S_5) (g := (mkF m 27 #[vR a1, vR a2, vI 0, vI 1, vN, .unset] [])) rfl (hb hby d11_27)
 obtain ⟨_, T12, L12, X12, hQ12, st12⟩ := own_cS X6 hx hZ hown (ww66 hw) (ww67 hw) (ww68 hw) (ww69 hw) (rm13_39 l Z a0 hw a2 p8 k9 h0 n0 O0 V10 hk11) e6 pd_9 hml (hb hby d11_36) (Ls := #[vR a1, vR a2, vI 0, vI 1, vN, .unset]) (W := 0) (argsL := [(.ref a2), (.int 0), (.int 1)]) (rest := [])
 obtain ⟨i13, b14, k15, u16, rfl, u18, u19, u20, Ku21, u22, u23⟩ := hQ12
 have Ou21 := O0.keep Ku21 all0
 have sz_b14 : h0.size ≤ b14 := Nat.le_trans (Nat.le_refl _) u19
 have N12 := Fr.app N0 u18
 obtain ⟨_, T24, L24, X24, hQ24, st24⟩ := own_cS X12 hx hZ hown (ww73 hw) (ww74 hw) (ww68 hw) (ww75 hw) (rm15_41 l Z a0 hw b14 i13 k15 T12.heap n0 Ou21 u23) rfl pd_10 hml (hb hby d11_45) (Ls := #[vR a1, vR a2, vI 0, vI 1, vN, vR b14]) (W := 1) (argsL := [(.ref b14), (.int 1)]) (rest := [(.ref a1)])
 obtain ⟨rfl, u26, u27⟩ := hQ24
 have N24 := Fr.app N12 u26
 have f31 := (F29.keep Ku21 nin0)
 have f32 := (E_28.keep Ku21)
 obtain ⟨T33, h33, X33, e33, W33, st33⟩ := putFN X24 hx hZ hown (ww23 hw) Via.refl u27 f31 f32 (Or.inr ⟨(ww8 hw), rfl, hnm⟩) (ww5 hw) (ty := .byte) (v' := (.int 0)) (by decide) (by exact congrArg Value.int (by decide +kernel : (nar .byte (0 : Int32)) = (0 : Int32))) ((by decide +kernel : (nar .byte (0 : Int32)) = (0 : Int32)) ▸ fits_nar_byte _) (g := (mkF m 48 #[vR a1, vR a2, vI 0, vI 1, vN, vR b14] [(.int 0), (.ref a1)])) rfl rfl (hb hby d11_48)
 have Fw33 : Fld Z h33 a1 C_2 "coder" "B" (.int 0) := Fld.same W33 f31
 have N33 := Fr.snoc X33 N24 g_a1
 have f34 := (Fld.other W33 (F30.keep Ku21 nin0) (Or.inr (own_sl0 hw)))
 have f35 := (Exa.wr W33 f32)
 obtain ⟨T36, h36, X36, e36, W36, st36⟩ := putF X33 hx hZ hown (host := "") (Or.inl (ww16 hw)) Via.refl e33 f34 f35 (Or.inr ⟨(ww7 hw), rfl, hnm⟩) (ww5 hw) (ty := (.array .byte)) (by decide) rfl rfl (g := (mkF m 54 #[vR a1, vR a2, vI 0, vI 1, vN, vR b14] [(.ref b14), (.ref a1)])) rfl rfl (hb hby d11_54)
 have Fw36 : Fld Z h36 a1 C_2 "value" "[B" (.ref b14) := Fld.same W36 f34
 have N36 := Fr.snoc X36 N33 g_a1
 have f37 := (Exa.wr W36 f35)
 have f38 := (Fld.other W36 Fw33 (Or.inr (own_sl1 hw)))
 have f39 := (Exa.wr W36 (Exa.wr W33 u22))
 have f40 := ((u23.other W33 (Ne.symm (own_n lt_a1 u19))).other W36 (Ne.symm (own_n lt_a1 u19)))
 refine fin none _ _ _ _ X36 (fun _ => rfl) (fun fs hr => pre0 _ ?_) (own_atH e36 ?_) (by decide) (by decide)
 ·
  refine o_aloadN X0 hq d11_0 rfl rfl (st3 _ (o_iloadN X3 hq d11_4 rfl (o_ifY X3 hq d11_5 (pc := 5) (pc' := 27) (by decide +kernel) (st6 _ (o_ifN X6 hq d11_30 ((if0 _ _).trans (feq hk7).1) (o_aloadN X6 hq d11_33 rfl rfl (o_iloadN X6 hq d11_34 rfl (o_iloadN X6 hq d11_35 rfl (st12 _ (o_astore X12 hq d11_39 rfl rfl (o_aloadN X12 hq d11_41 rfl rfl (o_aload X12 hq d11_42 rfl rfl (o_iloadN X12 hq d11_44 rfl (st24 _ (st33 _ (o_aloadN X33 hq d11_51 rfl rfl (o_aload X33 hq d11_52 rfl rfl (st36 _ ?_))))))))))))))))))
  exact X36.returnOut hx hret (hb hby d11_57) hr
 ·
  exact ⟨i13, b14, k15, u16, rfl, N36, sz_b14, (own_t (own_t u20 (Keep.of_wr W33).1) (Keep.of_wr W36).1), ((((Keep.refl h0 [a1]).trans Ku21 all0).wr W33 (Or.inl (List.mem_of_getElem? (i := 0) rfl))).wr W36 (Or.inl (List.mem_of_getElem? (i := 0) rfl))), f37, f38, Fw36, f39, f40⟩
def Q10_37 (Z : State) (a1 a2 : Addr) (p3 : Int32) (k4 : ClassId) (p6 : Int32) (h0 : Heap) (n0 : Nat) (v : Option Value) (h : Heap) (L : List Loc) : Prop := (∃ (i14 : Int32) (b15 : Addr) (k16 : ClassId), i14 = (p3.toInt8.toInt32) ∧ v = none ∧ Fr n0 L ∧ h0.size ≤ b15 ∧ b15 < h.size ∧ Keep h0 h [a1] ∧ Exa Z h a1 C_2 ∧ Fld Z h a1 C_2 "coder" "B" (.int 0) ∧ Fld Z h a1 C_2 "value" "[B" (.ref b15) ∧ Exa Z h b15 "[B" ∧ Arv Z h b15 k16 .byte 1 [(.int i14)] (.int 0))
theorem rm10_37 (l : Launch) (Z : State) (a0 : Array Value) (hw : own_HW Z a0) (a1 a2 : Addr) (p3 : Int32) (k4 : ClassId) (p6 : Int32) (h0 : Heap) (n0 : Nat) (O0 : Old Z n0 h0) (V5 : Arv Z h0 a2 k4 .char 1 [(.int p3)] (.int 0)) (S_7 : Sta Z Z.heap C_2 "COMPACT_STRINGS" "Z" (.int p6)) (hk8 : ¬ (p6 = 0)) (hk9 : ¬ (255 < p3)) (E_10 : Exa Z h0 a1 C_2) (F11 : Fld Z h0 a1 C_2 "coder" "B" (.int 0)) (F12 : Fld Z h0 a1 C_2 "value" "[B" .null) (g_a1 : n0 ≤ a1) (lt_a1 : a1 < h0.size) : own_Met l Z M_12 bc10 2 none ({ frames := 3, cells := 1, slots := 1, locals := 52 } : Room) #[(.ref a1), (.ref a2)] h0 (Q10_37 Z a1 a2 p3 k4 p6 h0 n0) := by
 refine own_body (L0 := #[vR a1, vR a2]) (plainFor_of_name pn_0) (fun m => by first | (simp [entryFrame, mkF, argsToLocals, Value.category]; done) | rfl) fun p e s m below meth c s₁ EN hx hby hml hown hnm hret X0 hZ e0 hh pre0 fin => ?_
 have N0 := Fr.nil n0
 have hq := And.intro hx hby
 obtain ⟨_, T13, L13, X13, hQ13, st13⟩ := own_cI X0 hx hZ hown (ww59 hw) (ww60 hw) (ww4 hw) (ww62 hw) (rm11_38 l Z a0 hw a1 a2 p6 p3 k4 h0 n0 O0 S_7 hk8 V5 hk9 E_10 F11 F12 g_a1 lt_a1) e0 pd_11 hml (hb hby d10_6) (Ls := #[vR a1, vR a2]) (W := 0) (argsL := [(.ref a2), (.int 0), (.int 1), .null]) (rest := []) (b := a1)
 obtain ⟨i14, b15, k16, u17, rfl, u19, u20, u21, Ku22, u23, u24, u25, u26, u27⟩ := hQ13
 have sz_b15 : h0.size ≤ b15 := Nat.le_trans (Nat.le_refl _) u20
 have N13 := Fr.app N0 u19
 refine fin none _ _ _ _ X13 (fun _ => rfl) (fun fs hr => pre0 _ ?_) ?_ (by decide) (by decide)
 ·
  refine o_aloadN X0 hq d10_0 rfl rfl (o_aloadN X0 hq d10_1 rfl rfl (o_iconst X0 hq d10_2 (x := 0) rfl (o_aloadN X0 hq d10_3 rfl rfl (o_alen X0 hq d10_4 hZ e0 V5 (o_null X0 hq d10_5 (st13 _ ?_))))))
  exact X13.returnOut hx hret (hb hby d10_9) hr
 ·
  exact ⟨i14, b15, k16, u17, rfl, N13, sz_b15, u21, ((Keep.refl h0 [a1]).trans Ku22 (allS (Or.inl (List.mem_of_getElem? (i := 0) rfl)) all0)), u23, u24, u25, u26, u27⟩
def Q9_36 (Z : State) (a1 : Addr) (p4 p5 : Int32) (p6 p7 : Int32) (p8 p9 : Int32) (p10 p11 : Int32) (k12 : ClassId) (p19 : Int32) (h0 : Heap) (n0 : Nat) (v : Option Value) (h : Heap) (L : List Loc) : Prop := (∃ (i26 : Int32) (b2 b27 : Addr) (k28 : ClassId), i26 = (p4.toInt8.toInt32) ∧ v = some (.ref b2) ∧ Fr n0 L ∧ h0.size ≤ b2 ∧ b2 < h.size ∧ h0.size ≤ b27 ∧ b27 < h.size ∧ b2 ≠ b27 ∧ Keep h0 h [] ∧ Exa Z h b2 C_2 ∧ Fld Z h b2 C_2 "coder" "B" (.int 0) ∧ Fld Z h b2 C_2 "value" "[B" (.ref b27) ∧ Exa Z h b27 "[B" ∧ Arv Z h b27 k28 .byte 1 [(.int i26)] (.int 0))
theorem rm9_36 (l : Launch) (Z : State) (a0 : Array Value) (hw : own_HW Z a0) (a1 : Addr) (p4 p5 : Int32) (p6 p7 : Int32) (p8 p9 : Int32) (p10 p11 : Int32) (k12 : ClassId) (p19 : Int32) (h0 : Heap) (n0 : Nat) (O0 : Old Z n0 h0) (V13 : Arv Z h0 a1 k12 .char 8 [(.int p4), (.int p5), (.int p6), (.int p7), (.int p8), (.int p9), (.int p10), (.int p11)] (.int 0)) (hk16 : ¬ (255 < p4)) (hk17 : ¬ (p4 < 0)) (S_20 : Sta Z Z.heap C_2 "COMPACT_STRINGS" "Z" (.int p19)) (hk21 : ¬ (p19 = 0)) : own_Met l Z M_13 bc9 2 (some (.object "java/lang/String")) ({ frames := 4, cells := 3, slots := 6, locals := 66 } : Room) #[(.ref a1), (.int 1)] h0 (Q9_36 Z a1 p4 p5 p6 p7 p8 p9 p10 p11 k12 p19 h0 n0) := by
 refine own_body (L0 := #[vR a1, vI 1]) (plainFor_of_name pn_3) (fun m => by first | (simp [entryFrame, mkF, argsToLocals, Value.category]; done) | rfl) fun p e s m below meth c s₁ EN hx hby hml hown hnm hret X0 hZ e0 hh pre0 fin => ?_
 have N0 := Fr.nil n0
 have hq := And.intro hx hby
 obtain ⟨T2, h2, X2, e2, E2, A2, D2, -, st2⟩ := newO X0 hx hZ hown (ww55 hw) (ww5 hw) (ww4 hw) e0 (g := (mkF m 20 #[vR a1, vI 1] [])) rfl (hb hby d9_20) (by decide) (by decide)
 obtain ⟨b2, g2⟩ : ∃ z, z = h0.size := ⟨_, rfl⟩
 rw [← g2] at A2 D2 st2
 have O2 := O0.ext E2
 have bd_b2 : h0.size ≤ b2 := Nat.le_of_eq g2.symm
 have g_b2 : n0 ≤ b2 := Nat.le_trans (own_z O0) bd_b2
 have sz_b2 : h0.size ≤ b2 := Nat.le_trans (Nat.le_refl _) bd_b2
 have lt_b2 : b2 < h2.size := A2.lt
 have D2_7 : Fld Z h2 b2 C_2 "value" "[B" .null := D2 (Or.inr (ww7 hw)) (ty := (.array .byte)) (by decide)
 have D2_8 : Fld Z h2 b2 C_2 "coder" "B" (.int 0) := D2 (Or.inr (ww8 hw)) (ty := .byte) (by decide)
 obtain ⟨T3, h3, k3, X3, e3, E3, A3, Ex3, st3⟩ := newPE (aty := .char) X2 hx hZ (ww24 hw) e2 (g := (mkF m 25 #[vR a1, vI 1] [(.int 1), (.ref b2), (.ref b2)])) rfl (hb hby d9_25) rfl (by decide +kernel) (cap := 1) (by decide +kernel) (by decide) (by decide) (by decide) (ad := "[C") (by decide +kernel)
 obtain ⟨b3, g3⟩ : ∃ z, z = h2.size := ⟨_, rfl⟩
 rw [← g3] at A3 Ex3 st3
 have O3 := O2.ext E3
 have bd_b3 : h2.size ≤ b3 := Nat.le_of_eq g3.symm
 have g_b3 : n0 ≤ b3 := Nat.le_trans (own_z O2) bd_b3
 have sz_b3 : h0.size ≤ b3 := Nat.le_trans E2.1 bd_b3
 have V3 : Arv Z h3 b3 k3 .char 1 [] (.int 0) := Arv.new A3 (by decide +kernel)
 have f14 := ((V13.ext E2).ext E3)
 obtain ⟨T18, h18, X18, e18, W18, V18, st18⟩ := own_stC X3 hx hZ e3 V3 1 0 p4 p4 0 (own_ncR hk16 hk17) (hb hby d9_32) #[vR a1, vI 1] [(.ref b3), (.ref b2), (.ref b2)] (vs2 := [(.int p4)])
 have O18 := O3.wr W18 g_b3
 have N18 := Fr.snoc X18 N0 g_b3
 have f22 := (Exa.wr W18 (Exa.ext E3 A2))
 have f23 := (Fld.other W18 (Fld.ext E3 D2_8) (Or.inl (own_n lt_b2 bd_b3)))
 have f24 := (Fld.other W18 (Fld.ext E3 D2_7) (Or.inl (own_n lt_b2 bd_b3)))
 obtain ⟨_, T25, L25, X25, hQ25, st25⟩ := own_cI X18 hx hZ hown (ww56 hw) (ww57 hw) (ww4 hw) (ww58 hw) (rm10_37 l Z a0 hw b2 b3 p4 k3 p19 h18 n0 O18 V18 S_20 hk21 hk16 f22 f23 f24 g_b2 (own_t (own_t lt_b2 E3.1) (Keep.of_wr W18).1)) e18 pd_12 hml (hb hby d9_33) (Ls := #[vR a1, vI 1]) (W := 1) (argsL := [(.ref b3)]) (rest := [(.ref b2)]) (b := b2)
 obtain ⟨i26, b27, k28, u29, rfl, u31, u32, u33, Ku34, u35, u36, u37, u38, u39⟩ := hQ25
 have sz_b27 : h0.size ≤ b27 := Nat.le_trans (Nat.le_trans (Nat.le_trans E2.1 E3.1) (Keep.of_wr W18).1) u32
 have N25 := Fr.app N18 u31
 refine fin (some (.ref b2)) _ _ _ _ X25 nofun (fun fs hr => pre0 _ ?_) ?_ (by decide) (by decide)
 ·
  refine o_iloadN X0 hq d9_0 rfl (o_ifY X0 hq d9_1 (pc := 1) (pc' := 15) (by decide +kernel) (o_iloadN X0 hq d9_15 rfl (o_iconst X0 hq d9_16 (x := 1) rfl (o_icmpN X0 hq d9_17 (by decide +kernel) (st2 _ (o_dup X2 hq d9_23 rfl (o_iconst X2 hq d9_24 (x := 1) rfl (st3 _ (o_dup X3 hq d9_27 rfl (o_iconst X3 hq d9_28 (x := 0) rfl (o_aloadN X3 hq d9_29 rfl rfl (o_iconst X3 hq d9_30 (x := 0) rfl (o_caload X3 hq d9_31 hZ e3 f14 (i := 0) (v := .int p4) (by decide +kernel) rfl (st18 _ (st25 _ ?_)))))))))))))))
  show Steps p.tables e below (T25.setTop (mkF m 36 #[vR a1, vI 1] [(.ref b2)])) _
  jvm_step X25.here [X25.here.top, hx, (hb hby d9_36), X25.method', hret, Value.isRef, FieldType.isReference]
  first | (intro acts; rw [hr _ acts rfl rfl rfl]) | rw [hr _ _ rfl rfl rfl]
  exact Steps.refl _
 ·
  exact ⟨i26, b2, b27, k28, u29, rfl, N25, sz_b2, (own_t (own_t (own_t lt_b2 E3.1) (Keep.of_wr W18).1) Ku34.1), sz_b27, u33, (own_n (own_t (own_t lt_b2 E3.1) (Keep.of_wr W18).1) u32), (((((Keep.refl h0 []).ext E2).ext E3).wr W18 (Or.inr sz_b3)).trans Ku34 (allS (Or.inr sz_b2) all0)), u35, u36, u37, u38, u39⟩
def Q16_42 (Z : State) (a1 a2 : Addr) (a4 a6 : Addr) (a7 a8 a9 : Addr) (k10 : ClassId) (a23 : Addr) (p29 : Int32) (a34 : Addr) (k36 : ClassId) (vl38 : List Value) (p39 : Int32) (k40 : ClassId) (a52 a58 : Addr) (k60 : ClassId) (a68 a74 : Addr) (k76 : ClassId) (a84 a90 : Addr) (k92 : ClassId) (a99 : Addr) (h0 : Heap) (n0 : Nat) (v : Option Value) (h : Heap) (L : List Loc) : Prop := (v = some (.ref a99) ∧ Fr n0 L ∧ Keep h0 h [])
theorem rm16_42 (l : Launch) (Z : State) (a0 : Array Value) (hw : own_HW Z a0) (a1 a2 : Addr) (a4 a6 : Addr) (a7 a8 a9 : Addr) (k10 : ClassId) (a23 : Addr) (p29 : Int32) (a34 : Addr) (k36 : ClassId) (vl38 : List Value) (p39 : Int32) (k40 : ClassId) (a52 a58 : Addr) (k60 : ClassId) (a68 a74 : Addr) (k76 : ClassId) (a84 a90 : Addr) (k92 : ClassId) (a99 : Addr) (h0 : Heap) (n0 : Nat) (O0 : Old Z n0 h0) (S_3 : Sta Z Z.heap C_0 "$VALUES" C_6 (.ref a2)) (F5 : Fld Z h0 a1 C_2 "value" "[B" (.ref a4)) (V11 : Arv Z Z.heap a2 k10 (.object "com/example/stern_warden/sternwarden/model/AccessMode") (4 : Int32) [(.ref a6), (.ref a7), (.ref a8), (.ref a9)] .null) (E_12 : Exa Z Z.heap a2 C_6) (F24 : Fld Z Z.heap a6 C_0 "localName" C_5 (.ref a23)) (E_26 : Exa Z Z.heap a23 C_2) (hne27 : a23 ≠ a1) (E_28 : Exa Z h0 a1 C_2) (S_30 : Sta Z Z.heap C_2 "COMPACT_STRINGS" "Z" (.int p29)) (hk31 : ¬ (p29 = 0)) (F32 : Fld Z Z.heap a23 C_2 "coder" "B" (.int 0)) (F33 : Fld Z h0 a1 C_2 "coder" "B" (.int 0)) (F35 : Fld Z Z.heap a23 C_2 "value" "[B" (.ref a34)) (V37 : Arv Z Z.heap a34 k36 .byte 4 [(.int 82), (.int 101), (.int 97), (.int 100)] (.int 0)) (V41 : Arv Z h0 a4 k40 .byte p39 vl38 (.int 0)) (hk42 : ¬ (4 = p39)) (F53 : Fld Z Z.heap a7 C_0 "localName" C_5 (.ref a52)) (E_55 : Exa Z Z.heap a52 C_2) (hne56 : a52 ≠ a1) (F57 : Fld Z Z.heap a52 C_2 "coder" "B" (.int 0)) (F59 : Fld Z Z.heap a52 C_2 "value" "[B" (.ref a58)) (V61 : Arv Z Z.heap a58 k60 .byte 5 [(.int 87), (.int 114), (.int 105), (.int 116), (.int 101)] (.int 0)) (hk62 : ¬ (5 = p39)) (F69 : Fld Z Z.heap a8 C_0 "localName" C_5 (.ref a68)) (E_71 : Exa Z Z.heap a68 C_2) (hne72 : a68 ≠ a1) (F73 : Fld Z Z.heap a68 C_2 "coder" "B" (.int 0)) (F75 : Fld Z Z.heap a68 C_2 "value" "[B" (.ref a74)) (V77 : Arv Z Z.heap a74 k76 .byte 6 [(.int 65), (.int 112), (.int 112), (.int 101), (.int 110), (.int 100)] (.int 0)) (hk78 : ¬ (6 = p39)) (F85 : Fld Z Z.heap a9 C_0 "localName" C_5 (.ref a84)) (E_87 : Exa Z Z.heap a84 C_2) (hne88 : a84 ≠ a1) (F89 : Fld Z Z.heap a84 C_2 "coder" "B" (.int 0)) (F91 : Fld Z Z.heap a84 C_2 "value" "[B" (.ref a90)) (V93 : Arv Z Z.heap a90 k92 .byte 7 [(.int 67), (.int 111), (.int 110), (.int 116), (.int 114), (.int 111), (.int 108)] (.int 0)) (hk94 : ¬ (7 = p39)) (S_100 : Sta Z Z.heap C_7 "EMPTY" C_9 (.ref a99)) : own_Met l Z M_21 bc16 5 (some (.object "java/util/Optional")) ({ frames := 2, cells := 1, slots := 4, locals := 28 } : Room) #[(.ref a1)] h0 (Q16_42 Z a1 a2 a4 a6 a7 a8 a9 k10 a23 p29 a34 k36 vl38 p39 k40 a52 a58 k60 a68 a74 k76 a84 a90 k92 a99 h0 n0) := by
 refine own_body (L0 := #[vR a1, .unset, .unset, .unset, .unset]) (plainFor_of_name pn_5) (fun m => by first | (simp [entryFrame, mkF, argsToLocals, Value.category]; done) | rfl) fun p e s m below meth c s₁ EN hx hby hml hown hnm hret X0 hZ e0 hh pre0 fin => ?_
 have N0 := Fr.nil n0
 have hq := And.intro hx hby
 obtain ⟨_, T13, L13, X13, hQ13, st13⟩ := own_cS X0 hx hZ hown (ww79 hw) (ww80 hw) (ww1 hw) (ww81 hw) (rm17_18 l Z a0 hw a2 a6 a7 a8 a9 k10 h0 n0 O0 S_3 V11 E_12) e0 pd_14 hml (hb hby d16_0) (Ls := #[vR a1, .unset, .unset, .unset, .unset]) (W := 0) (argsL := []) (rest := [])
 obtain ⟨b14, rfl, u16, u17, u18, Ku19, u20, u21⟩ := hQ13
 have Ou19 := O0.keep Ku19 all0
 have N13 := Fr.app N0 u16
 obtain ⟨cl22, Ar22, -, Sz22, -, Hh22, -⟩ := id u21
 have hin22 : ¬ ((0 : Int32) < 0 ∨ cl22.slots.size ≤ ((0 : Int32)).toNatClampNeg) := inb_of Sz22 ⟨by decide +kernel, by decide +kernel⟩
 have hat22 : cl22.slots[((0 : Int32)).toNatClampNeg]? = some (.ref a6) := Has.at Hh22 hin22 rfl
 obtain ⟨T25, X25, e25, st25⟩ := getF X13 hx hZ hown (host := "") (Or.inl (ww97 hw)) Via.refl rfl (Fld.ext Ou19.2 F24) (g := (mkF m 21 #[vR a1, vR b14, vI 4, vI 0, vR a6] [(.ref a6)])) rfl rfl (hb hby d16_21)
 have f43 := (E_28.keep Ku19)
 have f44 := (F33.keep Ku19 nin0)
 have f45 := (F5.keep Ku19 nin0)
 have f46 := (V41.keep Ku19 nin0)
 obtain ⟨_, T47, L47, X47, hQ47, st47⟩ := own_cV X25 hx hZ hown (ww99 hw) (ww100 hw) (notFace_of_selects (args := #[]) (mvT hZ (ww102 hw))) (ww102 hw) (ww101 hw) (ww4 hw) (ww103 hw) (Exa.ext Ou19.2 E_26) (rm18_24 l Z a0 hw a23 a1 p29 a34 a4 _ 4 k36 _ p39 k40 T13.heap n0 Ou19 hne27 f43 S_30 hk31 F32 f44 F35 f45 V37 f46 hk42) e25 pd_16 hml (hb hby d16_25) (Ls := #[vR a1, vR b14, vI 4, vI 0, vR a6]) (W := 0) (argsL := [(.ref a1)]) (rest := [])
 obtain ⟨rfl, u49, u50⟩ := hQ47
 have N47 := Fr.app N13 u49
 obtain ⟨cl51, Ar51, -, Sz51, -, Hh51, -⟩ := id u21
 have hin51 : ¬ ((1 : Int32) < 0 ∨ cl51.slots.size ≤ ((1 : Int32)).toNatClampNeg) := inb_of Sz51 ⟨by decide +kernel, by decide +kernel⟩
 have hat51 : cl51.slots[((1 : Int32)).toNatClampNeg]? = some (.ref a7) := Has.at Hh51 hin51 rfl
 obtain ⟨T54, X54, e54, st54⟩ := getF X47 hx hZ hown (host := "") (Or.inl (ww97 hw)) Via.refl u50 (Fld.ext Ou19.2 F53) (g := (mkF m 21 #[vR a1, vR b14, vI 4, vI 1, vR a7] [(.ref a7)])) rfl rfl (hb hby d16_21)
 obtain ⟨_, T63, L63, X63, hQ63, st63⟩ := own_cV X54 hx hZ hown (ww99 hw) (ww100 hw) (notFace_of_selects (args := #[]) (mvT hZ (ww102 hw))) (ww102 hw) (ww101 hw) (ww4 hw) (ww103 hw) (Exa.ext Ou19.2 E_55) (rm18_24 l Z a0 hw a52 a1 p29 a58 a4 _ 5 k60 _ p39 k40 T13.heap n0 Ou19 hne56 f43 S_30 hk31 F57 f44 F59 f45 V61 f46 hk62) e54 pd_16 hml (hb hby d16_25) (Ls := #[vR a1, vR b14, vI 4, vI 1, vR a7]) (W := 0) (argsL := [(.ref a1)]) (rest := [])
 obtain ⟨rfl, u65, u66⟩ := hQ63
 have N63 := Fr.app N47 u65
 obtain ⟨cl67, Ar67, -, Sz67, -, Hh67, -⟩ := id u21
 have hin67 : ¬ ((2 : Int32) < 0 ∨ cl67.slots.size ≤ ((2 : Int32)).toNatClampNeg) := inb_of Sz67 ⟨by decide +kernel, by decide +kernel⟩
 have hat67 : cl67.slots[((2 : Int32)).toNatClampNeg]? = some (.ref a8) := Has.at Hh67 hin67 rfl
 obtain ⟨T70, X70, e70, st70⟩ := getF X63 hx hZ hown (host := "") (Or.inl (ww97 hw)) Via.refl u66 (Fld.ext Ou19.2 F69) (g := (mkF m 21 #[vR a1, vR b14, vI 4, vI 2, vR a8] [(.ref a8)])) rfl rfl (hb hby d16_21)
 obtain ⟨_, T79, L79, X79, hQ79, st79⟩ := own_cV X70 hx hZ hown (ww99 hw) (ww100 hw) (notFace_of_selects (args := #[]) (mvT hZ (ww102 hw))) (ww102 hw) (ww101 hw) (ww4 hw) (ww103 hw) (Exa.ext Ou19.2 E_71) (rm18_24 l Z a0 hw a68 a1 p29 a74 a4 _ 6 k76 _ p39 k40 T13.heap n0 Ou19 hne72 f43 S_30 hk31 F73 f44 F75 f45 V77 f46 hk78) e70 pd_16 hml (hb hby d16_25) (Ls := #[vR a1, vR b14, vI 4, vI 2, vR a8]) (W := 0) (argsL := [(.ref a1)]) (rest := [])
 obtain ⟨rfl, u81, u82⟩ := hQ79
 have N79 := Fr.app N63 u81
 obtain ⟨cl83, Ar83, -, Sz83, -, Hh83, -⟩ := id u21
 have hin83 : ¬ ((3 : Int32) < 0 ∨ cl83.slots.size ≤ ((3 : Int32)).toNatClampNeg) := inb_of Sz83 ⟨by decide +kernel, by decide +kernel⟩
 have hat83 : cl83.slots[((3 : Int32)).toNatClampNeg]? = some (.ref a9) := Has.at Hh83 hin83 rfl
 obtain ⟨T86, X86, e86, st86⟩ := getF X79 hx hZ hown (host := "") (Or.inl (ww97 hw)) Via.refl u82 (Fld.ext Ou19.2 F85) (g := (mkF m 21 #[vR a1, vR b14, vI 4, vI 3, vR a9] [(.ref a9)])) rfl rfl (hb hby d16_21)
 obtain ⟨_, T95, L95, X95, hQ95, st95⟩ := own_cV X86 hx hZ hown (ww99 hw) (ww100 hw) (notFace_of_selects (args := #[]) (mvT hZ (ww102 hw))) (ww102 hw) (ww101 hw) (ww4 hw) (ww103 hw) (Exa.ext Ou19.2 E_87) (rm18_24 l Z a0 hw a84 a1 p29 a90 a4 _ 7 k92 _ p39 k40 T13.heap n0 Ou19 hne88 f43 S_30 hk31 F89 f44 F91 f45 V93 f46 hk94) e86 pd_16 hml (hb hby d16_25) (Ls := #[vR a1, vR b14, vI 4, vI 3, vR a9]) (W := 0) (argsL := [(.ref a1)]) (rest := [])
 obtain ⟨rfl, u97, u98⟩ := hQ95
 have N95 := Fr.app N79 u97
 obtain ⟨_, T101, L101, X101, hQ101, st101⟩ := own_cS X95 hx hZ hown (ww108 hw) (ww109 hw) (ww110 hw) (ww111 hw) (rm20_26 l Z a0 hw a99 T13.heap n0 Ou19 S_100) u98 pd_20 hml (hb hby d16_43) (Ls := #[vR a1, vR b14, vI 4, vI 4, vR a9]) (W := 0) (argsL := []) (rest := [])
 obtain ⟨rfl, u103, u104⟩ := hQ101
 have N101 := Fr.app N95 u103
 refine fin (some (.ref a99)) _ _ _ _ X101 nofun (fun fs hr => pre0 _ ?_) (own_atH u104 ?_) (by decide) (by decide)
 ·
  refine st13 _ (o_astoreN X13 hq d16_3 rfl rfl (o_aloadN X13 hq d16_4 rfl rfl (o_alen X13 hq d16_5 hZ rfl u21 (o_istoreN X13 hq d16_6 rfl (o_iconst X13 hq d16_7 (x := 0) rfl (o_istoreN X13 hq d16_8 rfl (o_iloadN X13 hq d16_9 rfl (o_iloadN X13 hq d16_10 rfl (o_icmpN X13 hq d16_11 (by decide +kernel) (o_aloadN X13 hq d16_14 rfl rfl (o_iloadN X13 hq d16_15 rfl (X13.aaload hx (j := 0) (v := (.ref a6)) Ar22.1 (State.isArrayOf_alike hZ.alike Ar22.2.1) rfl Ar22.2.2 hin22 hat22 (g := (mkF m 16 #[vR a1, vR b14, vI 4, vI 0, .unset] [(.int 0), (.ref b14)])) rfl rfl (hb hby d16_16) _ (o_astore X13 hq d16_17 rfl rfl (o_aload X13 hq d16_19 rfl rfl (st25 _ (o_aloadN X25 hq d16_24 rfl rfl (st47 _ (o_ifY X47 hq d16_28 (pc := 28) (pc' := 37) (by decide +kernel) (o_iinc X47 hq d16_37 rfl (z := 1) (k' := 1) rfl (by decide +kernel) rfl (o_goto X47 hq d16_40 (pc := 40) (pc' := 9) (o_iloadN X47 hq d16_9 rfl (o_iloadN X47 hq d16_10 rfl (o_icmpN X47 hq d16_11 (by decide +kernel) (o_aloadN X47 hq d16_14 rfl rfl (o_iloadN X47 hq d16_15 rfl (X47.aaload hx (j := 1) (v := (.ref a7)) (by rw [u50]; exact Ar51.1) (State.isArrayOf_alike hZ.alike Ar51.2.1) rfl Ar51.2.2 hin51 hat51 (g := (mkF m 16 #[vR a1, vR b14, vI 4, vI 1, vR a6] [(.int 1), (.ref b14)])) rfl rfl (hb hby d16_16) _ (o_astore X47 hq d16_17 rfl rfl (o_aload X47 hq d16_19 rfl rfl (st54 _ (o_aloadN X54 hq d16_24 rfl rfl (st63 _ (o_ifY X63 hq d16_28 (pc := 28) (pc' := 37) (by decide +kernel) (o_iinc X63 hq d16_37 rfl (z := 2) (k' := 1) rfl (by decide +kernel) rfl (o_goto X63 hq d16_40 (pc := 40) (pc' := 9) (o_iloadN X63 hq d16_9 rfl (o_iloadN X63 hq d16_10 rfl (o_icmpN X63 hq d16_11 (by decide +kernel) (o_aloadN X63 hq d16_14 rfl rfl (o_iloadN X63 hq d16_15 rfl ?_)))))))))))))))))))))))))))))))))))))))
  refine X63.aaload hx (j := 2) (v := (.ref a8)) (by rw [u66]; exact Ar67.1) (State.isArrayOf_alike hZ.alike Ar67.2.1) rfl Ar67.2.2 hin67 hat67 (g := (mkF m 16 #[vR a1, vR b14, vI 4, vI 2, vR a7] [(.int 2), (.ref b14)])) rfl rfl (hb hby d16_16) _ (o_astore X63 hq d16_17 rfl rfl (o_aload X63 hq d16_19 rfl rfl (st70 _ (o_aloadN X70 hq d16_24 rfl rfl (st79 _ (o_ifY X79 hq d16_28 (pc := 28) (pc' := 37) (by decide +kernel) (o_iinc X79 hq d16_37 rfl (z := 3) (k' := 1) rfl (by decide +kernel) rfl (o_goto X79 hq d16_40 (pc := 40) (pc' := 9) (o_iloadN X79 hq d16_9 rfl (o_iloadN X79 hq d16_10 rfl (o_icmpN X79 hq d16_11 (by decide +kernel) (o_aloadN X79 hq d16_14 rfl rfl (o_iloadN X79 hq d16_15 rfl (X79.aaload hx (j := 3) (v := (.ref a9)) (by rw [u82]; exact Ar83.1) (State.isArrayOf_alike hZ.alike Ar83.2.1) rfl Ar83.2.2 hin83 hat83 (g := (mkF m 16 #[vR a1, vR b14, vI 4, vI 3, vR a8] [(.int 3), (.ref b14)])) rfl rfl (hb hby d16_16) _ (o_astore X79 hq d16_17 rfl rfl (o_aload X79 hq d16_19 rfl rfl (st86 _ (o_aloadN X86 hq d16_24 rfl rfl (st95 _ (o_ifY X95 hq d16_28 (pc := 28) (pc' := 37) (by decide +kernel) (o_iinc X95 hq d16_37 rfl (z := 4) (k' := 1) rfl (by decide +kernel) rfl (o_goto X95 hq d16_40 (pc := 40) (pc' := 9) (o_iloadN X95 hq d16_9 rfl (o_iloadN X95 hq d16_10 rfl (o_icmpY X95 hq d16_11 (pc := 11) (pc' := 43) (by decide +kernel) (st101 _ ?_))))))))))))))))))))))))))
  show Steps p.tables e below (T101.setTop (mkF m 46 #[vR a1, vR b14, vI 4, vI 4, vR a9] [(.ref a99)])) _
  jvm_step X101.here [X101.here.top, hx, (hb hby d16_46), X101.method', hret, Value.isRef, FieldType.isReference]
  first | (intro acts; rw [hr _ acts rfl rfl rfl]) | rw [hr _ _ rfl rfl rfl]
  exact Steps.refl _
 ·
  exact ⟨rfl, N101, ((Keep.refl h0 []).trans Ku19 all0)⟩
def Q14_47 (Z : State) (a1 a2 : Addr) (p3 p4 : Int32) (k5 k10 : ClassId) (h0 : Heap) (n0 : Nat) (v : Option Value) (h : Heap) (L : List Loc) : Prop := (∃ (i18 i9 : Int32), i9 = (p3.toInt8.toInt32) ∧ i18 = (p4.toInt8.toInt32) ∧ v = some (.int 2) ∧ Fr n0 L ∧ Keep h0 h [a2] ∧ Exa Z h a2 "[B" ∧ Arv Z h a2 k10 .byte 2 [(.int i9), (.int i18)] (.int 0))
theorem rm14_47 (l : Launch) (Z : State) (a0 : Array Value) (hw : own_HW Z a0) (a1 a2 : Addr) (p3 p4 : Int32) (k5 k10 : ClassId) (h0 : Heap) (n0 : Nat) (O0 : Old Z n0 h0) (V6 : Arv Z h0 a1 k5 .char 2 [(.int p3), (.int p4)] (.int 0)) (hk8 : ¬ (255 < p3)) (V11 : Arv Z h0 a2 k10 .byte 2 [] (.int 0)) (g_a2 : n0 ≤ a2) (E_13 : Exa Z h0 a2 "[B") (hne14 : a1 ≠ a2) (hk17 : ¬ (255 < p4)) : own_Met l Z M_8 bc14 7 (some .int) ({ frames := 0, cells := 0, slots := 0, locals := 0 } : Room) #[(.ref a1), (.int 0), (.ref a2), (.int 0), (.int 2)] h0 (Q14_47 Z a1 a2 p3 p4 k5 k10 h0 n0) := by
 refine own_body (L0 := #[vR a1, vI 0, vR a2, vI 0, vI 2, .unset, .unset]) (plainFor_of_name pn_4) (fun m => by first | (simp [entryFrame, mkF, argsToLocals, Value.category]; done) | rfl) fun p e s m below meth c s₁ EN hx hby hml hown hnm hret X0 hZ e0 hh pre0 fin => ?_
 have N0 := Fr.nil n0
 have hq := And.intro hx hby
 obtain ⟨i9, hi9⟩ : ∃ z, z = (p3.toInt8.toInt32) := ⟨_, rfl⟩
 obtain ⟨T12, h12, X12, e12, W12, V12, st12⟩ := own_stB X0 hx hZ e0 V11 1 0 i9 i9 0 (own_i2b2 hi9 : (i9.toInt8.toInt32) = i9) (hb hby d14_31) #[vR a1, vI 0, vR a2, vI 0, vI 2, vI 0, vI p3] [] (vs2 := [(.int i9)])
 have N12 := Fr.snoc X12 N0 g_a2
 have f15 := (V6.other W12 hne14)
 obtain ⟨i18, hi18⟩ : ∃ z, z = (p4.toInt8.toInt32) := ⟨_, rfl⟩
 obtain ⟨T19, h19, X19, e19, W19, V19, st19⟩ := own_stB X12 hx hZ e12 V12 1 1 i18 i18 1 (own_i2b2 hi18 : (i18.toInt8.toInt32) = i18) (hb hby d14_31) #[vR a1, vI 1, vR a2, vI 1, vI 2, vI 1, vI p4] [] (vs2 := [(.int i9), (.int i18)])
 have N19 := Fr.snoc X19 N12 g_a2
 have f20 := (Exa.wr W19 (Exa.wr W12 E_13))
 refine fin (some (.int 2)) _ _ _ _ X19 nofun (fun fs hr => pre0 _ ?_) (own_atH e19 ?_) (by decide) (by decide)
 ·
  refine o_iconst X0 hq d14_0 (x := 0) rfl (o_istore X0 hq d14_1 rfl (o_iload X0 hq d14_3 rfl (o_iload X0 hq d14_5 rfl (o_icmpN X0 hq d14_7 (by decide +kernel) (o_aloadN X0 hq d14_10 rfl rfl (o_iloadN X0 hq d14_11 rfl (o_caload X0 hq d14_12 hZ e0 V6 (i := 0) (v := .int p3) (by decide +kernel) rfl (o_istore X0 hq d14_13 rfl (o_iload X0 hq d14_15 rfl (o_sipush X0 hq d14_17 (x := 255) rfl (o_icmpY X0 hq d14_20 (pc := 20) (pc' := 26) (flt hk8).2.2.2 (o_aloadN X0 hq d14_26 rfl rfl (o_iloadN X0 hq d14_27 rfl (o_iload X0 hq d14_28 rfl (o_i2b X0 hq d14_30 (z := i9) hi9.symm (st12 _ (o_iinc X12 hq d14_32 rfl (z := 1) (k' := 1) rfl (by decide +kernel) rfl (o_iinc X12 hq d14_35 rfl (z := 1) (k' := 1) rfl (by decide +kernel) rfl (o_iinc X12 hq d14_38 rfl (z := 1) (k' := 1) rfl (by decide +kernel) rfl (o_goto X12 hq d14_41 (pc := 41) (pc' := 3) (o_iload X12 hq d14_3 rfl (o_iload X12 hq d14_5 rfl (o_icmpN X12 hq d14_7 (by decide +kernel) (o_aloadN X12 hq d14_10 rfl rfl (o_iloadN X12 hq d14_11 rfl (o_caload X12 hq d14_12 hZ e12 f15 (i := 1) (v := .int p4) (by decide +kernel) rfl (o_istore X12 hq d14_13 rfl (o_iload X12 hq d14_15 rfl (o_sipush X12 hq d14_17 (x := 255) rfl (o_icmpY X12 hq d14_20 (pc := 20) (pc' := 26) (flt hk17).2.2.2 (o_aloadN X12 hq d14_26 rfl rfl (o_iloadN X12 hq d14_27 rfl (o_iload X12 hq d14_28 rfl (o_i2b X12 hq d14_30 (z := i18) hi18.symm (st19 _ (o_iinc X19 hq d14_32 rfl (z := 2) (k' := 1) rfl (by decide +kernel) rfl (o_iinc X19 hq d14_35 rfl (z := 2) (k' := 1) rfl (by decide +kernel) rfl (o_iinc X19 hq d14_38 rfl (z := 2) (k' := 1) rfl (by decide +kernel) rfl (o_goto X19 hq d14_41 (pc := 41) (pc' := 3) ?_)))))))))))))))))))))))))))))))))))))))
  refine o_iload X19 hq d14_3 rfl (o_iload X19 hq d14_5 rfl (o_icmpY X19 hq d14_7 (pc := 7) (pc' := 44) (by decide +kernel) (o_iload X19 hq d14_44 rfl ?_)))
  exact retI X19 hx hret (hb hby d14_46) hr
 ·
  exact ⟨i18, i9, hi9, hi18, rfl, N19, (((Keep.refl h0 [a2]).wr W12 (Or.inl (List.mem_of_getElem? (i := 0) rfl))).wr W19 (Or.inl (List.mem_of_getElem? (i := 0) rfl))), f20, V19⟩
def Q13_46 (Z : State) (a1 : Addr) (p3 p4 : Int32) (k5 : ClassId) (h0 : Heap) (n0 : Nat) (v : Option Value) (h : Heap) (L : List Loc) : Prop := (∃ (i11 i12 : Int32) (b2 : Addr) (k2 : ClassId), i12 = (p3.toInt8.toInt32) ∧ i11 = (p4.toInt8.toInt32) ∧ v = some (.ref b2) ∧ Fr n0 L ∧ h0.size ≤ b2 ∧ b2 < h.size ∧ Keep h0 h [] ∧ Exa Z h b2 "[B" ∧ Arv Z h b2 k2 .byte 2 [(.int i12), (.int i11)] (.int 0))
theorem rm13_46 (l : Launch) (Z : State) (a0 : Array Value) (hw : own_HW Z a0) (a1 : Addr) (p3 p4 : Int32) (k5 : ClassId) (h0 : Heap) (n0 : Nat) (O0 : Old Z n0 h0) (V6 : Arv Z h0 a1 k5 .char 2 [(.int p3), (.int p4)] (.int 0)) (hk7 : ¬ (255 < p3)) (lt_a1 : a1 < h0.size) (hk8 : ¬ (255 < p4)) : own_Met l Z M_9 bc13 6 (some (.array .byte)) ({ frames := 1, cells := 1, slots := 2, locals := 18 } : Room) #[(.ref a1), (.int 0), (.int 2)] h0 (Q13_46 Z a1 p3 p4 k5 h0 n0) := by
 refine own_body (L0 := #[vR a1, vI 0, vI 2, .unset, .unset, .unset]) (plainFor_of_name pn_4) (fun m => by first | (simp [entryFrame, mkF, argsToLocals, Value.category]; done) | rfl) fun p e s m below meth c s₁ EN hx hby hml hown hnm hret X0 hZ e0 hh pre0 fin => ?_
 have N0 := Fr.nil n0
 have hq := And.intro hx hby
 obtain ⟨T2, h2, k2, X2, e2, E2, A2, Ex2, st2⟩ := newPE (aty := .byte) X0 hx hZ (ww6 hw) e0 (g := (mkF m 1 #[vR a1, vI 0, vI 2, .unset, .unset, .unset] [(.int 2)])) rfl (hb hby d13_1) rfl (by decide +kernel) (cap := 2) (by decide +kernel) (by decide) (by decide) (by decide) (ad := "[B") (by decide +kernel)
 obtain ⟨b2, g2⟩ : ∃ z, z = h0.size := ⟨_, rfl⟩
 rw [← g2] at A2 Ex2 st2
 have O2 := O0.ext E2
 have bd_b2 : h0.size ≤ b2 := Nat.le_of_eq g2.symm
 have g_b2 : n0 ≤ b2 := Nat.le_trans (own_z O0) bd_b2
 have sz_b2 : h0.size ≤ b2 := Nat.le_trans (Nat.le_refl _) bd_b2
 have lt_b2 : b2 < h2.size := A2.lt
 have V2 : Arv Z h2 b2 k2 .byte 2 [] (.int 0) := Arv.new A2 (by decide +kernel)
 have f9 := (V6.ext E2)
 obtain ⟨_, T10, L10, X10, hQ10, st10⟩ := own_cS X2 hx hZ hown (ww70 hw) (ww71 hw) (ww68 hw) (ww72 hw) (rm14_47 l Z a0 hw a1 b2 p3 p4 k5 k2 h2 n0 O2 f9 hk7 V2 g_b2 Ex2 (own_n lt_a1 bd_b2) hk8) e2 pd_8 hml (hb hby d13_9) (Ls := #[vR a1, vI 0, vI 2, vR b2, .unset, .unset]) (W := 0) (argsL := [(.ref a1), (.int 0), (.ref b2), (.int 0), (.int 2)]) (rest := [])
 obtain ⟨i11, i12, u13, u14, rfl, u16, Ku17, u18, u19⟩ := hQ10
 have N10 := Fr.app N0 u16
 refine fin (some (.ref b2)) _ _ _ _ X10 nofun (fun fs hr => pre0 _ ?_) ?_ (by decide) (by decide)
 ·
  refine o_iloadN X0 hq d13_0 rfl (st2 _ (o_astoreN X2 hq d13_3 rfl rfl (o_aloadN X2 hq d13_4 rfl rfl (o_iloadN X2 hq d13_5 rfl (o_aloadN X2 hq d13_6 rfl rfl (o_iconst X2 hq d13_7 (x := 0) rfl (o_iloadN X2 hq d13_8 rfl (st10 _ (o_istore X10 hq d13_12 rfl (o_iload X10 hq d13_14 rfl (o_iloadN X10 hq d13_16 rfl (o_icmpY X10 hq d13_17 (pc := 17) (pc' := 57) (by decide +kernel) (o_aloadN X10 hq d13_57 rfl rfl ?_)))))))))))))
  show Steps p.tables e below (T10.setTop (mkF m 58 #[vR a1, vI 0, vI 2, vR b2, vI 2, .unset] [(.ref b2)])) _
  jvm_step X10.here [X10.here.top, hx, (hb hby d13_58), X10.method', hret, Value.isRef, FieldType.isReference]
  first | (intro acts; rw [hr _ acts rfl rfl rfl]) | rw [hr _ _ rfl rfl rfl]
  exact Steps.refl _
 ·
  exact ⟨i11, i12, b2, k2, u13, u14, rfl, N10, sz_b2, (own_t lt_b2 Ku17.1), (((Keep.refl h0 []).ext E2).trans Ku17 (allS (Or.inr sz_b2) all0)), u18, u19⟩
def Q15_48 (Z : State) (a1 : Addr) (p2 p3 : Int32) (k4 : ClassId) (h0 : Heap) (n0 : Nat) (v : Option Value) (h : Heap) (L : List Loc) : Prop := (v = some (.int 0) ∧ Fr n0 L ∧ h = h0)
theorem rm15_48 (l : Launch) (Z : State) (a0 : Array Value) (hw : own_HW Z a0) (a1 : Addr) (p2 p3 : Int32) (k4 : ClassId) (h0 : Heap) (n0 : Nat) (O0 : Old Z n0 h0) (V5 : Arv Z h0 a1 k4 .byte 2 [(.int p2), (.int p3)] (.int 0)) : own_Met l Z M_10 bc15 2 (some .byte) ({ frames := 0, cells := 0, slots := 0, locals := 0 } : Room) #[(.ref a1), (.int 2)] h0 (Q15_48 Z a1 p2 p3 k4 h0 n0) := by
 refine own_body (L0 := #[vR a1, vI 2]) (plainFor_of_name pn_4) (fun m => by first | (simp [entryFrame, mkF, argsToLocals, Value.category]; done) | rfl) fun p e s m below meth c s₁ EN hx hby hml hown hnm hret X0 hZ e0 hh pre0 fin => ?_
 have N0 := Fr.nil n0
 have hq := And.intro hx hby
 refine fin (some (.int 0)) _ _ _ _ X0 nofun (fun fs hr => pre0 _ ?_) (own_atH e0 ?_) (by decide) (by decide)
 ·
  refine o_iloadN X0 hq d15_0 rfl (o_aloadN X0 hq d15_1 rfl rfl (o_alen X0 hq d15_2 hZ e0 V5 (o_isub X0 hq d15_3 (z := 0) (by decide +kernel) (o_bipush X0 hq d15_4 (x := 31) rfl (o_iushr X0 hq d15_6 (z := 0) (by decide +kernel) (o_i2b X0 hq d15_7 (z := 0) (by decide +kernel) ?_))))))
  exact retN X0 hx (t := .byte) hret (by simp) (hb hby d15_8) hr
 ·
  exact ⟨rfl, N0, rfl⟩
def Q11_45 (Z : State) (a1 a2 : Addr) (p4 p8 p9 : Int32) (k10 : ClassId) (h0 : Heap) (n0 : Nat) (v : Option Value) (h : Heap) (L : List Loc) : Prop := (∃ (i15 i16 : Int32) (b17 : Addr) (k18 : ClassId), i16 = (p8.toInt8.toInt32) ∧ i15 = (p9.toInt8.toInt32) ∧ v = none ∧ Fr n0 L ∧ h0.size ≤ b17 ∧ b17 < h.size ∧ Keep h0 h [a1] ∧ Exa Z h a1 C_2 ∧ Fld Z h a1 C_2 "coder" "B" (.int 0) ∧ Fld Z h a1 C_2 "value" "[B" (.ref b17) ∧ Exa Z h b17 "[B" ∧ Arv Z h b17 k18 .byte 2 [(.int i16), (.int i15)] (.int 0))
theorem rm11_45 (l : Launch) (Z : State) (a0 : Array Value) (hw : own_HW Z a0) (a1 a2 : Addr) (p4 p8 p9 : Int32) (k10 : ClassId) (h0 : Heap) (n0 : Nat) (O0 : Old Z n0 h0) (S_5 : Sta Z Z.heap C_2 "COMPACT_STRINGS" "Z" (.int p4)) (hk7 : ¬ (p4 = 0)) (V11 : Arv Z h0 a2 k10 .char 2 [(.int p8), (.int p9)] (.int 0)) (hk12 : ¬ (255 < p8)) (hk13 : ¬ (255 < p9)) (lt_a2 : a2 < h0.size) (E_32 : Exa Z h0 a1 C_2) (F33 : Fld Z h0 a1 C_2 "coder" "B" (.int 0)) (F34 : Fld Z h0 a1 C_2 "value" "[B" .null) (g_a1 : n0 ≤ a1) (lt_a1 : a1 < h0.size) : own_Met l Z M_11 bc11 6 none ({ frames := 2, cells := 1, slots := 2, locals := 35 } : Room) #[(.ref a1), (.ref a2), (.int 0), (.int 2), .null] h0 (Q11_45 Z a1 a2 p4 p8 p9 k10 h0 n0) := by
 refine own_body (L0 := #[vR a1, vR a2, vI 0, vI 2, vN, .unset]) (plainFor_of_name pn_0) (fun m => by first | (simp [entryFrame, mkF, argsToLocals, Value.category]; done) | rfl) fun p e s m below meth c s₁ EN hx hby hml hown hnm hret X0 hZ e0 hh pre0 fin => ?_
 have N0 := Fr.nil n0
 have hq := And.intro hx hby
 obtain ⟨T3, X3, e3, st3⟩ := initO X0 hx hZ hown (ww63 hw) (ww64 hw) (ww65 hw) e0 (g := (mkF m 1 #[vR a1, vR a2, vI 0, vI 2, vN, .unset] [(.ref a1)])) rfl (by rw [hml]; rfl) rfl (hb hby d11_1) (by decide) (W := 0) (by show 2 * 0 + _ ≤ _; exact Nat.le_of_eq rfl) (by decide)
 obtain ⟨T6, X6, e6, st6⟩ := getS2 X3 hx hZ hown (host := "") (Or.inl (ww22 hw)) Via.refl e3 (Sta.ext O0.2 S_5) (g := (mkF m 27 #[vR a1, vR a2, vI 0, vI 2, vN, .unset] [])) rfl (hb hby d11_27)
 obtain ⟨_, T14, L14, X14, hQ14, st14⟩ := own_cS X6 hx hZ hown (ww66 hw) (ww67 hw) (ww68 hw) (ww69 hw) (rm13_46 l Z a0 hw a2 p8 p9 k10 h0 n0 O0 V11 hk12 lt_a2 hk13) e6 pd_9 hml (hb hby d11_36) (Ls := #[vR a1, vR a2, vI 0, vI 2, vN, .unset]) (W := 0) (argsL := [(.ref a2), (.int 0), (.int 2)]) (rest := [])
 obtain ⟨i15, i16, b17, k18, u19, u20, rfl, u22, u23, u24, Ku25, u26, u27⟩ := hQ14
 have Ou25 := O0.keep Ku25 all0
 have sz_b17 : h0.size ≤ b17 := Nat.le_trans (Nat.le_refl _) u23
 have N14 := Fr.app N0 u22
 obtain ⟨_, T28, L28, X28, hQ28, st28⟩ := own_cS X14 hx hZ hown (ww73 hw) (ww74 hw) (ww68 hw) (ww75 hw) (rm15_48 l Z a0 hw b17 i16 i15 k18 T14.heap n0 Ou25 u27) rfl pd_10 hml (hb hby d11_45) (Ls := #[vR a1, vR a2, vI 0, vI 2, vN, vR b17]) (W := 1) (argsL := [(.ref b17), (.int 2)]) (rest := [(.ref a1)])
 obtain ⟨rfl, u30, u31⟩ := hQ28
 have N28 := Fr.app N14 u30
 have f35 := (F33.keep Ku25 nin0)
 have f36 := (E_32.keep Ku25)
 obtain ⟨T37, h37, X37, e37, W37, st37⟩ := putFN X28 hx hZ hown (ww23 hw) Via.refl u31 f35 f36 (Or.inr ⟨(ww8 hw), rfl, hnm⟩) (ww5 hw) (ty := .byte) (v' := (.int 0)) (by decide) (by exact congrArg Value.int (by decide +kernel : (nar .byte (0 : Int32)) = (0 : Int32))) ((by decide +kernel : (nar .byte (0 : Int32)) = (0 : Int32)) ▸ fits_nar_byte _) (g := (mkF m 48 #[vR a1, vR a2, vI 0, vI 2, vN, vR b17] [(.int 0), (.ref a1)])) rfl rfl (hb hby d11_48)
 have Fw37 : Fld Z h37 a1 C_2 "coder" "B" (.int 0) := Fld.same W37 f35
 have N37 := Fr.snoc X37 N28 g_a1
 have f38 := (Fld.other W37 (F34.keep Ku25 nin0) (Or.inr (own_sl0 hw)))
 have f39 := (Exa.wr W37 f36)
 obtain ⟨T40, h40, X40, e40, W40, st40⟩ := putF X37 hx hZ hown (host := "") (Or.inl (ww16 hw)) Via.refl e37 f38 f39 (Or.inr ⟨(ww7 hw), rfl, hnm⟩) (ww5 hw) (ty := (.array .byte)) (by decide) rfl rfl (g := (mkF m 54 #[vR a1, vR a2, vI 0, vI 2, vN, vR b17] [(.ref b17), (.ref a1)])) rfl rfl (hb hby d11_54)
 have Fw40 : Fld Z h40 a1 C_2 "value" "[B" (.ref b17) := Fld.same W40 f38
 have N40 := Fr.snoc X40 N37 g_a1
 have f41 := (Exa.wr W40 f39)
 have f42 := (Fld.other W40 Fw37 (Or.inr (own_sl1 hw)))
 have f43 := (Exa.wr W40 (Exa.wr W37 u26))
 have f44 := ((u27.other W37 (Ne.symm (own_n lt_a1 u23))).other W40 (Ne.symm (own_n lt_a1 u23)))
 refine fin none _ _ _ _ X40 (fun _ => rfl) (fun fs hr => pre0 _ ?_) (own_atH e40 ?_) (by decide) (by decide)
 ·
  refine o_aloadN X0 hq d11_0 rfl rfl (st3 _ (o_iloadN X3 hq d11_4 rfl (o_ifY X3 hq d11_5 (pc := 5) (pc' := 27) (by decide +kernel) (st6 _ (o_ifN X6 hq d11_30 ((if0 _ _).trans (feq hk7).1) (o_aloadN X6 hq d11_33 rfl rfl (o_iloadN X6 hq d11_34 rfl (o_iloadN X6 hq d11_35 rfl (st14 _ (o_astore X14 hq d11_39 rfl rfl (o_aloadN X14 hq d11_41 rfl rfl (o_aload X14 hq d11_42 rfl rfl (o_iloadN X14 hq d11_44 rfl (st28 _ (st37 _ (o_aloadN X37 hq d11_51 rfl rfl (o_aload X37 hq d11_52 rfl rfl (st40 _ ?_))))))))))))))))))
  exact X40.returnOut hx hret (hb hby d11_57) hr
 ·
  exact ⟨i15, i16, b17, k18, u19, u20, rfl, N40, sz_b17, (own_t (own_t u24 (Keep.of_wr W37).1) (Keep.of_wr W40).1), ((((Keep.refl h0 [a1]).trans Ku25 all0).wr W37 (Or.inl (List.mem_of_getElem? (i := 0) rfl))).wr W40 (Or.inl (List.mem_of_getElem? (i := 0) rfl))), f41, f42, Fw40, f43, f44⟩
def Q10_44 (Z : State) (a1 a2 : Addr) (p3 p4 : Int32) (k5 : ClassId) (p7 : Int32) (h0 : Heap) (n0 : Nat) (v : Option Value) (h : Heap) (L : List Loc) : Prop := (∃ (i16 i17 : Int32) (b18 : Addr) (k19 : ClassId), i17 = (p3.toInt8.toInt32) ∧ i16 = (p4.toInt8.toInt32) ∧ v = none ∧ Fr n0 L ∧ h0.size ≤ b18 ∧ b18 < h.size ∧ Keep h0 h [a1] ∧ Exa Z h a1 C_2 ∧ Fld Z h a1 C_2 "coder" "B" (.int 0) ∧ Fld Z h a1 C_2 "value" "[B" (.ref b18) ∧ Exa Z h b18 "[B" ∧ Arv Z h b18 k19 .byte 2 [(.int i17), (.int i16)] (.int 0))
theorem rm10_44 (l : Launch) (Z : State) (a0 : Array Value) (hw : own_HW Z a0) (a1 a2 : Addr) (p3 p4 : Int32) (k5 : ClassId) (p7 : Int32) (h0 : Heap) (n0 : Nat) (O0 : Old Z n0 h0) (V6 : Arv Z h0 a2 k5 .char 2 [(.int p3), (.int p4)] (.int 0)) (S_8 : Sta Z Z.heap C_2 "COMPACT_STRINGS" "Z" (.int p7)) (hk9 : ¬ (p7 = 0)) (hk10 : ¬ (255 < p3)) (hk11 : ¬ (255 < p4)) (E_12 : Exa Z h0 a1 C_2) (F13 : Fld Z h0 a1 C_2 "coder" "B" (.int 0)) (F14 : Fld Z h0 a1 C_2 "value" "[B" .null) (lt_a2 : a2 < h0.size) (g_a1 : n0 ≤ a1) (lt_a1 : a1 < h0.size) : own_Met l Z M_12 bc10 2 none ({ frames := 3, cells := 1, slots := 2, locals := 52 } : Room) #[(.ref a1), (.ref a2)] h0 (Q10_44 Z a1 a2 p3 p4 k5 p7 h0 n0) := by
 refine own_body (L0 := #[vR a1, vR a2]) (plainFor_of_name pn_0) (fun m => by first | (simp [entryFrame, mkF, argsToLocals, Value.category]; done) | rfl) fun p e s m below meth c s₁ EN hx hby hml hown hnm hret X0 hZ e0 hh pre0 fin => ?_
 have N0 := Fr.nil n0
 have hq := And.intro hx hby
 obtain ⟨_, T15, L15, X15, hQ15, st15⟩ := own_cI X0 hx hZ hown (ww59 hw) (ww60 hw) (ww4 hw) (ww62 hw) (rm11_45 l Z a0 hw a1 a2 p7 p3 p4 k5 h0 n0 O0 S_8 hk9 V6 hk10 hk11 lt_a2 E_12 F13 F14 g_a1 lt_a1) e0 pd_11 hml (hb hby d10_6) (Ls := #[vR a1, vR a2]) (W := 0) (argsL := [(.ref a2), (.int 0), (.int 2), .null]) (rest := []) (b := a1)
 obtain ⟨i16, i17, b18, k19, u20, u21, rfl, u23, u24, u25, Ku26, u27, u28, u29, u30, u31⟩ := hQ15
 have sz_b18 : h0.size ≤ b18 := Nat.le_trans (Nat.le_refl _) u24
 have N15 := Fr.app N0 u23
 refine fin none _ _ _ _ X15 (fun _ => rfl) (fun fs hr => pre0 _ ?_) ?_ (by decide) (by decide)
 ·
  refine o_aloadN X0 hq d10_0 rfl rfl (o_aloadN X0 hq d10_1 rfl rfl (o_iconst X0 hq d10_2 (x := 0) rfl (o_aloadN X0 hq d10_3 rfl rfl (o_alen X0 hq d10_4 hZ e0 V6 (o_null X0 hq d10_5 (st15 _ ?_))))))
  exact X15.returnOut hx hret (hb hby d10_9) hr
 ·
  exact ⟨i16, i17, b18, k19, u20, u21, rfl, N15, sz_b18, u25, ((Keep.refl h0 [a1]).trans Ku26 (allS (Or.inl (List.mem_of_getElem? (i := 0) rfl)) all0)), u27, u28, u29, u30, u31⟩
def Q9_43 (Z : State) (a1 : Addr) (p4 p5 : Int32) (p6 p7 : Int32) (p8 p9 : Int32) (p10 p11 : Int32) (k12 : ClassId) (p24 : Int32) (h0 : Heap) (n0 : Nat) (v : Option Value) (h : Heap) (L : List Loc) : Prop := (∃ (i31 i32 : Int32) (b2 b33 : Addr) (k34 : ClassId), i32 = (p4.toInt8.toInt32) ∧ i31 = (p5.toInt8.toInt32) ∧ v = some (.ref b2) ∧ Fr n0 L ∧ h0.size ≤ b2 ∧ b2 < h.size ∧ h0.size ≤ b33 ∧ b33 < h.size ∧ b2 ≠ b33 ∧ Keep h0 h [] ∧ Exa Z h b2 C_2 ∧ Fld Z h b2 C_2 "coder" "B" (.int 0) ∧ Fld Z h b2 C_2 "value" "[B" (.ref b33) ∧ Exa Z h b33 "[B" ∧ Arv Z h b33 k34 .byte 2 [(.int i32), (.int i31)] (.int 0))
theorem rm9_43 (l : Launch) (Z : State) (a0 : Array Value) (hw : own_HW Z a0) (a1 : Addr) (p4 p5 : Int32) (p6 p7 : Int32) (p8 p9 : Int32) (p10 p11 : Int32) (k12 : ClassId) (p24 : Int32) (h0 : Heap) (n0 : Nat) (O0 : Old Z n0 h0) (V13 : Arv Z h0 a1 k12 .char 8 [(.int p4), (.int p5), (.int p6), (.int p7), (.int p8), (.int p9), (.int p10), (.int p11)] (.int 0)) (hk16 : ¬ (255 < p4)) (hk17 : ¬ (p4 < 0)) (lt_a1 : a1 < h0.size) (hk21 : ¬ (255 < p5)) (hk22 : ¬ (p5 < 0)) (S_25 : Sta Z Z.heap C_2 "COMPACT_STRINGS" "Z" (.int p24)) (hk26 : ¬ (p24 = 0)) : own_Met l Z M_13 bc9 2 (some (.object "java/lang/String")) ({ frames := 4, cells := 3, slots := 8, locals := 66 } : Room) #[(.ref a1), (.int 2)] h0 (Q9_43 Z a1 p4 p5 p6 p7 p8 p9 p10 p11 k12 p24 h0 n0) := by
 refine own_body (L0 := #[vR a1, vI 2]) (plainFor_of_name pn_3) (fun m => by first | (simp [entryFrame, mkF, argsToLocals, Value.category]; done) | rfl) fun p e s m below meth c s₁ EN hx hby hml hown hnm hret X0 hZ e0 hh pre0 fin => ?_
 have N0 := Fr.nil n0
 have hq := And.intro hx hby
 obtain ⟨T2, h2, X2, e2, E2, A2, D2, -, st2⟩ := newO X0 hx hZ hown (ww55 hw) (ww5 hw) (ww4 hw) e0 (g := (mkF m 42 #[vR a1, vI 2] [])) rfl (hb hby d9_42) (by decide) (by decide)
 obtain ⟨b2, g2⟩ : ∃ z, z = h0.size := ⟨_, rfl⟩
 rw [← g2] at A2 D2 st2
 have O2 := O0.ext E2
 have bd_b2 : h0.size ≤ b2 := Nat.le_of_eq g2.symm
 have g_b2 : n0 ≤ b2 := Nat.le_trans (own_z O0) bd_b2
 have sz_b2 : h0.size ≤ b2 := Nat.le_trans (Nat.le_refl _) bd_b2
 have lt_b2 : b2 < h2.size := A2.lt
 have D2_7 : Fld Z h2 b2 C_2 "value" "[B" .null := D2 (Or.inr (ww7 hw)) (ty := (.array .byte)) (by decide)
 have D2_8 : Fld Z h2 b2 C_2 "coder" "B" (.int 0) := D2 (Or.inr (ww8 hw)) (ty := .byte) (by decide)
 obtain ⟨T3, h3, k3, X3, e3, E3, A3, Ex3, st3⟩ := newPE (aty := .char) X2 hx hZ (ww24 hw) e2 (g := (mkF m 47 #[vR a1, vI 2] [(.int 2), (.ref b2), (.ref b2)])) rfl (hb hby d9_47) rfl (by decide +kernel) (cap := 2) (by decide +kernel) (by decide) (by decide) (by decide) (ad := "[C") (by decide +kernel)
 obtain ⟨b3, g3⟩ : ∃ z, z = h2.size := ⟨_, rfl⟩
 rw [← g3] at A3 Ex3 st3
 have O3 := O2.ext E3
 have bd_b3 : h2.size ≤ b3 := Nat.le_of_eq g3.symm
 have g_b3 : n0 ≤ b3 := Nat.le_trans (own_z O2) bd_b3
 have sz_b3 : h0.size ≤ b3 := Nat.le_trans E2.1 bd_b3
 have lt_b3 : b3 < h3.size := A3.lt
 have V3 : Arv Z h3 b3 k3 .char 2 [] (.int 0) := Arv.new A3 (by decide +kernel)
 have f14 := ((V13.ext E2).ext E3)
 obtain ⟨T18, h18, X18, e18, W18, V18, st18⟩ := own_stC X3 hx hZ e3 V3 1 0 p4 p4 0 (own_ncR hk16 hk17) (hb hby d9_54) #[vR a1, vI 2] [(.ref b3), (.ref b2), (.ref b2)] (vs2 := [(.int p4)])
 have O18 := O3.wr W18 g_b3
 have N18 := Fr.snoc X18 N0 g_b3
 have f19 := (f14.other W18 (own_n (own_t lt_a1 E2.1) bd_b3))
 obtain ⟨T23, h23, X23, e23, W23, V23, st23⟩ := own_stC X18 hx hZ e18 V18 1 1 p5 p5 1 (own_ncR hk21 hk22) (hb hby d9_60) #[vR a1, vI 2] [(.ref b3), (.ref b2), (.ref b2)] (vs2 := [(.int p4), (.int p5)])
 have O23 := O18.wr W23 g_b3
 have N23 := Fr.snoc X23 N18 g_b3
 have f27 := (Exa.wr W23 (Exa.wr W18 (Exa.ext E3 A2)))
 have f28 := (Fld.other W23 (Fld.other W18 (Fld.ext E3 D2_8) (Or.inl (own_n lt_b2 bd_b3))) (Or.inl (own_n lt_b2 bd_b3)))
 have f29 := (Fld.other W23 (Fld.other W18 (Fld.ext E3 D2_7) (Or.inl (own_n lt_b2 bd_b3))) (Or.inl (own_n lt_b2 bd_b3)))
 obtain ⟨_, T30, L30, X30, hQ30, st30⟩ := own_cI X23 hx hZ hown (ww56 hw) (ww57 hw) (ww4 hw) (ww58 hw) (rm10_44 l Z a0 hw b2 b3 p4 p5 k3 p24 h23 n0 O23 V23 S_25 hk26 hk16 hk21 f27 f28 f29 (own_t (own_t lt_b3 (Keep.of_wr W18).1) (Keep.of_wr W23).1) g_b2 (own_t (own_t (own_t lt_b2 E3.1) (Keep.of_wr W18).1) (Keep.of_wr W23).1)) e23 pd_12 hml (hb hby d9_61) (Ls := #[vR a1, vI 2]) (W := 1) (argsL := [(.ref b3)]) (rest := [(.ref b2)]) (b := b2)
 obtain ⟨i31, i32, b33, k34, u35, u36, rfl, u38, u39, u40, Ku41, u42, u43, u44, u45, u46⟩ := hQ30
 have sz_b33 : h0.size ≤ b33 := Nat.le_trans (Nat.le_trans (Nat.le_trans (Nat.le_trans E2.1 E3.1) (Keep.of_wr W18).1) (Keep.of_wr W23).1) u39
 have N30 := Fr.app N23 u38
 have ne47 : b2 ≠ b33 := (own_n (own_t (own_t (own_t lt_b2 E3.1) (Keep.of_wr W18).1) (Keep.of_wr W23).1) u39)
 refine fin (some (.ref b2)) _ _ _ _ X30 nofun (fun fs hr => pre0 _ ?_) ?_ (by decide) (by decide)
 ·
  refine o_iloadN X0 hq d9_0 rfl (o_ifY X0 hq d9_1 (pc := 1) (pc' := 15) (by decide +kernel) (o_iloadN X0 hq d9_15 rfl (o_iconst X0 hq d9_16 (x := 1) rfl (o_icmpY X0 hq d9_17 (pc := 17) (pc' := 37) (by decide +kernel) (o_iloadN X0 hq d9_37 rfl (o_iconst X0 hq d9_38 (x := 2) rfl (o_icmpN X0 hq d9_39 (by decide +kernel) (st2 _ (o_dup X2 hq d9_45 rfl (o_iconst X2 hq d9_46 (x := 2) rfl (st3 _ (o_dup X3 hq d9_49 rfl (o_iconst X3 hq d9_50 (x := 0) rfl (o_aloadN X3 hq d9_51 rfl rfl (o_iconst X3 hq d9_52 (x := 0) rfl (o_caload X3 hq d9_53 hZ e3 f14 (i := 0) (v := .int p4) (by decide +kernel) rfl (st18 _ (o_dup X18 hq d9_55 rfl (o_iconst X18 hq d9_56 (x := 1) rfl (o_aloadN X18 hq d9_57 rfl rfl (o_iconst X18 hq d9_58 (x := 1) rfl (o_caload X18 hq d9_59 hZ e18 f19 (i := 1) (v := .int p5) (by decide +kernel) rfl (st23 _ (st30 _ ?_))))))))))))))))))))))))
  show Steps p.tables e below (T30.setTop (mkF m 64 #[vR a1, vI 2] [(.ref b2)])) _
  jvm_step X30.here [X30.here.top, hx, (hb hby d9_64), X30.method', hret, Value.isRef, FieldType.isReference]
  first | (intro acts; rw [hr _ acts rfl rfl rfl]) | rw [hr _ _ rfl rfl rfl]
  exact Steps.refl _
 ·
  exact ⟨i31, i32, b2, b33, k34, u35, u36, rfl, N30, sz_b2, (own_t (own_t (own_t (own_t lt_b2 E3.1) (Keep.of_wr W18).1) (Keep.of_wr W23).1) Ku41.1), sz_b33, u40, ne47, ((((((Keep.refl h0 []).ext E2).ext E3).wr W18 (Or.inr sz_b3)).wr W23 (Or.inr sz_b3)).trans Ku41 (allS (Or.inr sz_b2) all0)), u42, u43, u44, u45, u46⟩
def Q14_53 (Z : State) (a1 a2 : Addr) (p3 p4 p5 : Int32) (k6 k11 : ClassId) (h0 : Heap) (n0 : Nat) (v : Option Value) (h : Heap) (L : List Loc) : Prop := (∃ (i10 i19 i24 : Int32), i10 = (p3.toInt8.toInt32) ∧ i19 = (p4.toInt8.toInt32) ∧ i24 = (p5.toInt8.toInt32) ∧ v = some (.int 3) ∧ Fr n0 L ∧ Keep h0 h [a2] ∧ Exa Z h a2 "[B" ∧ Arv Z h a2 k11 .byte 3 [(.int i10), (.int i19), (.int i24)] (.int 0))
theorem rm14_53 (l : Launch) (Z : State) (a0 : Array Value) (hw : own_HW Z a0) (a1 a2 : Addr) (p3 p4 p5 : Int32) (k6 k11 : ClassId) (h0 : Heap) (n0 : Nat) (O0 : Old Z n0 h0) (V7 : Arv Z h0 a1 k6 .char 3 [(.int p3), (.int p4), (.int p5)] (.int 0)) (hk9 : ¬ (255 < p3)) (V12 : Arv Z h0 a2 k11 .byte 3 [] (.int 0)) (g_a2 : n0 ≤ a2) (E_14 : Exa Z h0 a2 "[B") (hne15 : a1 ≠ a2) (hk18 : ¬ (255 < p4)) (hk23 : ¬ (255 < p5)) : own_Met l Z M_8 bc14 7 (some .int) ({ frames := 0, cells := 0, slots := 0, locals := 0 } : Room) #[(.ref a1), (.int 0), (.ref a2), (.int 0), (.int 3)] h0 (Q14_53 Z a1 a2 p3 p4 p5 k6 k11 h0 n0) := by
 refine own_body (L0 := #[vR a1, vI 0, vR a2, vI 0, vI 3, .unset, .unset]) (plainFor_of_name pn_4) (fun m => by first | (simp [entryFrame, mkF, argsToLocals, Value.category]; done) | rfl) fun p e s m below meth c s₁ EN hx hby hml hown hnm hret X0 hZ e0 hh pre0 fin => ?_
 have N0 := Fr.nil n0
 have hq := And.intro hx hby
 obtain ⟨i10, hi10⟩ : ∃ z, z = (p3.toInt8.toInt32) := ⟨_, rfl⟩
 obtain ⟨T13, h13, X13, e13, W13, V13, st13⟩ := own_stB X0 hx hZ e0 V12 1 0 i10 i10 0 (own_i2b2 hi10 : (i10.toInt8.toInt32) = i10) (hb hby d14_31) #[vR a1, vI 0, vR a2, vI 0, vI 3, vI 0, vI p3] [] (vs2 := [(.int i10)])
 have N13 := Fr.snoc X13 N0 g_a2
 have f16 := (V7.other W13 hne15)
 obtain ⟨i19, hi19⟩ : ∃ z, z = (p4.toInt8.toInt32) := ⟨_, rfl⟩
 obtain ⟨T20, h20, X20, e20, W20, V20, st20⟩ := own_stB X13 hx hZ e13 V13 1 1 i19 i19 1 (own_i2b2 hi19 : (i19.toInt8.toInt32) = i19) (hb hby d14_31) #[vR a1, vI 1, vR a2, vI 1, vI 3, vI 1, vI p4] [] (vs2 := [(.int i10), (.int i19)])
 have N20 := Fr.snoc X20 N13 g_a2
 have f21 := (f16.other W20 hne15)
 obtain ⟨i24, hi24⟩ : ∃ z, z = (p5.toInt8.toInt32) := ⟨_, rfl⟩
 obtain ⟨T25, h25, X25, e25, W25, V25, st25⟩ := own_stB X20 hx hZ e20 V20 1 2 i24 i24 2 (own_i2b2 hi24 : (i24.toInt8.toInt32) = i24) (hb hby d14_31) #[vR a1, vI 2, vR a2, vI 2, vI 3, vI 2, vI p5] [] (vs2 := [(.int i10), (.int i19), (.int i24)])
 have N25 := Fr.snoc X25 N20 g_a2
 have f26 := (Exa.wr W25 (Exa.wr W20 (Exa.wr W13 E_14)))
 refine fin (some (.int 3)) _ _ _ _ X25 nofun (fun fs hr => pre0 _ ?_) (own_atH e25 ?_) (by decide) (by decide)
 ·
  refine o_iconst X0 hq d14_0 (x := 0) rfl (o_istore X0 hq d14_1 rfl (o_iload X0 hq d14_3 rfl (o_iload X0 hq d14_5 rfl (o_icmpN X0 hq d14_7 (by decide +kernel) (o_aloadN X0 hq d14_10 rfl rfl (o_iloadN X0 hq d14_11 rfl (o_caload X0 hq d14_12 hZ e0 V7 (i := 0) (v := .int p3) (by decide +kernel) rfl (o_istore X0 hq d14_13 rfl (o_iload X0 hq d14_15 rfl (o_sipush X0 hq d14_17 (x := 255) rfl (o_icmpY X0 hq d14_20 (pc := 20) (pc' := 26) (flt hk9).2.2.2 (o_aloadN X0 hq d14_26 rfl rfl (o_iloadN X0 hq d14_27 rfl (o_iload X0 hq d14_28 rfl (o_i2b X0 hq d14_30 (z := i10) hi10.symm (st13 _ (o_iinc X13 hq d14_32 rfl (z := 1) (k' := 1) rfl (by decide +kernel) rfl (o_iinc X13 hq d14_35 rfl (z := 1) (k' := 1) rfl (by decide +kernel) rfl (o_iinc X13 hq d14_38 rfl (z := 1) (k' := 1) rfl (by decide +kernel) rfl (o_goto X13 hq d14_41 (pc := 41) (pc' := 3) (o_iload X13 hq d14_3 rfl (o_iload X13 hq d14_5 rfl (o_icmpN X13 hq d14_7 (by decide +kernel) (o_aloadN X13 hq d14_10 rfl rfl (o_iloadN X13 hq d14_11 rfl (o_caload X13 hq d14_12 hZ e13 f16 (i := 1) (v := .int p4) (by decide +kernel) rfl (o_istore X13 hq d14_13 rfl (o_iload X13 hq d14_15 rfl (o_sipush X13 hq d14_17 (x := 255) rfl (o_icmpY X13 hq d14_20 (pc := 20) (pc' := 26) (flt hk18).2.2.2 (o_aloadN X13 hq d14_26 rfl rfl (o_iloadN X13 hq d14_27 rfl (o_iload X13 hq d14_28 rfl (o_i2b X13 hq d14_30 (z := i19) hi19.symm (st20 _ (o_iinc X20 hq d14_32 rfl (z := 2) (k' := 1) rfl (by decide +kernel) rfl (o_iinc X20 hq d14_35 rfl (z := 2) (k' := 1) rfl (by decide +kernel) rfl (o_iinc X20 hq d14_38 rfl (z := 2) (k' := 1) rfl (by decide +kernel) rfl (o_goto X20 hq d14_41 (pc := 41) (pc' := 3) ?_)))))))))))))))))))))))))))))))))))))))
  refine o_iload X20 hq d14_3 rfl (o_iload X20 hq d14_5 rfl (o_icmpN X20 hq d14_7 (by decide +kernel) (o_aloadN X20 hq d14_10 rfl rfl (o_iloadN X20 hq d14_11 rfl (o_caload X20 hq d14_12 hZ e20 f21 (i := 2) (v := .int p5) (by decide +kernel) rfl (o_istore X20 hq d14_13 rfl (o_iload X20 hq d14_15 rfl (o_sipush X20 hq d14_17 (x := 255) rfl (o_icmpY X20 hq d14_20 (pc := 20) (pc' := 26) (flt hk23).2.2.2 (o_aloadN X20 hq d14_26 rfl rfl (o_iloadN X20 hq d14_27 rfl (o_iload X20 hq d14_28 rfl (o_i2b X20 hq d14_30 (z := i24) hi24.symm (st25 _ (o_iinc X25 hq d14_32 rfl (z := 3) (k' := 1) rfl (by decide +kernel) rfl (o_iinc X25 hq d14_35 rfl (z := 3) (k' := 1) rfl (by decide +kernel) rfl (o_iinc X25 hq d14_38 rfl (z := 3) (k' := 1) rfl (by decide +kernel) rfl (o_goto X25 hq d14_41 (pc := 41) (pc' := 3) (o_iload X25 hq d14_3 rfl (o_iload X25 hq d14_5 rfl (o_icmpY X25 hq d14_7 (pc := 7) (pc' := 44) (by decide +kernel) (o_iload X25 hq d14_44 rfl ?_))))))))))))))))))))))
  exact retI X25 hx hret (hb hby d14_46) hr
 ·
  exact ⟨i10, i19, i24, hi10, hi19, hi24, rfl, N25, ((((Keep.refl h0 [a2]).wr W13 (Or.inl (List.mem_of_getElem? (i := 0) rfl))).wr W20 (Or.inl (List.mem_of_getElem? (i := 0) rfl))).wr W25 (Or.inl (List.mem_of_getElem? (i := 0) rfl))), f26, V25⟩
def Q13_52 (Z : State) (a1 : Addr) (p3 p4 p5 : Int32) (k6 : ClassId) (h0 : Heap) (n0 : Nat) (v : Option Value) (h : Heap) (L : List Loc) : Prop := (∃ (i13 i14 i15 : Int32) (b2 : Addr) (k2 : ClassId), i13 = (p3.toInt8.toInt32) ∧ i14 = (p4.toInt8.toInt32) ∧ i15 = (p5.toInt8.toInt32) ∧ v = some (.ref b2) ∧ Fr n0 L ∧ h0.size ≤ b2 ∧ b2 < h.size ∧ Keep h0 h [] ∧ Exa Z h b2 "[B" ∧ Arv Z h b2 k2 .byte 3 [(.int i13), (.int i14), (.int i15)] (.int 0))
theorem rm13_52 (l : Launch) (Z : State) (a0 : Array Value) (hw : own_HW Z a0) (a1 : Addr) (p3 p4 p5 : Int32) (k6 : ClassId) (h0 : Heap) (n0 : Nat) (O0 : Old Z n0 h0) (V7 : Arv Z h0 a1 k6 .char 3 [(.int p3), (.int p4), (.int p5)] (.int 0)) (hk8 : ¬ (255 < p3)) (lt_a1 : a1 < h0.size) (hk9 : ¬ (255 < p4)) (hk10 : ¬ (255 < p5)) : own_Met l Z M_9 bc13 6 (some (.array .byte)) ({ frames := 1, cells := 1, slots := 3, locals := 18 } : Room) #[(.ref a1), (.int 0), (.int 3)] h0 (Q13_52 Z a1 p3 p4 p5 k6 h0 n0) := by
 refine own_body (L0 := #[vR a1, vI 0, vI 3, .unset, .unset, .unset]) (plainFor_of_name pn_4) (fun m => by first | (simp [entryFrame, mkF, argsToLocals, Value.category]; done) | rfl) fun p e s m below meth c s₁ EN hx hby hml hown hnm hret X0 hZ e0 hh pre0 fin => ?_
 have N0 := Fr.nil n0
 have hq := And.intro hx hby
 obtain ⟨T2, h2, k2, X2, e2, E2, A2, Ex2, st2⟩ := newPE (aty := .byte) X0 hx hZ (ww6 hw) e0 (g := (mkF m 1 #[vR a1, vI 0, vI 3, .unset, .unset, .unset] [(.int 3)])) rfl (hb hby d13_1) rfl (by decide +kernel) (cap := 3) (by decide +kernel) (by decide) (by decide) (by decide) (ad := "[B") (by decide +kernel)
 obtain ⟨b2, g2⟩ : ∃ z, z = h0.size := ⟨_, rfl⟩
 rw [← g2] at A2 Ex2 st2
 have O2 := O0.ext E2
 have bd_b2 : h0.size ≤ b2 := Nat.le_of_eq g2.symm
 have g_b2 : n0 ≤ b2 := Nat.le_trans (own_z O0) bd_b2
 have sz_b2 : h0.size ≤ b2 := Nat.le_trans (Nat.le_refl _) bd_b2
 have lt_b2 : b2 < h2.size := A2.lt
 have V2 : Arv Z h2 b2 k2 .byte 3 [] (.int 0) := Arv.new A2 (by decide +kernel)
 have f11 := (V7.ext E2)
 obtain ⟨_, T12, L12, X12, hQ12, st12⟩ := own_cS X2 hx hZ hown (ww70 hw) (ww71 hw) (ww68 hw) (ww72 hw) (rm14_53 l Z a0 hw a1 b2 p3 p4 p5 k6 k2 h2 n0 O2 f11 hk8 V2 g_b2 Ex2 (own_n lt_a1 bd_b2) hk9 hk10) e2 pd_8 hml (hb hby d13_9) (Ls := #[vR a1, vI 0, vI 3, vR b2, .unset, .unset]) (W := 0) (argsL := [(.ref a1), (.int 0), (.ref b2), (.int 0), (.int 3)]) (rest := [])
 obtain ⟨i13, i14, i15, u16, u17, u18, rfl, u20, Ku21, u22, u23⟩ := hQ12
 have N12 := Fr.app N0 u20
 refine fin (some (.ref b2)) _ _ _ _ X12 nofun (fun fs hr => pre0 _ ?_) ?_ (by decide) (by decide)
 ·
  refine o_iloadN X0 hq d13_0 rfl (st2 _ (o_astoreN X2 hq d13_3 rfl rfl (o_aloadN X2 hq d13_4 rfl rfl (o_iloadN X2 hq d13_5 rfl (o_aloadN X2 hq d13_6 rfl rfl (o_iconst X2 hq d13_7 (x := 0) rfl (o_iloadN X2 hq d13_8 rfl (st12 _ (o_istore X12 hq d13_12 rfl (o_iload X12 hq d13_14 rfl (o_iloadN X12 hq d13_16 rfl (o_icmpY X12 hq d13_17 (pc := 17) (pc' := 57) (by decide +kernel) (o_aloadN X12 hq d13_57 rfl rfl ?_)))))))))))))
  show Steps p.tables e below (T12.setTop (mkF m 58 #[vR a1, vI 0, vI 3, vR b2, vI 3, .unset] [(.ref b2)])) _
  jvm_step X12.here [X12.here.top, hx, (hb hby d13_58), X12.method', hret, Value.isRef, FieldType.isReference]
  first | (intro acts; rw [hr _ acts rfl rfl rfl]) | rw [hr _ _ rfl rfl rfl]
  exact Steps.refl _
 ·
  exact ⟨i13, i14, i15, b2, k2, u16, u17, u18, rfl, N12, sz_b2, (own_t lt_b2 Ku21.1), (((Keep.refl h0 []).ext E2).trans Ku21 (allS (Or.inr sz_b2) all0)), u22, u23⟩
def Q15_54 (Z : State) (a1 : Addr) (p2 p3 p4 : Int32) (k5 : ClassId) (h0 : Heap) (n0 : Nat) (v : Option Value) (h : Heap) (L : List Loc) : Prop := (v = some (.int 0) ∧ Fr n0 L ∧ h = h0)
theorem rm15_54 (l : Launch) (Z : State) (a0 : Array Value) (hw : own_HW Z a0) (a1 : Addr) (p2 p3 p4 : Int32) (k5 : ClassId) (h0 : Heap) (n0 : Nat) (O0 : Old Z n0 h0) (V6 : Arv Z h0 a1 k5 .byte 3 [(.int p2), (.int p3), (.int p4)] (.int 0)) : own_Met l Z M_10 bc15 2 (some .byte) ({ frames := 0, cells := 0, slots := 0, locals := 0 } : Room) #[(.ref a1), (.int 3)] h0 (Q15_54 Z a1 p2 p3 p4 k5 h0 n0) := by
 refine own_body (L0 := #[vR a1, vI 3]) (plainFor_of_name pn_4) (fun m => by first | (simp [entryFrame, mkF, argsToLocals, Value.category]; done) | rfl) fun p e s m below meth c s₁ EN hx hby hml hown hnm hret X0 hZ e0 hh pre0 fin => ?_
 have N0 := Fr.nil n0
 have hq := And.intro hx hby
 refine fin (some (.int 0)) _ _ _ _ X0 nofun (fun fs hr => pre0 _ ?_) (own_atH e0 ?_) (by decide) (by decide)
 ·
  refine o_iloadN X0 hq d15_0 rfl (o_aloadN X0 hq d15_1 rfl rfl (o_alen X0 hq d15_2 hZ e0 V6 (o_isub X0 hq d15_3 (z := 0) (by decide +kernel) (o_bipush X0 hq d15_4 (x := 31) rfl (o_iushr X0 hq d15_6 (z := 0) (by decide +kernel) (o_i2b X0 hq d15_7 (z := 0) (by decide +kernel) ?_))))))
  exact retN X0 hx (t := .byte) hret (by simp) (hb hby d15_8) hr
 ·
  exact ⟨rfl, N0, rfl⟩
def Q11_51 (Z : State) (a1 a2 : Addr) (p4 p8 : Int32) (p9 p10 : Int32) (k11 : ClassId) (h0 : Heap) (n0 : Nat) (v : Option Value) (h : Heap) (L : List Loc) : Prop := (∃ (i17 i18 i19 : Int32) (b20 : Addr) (k21 : ClassId), i17 = (p8.toInt8.toInt32) ∧ i18 = (p9.toInt8.toInt32) ∧ i19 = (p10.toInt8.toInt32) ∧ v = none ∧ Fr n0 L ∧ h0.size ≤ b20 ∧ b20 < h.size ∧ Keep h0 h [a1] ∧ Exa Z h a1 C_2 ∧ Fld Z h a1 C_2 "coder" "B" (.int 0) ∧ Fld Z h a1 C_2 "value" "[B" (.ref b20) ∧ Exa Z h b20 "[B" ∧ Arv Z h b20 k21 .byte 3 [(.int i17), (.int i18), (.int i19)] (.int 0))
theorem rm11_51 (l : Launch) (Z : State) (a0 : Array Value) (hw : own_HW Z a0) (a1 a2 : Addr) (p4 p8 : Int32) (p9 p10 : Int32) (k11 : ClassId) (h0 : Heap) (n0 : Nat) (O0 : Old Z n0 h0) (S_5 : Sta Z Z.heap C_2 "COMPACT_STRINGS" "Z" (.int p4)) (hk7 : ¬ (p4 = 0)) (V12 : Arv Z h0 a2 k11 .char 3 [(.int p8), (.int p9), (.int p10)] (.int 0)) (hk13 : ¬ (255 < p8)) (hk14 : ¬ (255 < p9)) (hk15 : ¬ (255 < p10)) (lt_a2 : a2 < h0.size) (E_36 : Exa Z h0 a1 C_2) (F37 : Fld Z h0 a1 C_2 "coder" "B" (.int 0)) (F38 : Fld Z h0 a1 C_2 "value" "[B" .null) (g_a1 : n0 ≤ a1) (lt_a1 : a1 < h0.size) : own_Met l Z M_11 bc11 6 none ({ frames := 2, cells := 1, slots := 3, locals := 35 } : Room) #[(.ref a1), (.ref a2), (.int 0), (.int 3), .null] h0 (Q11_51 Z a1 a2 p4 p8 p9 p10 k11 h0 n0) := by
 refine own_body (L0 := #[vR a1, vR a2, vI 0, vI 3, vN, .unset]) (plainFor_of_name pn_0) (fun m => by first | (simp [entryFrame, mkF, argsToLocals, Value.category]; done) | rfl) fun p e s m below meth c s₁ EN hx hby hml hown hnm hret X0 hZ e0 hh pre0 fin => ?_
 have N0 := Fr.nil n0
 have hq := And.intro hx hby
 obtain ⟨T3, X3, e3, st3⟩ := initO X0 hx hZ hown (ww63 hw) (ww64 hw) (ww65 hw) e0 (g := (mkF m 1 #[vR a1, vR a2, vI 0, vI 3, vN, .unset] [(.ref a1)])) rfl (by rw [hml]; rfl) rfl (hb hby d11_1) (by decide) (W := 0) (by show 2 * 0 + _ ≤ _; exact Nat.le_of_eq rfl) (by decide)
 obtain ⟨T6, X6, e6, st6⟩ := getS2 X3 hx hZ hown (host := "") (Or.inl (ww22 hw)) Via.refl e3 (Sta.ext O0.2 S_5) (g := (mkF m 27 #[vR a1, vR a2, vI 0, vI 3, vN, .unset] [])) rfl (hb hby d11_27)
 obtain ⟨_, T16, L16, X16, hQ16, st16⟩ := own_cS X6 hx hZ hown (ww66 hw) (ww67 hw) (ww68 hw) (ww69 hw) (rm13_52 l Z a0 hw a2 p8 p9 p10 k11 h0 n0 O0 V12 hk13 lt_a2 hk14 hk15) e6 pd_9 hml (hb hby d11_36) (Ls := #[vR a1, vR a2, vI 0, vI 3, vN, .unset]) (W := 0) (argsL := [(.ref a2), (.int 0), (.int 3)]) (rest := [])
 obtain ⟨i17, i18, i19, b20, k21, u22, u23, u24, rfl, u26, u27, u28, Ku29, u30, u31⟩ := hQ16
 have Ou29 := O0.keep Ku29 all0
 have sz_b20 : h0.size ≤ b20 := Nat.le_trans (Nat.le_refl _) u27
 have N16 := Fr.app N0 u26
 obtain ⟨_, T32, L32, X32, hQ32, st32⟩ := own_cS X16 hx hZ hown (ww73 hw) (ww74 hw) (ww68 hw) (ww75 hw) (rm15_54 l Z a0 hw b20 i17 i18 i19 k21 T16.heap n0 Ou29 u31) rfl pd_10 hml (hb hby d11_45) (Ls := #[vR a1, vR a2, vI 0, vI 3, vN, vR b20]) (W := 1) (argsL := [(.ref b20), (.int 3)]) (rest := [(.ref a1)])
 obtain ⟨rfl, u34, u35⟩ := hQ32
 have N32 := Fr.app N16 u34
 have f39 := (F37.keep Ku29 nin0)
 have f40 := (E_36.keep Ku29)
 obtain ⟨T41, h41, X41, e41, W41, st41⟩ := putFN X32 hx hZ hown (ww23 hw) Via.refl u35 f39 f40 (Or.inr ⟨(ww8 hw), rfl, hnm⟩) (ww5 hw) (ty := .byte) (v' := (.int 0)) (by decide) (by exact congrArg Value.int (by decide +kernel : (nar .byte (0 : Int32)) = (0 : Int32))) ((by decide +kernel : (nar .byte (0 : Int32)) = (0 : Int32)) ▸ fits_nar_byte _) (g := (mkF m 48 #[vR a1, vR a2, vI 0, vI 3, vN, vR b20] [(.int 0), (.ref a1)])) rfl rfl (hb hby d11_48)
 have Fw41 : Fld Z h41 a1 C_2 "coder" "B" (.int 0) := Fld.same W41 f39
 have N41 := Fr.snoc X41 N32 g_a1
 have f42 := (Fld.other W41 (F38.keep Ku29 nin0) (Or.inr (own_sl0 hw)))
 have f43 := (Exa.wr W41 f40)
 obtain ⟨T44, h44, X44, e44, W44, st44⟩ := putF X41 hx hZ hown (host := "") (Or.inl (ww16 hw)) Via.refl e41 f42 f43 (Or.inr ⟨(ww7 hw), rfl, hnm⟩) (ww5 hw) (ty := (.array .byte)) (by decide) rfl rfl (g := (mkF m 54 #[vR a1, vR a2, vI 0, vI 3, vN, vR b20] [(.ref b20), (.ref a1)])) rfl rfl (hb hby d11_54)
 have Fw44 : Fld Z h44 a1 C_2 "value" "[B" (.ref b20) := Fld.same W44 f42
 have N44 := Fr.snoc X44 N41 g_a1
 have f45 := (Exa.wr W44 f43)
 have f46 := (Fld.other W44 Fw41 (Or.inr (own_sl1 hw)))
 have f47 := (Exa.wr W44 (Exa.wr W41 u30))
 have f48 := ((u31.other W41 (Ne.symm (own_n lt_a1 u27))).other W44 (Ne.symm (own_n lt_a1 u27)))
 refine fin none _ _ _ _ X44 (fun _ => rfl) (fun fs hr => pre0 _ ?_) (own_atH e44 ?_) (by decide) (by decide)
 ·
  refine o_aloadN X0 hq d11_0 rfl rfl (st3 _ (o_iloadN X3 hq d11_4 rfl (o_ifY X3 hq d11_5 (pc := 5) (pc' := 27) (by decide +kernel) (st6 _ (o_ifN X6 hq d11_30 ((if0 _ _).trans (feq hk7).1) (o_aloadN X6 hq d11_33 rfl rfl (o_iloadN X6 hq d11_34 rfl (o_iloadN X6 hq d11_35 rfl (st16 _ (o_astore X16 hq d11_39 rfl rfl (o_aloadN X16 hq d11_41 rfl rfl (o_aload X16 hq d11_42 rfl rfl (o_iloadN X16 hq d11_44 rfl (st32 _ (st41 _ (o_aloadN X41 hq d11_51 rfl rfl (o_aload X41 hq d11_52 rfl rfl (st44 _ ?_))))))))))))))))))
  exact X44.returnOut hx hret (hb hby d11_57) hr
 ·
  exact ⟨i17, i18, i19, b20, k21, u22, u23, u24, rfl, N44, sz_b20, (own_t (own_t u28 (Keep.of_wr W41).1) (Keep.of_wr W44).1), ((((Keep.refl h0 [a1]).trans Ku29 all0).wr W41 (Or.inl (List.mem_of_getElem? (i := 0) rfl))).wr W44 (Or.inl (List.mem_of_getElem? (i := 0) rfl))), f45, f46, Fw44, f47, f48⟩
def Q10_50 (Z : State) (a1 a2 : Addr) (p3 p4 p5 : Int32) (k6 : ClassId) (p8 : Int32) (h0 : Heap) (n0 : Nat) (v : Option Value) (h : Heap) (L : List Loc) : Prop := (∃ (i18 i19 i20 : Int32) (b21 : Addr) (k22 : ClassId), i18 = (p3.toInt8.toInt32) ∧ i19 = (p4.toInt8.toInt32) ∧ i20 = (p5.toInt8.toInt32) ∧ v = none ∧ Fr n0 L ∧ h0.size ≤ b21 ∧ b21 < h.size ∧ Keep h0 h [a1] ∧ Exa Z h a1 C_2 ∧ Fld Z h a1 C_2 "coder" "B" (.int 0) ∧ Fld Z h a1 C_2 "value" "[B" (.ref b21) ∧ Exa Z h b21 "[B" ∧ Arv Z h b21 k22 .byte 3 [(.int i18), (.int i19), (.int i20)] (.int 0))
theorem rm10_50 (l : Launch) (Z : State) (a0 : Array Value) (hw : own_HW Z a0) (a1 a2 : Addr) (p3 p4 p5 : Int32) (k6 : ClassId) (p8 : Int32) (h0 : Heap) (n0 : Nat) (O0 : Old Z n0 h0) (V7 : Arv Z h0 a2 k6 .char 3 [(.int p3), (.int p4), (.int p5)] (.int 0)) (S_9 : Sta Z Z.heap C_2 "COMPACT_STRINGS" "Z" (.int p8)) (hk10 : ¬ (p8 = 0)) (hk11 : ¬ (255 < p3)) (hk12 : ¬ (255 < p4)) (hk13 : ¬ (255 < p5)) (E_14 : Exa Z h0 a1 C_2) (F15 : Fld Z h0 a1 C_2 "coder" "B" (.int 0)) (F16 : Fld Z h0 a1 C_2 "value" "[B" .null) (lt_a2 : a2 < h0.size) (g_a1 : n0 ≤ a1) (lt_a1 : a1 < h0.size) : own_Met l Z M_12 bc10 2 none ({ frames := 3, cells := 1, slots := 3, locals := 52 } : Room) #[(.ref a1), (.ref a2)] h0 (Q10_50 Z a1 a2 p3 p4 p5 k6 p8 h0 n0) := by
 refine own_body (L0 := #[vR a1, vR a2]) (plainFor_of_name pn_0) (fun m => by first | (simp [entryFrame, mkF, argsToLocals, Value.category]; done) | rfl) fun p e s m below meth c s₁ EN hx hby hml hown hnm hret X0 hZ e0 hh pre0 fin => ?_
 have N0 := Fr.nil n0
 have hq := And.intro hx hby
 obtain ⟨_, T17, L17, X17, hQ17, st17⟩ := own_cI X0 hx hZ hown (ww59 hw) (ww60 hw) (ww4 hw) (ww62 hw) (rm11_51 l Z a0 hw a1 a2 p8 p3 p4 p5 k6 h0 n0 O0 S_9 hk10 V7 hk11 hk12 hk13 lt_a2 E_14 F15 F16 g_a1 lt_a1) e0 pd_11 hml (hb hby d10_6) (Ls := #[vR a1, vR a2]) (W := 0) (argsL := [(.ref a2), (.int 0), (.int 3), .null]) (rest := []) (b := a1)
 obtain ⟨i18, i19, i20, b21, k22, u23, u24, u25, rfl, u27, u28, u29, Ku30, u31, u32, u33, u34, u35⟩ := hQ17
 have sz_b21 : h0.size ≤ b21 := Nat.le_trans (Nat.le_refl _) u28
 have N17 := Fr.app N0 u27
 refine fin none _ _ _ _ X17 (fun _ => rfl) (fun fs hr => pre0 _ ?_) ?_ (by decide) (by decide)
 ·
  refine o_aloadN X0 hq d10_0 rfl rfl (o_aloadN X0 hq d10_1 rfl rfl (o_iconst X0 hq d10_2 (x := 0) rfl (o_aloadN X0 hq d10_3 rfl rfl (o_alen X0 hq d10_4 hZ e0 V7 (o_null X0 hq d10_5 (st17 _ ?_))))))
  exact X17.returnOut hx hret (hb hby d10_9) hr
 ·
  exact ⟨i18, i19, i20, b21, k22, u23, u24, u25, rfl, N17, sz_b21, u29, ((Keep.refl h0 [a1]).trans Ku30 (allS (Or.inl (List.mem_of_getElem? (i := 0) rfl)) all0)), u31, u32, u33, u34, u35⟩
def Q9_49 (Z : State) (a1 : Addr) (p4 p5 : Int32) (p6 p7 : Int32) (p8 p9 : Int32) (p10 p11 : Int32) (k12 : ClassId) (p29 : Int32) (h0 : Heap) (n0 : Nat) (v : Option Value) (h : Heap) (L : List Loc) : Prop := (∃ (i37 i38 i39 : Int32) (b2 b40 : Addr) (k41 : ClassId), i37 = (p4.toInt8.toInt32) ∧ i38 = (p5.toInt8.toInt32) ∧ i39 = (p6.toInt8.toInt32) ∧ v = some (.ref b2) ∧ Fr n0 L ∧ h0.size ≤ b2 ∧ b2 < h.size ∧ h0.size ≤ b40 ∧ b40 < h.size ∧ b2 ≠ b40 ∧ Keep h0 h [] ∧ Exa Z h b2 C_2 ∧ Fld Z h b2 C_2 "coder" "B" (.int 0) ∧ Fld Z h b2 C_2 "value" "[B" (.ref b40) ∧ Exa Z h b40 "[B" ∧ Arv Z h b40 k41 .byte 3 [(.int i37), (.int i38), (.int i39)] (.int 0))
theorem rm9_49 (l : Launch) (Z : State) (a0 : Array Value) (hw : own_HW Z a0) (a1 : Addr) (p4 p5 : Int32) (p6 p7 : Int32) (p8 p9 : Int32) (p10 p11 : Int32) (k12 : ClassId) (p29 : Int32) (h0 : Heap) (n0 : Nat) (O0 : Old Z n0 h0) (V13 : Arv Z h0 a1 k12 .char 8 [(.int p4), (.int p5), (.int p6), (.int p7), (.int p8), (.int p9), (.int p10), (.int p11)] (.int 0)) (hk16 : ¬ (255 < p4)) (hk17 : ¬ (p4 < 0)) (lt_a1 : a1 < h0.size) (hk21 : ¬ (255 < p5)) (hk22 : ¬ (p5 < 0)) (hk26 : ¬ (255 < p6)) (hk27 : ¬ (p6 < 0)) (S_30 : Sta Z Z.heap C_2 "COMPACT_STRINGS" "Z" (.int p29)) (hk31 : ¬ (p29 = 0)) : own_Met l Z M_13 bc9 2 (some (.object "java/lang/String")) ({ frames := 4, cells := 3, slots := 10, locals := 66 } : Room) #[(.ref a1), (.int 3)] h0 (Q9_49 Z a1 p4 p5 p6 p7 p8 p9 p10 p11 k12 p29 h0 n0) := by
 refine own_body (L0 := #[vR a1, vI 3]) (plainFor_of_name pn_3) (fun m => by first | (simp [entryFrame, mkF, argsToLocals, Value.category]; done) | rfl) fun p e s m below meth c s₁ EN hx hby hml hown hnm hret X0 hZ e0 hh pre0 fin => ?_
 have N0 := Fr.nil n0
 have hq := And.intro hx hby
 obtain ⟨T2, h2, X2, e2, E2, A2, D2, -, st2⟩ := newO X0 hx hZ hown (ww55 hw) (ww5 hw) (ww4 hw) e0 (g := (mkF m 70 #[vR a1, vI 3] [])) rfl (hb hby d9_70) (by decide) (by decide)
 obtain ⟨b2, g2⟩ : ∃ z, z = h0.size := ⟨_, rfl⟩
 rw [← g2] at A2 D2 st2
 have O2 := O0.ext E2
 have bd_b2 : h0.size ≤ b2 := Nat.le_of_eq g2.symm
 have g_b2 : n0 ≤ b2 := Nat.le_trans (own_z O0) bd_b2
 have sz_b2 : h0.size ≤ b2 := Nat.le_trans (Nat.le_refl _) bd_b2
 have lt_b2 : b2 < h2.size := A2.lt
 have D2_7 : Fld Z h2 b2 C_2 "value" "[B" .null := D2 (Or.inr (ww7 hw)) (ty := (.array .byte)) (by decide)
 have D2_8 : Fld Z h2 b2 C_2 "coder" "B" (.int 0) := D2 (Or.inr (ww8 hw)) (ty := .byte) (by decide)
 obtain ⟨T3, h3, k3, X3, e3, E3, A3, Ex3, st3⟩ := newPE (aty := .char) X2 hx hZ (ww24 hw) e2 (g := (mkF m 75 #[vR a1, vI 3] [(.int 3), (.ref b2), (.ref b2)])) rfl (hb hby d9_75) rfl (by decide +kernel) (cap := 3) (by decide +kernel) (by decide) (by decide) (by decide) (ad := "[C") (by decide +kernel)
 obtain ⟨b3, g3⟩ : ∃ z, z = h2.size := ⟨_, rfl⟩
 rw [← g3] at A3 Ex3 st3
 have O3 := O2.ext E3
 have bd_b3 : h2.size ≤ b3 := Nat.le_of_eq g3.symm
 have g_b3 : n0 ≤ b3 := Nat.le_trans (own_z O2) bd_b3
 have sz_b3 : h0.size ≤ b3 := Nat.le_trans E2.1 bd_b3
 have lt_b3 : b3 < h3.size := A3.lt
 have V3 : Arv Z h3 b3 k3 .char 3 [] (.int 0) := Arv.new A3 (by decide +kernel)
 have f14 := ((V13.ext E2).ext E3)
 obtain ⟨T18, h18, X18, e18, W18, V18, st18⟩ := own_stC X3 hx hZ e3 V3 1 0 p4 p4 0 (own_ncR hk16 hk17) (hb hby d9_82) #[vR a1, vI 3] [(.ref b3), (.ref b2), (.ref b2)] (vs2 := [(.int p4)])
 have O18 := O3.wr W18 g_b3
 have N18 := Fr.snoc X18 N0 g_b3
 have f19 := (f14.other W18 (own_n (own_t lt_a1 E2.1) bd_b3))
 obtain ⟨T23, h23, X23, e23, W23, V23, st23⟩ := own_stC X18 hx hZ e18 V18 1 1 p5 p5 1 (own_ncR hk21 hk22) (hb hby d9_88) #[vR a1, vI 3] [(.ref b3), (.ref b2), (.ref b2)] (vs2 := [(.int p4), (.int p5)])
 have O23 := O18.wr W23 g_b3
 have N23 := Fr.snoc X23 N18 g_b3
 have f24 := (f19.other W23 (own_n (own_t lt_a1 E2.1) bd_b3))
 obtain ⟨T28, h28, X28, e28, W28, V28, st28⟩ := own_stC X23 hx hZ e23 V23 1 2 p6 p6 2 (own_ncR hk26 hk27) (hb hby d9_94) #[vR a1, vI 3] [(.ref b3), (.ref b2), (.ref b2)] (vs2 := [(.int p4), (.int p5), (.int p6)])
 have O28 := O23.wr W28 g_b3
 have N28 := Fr.snoc X28 N23 g_b3
 have lt32 : b2 < h28.size := (own_t (own_t (own_t (own_t lt_b2 E3.1) (Keep.of_wr W18).1) (Keep.of_wr W23).1) (Keep.of_wr W28).1)
 have f33 := (Exa.wr W28 (Exa.wr W23 (Exa.wr W18 (Exa.ext E3 A2))))
 have f34 := (Fld.other W28 (Fld.other W23 (Fld.other W18 (Fld.ext E3 D2_8) (Or.inl (own_n lt_b2 bd_b3))) (Or.inl (own_n lt_b2 bd_b3))) (Or.inl (own_n lt_b2 bd_b3)))
 have f35 := (Fld.other W28 (Fld.other W23 (Fld.other W18 (Fld.ext E3 D2_7) (Or.inl (own_n lt_b2 bd_b3))) (Or.inl (own_n lt_b2 bd_b3))) (Or.inl (own_n lt_b2 bd_b3)))
 obtain ⟨_, T36, L36, X36, hQ36, st36⟩ := own_cI X28 hx hZ hown (ww56 hw) (ww57 hw) (ww4 hw) (ww58 hw) (rm10_50 l Z a0 hw b2 b3 p4 p5 p6 k3 p29 h28 n0 O28 V28 S_30 hk31 hk16 hk21 hk26 f33 f34 f35 (own_t (own_t (own_t lt_b3 (Keep.of_wr W18).1) (Keep.of_wr W23).1) (Keep.of_wr W28).1) g_b2 lt32) e28 pd_12 hml (hb hby d9_95) (Ls := #[vR a1, vI 3]) (W := 1) (argsL := [(.ref b3)]) (rest := [(.ref b2)]) (b := b2)
 obtain ⟨i37, i38, i39, b40, k41, u42, u43, u44, rfl, u46, u47, u48, Ku49, u50, u51, u52, u53, u54⟩ := hQ36
 have sz_b40 : h0.size ≤ b40 := Nat.le_trans (Nat.le_trans (Nat.le_trans (Nat.le_trans (Nat.le_trans E2.1 E3.1) (Keep.of_wr W18).1) (Keep.of_wr W23).1) (Keep.of_wr W28).1) u47
 have N36 := Fr.app N28 u46
 refine fin (some (.ref b2)) _ _ _ _ X36 nofun (fun fs hr => pre0 _ ?_) ?_ (by decide) (by decide)
 ·
  refine o_iloadN X0 hq d9_0 rfl (o_ifY X0 hq d9_1 (pc := 1) (pc' := 15) (by decide +kernel) (o_iloadN X0 hq d9_15 rfl (o_iconst X0 hq d9_16 (x := 1) rfl (o_icmpY X0 hq d9_17 (pc := 17) (pc' := 37) (by decide +kernel) (o_iloadN X0 hq d9_37 rfl (o_iconst X0 hq d9_38 (x := 2) rfl (o_icmpY X0 hq d9_39 (pc := 39) (pc' := 65) (by decide +kernel) (o_iloadN X0 hq d9_65 rfl (o_iconst X0 hq d9_66 (x := 3) rfl (o_icmpN X0 hq d9_67 (by decide +kernel) (st2 _ (o_dup X2 hq d9_73 rfl (o_iconst X2 hq d9_74 (x := 3) rfl (st3 _ (o_dup X3 hq d9_77 rfl (o_iconst X3 hq d9_78 (x := 0) rfl (o_aloadN X3 hq d9_79 rfl rfl (o_iconst X3 hq d9_80 (x := 0) rfl (o_caload X3 hq d9_81 hZ e3 f14 (i := 0) (v := .int p4) (by decide +kernel) rfl (st18 _ (o_dup X18 hq d9_83 rfl (o_iconst X18 hq d9_84 (x := 1) rfl (o_aloadN X18 hq d9_85 rfl rfl (o_iconst X18 hq d9_86 (x := 1) rfl (o_caload X18 hq d9_87 hZ e18 f19 (i := 1) (v := .int p5) (by decide +kernel) rfl (st23 _ (o_dup X23 hq d9_89 rfl (o_iconst X23 hq d9_90 (x := 2) rfl (o_aloadN X23 hq d9_91 rfl rfl (o_iconst X23 hq d9_92 (x := 2) rfl (o_caload X23 hq d9_93 hZ e23 f24 (i := 2) (v := .int p6) (by decide +kernel) rfl (st28 _ (st36 _ ?_)))))))))))))))))))))))))))))))))
  show Steps p.tables e below (T36.setTop (mkF m 98 #[vR a1, vI 3] [(.ref b2)])) _
  jvm_step X36.here [X36.here.top, hx, (hb hby d9_98), X36.method', hret, Value.isRef, FieldType.isReference]
  first | (intro acts; rw [hr _ acts rfl rfl rfl]) | rw [hr _ _ rfl rfl rfl]
  exact Steps.refl _
 ·
  exact ⟨i37, i38, i39, b2, b40, k41, u42, u43, u44, rfl, N36, sz_b2, (own_t lt32 Ku49.1), sz_b40, u48, (own_n lt32 u47), (((((((Keep.refl h0 []).ext E2).ext E3).wr W18 (Or.inr sz_b3)).wr W23 (Or.inr sz_b3)).wr W28 (Or.inr sz_b3)).trans Ku49 (allS (Or.inr sz_b2) all0)), u50, u51, u52, u53, u54⟩
def Q14_59 (Z : State) (a1 a2 : Addr) (p3 p4 : Int32) (p5 p6 p7 : Int32) (k8 k13 : ClassId) (h0 : Heap) (n0 : Nat) (v : Option Value) (h : Heap) (L : List Loc) : Prop := (∃ (i12 i21 : Int32) (i26 i31 i36 : Int32), i12 = (p3.toInt8.toInt32) ∧ i21 = (p4.toInt8.toInt32) ∧ i26 = (p5.toInt8.toInt32) ∧ i31 = (p6.toInt8.toInt32) ∧ i36 = (p7.toInt8.toInt32) ∧ v = some (.int 5) ∧ Fr n0 L ∧ Keep h0 h [a2] ∧ Exa Z h a2 "[B" ∧ Arv Z h a2 k13 .byte 5 [(.int i12), (.int i21), (.int i26), (.int i31), (.int i36)] (.int 0))
theorem rm14_59 (l : Launch) (Z : State) (a0 : Array Value) (hw : own_HW Z a0) (a1 a2 : Addr) (p3 p4 : Int32) (p5 p6 p7 : Int32) (k8 k13 : ClassId) (h0 : Heap) (n0 : Nat) (O0 : Old Z n0 h0) (V9 : Arv Z h0 a1 k8 .char 5 [(.int p3), (.int p4), (.int p5), (.int p6), (.int p7)] (.int 0)) (hk11 : ¬ (255 < p3)) (V14 : Arv Z h0 a2 k13 .byte 5 [] (.int 0)) (g_a2 : n0 ≤ a2) (E_16 : Exa Z h0 a2 "[B") (hne17 : a1 ≠ a2) (hk20 : ¬ (255 < p4)) (hk25 : ¬ (255 < p5)) (hk30 : ¬ (255 < p6)) (hk35 : ¬ (255 < p7)) : own_Met l Z M_8 bc14 7 (some .int) ({ frames := 0, cells := 0, slots := 0, locals := 0 } : Room) #[(.ref a1), (.int 0), (.ref a2), (.int 0), (.int 5)] h0 (Q14_59 Z a1 a2 p3 p4 p5 p6 p7 k8 k13 h0 n0) := by
 refine own_body (L0 := #[vR a1, vI 0, vR a2, vI 0, vI 5, .unset, .unset]) (plainFor_of_name pn_4) (fun m => by first | (simp [entryFrame, mkF, argsToLocals, Value.category]; done) | rfl) fun p e s m below meth c s₁ EN hx hby hml hown hnm hret X0 hZ e0 hh pre0 fin => ?_
 have N0 := Fr.nil n0
 have hq := And.intro hx hby
 obtain ⟨i12, hi12⟩ : ∃ z, z = (p3.toInt8.toInt32) := ⟨_, rfl⟩
 obtain ⟨T15, h15, X15, e15, W15, V15, st15⟩ := own_stB X0 hx hZ e0 V14 1 0 i12 i12 0 (own_i2b2 hi12 : (i12.toInt8.toInt32) = i12) (hb hby d14_31) #[vR a1, vI 0, vR a2, vI 0, vI 5, vI 0, vI p3] [] (vs2 := [(.int i12)])
 have N15 := Fr.snoc X15 N0 g_a2
 have f18 := (V9.other W15 hne17)
 obtain ⟨i21, hi21⟩ : ∃ z, z = (p4.toInt8.toInt32) := ⟨_, rfl⟩
 obtain ⟨T22, h22, X22, e22, W22, V22, st22⟩ := own_stB X15 hx hZ e15 V15 1 1 i21 i21 1 (own_i2b2 hi21 : (i21.toInt8.toInt32) = i21) (hb hby d14_31) #[vR a1, vI 1, vR a2, vI 1, vI 5, vI 1, vI p4] [] (vs2 := [(.int i12), (.int i21)])
 have N22 := Fr.snoc X22 N15 g_a2
 have f23 := (f18.other W22 hne17)
 obtain ⟨i26, hi26⟩ : ∃ z, z = (p5.toInt8.toInt32) := ⟨_, rfl⟩
 obtain ⟨T27, h27, X27, e27, W27, V27, st27⟩ := own_stB X22 hx hZ e22 V22 1 2 i26 i26 2 (own_i2b2 hi26 : (i26.toInt8.toInt32) = i26) (hb hby d14_31) #[vR a1, vI 2, vR a2, vI 2, vI 5, vI 2, vI p5] [] (vs2 := [(.int i12), (.int i21), (.int i26)])
 have N27 := Fr.snoc X27 N22 g_a2
 have f28 := (f23.other W27 hne17)
 obtain ⟨i31, hi31⟩ : ∃ z, z = (p6.toInt8.toInt32) := ⟨_, rfl⟩
 obtain ⟨T32, h32, X32, e32, W32, V32, st32⟩ := own_stB X27 hx hZ e27 V27 1 3 i31 i31 3 (own_i2b2 hi31 : (i31.toInt8.toInt32) = i31) (hb hby d14_31) #[vR a1, vI 3, vR a2, vI 3, vI 5, vI 3, vI p6] [] (vs2 := [(.int i12), (.int i21), (.int i26), (.int i31)])
 have N32 := Fr.snoc X32 N27 g_a2
 have f33 := (f28.other W32 hne17)
 obtain ⟨i36, hi36⟩ : ∃ z, z = (p7.toInt8.toInt32) := ⟨_, rfl⟩
 obtain ⟨T37, h37, X37, e37, W37, V37, st37⟩ := own_stB X32 hx hZ e32 V32 1 4 i36 i36 4 (own_i2b2 hi36 : (i36.toInt8.toInt32) = i36) (hb hby d14_31) #[vR a1, vI 4, vR a2, vI 4, vI 5, vI 4, vI p7] [] (vs2 := [(.int i12), (.int i21), (.int i26), (.int i31), (.int i36)])
 have N37 := Fr.snoc X37 N32 g_a2
 have f38 := (Exa.wr W37 (Exa.wr W32 (Exa.wr W27 (Exa.wr W22 (Exa.wr W15 E_16)))))
 refine fin (some (.int 5)) _ _ _ _ X37 nofun (fun fs hr => pre0 _ ?_) (own_atH e37 ?_) (by decide) (by decide)
 ·
  refine o_iconst X0 hq d14_0 (x := 0) rfl (o_istore X0 hq d14_1 rfl (o_iload X0 hq d14_3 rfl (o_iload X0 hq d14_5 rfl (o_icmpN X0 hq d14_7 (by decide +kernel) (o_aloadN X0 hq d14_10 rfl rfl (o_iloadN X0 hq d14_11 rfl (o_caload X0 hq d14_12 hZ e0 V9 (i := 0) (v := .int p3) (by decide +kernel) rfl (o_istore X0 hq d14_13 rfl (o_iload X0 hq d14_15 rfl (o_sipush X0 hq d14_17 (x := 255) rfl (o_icmpY X0 hq d14_20 (pc := 20) (pc' := 26) (flt hk11).2.2.2 (o_aloadN X0 hq d14_26 rfl rfl (o_iloadN X0 hq d14_27 rfl (o_iload X0 hq d14_28 rfl (o_i2b X0 hq d14_30 (z := i12) hi12.symm (st15 _ (o_iinc X15 hq d14_32 rfl (z := 1) (k' := 1) rfl (by decide +kernel) rfl (o_iinc X15 hq d14_35 rfl (z := 1) (k' := 1) rfl (by decide +kernel) rfl (o_iinc X15 hq d14_38 rfl (z := 1) (k' := 1) rfl (by decide +kernel) rfl (o_goto X15 hq d14_41 (pc := 41) (pc' := 3) (o_iload X15 hq d14_3 rfl (o_iload X15 hq d14_5 rfl (o_icmpN X15 hq d14_7 (by decide +kernel) (o_aloadN X15 hq d14_10 rfl rfl (o_iloadN X15 hq d14_11 rfl (o_caload X15 hq d14_12 hZ e15 f18 (i := 1) (v := .int p4) (by decide +kernel) rfl (o_istore X15 hq d14_13 rfl (o_iload X15 hq d14_15 rfl (o_sipush X15 hq d14_17 (x := 255) rfl (o_icmpY X15 hq d14_20 (pc := 20) (pc' := 26) (flt hk20).2.2.2 (o_aloadN X15 hq d14_26 rfl rfl (o_iloadN X15 hq d14_27 rfl (o_iload X15 hq d14_28 rfl (o_i2b X15 hq d14_30 (z := i21) hi21.symm (st22 _ (o_iinc X22 hq d14_32 rfl (z := 2) (k' := 1) rfl (by decide +kernel) rfl (o_iinc X22 hq d14_35 rfl (z := 2) (k' := 1) rfl (by decide +kernel) rfl (o_iinc X22 hq d14_38 rfl (z := 2) (k' := 1) rfl (by decide +kernel) rfl (o_goto X22 hq d14_41 (pc := 41) (pc' := 3) ?_)))))))))))))))))))))))))))))))))))))))
  refine o_iload X22 hq d14_3 rfl (o_iload X22 hq d14_5 rfl (o_icmpN X22 hq d14_7 (by decide +kernel) (o_aloadN X22 hq d14_10 rfl rfl (o_iloadN X22 hq d14_11 rfl (o_caload X22 hq d14_12 hZ e22 f23 (i := 2) (v := .int p5) (by decide +kernel) rfl (o_istore X22 hq d14_13 rfl (o_iload X22 hq d14_15 rfl (o_sipush X22 hq d14_17 (x := 255) rfl (o_icmpY X22 hq d14_20 (pc := 20) (pc' := 26) (flt hk25).2.2.2 (o_aloadN X22 hq d14_26 rfl rfl (o_iloadN X22 hq d14_27 rfl (o_iload X22 hq d14_28 rfl (o_i2b X22 hq d14_30 (z := i26) hi26.symm (st27 _ (o_iinc X27 hq d14_32 rfl (z := 3) (k' := 1) rfl (by decide +kernel) rfl (o_iinc X27 hq d14_35 rfl (z := 3) (k' := 1) rfl (by decide +kernel) rfl (o_iinc X27 hq d14_38 rfl (z := 3) (k' := 1) rfl (by decide +kernel) rfl (o_goto X27 hq d14_41 (pc := 41) (pc' := 3) (o_iload X27 hq d14_3 rfl (o_iload X27 hq d14_5 rfl (o_icmpN X27 hq d14_7 (by decide +kernel) (o_aloadN X27 hq d14_10 rfl rfl (o_iloadN X27 hq d14_11 rfl (o_caload X27 hq d14_12 hZ e27 f28 (i := 3) (v := .int p6) (by decide +kernel) rfl (o_istore X27 hq d14_13 rfl (o_iload X27 hq d14_15 rfl (o_sipush X27 hq d14_17 (x := 255) rfl (o_icmpY X27 hq d14_20 (pc := 20) (pc' := 26) (flt hk30).2.2.2 (o_aloadN X27 hq d14_26 rfl rfl (o_iloadN X27 hq d14_27 rfl (o_iload X27 hq d14_28 rfl (o_i2b X27 hq d14_30 (z := i31) hi31.symm (st32 _ (o_iinc X32 hq d14_32 rfl (z := 4) (k' := 1) rfl (by decide +kernel) rfl (o_iinc X32 hq d14_35 rfl (z := 4) (k' := 1) rfl (by decide +kernel) rfl (o_iinc X32 hq d14_38 rfl (z := 4) (k' := 1) rfl (by decide +kernel) rfl (o_goto X32 hq d14_41 (pc := 41) (pc' := 3) (o_iload X32 hq d14_3 rfl (o_iload X32 hq d14_5 rfl ?_)))))))))))))))))))))))))))))))))))))))
  refine o_icmpN X32 hq d14_7 (by decide +kernel) (o_aloadN X32 hq d14_10 rfl rfl (o_iloadN X32 hq d14_11 rfl (o_caload X32 hq d14_12 hZ e32 f33 (i := 4) (v := .int p7) (by decide +kernel) rfl (o_istore X32 hq d14_13 rfl (o_iload X32 hq d14_15 rfl (o_sipush X32 hq d14_17 (x := 255) rfl (o_icmpY X32 hq d14_20 (pc := 20) (pc' := 26) (flt hk35).2.2.2 (o_aloadN X32 hq d14_26 rfl rfl (o_iloadN X32 hq d14_27 rfl (o_iload X32 hq d14_28 rfl (o_i2b X32 hq d14_30 (z := i36) hi36.symm (st37 _ (o_iinc X37 hq d14_32 rfl (z := 5) (k' := 1) rfl (by decide +kernel) rfl (o_iinc X37 hq d14_35 rfl (z := 5) (k' := 1) rfl (by decide +kernel) rfl (o_iinc X37 hq d14_38 rfl (z := 5) (k' := 1) rfl (by decide +kernel) rfl (o_goto X37 hq d14_41 (pc := 41) (pc' := 3) (o_iload X37 hq d14_3 rfl (o_iload X37 hq d14_5 rfl (o_icmpY X37 hq d14_7 (pc := 7) (pc' := 44) (by decide +kernel) (o_iload X37 hq d14_44 rfl ?_))))))))))))))))))))
  exact retI X37 hx hret (hb hby d14_46) hr
 ·
  exact ⟨i12, i21, i26, i31, i36, hi12, hi21, hi26, hi31, hi36, rfl, N37, ((((((Keep.refl h0 [a2]).wr W15 (Or.inl (List.mem_of_getElem? (i := 0) rfl))).wr W22 (Or.inl (List.mem_of_getElem? (i := 0) rfl))).wr W27 (Or.inl (List.mem_of_getElem? (i := 0) rfl))).wr W32 (Or.inl (List.mem_of_getElem? (i := 0) rfl))).wr W37 (Or.inl (List.mem_of_getElem? (i := 0) rfl))), f38, V37⟩
def Q13_58 (Z : State) (a1 : Addr) (p3 p4 : Int32) (p5 p6 p7 : Int32) (k8 : ClassId) (h0 : Heap) (n0 : Nat) (v : Option Value) (h : Heap) (L : List Loc) : Prop := (∃ (i17 i18 : Int32) (i19 i20 i21 : Int32) (b2 : Addr) (k2 : ClassId), i17 = (p3.toInt8.toInt32) ∧ i18 = (p4.toInt8.toInt32) ∧ i19 = (p5.toInt8.toInt32) ∧ i20 = (p6.toInt8.toInt32) ∧ i21 = (p7.toInt8.toInt32) ∧ v = some (.ref b2) ∧ Fr n0 L ∧ h0.size ≤ b2 ∧ b2 < h.size ∧ Keep h0 h [] ∧ Exa Z h b2 "[B" ∧ Arv Z h b2 k2 .byte 5 [(.int i17), (.int i18), (.int i19), (.int i20), (.int i21)] (.int 0))
theorem rm13_58 (l : Launch) (Z : State) (a0 : Array Value) (hw : own_HW Z a0) (a1 : Addr) (p3 p4 : Int32) (p5 p6 p7 : Int32) (k8 : ClassId) (h0 : Heap) (n0 : Nat) (O0 : Old Z n0 h0) (V9 : Arv Z h0 a1 k8 .char 5 [(.int p3), (.int p4), (.int p5), (.int p6), (.int p7)] (.int 0)) (hk10 : ¬ (255 < p3)) (lt_a1 : a1 < h0.size) (hk11 : ¬ (255 < p4)) (hk12 : ¬ (255 < p5)) (hk13 : ¬ (255 < p6)) (hk14 : ¬ (255 < p7)) : own_Met l Z M_9 bc13 6 (some (.array .byte)) ({ frames := 1, cells := 1, slots := 5, locals := 18 } : Room) #[(.ref a1), (.int 0), (.int 5)] h0 (Q13_58 Z a1 p3 p4 p5 p6 p7 k8 h0 n0) := by
 refine own_body (L0 := #[vR a1, vI 0, vI 5, .unset, .unset, .unset]) (plainFor_of_name pn_4) (fun m => by first | (simp [entryFrame, mkF, argsToLocals, Value.category]; done) | rfl) fun p e s m below meth c s₁ EN hx hby hml hown hnm hret X0 hZ e0 hh pre0 fin => ?_
 have N0 := Fr.nil n0
 have hq := And.intro hx hby
 obtain ⟨T2, h2, k2, X2, e2, E2, A2, Ex2, st2⟩ := newPE (aty := .byte) X0 hx hZ (ww6 hw) e0 (g := (mkF m 1 #[vR a1, vI 0, vI 5, .unset, .unset, .unset] [(.int 5)])) rfl (hb hby d13_1) rfl (by decide +kernel) (cap := 5) (by decide +kernel) (by decide) (by decide) (by decide) (ad := "[B") (by decide +kernel)
 obtain ⟨b2, g2⟩ : ∃ z, z = h0.size := ⟨_, rfl⟩
 rw [← g2] at A2 Ex2 st2
 have O2 := O0.ext E2
 have bd_b2 : h0.size ≤ b2 := Nat.le_of_eq g2.symm
 have g_b2 : n0 ≤ b2 := Nat.le_trans (own_z O0) bd_b2
 have sz_b2 : h0.size ≤ b2 := Nat.le_trans (Nat.le_refl _) bd_b2
 have lt_b2 : b2 < h2.size := A2.lt
 have V2 : Arv Z h2 b2 k2 .byte 5 [] (.int 0) := Arv.new A2 (by decide +kernel)
 have f15 := (V9.ext E2)
 obtain ⟨_, T16, L16, X16, hQ16, st16⟩ := own_cS X2 hx hZ hown (ww70 hw) (ww71 hw) (ww68 hw) (ww72 hw) (rm14_59 l Z a0 hw a1 b2 p3 p4 p5 p6 p7 k8 k2 h2 n0 O2 f15 hk10 V2 g_b2 Ex2 (own_n lt_a1 bd_b2) hk11 hk12 hk13 hk14) e2 pd_8 hml (hb hby d13_9) (Ls := #[vR a1, vI 0, vI 5, vR b2, .unset, .unset]) (W := 0) (argsL := [(.ref a1), (.int 0), (.ref b2), (.int 0), (.int 5)]) (rest := [])
 obtain ⟨i17, i18, i19, i20, i21, u22, u23, u24, u25, u26, rfl, u28, Ku29, u30, u31⟩ := hQ16
 have N16 := Fr.app N0 u28
 refine fin (some (.ref b2)) _ _ _ _ X16 nofun (fun fs hr => pre0 _ ?_) ?_ (by decide) (by decide)
 ·
  refine o_iloadN X0 hq d13_0 rfl (st2 _ (o_astoreN X2 hq d13_3 rfl rfl (o_aloadN X2 hq d13_4 rfl rfl (o_iloadN X2 hq d13_5 rfl (o_aloadN X2 hq d13_6 rfl rfl (o_iconst X2 hq d13_7 (x := 0) rfl (o_iloadN X2 hq d13_8 rfl (st16 _ (o_istore X16 hq d13_12 rfl (o_iload X16 hq d13_14 rfl (o_iloadN X16 hq d13_16 rfl (o_icmpY X16 hq d13_17 (pc := 17) (pc' := 57) (by decide +kernel) (o_aloadN X16 hq d13_57 rfl rfl ?_)))))))))))))
  show Steps p.tables e below (T16.setTop (mkF m 58 #[vR a1, vI 0, vI 5, vR b2, vI 5, .unset] [(.ref b2)])) _
  jvm_step X16.here [X16.here.top, hx, (hb hby d13_58), X16.method', hret, Value.isRef, FieldType.isReference]
  first | (intro acts; rw [hr _ acts rfl rfl rfl]) | rw [hr _ _ rfl rfl rfl]
  exact Steps.refl _
 ·
  exact ⟨i17, i18, i19, i20, i21, b2, k2, u22, u23, u24, u25, u26, rfl, N16, sz_b2, (own_t lt_b2 Ku29.1), (((Keep.refl h0 []).ext E2).trans Ku29 (allS (Or.inr sz_b2) all0)), u30, u31⟩
def Q15_60 (Z : State) (a1 : Addr) (p2 p3 : Int32) (p4 p5 p6 : Int32) (k7 : ClassId) (h0 : Heap) (n0 : Nat) (v : Option Value) (h : Heap) (L : List Loc) : Prop := (v = some (.int 0) ∧ Fr n0 L ∧ h = h0)
theorem rm15_60 (l : Launch) (Z : State) (a0 : Array Value) (hw : own_HW Z a0) (a1 : Addr) (p2 p3 : Int32) (p4 p5 p6 : Int32) (k7 : ClassId) (h0 : Heap) (n0 : Nat) (O0 : Old Z n0 h0) (V8 : Arv Z h0 a1 k7 .byte 5 [(.int p2), (.int p3), (.int p4), (.int p5), (.int p6)] (.int 0)) : own_Met l Z M_10 bc15 2 (some .byte) ({ frames := 0, cells := 0, slots := 0, locals := 0 } : Room) #[(.ref a1), (.int 5)] h0 (Q15_60 Z a1 p2 p3 p4 p5 p6 k7 h0 n0) := by
 refine own_body (L0 := #[vR a1, vI 5]) (plainFor_of_name pn_4) (fun m => by first | (simp [entryFrame, mkF, argsToLocals, Value.category]; done) | rfl) fun p e s m below meth c s₁ EN hx hby hml hown hnm hret X0 hZ e0 hh pre0 fin => ?_
 have N0 := Fr.nil n0
 have hq := And.intro hx hby
 refine fin (some (.int 0)) _ _ _ _ X0 nofun (fun fs hr => pre0 _ ?_) (own_atH e0 ?_) (by decide) (by decide)
 ·
  refine o_iloadN X0 hq d15_0 rfl (o_aloadN X0 hq d15_1 rfl rfl (o_alen X0 hq d15_2 hZ e0 V8 (o_isub X0 hq d15_3 (z := 0) (by decide +kernel) (o_bipush X0 hq d15_4 (x := 31) rfl (o_iushr X0 hq d15_6 (z := 0) (by decide +kernel) (o_i2b X0 hq d15_7 (z := 0) (by decide +kernel) ?_))))))
  exact retN X0 hx (t := .byte) hret (by simp) (hb hby d15_8) hr
 ·
  exact ⟨rfl, N0, rfl⟩
def Q11_57 (Z : State) (a1 a2 : Addr) (p4 p8 : Int32) (p9 p10 : Int32) (p11 p12 : Int32) (k13 : ClassId) (h0 : Heap) (n0 : Nat) (v : Option Value) (h : Heap) (L : List Loc) : Prop := (∃ (i21 i22 : Int32) (i23 i24 i25 : Int32) (b26 : Addr) (k27 : ClassId), i21 = (p8.toInt8.toInt32) ∧ i22 = (p9.toInt8.toInt32) ∧ i23 = (p10.toInt8.toInt32) ∧ i24 = (p11.toInt8.toInt32) ∧ i25 = (p12.toInt8.toInt32) ∧ v = none ∧ Fr n0 L ∧ h0.size ≤ b26 ∧ b26 < h.size ∧ Keep h0 h [a1] ∧ Exa Z h a1 C_2 ∧ Fld Z h a1 C_2 "coder" "B" (.int 0) ∧ Fld Z h a1 C_2 "value" "[B" (.ref b26) ∧ Exa Z h b26 "[B" ∧ Arv Z h b26 k27 .byte 5 [(.int i21), (.int i22), (.int i23), (.int i24), (.int i25)] (.int 0))
theorem rm11_57 (l : Launch) (Z : State) (a0 : Array Value) (hw : own_HW Z a0) (a1 a2 : Addr) (p4 p8 : Int32) (p9 p10 : Int32) (p11 p12 : Int32) (k13 : ClassId) (h0 : Heap) (n0 : Nat) (O0 : Old Z n0 h0) (S_5 : Sta Z Z.heap C_2 "COMPACT_STRINGS" "Z" (.int p4)) (hk7 : ¬ (p4 = 0)) (V14 : Arv Z h0 a2 k13 .char 5 [(.int p8), (.int p9), (.int p10), (.int p11), (.int p12)] (.int 0)) (hk15 : ¬ (255 < p8)) (hk16 : ¬ (255 < p9)) (hk17 : ¬ (255 < p10)) (hk18 : ¬ (255 < p11)) (hk19 : ¬ (255 < p12)) (lt_a2 : a2 < h0.size) (E_44 : Exa Z h0 a1 C_2) (F45 : Fld Z h0 a1 C_2 "coder" "B" (.int 0)) (F46 : Fld Z h0 a1 C_2 "value" "[B" .null) (g_a1 : n0 ≤ a1) (lt_a1 : a1 < h0.size) : own_Met l Z M_11 bc11 6 none ({ frames := 2, cells := 1, slots := 5, locals := 35 } : Room) #[(.ref a1), (.ref a2), (.int 0), (.int 5), .null] h0 (Q11_57 Z a1 a2 p4 p8 p9 p10 p11 p12 k13 h0 n0) := by
 refine own_body (L0 := #[vR a1, vR a2, vI 0, vI 5, vN, .unset]) (plainFor_of_name pn_0) (fun m => by first | (simp [entryFrame, mkF, argsToLocals, Value.category]; done) | rfl) fun p e s m below meth c s₁ EN hx hby hml hown hnm hret X0 hZ e0 hh pre0 fin => ?_
 have N0 := Fr.nil n0
 have hq := And.intro hx hby
 obtain ⟨T3, X3, e3, st3⟩ := initO X0 hx hZ hown (ww63 hw) (ww64 hw) (ww65 hw) e0 (g := (mkF m 1 #[vR a1, vR a2, vI 0, vI 5, vN, .unset] [(.ref a1)])) rfl (by rw [hml]; rfl) rfl (hb hby d11_1) (by decide) (W := 0) (by show 2 * 0 + _ ≤ _; exact Nat.le_of_eq rfl) (by decide)
 obtain ⟨T6, X6, e6, st6⟩ := getS2 X3 hx hZ hown (host := "") (Or.inl (ww22 hw)) Via.refl e3 (Sta.ext O0.2 S_5) (g := (mkF m 27 #[vR a1, vR a2, vI 0, vI 5, vN, .unset] [])) rfl (hb hby d11_27)
 obtain ⟨_, T20, L20, X20, hQ20, st20⟩ := own_cS X6 hx hZ hown (ww66 hw) (ww67 hw) (ww68 hw) (ww69 hw) (rm13_58 l Z a0 hw a2 p8 p9 p10 p11 p12 k13 h0 n0 O0 V14 hk15 lt_a2 hk16 hk17 hk18 hk19) e6 pd_9 hml (hb hby d11_36) (Ls := #[vR a1, vR a2, vI 0, vI 5, vN, .unset]) (W := 0) (argsL := [(.ref a2), (.int 0), (.int 5)]) (rest := [])
 obtain ⟨i21, i22, i23, i24, i25, b26, k27, u28, u29, u30, u31, u32, rfl, u34, u35, u36, Ku37, u38, u39⟩ := hQ20
 have Ou37 := O0.keep Ku37 all0
 have sz_b26 : h0.size ≤ b26 := Nat.le_trans (Nat.le_refl _) u35
 have N20 := Fr.app N0 u34
 obtain ⟨_, T40, L40, X40, hQ40, st40⟩ := own_cS X20 hx hZ hown (ww73 hw) (ww74 hw) (ww68 hw) (ww75 hw) (rm15_60 l Z a0 hw b26 i21 i22 i23 i24 i25 k27 T20.heap n0 Ou37 u39) rfl pd_10 hml (hb hby d11_45) (Ls := #[vR a1, vR a2, vI 0, vI 5, vN, vR b26]) (W := 1) (argsL := [(.ref b26), (.int 5)]) (rest := [(.ref a1)])
 obtain ⟨rfl, u42, u43⟩ := hQ40
 have N40 := Fr.app N20 u42
 have f47 := (F45.keep Ku37 nin0)
 have f48 := (E_44.keep Ku37)
 obtain ⟨T49, h49, X49, e49, W49, st49⟩ := putFN X40 hx hZ hown (ww23 hw) Via.refl u43 f47 f48 (Or.inr ⟨(ww8 hw), rfl, hnm⟩) (ww5 hw) (ty := .byte) (v' := (.int 0)) (by decide) (by exact congrArg Value.int (by decide +kernel : (nar .byte (0 : Int32)) = (0 : Int32))) ((by decide +kernel : (nar .byte (0 : Int32)) = (0 : Int32)) ▸ fits_nar_byte _) (g := (mkF m 48 #[vR a1, vR a2, vI 0, vI 5, vN, vR b26] [(.int 0), (.ref a1)])) rfl rfl (hb hby d11_48)
 have Fw49 : Fld Z h49 a1 C_2 "coder" "B" (.int 0) := Fld.same W49 f47
 have N49 := Fr.snoc X49 N40 g_a1
 have f50 := (Fld.other W49 (F46.keep Ku37 nin0) (Or.inr (own_sl0 hw)))
 have f51 := (Exa.wr W49 f48)
 obtain ⟨T52, h52, X52, e52, W52, st52⟩ := putF X49 hx hZ hown (host := "") (Or.inl (ww16 hw)) Via.refl e49 f50 f51 (Or.inr ⟨(ww7 hw), rfl, hnm⟩) (ww5 hw) (ty := (.array .byte)) (by decide) rfl rfl (g := (mkF m 54 #[vR a1, vR a2, vI 0, vI 5, vN, vR b26] [(.ref b26), (.ref a1)])) rfl rfl (hb hby d11_54)
 have Fw52 : Fld Z h52 a1 C_2 "value" "[B" (.ref b26) := Fld.same W52 f50
 have N52 := Fr.snoc X52 N49 g_a1
 have f53 := (Exa.wr W52 f51)
 have f54 := (Fld.other W52 Fw49 (Or.inr (own_sl1 hw)))
 have f55 := (Exa.wr W52 (Exa.wr W49 u38))
 have f56 := ((u39.other W49 (Ne.symm (own_n lt_a1 u35))).other W52 (Ne.symm (own_n lt_a1 u35)))
 refine fin none _ _ _ _ X52 (fun _ => rfl) (fun fs hr => pre0 _ ?_) (own_atH e52 ?_) (by decide) (by decide)
 ·
  refine o_aloadN X0 hq d11_0 rfl rfl (st3 _ (o_iloadN X3 hq d11_4 rfl (o_ifY X3 hq d11_5 (pc := 5) (pc' := 27) (by decide +kernel) (st6 _ (o_ifN X6 hq d11_30 ((if0 _ _).trans (feq hk7).1) (o_aloadN X6 hq d11_33 rfl rfl (o_iloadN X6 hq d11_34 rfl (o_iloadN X6 hq d11_35 rfl (st20 _ (o_astore X20 hq d11_39 rfl rfl (o_aloadN X20 hq d11_41 rfl rfl (o_aload X20 hq d11_42 rfl rfl (o_iloadN X20 hq d11_44 rfl (st40 _ (st49 _ (o_aloadN X49 hq d11_51 rfl rfl (o_aload X49 hq d11_52 rfl rfl (st52 _ ?_))))))))))))))))))
  exact X52.returnOut hx hret (hb hby d11_57) hr
 ·
  exact ⟨i21, i22, i23, i24, i25, b26, k27, u28, u29, u30, u31, u32, rfl, N52, sz_b26, (own_t (own_t u36 (Keep.of_wr W49).1) (Keep.of_wr W52).1), ((((Keep.refl h0 [a1]).trans Ku37 all0).wr W49 (Or.inl (List.mem_of_getElem? (i := 0) rfl))).wr W52 (Or.inl (List.mem_of_getElem? (i := 0) rfl))), f53, f54, Fw52, f55, f56⟩
def Q10_56 (Z : State) (a1 a2 : Addr) (p3 p4 : Int32) (p5 p6 p7 : Int32) (k8 : ClassId) (p10 : Int32) (h0 : Heap) (n0 : Nat) (v : Option Value) (h : Heap) (L : List Loc) : Prop := (∃ (i22 i23 : Int32) (i24 i25 i26 : Int32) (b27 : Addr) (k28 : ClassId), i22 = (p3.toInt8.toInt32) ∧ i23 = (p4.toInt8.toInt32) ∧ i24 = (p5.toInt8.toInt32) ∧ i25 = (p6.toInt8.toInt32) ∧ i26 = (p7.toInt8.toInt32) ∧ v = none ∧ Fr n0 L ∧ h0.size ≤ b27 ∧ b27 < h.size ∧ Keep h0 h [a1] ∧ Exa Z h a1 C_2 ∧ Fld Z h a1 C_2 "coder" "B" (.int 0) ∧ Fld Z h a1 C_2 "value" "[B" (.ref b27) ∧ Exa Z h b27 "[B" ∧ Arv Z h b27 k28 .byte 5 [(.int i22), (.int i23), (.int i24), (.int i25), (.int i26)] (.int 0))
theorem rm10_56 (l : Launch) (Z : State) (a0 : Array Value) (hw : own_HW Z a0) (a1 a2 : Addr) (p3 p4 : Int32) (p5 p6 p7 : Int32) (k8 : ClassId) (p10 : Int32) (h0 : Heap) (n0 : Nat) (O0 : Old Z n0 h0) (V9 : Arv Z h0 a2 k8 .char 5 [(.int p3), (.int p4), (.int p5), (.int p6), (.int p7)] (.int 0)) (S_11 : Sta Z Z.heap C_2 "COMPACT_STRINGS" "Z" (.int p10)) (hk12 : ¬ (p10 = 0)) (hk13 : ¬ (255 < p3)) (hk14 : ¬ (255 < p4)) (hk15 : ¬ (255 < p5)) (hk16 : ¬ (255 < p6)) (hk17 : ¬ (255 < p7)) (E_18 : Exa Z h0 a1 C_2) (F19 : Fld Z h0 a1 C_2 "coder" "B" (.int 0)) (F20 : Fld Z h0 a1 C_2 "value" "[B" .null) (lt_a2 : a2 < h0.size) (g_a1 : n0 ≤ a1) (lt_a1 : a1 < h0.size) : own_Met l Z M_12 bc10 2 none ({ frames := 3, cells := 1, slots := 5, locals := 52 } : Room) #[(.ref a1), (.ref a2)] h0 (Q10_56 Z a1 a2 p3 p4 p5 p6 p7 k8 p10 h0 n0) := by
 refine own_body (L0 := #[vR a1, vR a2]) (plainFor_of_name pn_0) (fun m => by first | (simp [entryFrame, mkF, argsToLocals, Value.category]; done) | rfl) fun p e s m below meth c s₁ EN hx hby hml hown hnm hret X0 hZ e0 hh pre0 fin => ?_
 have N0 := Fr.nil n0
 have hq := And.intro hx hby
 obtain ⟨_, T21, L21, X21, hQ21, st21⟩ := own_cI X0 hx hZ hown (ww59 hw) (ww60 hw) (ww4 hw) (ww62 hw) (rm11_57 l Z a0 hw a1 a2 p10 p3 p4 p5 p6 p7 k8 h0 n0 O0 S_11 hk12 V9 hk13 hk14 hk15 hk16 hk17 lt_a2 E_18 F19 F20 g_a1 lt_a1) e0 pd_11 hml (hb hby d10_6) (Ls := #[vR a1, vR a2]) (W := 0) (argsL := [(.ref a2), (.int 0), (.int 5), .null]) (rest := []) (b := a1)
 obtain ⟨i22, i23, i24, i25, i26, b27, k28, u29, u30, u31, u32, u33, rfl, u35, u36, u37, Ku38, u39, u40, u41, u42, u43⟩ := hQ21
 have sz_b27 : h0.size ≤ b27 := Nat.le_trans (Nat.le_refl _) u36
 have N21 := Fr.app N0 u35
 refine fin none _ _ _ _ X21 (fun _ => rfl) (fun fs hr => pre0 _ ?_) ?_ (by decide) (by decide)
 ·
  refine o_aloadN X0 hq d10_0 rfl rfl (o_aloadN X0 hq d10_1 rfl rfl (o_iconst X0 hq d10_2 (x := 0) rfl (o_aloadN X0 hq d10_3 rfl rfl (o_alen X0 hq d10_4 hZ e0 V9 (o_null X0 hq d10_5 (st21 _ ?_))))))
  exact X21.returnOut hx hret (hb hby d10_9) hr
 ·
  exact ⟨i22, i23, i24, i25, i26, b27, k28, u29, u30, u31, u32, u33, rfl, N21, sz_b27, u37, ((Keep.refl h0 [a1]).trans Ku38 (allS (Or.inl (List.mem_of_getElem? (i := 0) rfl)) all0)), u39, u40, u41, u42, u43⟩
def Q9_55 (Z : State) (a1 : Addr) (p4 p5 : Int32) (p6 p7 : Int32) (p8 p9 : Int32) (p10 p11 : Int32) (k12 : ClassId) (p39 : Int32) (h0 : Heap) (n0 : Nat) (v : Option Value) (h : Heap) (L : List Loc) : Prop := (∃ (i48 i49 : Int32) (i50 i51 i52 : Int32) (b2 b53 : Addr) (k54 : ClassId), i48 = (p4.toInt8.toInt32) ∧ i49 = (p5.toInt8.toInt32) ∧ i50 = (p6.toInt8.toInt32) ∧ i51 = (p7.toInt8.toInt32) ∧ i52 = (p8.toInt8.toInt32) ∧ v = some (.ref b2) ∧ Fr n0 L ∧ h0.size ≤ b2 ∧ b2 < h.size ∧ h0.size ≤ b53 ∧ b53 < h.size ∧ b2 ≠ b53 ∧ Keep h0 h [] ∧ Exa Z h b2 C_2 ∧ Fld Z h b2 C_2 "coder" "B" (.int 0) ∧ Fld Z h b2 C_2 "value" "[B" (.ref b53) ∧ Exa Z h b53 "[B" ∧ Arv Z h b53 k54 .byte 5 [(.int i48), (.int i49), (.int i50), (.int i51), (.int i52)] (.int 0))
theorem rm9_55 (l : Launch) (Z : State) (a0 : Array Value) (hw : own_HW Z a0) (a1 : Addr) (p4 p5 : Int32) (p6 p7 : Int32) (p8 p9 : Int32) (p10 p11 : Int32) (k12 : ClassId) (p39 : Int32) (h0 : Heap) (n0 : Nat) (O0 : Old Z n0 h0) (V13 : Arv Z h0 a1 k12 .char 8 [(.int p4), (.int p5), (.int p6), (.int p7), (.int p8), (.int p9), (.int p10), (.int p11)] (.int 0)) (hk16 : ¬ (255 < p4)) (hk17 : ¬ (p4 < 0)) (lt_a1 : a1 < h0.size) (hk21 : ¬ (255 < p5)) (hk22 : ¬ (p5 < 0)) (hk26 : ¬ (255 < p6)) (hk27 : ¬ (p6 < 0)) (hk31 : ¬ (255 < p7)) (hk32 : ¬ (p7 < 0)) (hk36 : ¬ (255 < p8)) (hk37 : ¬ (p8 < 0)) (S_40 : Sta Z Z.heap C_2 "COMPACT_STRINGS" "Z" (.int p39)) (hk41 : ¬ (p39 = 0)) : own_Met l Z M_13 bc9 2 (some (.object "java/lang/String")) ({ frames := 4, cells := 3, slots := 14, locals := 66 } : Room) #[(.ref a1), (.int 5)] h0 (Q9_55 Z a1 p4 p5 p6 p7 p8 p9 p10 p11 k12 p39 h0 n0) := by
 refine own_body (L0 := #[vR a1, vI 5]) (plainFor_of_name pn_3) (fun m => by first | (simp [entryFrame, mkF, argsToLocals, Value.category]; done) | rfl) fun p e s m below meth c s₁ EN hx hby hml hown hnm hret X0 hZ e0 hh pre0 fin => ?_
 have N0 := Fr.nil n0
 have hq := And.intro hx hby
 obtain ⟨T2, h2, X2, e2, E2, A2, D2, -, st2⟩ := newO X0 hx hZ hown (ww55 hw) (ww5 hw) (ww4 hw) e0 (g := (mkF m 144 #[vR a1, vI 5] [])) rfl (hb hby d9_144) (by decide) (by decide)
 obtain ⟨b2, g2⟩ : ∃ z, z = h0.size := ⟨_, rfl⟩
 rw [← g2] at A2 D2 st2
 have O2 := O0.ext E2
 have bd_b2 : h0.size ≤ b2 := Nat.le_of_eq g2.symm
 have g_b2 : n0 ≤ b2 := Nat.le_trans (own_z O0) bd_b2
 have sz_b2 : h0.size ≤ b2 := Nat.le_trans (Nat.le_refl _) bd_b2
 have lt_b2 : b2 < h2.size := A2.lt
 have D2_7 : Fld Z h2 b2 C_2 "value" "[B" .null := D2 (Or.inr (ww7 hw)) (ty := (.array .byte)) (by decide)
 have D2_8 : Fld Z h2 b2 C_2 "coder" "B" (.int 0) := D2 (Or.inr (ww8 hw)) (ty := .byte) (by decide)
 obtain ⟨T3, h3, k3, X3, e3, E3, A3, Ex3, st3⟩ := newPE (aty := .char) X2 hx hZ (ww24 hw) e2 (g := (mkF m 149 #[vR a1, vI 5] [(.int 5), (.ref b2), (.ref b2)])) rfl (hb hby d9_149) rfl (by decide +kernel) (cap := 5) (by decide +kernel) (by decide) (by decide) (by decide) (ad := "[C") (by decide +kernel)
 obtain ⟨b3, g3⟩ : ∃ z, z = h2.size := ⟨_, rfl⟩
 rw [← g3] at A3 Ex3 st3
 have O3 := O2.ext E3
 have bd_b3 : h2.size ≤ b3 := Nat.le_of_eq g3.symm
 have g_b3 : n0 ≤ b3 := Nat.le_trans (own_z O2) bd_b3
 have sz_b3 : h0.size ≤ b3 := Nat.le_trans E2.1 bd_b3
 have lt_b3 : b3 < h3.size := A3.lt
 have V3 : Arv Z h3 b3 k3 .char 5 [] (.int 0) := Arv.new A3 (by decide +kernel)
 have f14 := ((V13.ext E2).ext E3)
 obtain ⟨T18, h18, X18, e18, W18, V18, st18⟩ := own_stC X3 hx hZ e3 V3 1 0 p4 p4 0 (own_ncR hk16 hk17) (hb hby d9_156) #[vR a1, vI 5] [(.ref b3), (.ref b2), (.ref b2)] (vs2 := [(.int p4)])
 have O18 := O3.wr W18 g_b3
 have N18 := Fr.snoc X18 N0 g_b3
 have f19 := (f14.other W18 (own_n (own_t lt_a1 E2.1) bd_b3))
 obtain ⟨T23, h23, X23, e23, W23, V23, st23⟩ := own_stC X18 hx hZ e18 V18 1 1 p5 p5 1 (own_ncR hk21 hk22) (hb hby d9_162) #[vR a1, vI 5] [(.ref b3), (.ref b2), (.ref b2)] (vs2 := [(.int p4), (.int p5)])
 have O23 := O18.wr W23 g_b3
 have N23 := Fr.snoc X23 N18 g_b3
 have f24 := (f19.other W23 (own_n (own_t lt_a1 E2.1) bd_b3))
 obtain ⟨T28, h28, X28, e28, W28, V28, st28⟩ := own_stC X23 hx hZ e23 V23 1 2 p6 p6 2 (own_ncR hk26 hk27) (hb hby d9_168) #[vR a1, vI 5] [(.ref b3), (.ref b2), (.ref b2)] (vs2 := [(.int p4), (.int p5), (.int p6)])
 have O28 := O23.wr W28 g_b3
 have N28 := Fr.snoc X28 N23 g_b3
 have f29 := (f24.other W28 (own_n (own_t lt_a1 E2.1) bd_b3))
 obtain ⟨T33, h33, X33, e33, W33, V33, st33⟩ := own_stC X28 hx hZ e28 V28 1 3 p7 p7 3 (own_ncR hk31 hk32) (hb hby d9_174) #[vR a1, vI 5] [(.ref b3), (.ref b2), (.ref b2)] (vs2 := [(.int p4), (.int p5), (.int p6), (.int p7)])
 have O33 := O28.wr W33 g_b3
 have N33 := Fr.snoc X33 N28 g_b3
 have f34 := (f29.other W33 (own_n (own_t lt_a1 E2.1) bd_b3))
 obtain ⟨T38, h38, X38, e38, W38, V38, st38⟩ := own_stC X33 hx hZ e33 V33 1 4 p8 p8 4 (own_ncR hk36 hk37) (hb hby d9_180) #[vR a1, vI 5] [(.ref b3), (.ref b2), (.ref b2)] (vs2 := [(.int p4), (.int p5), (.int p6), (.int p7), (.int p8)])
 have O38 := O33.wr W38 g_b3
 have N38 := Fr.snoc X38 N33 g_b3
 have lt42 : b3 < h38.size := (own_t (own_t (own_t (own_t (own_t lt_b3 (Keep.of_wr W18).1) (Keep.of_wr W23).1) (Keep.of_wr W28).1) (Keep.of_wr W33).1) (Keep.of_wr W38).1)
 have lt43 : b2 < h38.size := (own_t (own_t (own_t (own_t (own_t (own_t lt_b2 E3.1) (Keep.of_wr W18).1) (Keep.of_wr W23).1) (Keep.of_wr W28).1) (Keep.of_wr W33).1) (Keep.of_wr W38).1)
 have f44 := (Exa.wr W38 (Exa.wr W33 (Exa.wr W28 (Exa.wr W23 (Exa.wr W18 (Exa.ext E3 A2))))))
 have f45 := (Fld.other W38 (Fld.other W33 (Fld.other W28 (Fld.other W23 (Fld.other W18 (Fld.ext E3 D2_8) (Or.inl (own_n lt_b2 bd_b3))) (Or.inl (own_n lt_b2 bd_b3))) (Or.inl (own_n lt_b2 bd_b3))) (Or.inl (own_n lt_b2 bd_b3))) (Or.inl (own_n lt_b2 bd_b3)))
 have f46 := (Fld.other W38 (Fld.other W33 (Fld.other W28 (Fld.other W23 (Fld.other W18 (Fld.ext E3 D2_7) (Or.inl (own_n lt_b2 bd_b3))) (Or.inl (own_n lt_b2 bd_b3))) (Or.inl (own_n lt_b2 bd_b3))) (Or.inl (own_n lt_b2 bd_b3))) (Or.inl (own_n lt_b2 bd_b3)))
 obtain ⟨_, T47, L47, X47, hQ47, st47⟩ := own_cI X38 hx hZ hown (ww56 hw) (ww57 hw) (ww4 hw) (ww58 hw) (rm10_56 l Z a0 hw b2 b3 p4 p5 p6 p7 p8 k3 p39 h38 n0 O38 V38 S_40 hk41 hk16 hk21 hk26 hk31 hk36 f44 f45 f46 lt42 g_b2 lt43) e38 pd_12 hml (hb hby d9_181) (Ls := #[vR a1, vI 5]) (W := 1) (argsL := [(.ref b3)]) (rest := [(.ref b2)]) (b := b2)
 obtain ⟨i48, i49, i50, i51, i52, b53, k54, u55, u56, u57, u58, u59, rfl, u61, u62, u63, Ku64, u65, u66, u67, u68, u69⟩ := hQ47
 have sz_b53 : h0.size ≤ b53 := Nat.le_trans (Nat.le_trans (Nat.le_trans (Nat.le_trans (Nat.le_trans (Nat.le_trans (Nat.le_trans E2.1 E3.1) (Keep.of_wr W18).1) (Keep.of_wr W23).1) (Keep.of_wr W28).1) (Keep.of_wr W33).1) (Keep.of_wr W38).1) u62
 have N47 := Fr.app N38 u61
 refine fin (some (.ref b2)) _ _ _ _ X47 nofun (fun fs hr => pre0 _ ?_) ?_ (by decide) (by decide)
 ·
  refine o_iloadN X0 hq d9_0 rfl (o_ifY X0 hq d9_1 (pc := 1) (pc' := 15) (by decide +kernel) (o_iloadN X0 hq d9_15 rfl (o_iconst X0 hq d9_16 (x := 1) rfl (o_icmpY X0 hq d9_17 (pc := 17) (pc' := 37) (by decide +kernel) (o_iloadN X0 hq d9_37 rfl (o_iconst X0 hq d9_38 (x := 2) rfl (o_icmpY X0 hq d9_39 (pc := 39) (pc' := 65) (by decide +kernel) (o_iloadN X0 hq d9_65 rfl (o_iconst X0 hq d9_66 (x := 3) rfl (o_icmpY X0 hq d9_67 (pc := 67) (pc' := 99) (by decide +kernel) (o_iloadN X0 hq d9_99 rfl (o_iconst X0 hq d9_100 (x := 4) rfl (o_icmpY X0 hq d9_101 (pc := 101) (pc' := 139) (by decide +kernel) (o_iloadN X0 hq d9_139 rfl (o_iconst X0 hq d9_140 (x := 5) rfl (o_icmpN X0 hq d9_141 (by decide +kernel) (st2 _ (o_dup X2 hq d9_147 rfl (o_iconst X2 hq d9_148 (x := 5) rfl (st3 _ (o_dup X3 hq d9_151 rfl (o_iconst X3 hq d9_152 (x := 0) rfl (o_aloadN X3 hq d9_153 rfl rfl (o_iconst X3 hq d9_154 (x := 0) rfl (o_caload X3 hq d9_155 hZ e3 f14 (i := 0) (v := .int p4) (by decide +kernel) rfl (st18 _ (o_dup X18 hq d9_157 rfl (o_iconst X18 hq d9_158 (x := 1) rfl (o_aloadN X18 hq d9_159 rfl rfl (o_iconst X18 hq d9_160 (x := 1) rfl (o_caload X18 hq d9_161 hZ e18 f19 (i := 1) (v := .int p5) (by decide +kernel) rfl (st23 _ (o_dup X23 hq d9_163 rfl (o_iconst X23 hq d9_164 (x := 2) rfl (o_aloadN X23 hq d9_165 rfl rfl (o_iconst X23 hq d9_166 (x := 2) rfl (o_caload X23 hq d9_167 hZ e23 f24 (i := 2) (v := .int p6) (by decide +kernel) rfl (st28 _ (o_dup X28 hq d9_169 rfl ?_)))))))))))))))))))))))))))))))))))))))
  refine o_iconst X28 hq d9_170 (x := 3) rfl (o_aloadN X28 hq d9_171 rfl rfl (o_iconst X28 hq d9_172 (x := 3) rfl (o_caload X28 hq d9_173 hZ e28 f29 (i := 3) (v := .int p7) (by decide +kernel) rfl (st33 _ (o_dup X33 hq d9_175 rfl (o_iconst X33 hq d9_176 (x := 4) rfl (o_aloadN X33 hq d9_177 rfl rfl (o_iconst X33 hq d9_178 (x := 4) rfl (o_caload X33 hq d9_179 hZ e33 f34 (i := 4) (v := .int p8) (by decide +kernel) rfl (st38 _ (st47 _ ?_)))))))))))
  show Steps p.tables e below (T47.setTop (mkF m 184 #[vR a1, vI 5] [(.ref b2)])) _
  jvm_step X47.here [X47.here.top, hx, (hb hby d9_184), X47.method', hret, Value.isRef, FieldType.isReference]
  first | (intro acts; rw [hr _ acts rfl rfl rfl]) | rw [hr _ _ rfl rfl rfl]
  exact Steps.refl _
 ·
  exact ⟨i48, i49, i50, i51, i52, b2, b53, k54, u55, u56, u57, u58, u59, rfl, N47, sz_b2, (own_t lt43 Ku64.1), sz_b53, u63, (own_n lt43 u62), (((((((((Keep.refl h0 []).ext E2).ext E3).wr W18 (Or.inr sz_b3)).wr W23 (Or.inr sz_b3)).wr W28 (Or.inr sz_b3)).wr W33 (Or.inr sz_b3)).wr W38 (Or.inr sz_b3)).trans Ku64 (allS (Or.inr sz_b2) all0)), u65, u66, u67, u68, u69⟩
def Q19_63 (Z : State) (a1 a2 : Addr) (k3 : ClassId) (p5 p6 : Int32) (p7 p8 p9 : Int32) (k10 : ClassId) (h0 : Heap) (n0 : Nat) (v : Option Value) (h : Heap) (L : List Loc) : Prop := (87 = p5 ∧ 114 = p6 ∧ 105 = p7 ∧ 116 = p8 ∧ 101 = p9 ∧ v = some (.int 1) ∧ Fr n0 L ∧ h = h0) ∨ (¬ (87 = p5 ∧ 114 = p6 ∧ 105 = p7 ∧ 116 = p8 ∧ 101 = p9) ∧ v = some (.int 0) ∧ Fr n0 L ∧ h = h0)
theorem rm19_63 (l : Launch) (Z : State) (a0 : Array Value) (hw : own_HW Z a0) (a1 a2 : Addr) (k3 : ClassId) (p5 p6 : Int32) (p7 p8 p9 : Int32) (k10 : ClassId) (h0 : Heap) (n0 : Nat) (O0 : Old Z n0 h0) (V4 : Arv Z Z.heap a1 k3 .byte 5 [(.int 87), (.int 114), (.int 105), (.int 116), (.int 101)] (.int 0)) (V11 : Arv Z h0 a2 k10 .byte 5 [(.int p5), (.int p6), (.int p7), (.int p8), (.int p9)] (.int 0)) : own_Met l Z M_15 bc19 3 (some .boolean) ({ frames := 0, cells := 0, slots := 0, locals := 0 } : Room) #[(.ref a1), (.ref a2)] h0 (Q19_63 Z a1 a2 k3 p5 p6 p7 p8 p9 k10 h0 n0) := by
 refine own_body (L0 := #[vR a1, vR a2, .unset]) (plainFor_of_name pn_2) (fun m => by first | (simp [entryFrame, mkF, argsToLocals, Value.category]; done) | rfl) fun p e s m below meth c s₁ EN hx hby hml hown hnm hret X0 hZ e0 hh pre0 fin => ?_
 have N0 := Fr.nil n0
 have hq := And.intro hx hby
 have pre14 : oS p e below EN s₁ (mkF m 21 #[vR a1, vR a2, vI 0] [(.int p5), (.int 87)]) := fun t kt => pre0 t (o_aloadN X0 hq d19_0 rfl rfl (o_alen X0 hq d19_1 hZ e0 (V4.ext O0.2) (o_aloadN X0 hq d19_2 rfl rfl (o_alen X0 hq d19_3 hZ e0 V11 (o_icmpN X0 hq d19_4 (by decide +kernel) (o_iconst X0 hq d19_7 (x := 0) rfl (o_istoreN X0 hq d19_8 rfl (o_iloadN X0 hq d19_9 rfl (o_aloadN X0 hq d19_10 rfl rfl (o_alen X0 hq d19_11 hZ e0 (V4.ext O0.2) (o_icmpN X0 hq d19_12 (by decide +kernel) (o_aloadN X0 hq d19_15 rfl rfl (o_iloadN X0 hq d19_16 rfl (o_baload X0 hq d19_17 hZ e0 (V4.ext O0.2) (i := 0) (v := .int 87) (by decide +kernel) rfl (o_aloadN X0 hq d19_18 rfl rfl (o_iloadN X0 hq d19_19 rfl (o_baload X0 hq d19_20 hZ e0 V11 (i := 0) (v := .int p5) (by decide +kernel) rfl kt)))))))))))))))))
 by_cases hc15 : 87 = p5
 ·
  have pre18 : oS p e below EN s₁ (mkF m 21 #[vR a1, vR a2, vI 1] [(.int p6), (.int 114)]) := fun t kt => pre14 t (o_icmpY X0 hq d19_21 (pc := 21) (pc' := 26) (teq hc15).1 (o_iinc X0 hq d19_26 rfl (z := 1) (k' := 1) rfl (by decide +kernel) rfl (o_goto X0 hq d19_29 (pc := 29) (pc' := 9) (o_iloadN X0 hq d19_9 rfl (o_aloadN X0 hq d19_10 rfl rfl (o_alen X0 hq d19_11 hZ e0 (V4.ext O0.2) (o_icmpN X0 hq d19_12 (by decide +kernel) (o_aloadN X0 hq d19_15 rfl rfl (o_iloadN X0 hq d19_16 rfl (o_baload X0 hq d19_17 hZ e0 (V4.ext O0.2) (i := 1) (v := .int 114) (by decide +kernel) rfl (o_aloadN X0 hq d19_18 rfl rfl (o_iloadN X0 hq d19_19 rfl (o_baload X0 hq d19_20 hZ e0 V11 (i := 1) (v := .int p6) (by decide +kernel) rfl kt)))))))))))))
  by_cases hc19 : 114 = p6
  ·
   have pre22 : oS p e below EN s₁ (mkF m 21 #[vR a1, vR a2, vI 2] [(.int p7), (.int 105)]) := fun t kt => pre18 t (o_icmpY X0 hq d19_21 (pc := 21) (pc' := 26) (teq hc19).1 (o_iinc X0 hq d19_26 rfl (z := 2) (k' := 1) rfl (by decide +kernel) rfl (o_goto X0 hq d19_29 (pc := 29) (pc' := 9) (o_iloadN X0 hq d19_9 rfl (o_aloadN X0 hq d19_10 rfl rfl (o_alen X0 hq d19_11 hZ e0 (V4.ext O0.2) (o_icmpN X0 hq d19_12 (by decide +kernel) (o_aloadN X0 hq d19_15 rfl rfl (o_iloadN X0 hq d19_16 rfl (o_baload X0 hq d19_17 hZ e0 (V4.ext O0.2) (i := 2) (v := .int 105) (by decide +kernel) rfl (o_aloadN X0 hq d19_18 rfl rfl (o_iloadN X0 hq d19_19 rfl (o_baload X0 hq d19_20 hZ e0 V11 (i := 2) (v := .int p7) (by decide +kernel) rfl kt)))))))))))))
   by_cases hc23 : 105 = p7
   ·
    have pre26 : oS p e below EN s₁ (mkF m 21 #[vR a1, vR a2, vI 3] [(.int p8), (.int 116)]) := fun t kt => pre22 t (o_icmpY X0 hq d19_21 (pc := 21) (pc' := 26) (teq hc23).1 (o_iinc X0 hq d19_26 rfl (z := 3) (k' := 1) rfl (by decide +kernel) rfl (o_goto X0 hq d19_29 (pc := 29) (pc' := 9) (o_iloadN X0 hq d19_9 rfl (o_aloadN X0 hq d19_10 rfl rfl (o_alen X0 hq d19_11 hZ e0 (V4.ext O0.2) (o_icmpN X0 hq d19_12 (by decide +kernel) (o_aloadN X0 hq d19_15 rfl rfl (o_iloadN X0 hq d19_16 rfl (o_baload X0 hq d19_17 hZ e0 (V4.ext O0.2) (i := 3) (v := .int 116) (by decide +kernel) rfl (o_aloadN X0 hq d19_18 rfl rfl (o_iloadN X0 hq d19_19 rfl (o_baload X0 hq d19_20 hZ e0 V11 (i := 3) (v := .int p8) (by decide +kernel) rfl kt)))))))))))))
    by_cases hc27 : 116 = p8
    ·
     have pre30 : oS p e below EN s₁ (mkF m 21 #[vR a1, vR a2, vI 4] [(.int p9), (.int 101)]) := fun t kt => pre26 t (o_icmpY X0 hq d19_21 (pc := 21) (pc' := 26) (teq hc27).1 (o_iinc X0 hq d19_26 rfl (z := 4) (k' := 1) rfl (by decide +kernel) rfl (o_goto X0 hq d19_29 (pc := 29) (pc' := 9) (o_iloadN X0 hq d19_9 rfl (o_aloadN X0 hq d19_10 rfl rfl (o_alen X0 hq d19_11 hZ e0 (V4.ext O0.2) (o_icmpN X0 hq d19_12 (by decide +kernel) (o_aloadN X0 hq d19_15 rfl rfl (o_iloadN X0 hq d19_16 rfl (o_baload X0 hq d19_17 hZ e0 (V4.ext O0.2) (i := 4) (v := .int 101) (by decide +kernel) rfl (o_aloadN X0 hq d19_18 rfl rfl (o_iloadN X0 hq d19_19 rfl (o_baload X0 hq d19_20 hZ e0 V11 (i := 4) (v := .int p9) (by decide +kernel) rfl kt)))))))))))))
     by_cases hc31 : 101 = p9
     ·
      refine fin (some (.int 1)) _ _ _ _ X0 nofun (fun fs hr => pre30 _ ?_) (own_atH e0 ?_) (by decide) (by decide)
      ·
       refine o_icmpY X0 hq d19_21 (pc := 21) (pc' := 26) (teq hc31).1 (o_iinc X0 hq d19_26 rfl (z := 5) (k' := 1) rfl (by decide +kernel) rfl (o_goto X0 hq d19_29 (pc := 29) (pc' := 9) (o_iloadN X0 hq d19_9 rfl (o_aloadN X0 hq d19_10 rfl rfl (o_alen X0 hq d19_11 hZ e0 (V4.ext O0.2) (o_icmpY X0 hq d19_12 (pc := 12) (pc' := 32) (by decide +kernel) (o_iconst X0 hq d19_32 (x := 1) rfl ?_)))))))
       exact retN X0 hx (t := .boolean) hret (by simp) (hb hby d19_33) hr
      ·
       exact Or.inl (⟨hc15, hc19, hc23, hc27, hc31, rfl, N0, rfl⟩)
     ·
      refine fin (some (.int 0)) _ _ _ _ X0 nofun (fun fs hr => pre30 _ ?_) (own_atH e0 ?_) (by decide) (by decide)
      ·
       refine o_icmpN X0 hq d19_21 (feq hc31).1 (o_iconst X0 hq d19_24 (x := 0) rfl ?_)
       exact retN X0 hx (t := .boolean) hret (by simp) (hb hby d19_25) hr
      ·
       exact Or.inr (⟨(fun q => hc31 q.2.2.2.2), rfl, N0, rfl⟩)
    ·
     refine fin (some (.int 0)) _ _ _ _ X0 nofun (fun fs hr => pre26 _ ?_) (own_atH e0 ?_) (by decide) (by decide)
     ·
      refine o_icmpN X0 hq d19_21 (feq hc27).1 (o_iconst X0 hq d19_24 (x := 0) rfl ?_)
      exact retN X0 hx (t := .boolean) hret (by simp) (hb hby d19_25) hr
     ·
      exact Or.inr (⟨(fun q => hc27 q.2.2.2.1), rfl, N0, rfl⟩)
   ·
    refine fin (some (.int 0)) _ _ _ _ X0 nofun (fun fs hr => pre22 _ ?_) (own_atH e0 ?_) (by decide) (by decide)
    ·
     refine o_icmpN X0 hq d19_21 (feq hc23).1 (o_iconst X0 hq d19_24 (x := 0) rfl ?_)
     exact retN X0 hx (t := .boolean) hret (by simp) (hb hby d19_25) hr
    ·
     exact Or.inr (⟨(fun q => hc23 q.2.2.1), rfl, N0, rfl⟩)
  ·
   refine fin (some (.int 0)) _ _ _ _ X0 nofun (fun fs hr => pre18 _ ?_) (own_atH e0 ?_) (by decide) (by decide)
   ·
    refine o_icmpN X0 hq d19_21 (feq hc19).1 (o_iconst X0 hq d19_24 (x := 0) rfl ?_)
    exact retN X0 hx (t := .boolean) hret (by simp) (hb hby d19_25) hr
   ·
    exact Or.inr (⟨(fun q => hc19 q.2.1), rfl, N0, rfl⟩)
 ·
  refine fin (some (.int 0)) _ _ _ _ X0 nofun (fun fs hr => pre14 _ ?_) (own_atH e0 ?_) (by decide) (by decide)
  ·
   refine o_icmpN X0 hq d19_21 (feq hc15).1 (o_iconst X0 hq d19_24 (x := 0) rfl ?_)
   exact retN X0 hx (t := .boolean) hret (by simp) (hb hby d19_25) hr
  ·
   exact Or.inr (⟨(fun q => hc15 q.1), rfl, N0, rfl⟩)
def Q18_62 (Z : State) (a1 a2 : Addr) (p7 : Int32) (a15 a18 : Addr) (k21 : ClassId) (p23 p24 : Int32) (p25 p26 p27 : Int32) (k28 : ClassId) (h0 : Heap) (n0 : Nat) (v : Option Value) (h : Heap) (L : List Loc) : Prop := (87 = p23 ∧ 114 = p24 ∧ 105 = p25 ∧ 116 = p26 ∧ 101 = p27 ∧ v = some (.int 1) ∧ Fr n0 L ∧ h = h0) ∨ (¬ (87 = p23 ∧ 114 = p24 ∧ 105 = p25 ∧ 116 = p26 ∧ 101 = p27) ∧ v = some (.int 0) ∧ Fr n0 L ∧ h = h0)
theorem rm18_62 (l : Launch) (Z : State) (a0 : Array Value) (hw : own_HW Z a0) (a1 a2 : Addr) (p7 : Int32) (a15 a18 : Addr) (k21 : ClassId) (p23 p24 : Int32) (p25 p26 p27 : Int32) (k28 : ClassId) (h0 : Heap) (n0 : Nat) (O0 : Old Z n0 h0) (hne3 : a1 ≠ a2) (E_4 : Exa Z h0 a2 C_2) (S_8 : Sta Z Z.heap C_2 "COMPACT_STRINGS" "Z" (.int p7)) (hk10 : ¬ (p7 = 0)) (F11 : Fld Z Z.heap a1 C_2 "coder" "B" (.int 0)) (F13 : Fld Z h0 a2 C_2 "coder" "B" (.int 0)) (F16 : Fld Z Z.heap a1 C_2 "value" "[B" (.ref a15)) (F19 : Fld Z h0 a2 C_2 "value" "[B" (.ref a18)) (V22 : Arv Z Z.heap a15 k21 .byte 5 [(.int 87), (.int 114), (.int 105), (.int 116), (.int 101)] (.int 0)) (V29 : Arv Z h0 a18 k28 .byte 5 [(.int p23), (.int p24), (.int p25), (.int p26), (.int p27)] (.int 0)) : own_Met l Z M_16 bc18 3 (some .boolean) ({ frames := 1, cells := 0, slots := 0, locals := 14 } : Room) #[(.ref a1), (.ref a2)] h0 (Q18_62 Z a1 a2 p7 a15 a18 k21 p23 p24 p25 p26 p27 k28 h0 n0) := by
 refine own_body (L0 := #[vR a1, vR a2, .unset]) (plainFor_of_name pn_0) (fun m => by first | (simp [entryFrame, mkF, argsToLocals, Value.category]; done) | rfl) fun p e s m below meth c s₁ EN hx hby hml hown hnm hret X0 hZ e0 hh pre0 fin => ?_
 have N0 := Fr.nil n0
 have hq := And.intro hx hby
 obtain ⟨T5, X5, e5, st5⟩ := instY X0 hx hZ hown (ww104 hw) e0 (Ins.self E_4) (g := (mkF m 8 #[vR a1, vR a2, .unset] [(.ref a2)])) rfl rfl (hb hby d18_8)
 obtain ⟨T6, X6, e6, st6⟩ := castY X5 hx hZ hown (ww104 hw) e5 (Ins.self E_4) (g := (mkF m 15 #[vR a1, vR a2, .unset] [(.ref a2)])) rfl rfl (hb hby d18_15)
 obtain ⟨T9, X9, e9, st9⟩ := getS2 X6 hx hZ hown (host := "") (Or.inl (ww22 hw)) Via.refl e6 (Sta.ext O0.2 S_8) (g := (mkF m 19 #[vR a1, vR a2, vR a2] [])) rfl (hb hby d18_19)
 obtain ⟨T12, X12, e12, st12⟩ := getF X9 hx hZ hown (host := "") (Or.inl (ww23 hw)) Via.refl e9 (Fld.ext O0.2 F11) (g := (mkF m 26 #[vR a1, vR a2, vR a2] [(.ref a1)])) rfl rfl (hb hby d18_26)
 obtain ⟨T14, X14, e14, st14⟩ := getF X12 hx hZ hown (host := "") (Or.inl (ww23 hw)) Via.refl e12 F13 (g := (mkF m 30 #[vR a1, vR a2, vR a2] [(.ref a2), (.int 0)])) rfl rfl (hb hby d18_30)
 obtain ⟨T17, X17, e17, st17⟩ := getF X14 hx hZ hown (host := "") (Or.inl (ww16 hw)) Via.refl e14 (Fld.ext O0.2 F16) (g := (mkF m 37 #[vR a1, vR a2, vR a2] [(.ref a1)])) rfl rfl (hb hby d18_37)
 obtain ⟨T20, X20, e20, st20⟩ := getF X17 hx hZ hown (host := "") (Or.inl (ww16 hw)) Via.refl e17 F19 (g := (mkF m 41 #[vR a1, vR a2, vR a2] [(.ref a2), (.ref a15)])) rfl rfl (hb hby d18_41)
 have pre31 : oS p e below EN T20 (mkF m 44 #[vR a1, vR a2, vR a2] [(.ref a18), (.ref a15)]) := fun t kt => pre0 t (o_aloadN X0 hq d18_0 rfl rfl (o_aloadN X0 hq d18_1 rfl rfl (Jvm.RoadKit.acmp (g := (mkF m 2 #[vR a1, vR a2, .unset] [(.ref a2), (.ref a1)])) X0 hx rfl rfl rfl (pc0 := 2) (pc' := 7) (same := false) rfl (hb hby d18_2) rfl (decide_eq_false fun q => hne3 (Value.ref.inj q)) (by decide) (by decide) (o_aloadN X0 hq d18_7 rfl rfl (st5 _ (o_ifN X5 hq d18_11 (by decide +kernel) (o_aloadN X5 hq d18_14 rfl rfl (st6 _ (o_astoreN X6 hq d18_18 rfl rfl (st9 _ (o_ifN X9 hq d18_22 ((if0 _ _).trans (feq hk10).1) (o_aloadN X9 hq d18_25 rfl rfl (st12 _ (o_aloadN X12 hq d18_29 rfl rfl (st14 _ (o_icmpN X14 hq d18_33 (by decide +kernel) (o_aloadN X14 hq d18_36 rfl rfl (st17 _ (o_aloadN X17 hq d18_40 rfl rfl (st20 _ kt))))))))))))))))))))
 obtain ⟨_, T30, L30, X30, hQ30, st30⟩ := own_cS X20 hx hZ hown (ww105 hw) (ww106 hw) (ww41 hw) (ww107 hw) (rm19_63 l Z a0 hw a15 a18 k21 p23 p24 p25 p26 p27 k28 h0 n0 O0 V22 V29) e20 pd_15 hml (hb hby d18_44) (Ls := #[vR a1, vR a2, vR a2]) (W := 0) (argsL := [(.ref a15), (.ref a18)]) (rest := [])
 rcases hQ30 with ⟨u32, u33, u34, u35, u36, rfl, u38, u39⟩ | ⟨u40, rfl, u42, u43⟩
 ·
  have N30 := Fr.app N0 u38
  refine fin (some (.int 1)) _ _ _ _ X30 nofun (fun fs hr => pre31 _ ?_) (own_atH u39 ?_) (by decide) (by decide)
  ·
   refine st30 _ (o_ifN X30 hq d18_47 (by decide +kernel) (o_iconst X30 hq d18_50 (x := 1) rfl (o_goto X30 hq d18_51 (pc := 51) (pc' := 55) ?_)))
   exact retN X30 hx (t := .boolean) hret (by simp) (hb hby d18_55) hr
  ·
   exact Or.inl (⟨u32, u33, u34, u35, u36, rfl, N30, rfl⟩)
 ·
  have N30 := Fr.app N0 u42
  refine fin (some (.int 0)) _ _ _ _ X30 nofun (fun fs hr => pre31 _ ?_) (own_atH u43 ?_) (by decide) (by decide)
  ·
   refine st30 _ (o_ifY X30 hq d18_47 (pc := 47) (pc' := 54) (by decide +kernel) (o_iconst X30 hq d18_54 (x := 0) rfl ?_))
   exact retN X30 hx (t := .boolean) hret (by simp) (hb hby d18_55) hr
  ·
   exact Or.inr (⟨u40, rfl, N30, rfl⟩)
def Q16_61 (Z : State) (a1 a2 : Addr) (a4 a6 : Addr) (a7 a8 a9 : Addr) (k10 : ClassId) (a23 : Addr) (p29 : Int32) (a34 : Addr) (k36 : ClassId) (p38 p39 : Int32) (p40 p41 p42 : Int32) (k43 : ClassId) (a54 a60 : Addr) (k62 : ClassId) (a88 a94 : Addr) (k96 : ClassId) (a103 a109 : Addr) (k111 : ClassId) (a117 : Addr) (h0 : Heap) (n0 : Nat) (v : Option Value) (h : Heap) (L : List Loc) : Prop := (∃ (b79 : Addr), 87 = p38 ∧ 114 = p39 ∧ 105 = p40 ∧ 116 = p41 ∧ 101 = p42 ∧ v = some (.ref b79) ∧ Fr n0 L ∧ h0.size ≤ b79 ∧ b79 < h.size ∧ Keep h0 h [] ∧ Exa Z h b79 C_7 ∧ Fld Z h b79 C_7 "value" C_8 (.ref a7)) ∨ (¬ (87 = p38 ∧ 114 = p39 ∧ 105 = p40 ∧ 116 = p41 ∧ 101 = p42) ∧ v = some (.ref a117) ∧ Fr n0 L ∧ Keep h0 h [])
theorem rm16_61 (l : Launch) (Z : State) (a0 : Array Value) (hw : own_HW Z a0) (a1 a2 : Addr) (a4 a6 : Addr) (a7 a8 a9 : Addr) (k10 : ClassId) (a23 : Addr) (p29 : Int32) (a34 : Addr) (k36 : ClassId) (p38 p39 : Int32) (p40 p41 p42 : Int32) (k43 : ClassId) (a54 a60 : Addr) (k62 : ClassId) (a88 a94 : Addr) (k96 : ClassId) (a103 a109 : Addr) (k111 : ClassId) (a117 : Addr) (h0 : Heap) (n0 : Nat) (O0 : Old Z n0 h0) (S_3 : Sta Z Z.heap C_0 "$VALUES" C_6 (.ref a2)) (F5 : Fld Z h0 a1 C_2 "value" "[B" (.ref a4)) (V11 : Arv Z Z.heap a2 k10 (.object "com/example/stern_warden/sternwarden/model/AccessMode") (4 : Int32) [(.ref a6), (.ref a7), (.ref a8), (.ref a9)] .null) (E_12 : Exa Z Z.heap a2 C_6) (F24 : Fld Z Z.heap a6 C_0 "localName" C_5 (.ref a23)) (E_26 : Exa Z Z.heap a23 C_2) (hne27 : a23 ≠ a1) (E_28 : Exa Z h0 a1 C_2) (S_30 : Sta Z Z.heap C_2 "COMPACT_STRINGS" "Z" (.int p29)) (hk31 : ¬ (p29 = 0)) (F32 : Fld Z Z.heap a23 C_2 "coder" "B" (.int 0)) (F33 : Fld Z h0 a1 C_2 "coder" "B" (.int 0)) (F35 : Fld Z Z.heap a23 C_2 "value" "[B" (.ref a34)) (V37 : Arv Z Z.heap a34 k36 .byte 4 [(.int 82), (.int 101), (.int 97), (.int 100)] (.int 0)) (V44 : Arv Z h0 a4 k43 .byte 5 [(.int p38), (.int p39), (.int p40), (.int p41), (.int p42)] (.int 0)) (F55 : Fld Z Z.heap a7 C_0 "localName" C_5 (.ref a54)) (E_57 : Exa Z Z.heap a54 C_2) (hne58 : a54 ≠ a1) (F59 : Fld Z Z.heap a54 C_2 "coder" "B" (.int 0)) (F61 : Fld Z Z.heap a54 C_2 "value" "[B" (.ref a60)) (V63 : Arv Z Z.heap a60 k62 .byte 5 [(.int 87), (.int 114), (.int 105), (.int 116), (.int 101)] (.int 0)) (F89 : Fld Z Z.heap a8 C_0 "localName" C_5 (.ref a88)) (E_91 : Exa Z Z.heap a88 C_2) (hne92 : a88 ≠ a1) (F93 : Fld Z Z.heap a88 C_2 "coder" "B" (.int 0)) (F95 : Fld Z Z.heap a88 C_2 "value" "[B" (.ref a94)) (V97 : Arv Z Z.heap a94 k96 .byte 6 [(.int 65), (.int 112), (.int 112), (.int 101), (.int 110), (.int 100)] (.int 0)) (F104 : Fld Z Z.heap a9 C_0 "localName" C_5 (.ref a103)) (E_106 : Exa Z Z.heap a103 C_2) (hne107 : a103 ≠ a1) (F108 : Fld Z Z.heap a103 C_2 "coder" "B" (.int 0)) (F110 : Fld Z Z.heap a103 C_2 "value" "[B" (.ref a109)) (V112 : Arv Z Z.heap a109 k111 .byte 7 [(.int 67), (.int 111), (.int 110), (.int 116), (.int 114), (.int 111), (.int 108)] (.int 0)) (S_118 : Sta Z Z.heap C_7 "EMPTY" C_9 (.ref a117)) : own_Met l Z M_21 bc16 5 (some (.object "java/util/Optional")) ({ frames := 3, cells := 2, slots := 5, locals := 38 } : Room) #[(.ref a1)] h0 (Q16_61 Z a1 a2 a4 a6 a7 a8 a9 k10 a23 p29 a34 k36 p38 p39 p40 p41 p42 k43 a54 a60 k62 a88 a94 k96 a103 a109 k111 a117 h0 n0) := by
 refine own_body (L0 := #[vR a1, .unset, .unset, .unset, .unset]) (plainFor_of_name pn_5) (fun m => by first | (simp [entryFrame, mkF, argsToLocals, Value.category]; done) | rfl) fun p e s m below meth c s₁ EN hx hby hml hown hnm hret X0 hZ e0 hh pre0 fin => ?_
 have N0 := Fr.nil n0
 have hq := And.intro hx hby
 obtain ⟨_, T13, L13, X13, hQ13, st13⟩ := own_cS X0 hx hZ hown (ww79 hw) (ww80 hw) (ww1 hw) (ww81 hw) (rm17_18 l Z a0 hw a2 a6 a7 a8 a9 k10 h0 n0 O0 S_3 V11 E_12) e0 pd_14 hml (hb hby d16_0) (Ls := #[vR a1, .unset, .unset, .unset, .unset]) (W := 0) (argsL := []) (rest := [])
 obtain ⟨b14, rfl, u16, u17, u18, Ku19, u20, u21⟩ := hQ13
 have Ou19 := O0.keep Ku19 all0
 have N13 := Fr.app N0 u16
 obtain ⟨cl22, Ar22, -, Sz22, -, Hh22, -⟩ := id u21
 have hin22 : ¬ ((0 : Int32) < 0 ∨ cl22.slots.size ≤ ((0 : Int32)).toNatClampNeg) := inb_of Sz22 ⟨by decide +kernel, by decide +kernel⟩
 have hat22 : cl22.slots[((0 : Int32)).toNatClampNeg]? = some (.ref a6) := Has.at Hh22 hin22 rfl
 obtain ⟨T25, X25, e25, st25⟩ := getF X13 hx hZ hown (host := "") (Or.inl (ww97 hw)) Via.refl rfl (Fld.ext Ou19.2 F24) (g := (mkF m 21 #[vR a1, vR b14, vI 4, vI 0, vR a6] [(.ref a6)])) rfl rfl (hb hby d16_21)
 have f45 := (E_28.keep Ku19)
 have f46 := (F33.keep Ku19 nin0)
 have f47 := (F5.keep Ku19 nin0)
 have f48 := (V44.keep Ku19 nin0)
 obtain ⟨_, T49, L49, X49, hQ49, st49⟩ := own_cV X25 hx hZ hown (ww99 hw) (ww100 hw) (notFace_of_selects (args := #[]) (mvT hZ (ww102 hw))) (ww102 hw) (ww101 hw) (ww4 hw) (ww103 hw) (Exa.ext Ou19.2 E_26) (rm18_24 l Z a0 hw a23 a1 p29 a34 a4 _ 4 k36 _ 5 k43 T13.heap n0 Ou19 hne27 f45 S_30 hk31 F32 f46 F35 f47 V37 f48 kle4_5) e25 pd_16 hml (hb hby d16_25) (Ls := #[vR a1, vR b14, vI 4, vI 0, vR a6]) (W := 0) (argsL := [(.ref a1)]) (rest := [])
 obtain ⟨rfl, u51, u52⟩ := hQ49
 have N49 := Fr.app N13 u51
 obtain ⟨cl53, Ar53, -, Sz53, -, Hh53, -⟩ := id u21
 have hin53 : ¬ ((1 : Int32) < 0 ∨ cl53.slots.size ≤ ((1 : Int32)).toNatClampNeg) := inb_of Sz53 ⟨by decide +kernel, by decide +kernel⟩
 have hat53 : cl53.slots[((1 : Int32)).toNatClampNeg]? = some (.ref a7) := Has.at Hh53 hin53 rfl
 obtain ⟨T56, X56, e56, st56⟩ := getF X49 hx hZ hown (host := "") (Or.inl (ww97 hw)) Via.refl u52 (Fld.ext Ou19.2 F55) (g := (mkF m 21 #[vR a1, vR b14, vI 4, vI 1, vR a7] [(.ref a7)])) rfl rfl (hb hby d16_21)
 have pre65 : oS p e below EN T56 (mkF m 25 #[vR a1, vR b14, vI 4, vI 1, vR a7] [(.ref a1), (.ref a54)]) := fun t kt => pre0 t (st13 _ (o_astoreN X13 hq d16_3 rfl rfl (o_aloadN X13 hq d16_4 rfl rfl (o_alen X13 hq d16_5 hZ rfl u21 (o_istoreN X13 hq d16_6 rfl (o_iconst X13 hq d16_7 (x := 0) rfl (o_istoreN X13 hq d16_8 rfl (o_iloadN X13 hq d16_9 rfl (o_iloadN X13 hq d16_10 rfl (o_icmpN X13 hq d16_11 (by decide +kernel) (o_aloadN X13 hq d16_14 rfl rfl (o_iloadN X13 hq d16_15 rfl (X13.aaload hx (j := 0) (v := (.ref a6)) Ar22.1 (State.isArrayOf_alike hZ.alike Ar22.2.1) rfl Ar22.2.2 hin22 hat22 (g := (mkF m 16 #[vR a1, vR b14, vI 4, vI 0, .unset] [(.int 0), (.ref b14)])) rfl rfl (hb hby d16_16) _ (o_astore X13 hq d16_17 rfl rfl (o_aload X13 hq d16_19 rfl rfl (st25 _ (o_aloadN X25 hq d16_24 rfl rfl (st49 _ (o_ifY X49 hq d16_28 (pc := 28) (pc' := 37) (by decide +kernel) (o_iinc X49 hq d16_37 rfl (z := 1) (k' := 1) rfl (by decide +kernel) rfl (o_goto X49 hq d16_40 (pc := 40) (pc' := 9) (o_iloadN X49 hq d16_9 rfl (o_iloadN X49 hq d16_10 rfl (o_icmpN X49 hq d16_11 (by decide +kernel) (o_aloadN X49 hq d16_14 rfl rfl (o_iloadN X49 hq d16_15 rfl (X49.aaload hx (j := 1) (v := (.ref a7)) (by rw [u52]; exact Ar53.1) (State.isArrayOf_alike hZ.alike Ar53.2.1) rfl Ar53.2.2 hin53 hat53 (g := (mkF m 16 #[vR a1, vR b14, vI 4, vI 1, vR a6] [(.int 1), (.ref b14)])) rfl rfl (hb hby d16_16) _ (o_astore X49 hq d16_17 rfl rfl (o_aload X49 hq d16_19 rfl rfl (st56 _ (o_aloadN X56 hq d16_24 rfl rfl kt)))))))))))))))))))))))))))))))
 obtain ⟨_, T64, L64, X64, hQ64, st64⟩ := own_cV X56 hx hZ hown (ww99 hw) (ww100 hw) (notFace_of_selects (args := #[]) (mvT hZ (ww102 hw))) (ww102 hw) (ww101 hw) (ww4 hw) (ww103 hw) (Exa.ext Ou19.2 E_57) (rm18_62 l Z a0 hw a54 a1 p29 a60 a4 k62 p38 p39 p40 p41 p42 k43 T13.heap n0 Ou19 hne58 f45 S_30 hk31 F59 f46 F61 f47 V63 f48) e56 pd_16 hml (hb hby d16_25) (Ls := #[vR a1, vR b14, vI 4, vI 1, vR a7]) (W := 0) (argsL := [(.ref a1)]) (rest := [])
 rcases hQ64 with ⟨u66, u67, u68, u69, u70, rfl, u72, u73⟩ | ⟨u74, rfl, u76, u77⟩
 ·
  have N64 := Fr.app N49 u72
  obtain ⟨_, T78, L78, X78, hQ78, st78⟩ := own_cS X64 hx hZ hown (ww126 hw) (ww127 hw) (ww110 hw) (ww128 hw) (rm22_21 l Z a0 hw a7 T13.heap n0 Ou19) u73 pd_19 hml (hb hby d16_33) (Ls := #[vR a1, vR b14, vI 4, vI 1, vR a7]) (W := 0) (argsL := [(.ref a7)]) (rest := [])
  obtain ⟨b79, rfl, u81, u82, u83, Ku84, u85, u86⟩ := hQ78
  have sz_b79 : h0.size ≤ b79 := Nat.le_trans Ku19.1 u82
  have N78 := Fr.app N64 u81
  refine fin (some (.ref b79)) _ _ _ _ X78 nofun (fun fs hr => pre65 _ ?_) ?_ (by decide) (by decide)
  ·
   refine st64 _ (o_ifN X64 hq d16_28 (by decide +kernel) (o_aload X64 hq d16_31 rfl rfl (st78 _ ?_)))
   show Steps p.tables e below (T78.setTop (mkF m 36 #[vR a1, vR b14, vI 4, vI 1, vR a7] [(.ref b79)])) _
   jvm_step X78.here [X78.here.top, hx, (hb hby d16_36), X78.method', hret, Value.isRef, FieldType.isReference]
   first | (intro acts; rw [hr _ acts rfl rfl rfl]) | rw [hr _ _ rfl rfl rfl]
   exact Steps.refl _
  ·
   exact Or.inl (⟨b79, u66, u67, u68, u69, u70, rfl, N78, sz_b79, u83, (((Keep.refl h0 []).trans Ku19 all0).trans Ku84 all0), u85, u86⟩)
 ·
  have N64 := Fr.app N49 u76
  obtain ⟨cl87, Ar87, -, Sz87, -, Hh87, -⟩ := id u21
  have hin87 : ¬ ((2 : Int32) < 0 ∨ cl87.slots.size ≤ ((2 : Int32)).toNatClampNeg) := inb_of Sz87 ⟨by decide +kernel, by decide +kernel⟩
  have hat87 : cl87.slots[((2 : Int32)).toNatClampNeg]? = some (.ref a8) := Has.at Hh87 hin87 rfl
  obtain ⟨T90, X90, e90, st90⟩ := getF X64 hx hZ hown (host := "") (Or.inl (ww97 hw)) Via.refl u77 (Fld.ext Ou19.2 F89) (g := (mkF m 21 #[vR a1, vR b14, vI 4, vI 2, vR a8] [(.ref a8)])) rfl rfl (hb hby d16_21)
  obtain ⟨_, T98, L98, X98, hQ98, st98⟩ := own_cV X90 hx hZ hown (ww99 hw) (ww100 hw) (notFace_of_selects (args := #[]) (mvT hZ (ww102 hw))) (ww102 hw) (ww101 hw) (ww4 hw) (ww103 hw) (Exa.ext Ou19.2 E_91) (rm18_24 l Z a0 hw a88 a1 p29 a94 a4 _ 6 k96 _ 5 k43 T13.heap n0 Ou19 hne92 f45 S_30 hk31 F93 f46 F95 f47 V97 f48 kle6_5) e90 pd_16 hml (hb hby d16_25) (Ls := #[vR a1, vR b14, vI 4, vI 2, vR a8]) (W := 0) (argsL := [(.ref a1)]) (rest := [])
  obtain ⟨rfl, u100, u101⟩ := hQ98
  have N98 := Fr.app N64 u100
  obtain ⟨cl102, Ar102, -, Sz102, -, Hh102, -⟩ := id u21
  have hin102 : ¬ ((3 : Int32) < 0 ∨ cl102.slots.size ≤ ((3 : Int32)).toNatClampNeg) := inb_of Sz102 ⟨by decide +kernel, by decide +kernel⟩
  have hat102 : cl102.slots[((3 : Int32)).toNatClampNeg]? = some (.ref a9) := Has.at Hh102 hin102 rfl
  obtain ⟨T105, X105, e105, st105⟩ := getF X98 hx hZ hown (host := "") (Or.inl (ww97 hw)) Via.refl u101 (Fld.ext Ou19.2 F104) (g := (mkF m 21 #[vR a1, vR b14, vI 4, vI 3, vR a9] [(.ref a9)])) rfl rfl (hb hby d16_21)
  obtain ⟨_, T113, L113, X113, hQ113, st113⟩ := own_cV X105 hx hZ hown (ww99 hw) (ww100 hw) (notFace_of_selects (args := #[]) (mvT hZ (ww102 hw))) (ww102 hw) (ww101 hw) (ww4 hw) (ww103 hw) (Exa.ext Ou19.2 E_106) (rm18_24 l Z a0 hw a103 a1 p29 a109 a4 _ 7 k111 _ 5 k43 T13.heap n0 Ou19 hne107 f45 S_30 hk31 F108 f46 F110 f47 V112 f48 kle7_5) e105 pd_16 hml (hb hby d16_25) (Ls := #[vR a1, vR b14, vI 4, vI 3, vR a9]) (W := 0) (argsL := [(.ref a1)]) (rest := [])
  obtain ⟨rfl, u115, u116⟩ := hQ113
  have N113 := Fr.app N98 u115
  obtain ⟨_, T119, L119, X119, hQ119, st119⟩ := own_cS X113 hx hZ hown (ww108 hw) (ww109 hw) (ww110 hw) (ww111 hw) (rm20_26 l Z a0 hw a117 T13.heap n0 Ou19 S_118) u116 pd_20 hml (hb hby d16_43) (Ls := #[vR a1, vR b14, vI 4, vI 4, vR a9]) (W := 0) (argsL := []) (rest := [])
  obtain ⟨rfl, u121, u122⟩ := hQ119
  have N119 := Fr.app N113 u121
  refine fin (some (.ref a117)) _ _ _ _ X119 nofun (fun fs hr => pre65 _ ?_) (own_atH u122 ?_) (by decide) (by decide)
  ·
   refine st64 _ (o_ifY X64 hq d16_28 (pc := 28) (pc' := 37) (by decide +kernel) (o_iinc X64 hq d16_37 rfl (z := 2) (k' := 1) rfl (by decide +kernel) rfl (o_goto X64 hq d16_40 (pc := 40) (pc' := 9) (o_iloadN X64 hq d16_9 rfl (o_iloadN X64 hq d16_10 rfl (o_icmpN X64 hq d16_11 (by decide +kernel) (o_aloadN X64 hq d16_14 rfl rfl (o_iloadN X64 hq d16_15 rfl (X64.aaload hx (j := 2) (v := (.ref a8)) (by rw [u77]; exact Ar87.1) (State.isArrayOf_alike hZ.alike Ar87.2.1) rfl Ar87.2.2 hin87 hat87 (g := (mkF m 16 #[vR a1, vR b14, vI 4, vI 2, vR a7] [(.int 2), (.ref b14)])) rfl rfl (hb hby d16_16) _ (o_astore X64 hq d16_17 rfl rfl (o_aload X64 hq d16_19 rfl rfl (st90 _ (o_aloadN X90 hq d16_24 rfl rfl (st98 _ (o_ifY X98 hq d16_28 (pc := 28) (pc' := 37) (by decide +kernel) (o_iinc X98 hq d16_37 rfl (z := 3) (k' := 1) rfl (by decide +kernel) rfl (o_goto X98 hq d16_40 (pc := 40) (pc' := 9) (o_iloadN X98 hq d16_9 rfl (o_iloadN X98 hq d16_10 rfl (o_icmpN X98 hq d16_11 (by decide +kernel) (o_aloadN X98 hq d16_14 rfl rfl (o_iloadN X98 hq d16_15 rfl (X98.aaload hx (j := 3) (v := (.ref a9)) (by rw [u101]; exact Ar102.1) (State.isArrayOf_alike hZ.alike Ar102.2.1) rfl Ar102.2.2 hin102 hat102 (g := (mkF m 16 #[vR a1, vR b14, vI 4, vI 3, vR a8] [(.int 3), (.ref b14)])) rfl rfl (hb hby d16_16) _ (o_astore X98 hq d16_17 rfl rfl (o_aload X98 hq d16_19 rfl rfl (st105 _ (o_aloadN X105 hq d16_24 rfl rfl (st113 _ (o_ifY X113 hq d16_28 (pc := 28) (pc' := 37) (by decide +kernel) (o_iinc X113 hq d16_37 rfl (z := 4) (k' := 1) rfl (by decide +kernel) rfl (o_goto X113 hq d16_40 (pc := 40) (pc' := 9) (o_iloadN X113 hq d16_9 rfl (o_iloadN X113 hq d16_10 rfl (o_icmpY X113 hq d16_11 (pc := 11) (pc' := 43) (by decide +kernel) (st119 _ ?_)))))))))))))))))))))))))))))))))))
   show Steps p.tables e below (T119.setTop (mkF m 46 #[vR a1, vR b14, vI 4, vI 4, vR a9] [(.ref a117)])) _
   jvm_step X119.here [X119.here.top, hx, (hb hby d16_46), X119.method', hret, Value.isRef, FieldType.isReference]
   first | (intro acts; rw [hr _ acts rfl rfl rfl]) | rw [hr _ _ rfl rfl rfl]
   exact Steps.refl _
  ·
   exact Or.inr (⟨u74, rfl, N119, ((Keep.refl h0 []).trans Ku19 all0)⟩)
def Q14_68 (Z : State) (a1 a2 : Addr) (p3 p4 : Int32) (p5 p6 : Int32) (p7 p8 : Int32) (k9 k14 : ClassId) (h0 : Heap) (n0 : Nat) (v : Option Value) (h : Heap) (L : List Loc) : Prop := (∃ (i13 i22 : Int32) (i27 i32 : Int32) (i37 i42 : Int32), i13 = (p3.toInt8.toInt32) ∧ i22 = (p4.toInt8.toInt32) ∧ i27 = (p5.toInt8.toInt32) ∧ i32 = (p6.toInt8.toInt32) ∧ i37 = (p7.toInt8.toInt32) ∧ i42 = (p8.toInt8.toInt32) ∧ v = some (.int 6) ∧ Fr n0 L ∧ Keep h0 h [a2] ∧ Exa Z h a2 "[B" ∧ Arv Z h a2 k14 .byte 6 [(.int i13), (.int i22), (.int i27), (.int i32), (.int i37), (.int i42)] (.int 0))
theorem rm14_68 (l : Launch) (Z : State) (a0 : Array Value) (hw : own_HW Z a0) (a1 a2 : Addr) (p3 p4 : Int32) (p5 p6 : Int32) (p7 p8 : Int32) (k9 k14 : ClassId) (h0 : Heap) (n0 : Nat) (O0 : Old Z n0 h0) (V10 : Arv Z h0 a1 k9 .char 6 [(.int p3), (.int p4), (.int p5), (.int p6), (.int p7), (.int p8)] (.int 0)) (hk12 : ¬ (255 < p3)) (V15 : Arv Z h0 a2 k14 .byte 6 [] (.int 0)) (g_a2 : n0 ≤ a2) (E_17 : Exa Z h0 a2 "[B") (hne18 : a1 ≠ a2) (hk21 : ¬ (255 < p4)) (hk26 : ¬ (255 < p5)) (hk31 : ¬ (255 < p6)) (hk36 : ¬ (255 < p7)) (hk41 : ¬ (255 < p8)) : own_Met l Z M_8 bc14 7 (some .int) ({ frames := 0, cells := 0, slots := 0, locals := 0 } : Room) #[(.ref a1), (.int 0), (.ref a2), (.int 0), (.int 6)] h0 (Q14_68 Z a1 a2 p3 p4 p5 p6 p7 p8 k9 k14 h0 n0) := by
 refine own_body (L0 := #[vR a1, vI 0, vR a2, vI 0, vI 6, .unset, .unset]) (plainFor_of_name pn_4) (fun m => by first | (simp [entryFrame, mkF, argsToLocals, Value.category]; done) | rfl) fun p e s m below meth c s₁ EN hx hby hml hown hnm hret X0 hZ e0 hh pre0 fin => ?_
 have N0 := Fr.nil n0
 have hq := And.intro hx hby
 obtain ⟨i13, hi13⟩ : ∃ z, z = (p3.toInt8.toInt32) := ⟨_, rfl⟩
 obtain ⟨T16, h16, X16, e16, W16, V16, st16⟩ := own_stB X0 hx hZ e0 V15 1 0 i13 i13 0 (own_i2b2 hi13 : (i13.toInt8.toInt32) = i13) (hb hby d14_31) #[vR a1, vI 0, vR a2, vI 0, vI 6, vI 0, vI p3] [] (vs2 := [(.int i13)])
 have N16 := Fr.snoc X16 N0 g_a2
 have f19 := (V10.other W16 hne18)
 obtain ⟨i22, hi22⟩ : ∃ z, z = (p4.toInt8.toInt32) := ⟨_, rfl⟩
 obtain ⟨T23, h23, X23, e23, W23, V23, st23⟩ := own_stB X16 hx hZ e16 V16 1 1 i22 i22 1 (own_i2b2 hi22 : (i22.toInt8.toInt32) = i22) (hb hby d14_31) #[vR a1, vI 1, vR a2, vI 1, vI 6, vI 1, vI p4] [] (vs2 := [(.int i13), (.int i22)])
 have N23 := Fr.snoc X23 N16 g_a2
 have f24 := (f19.other W23 hne18)
 obtain ⟨i27, hi27⟩ : ∃ z, z = (p5.toInt8.toInt32) := ⟨_, rfl⟩
 obtain ⟨T28, h28, X28, e28, W28, V28, st28⟩ := own_stB X23 hx hZ e23 V23 1 2 i27 i27 2 (own_i2b2 hi27 : (i27.toInt8.toInt32) = i27) (hb hby d14_31) #[vR a1, vI 2, vR a2, vI 2, vI 6, vI 2, vI p5] [] (vs2 := [(.int i13), (.int i22), (.int i27)])
 have N28 := Fr.snoc X28 N23 g_a2
 have f29 := (f24.other W28 hne18)
 obtain ⟨i32, hi32⟩ : ∃ z, z = (p6.toInt8.toInt32) := ⟨_, rfl⟩
 obtain ⟨T33, h33, X33, e33, W33, V33, st33⟩ := own_stB X28 hx hZ e28 V28 1 3 i32 i32 3 (own_i2b2 hi32 : (i32.toInt8.toInt32) = i32) (hb hby d14_31) #[vR a1, vI 3, vR a2, vI 3, vI 6, vI 3, vI p6] [] (vs2 := [(.int i13), (.int i22), (.int i27), (.int i32)])
 have N33 := Fr.snoc X33 N28 g_a2
 have f34 := (f29.other W33 hne18)
 obtain ⟨i37, hi37⟩ : ∃ z, z = (p7.toInt8.toInt32) := ⟨_, rfl⟩
 obtain ⟨T38, h38, X38, e38, W38, V38, st38⟩ := own_stB X33 hx hZ e33 V33 1 4 i37 i37 4 (own_i2b2 hi37 : (i37.toInt8.toInt32) = i37) (hb hby d14_31) #[vR a1, vI 4, vR a2, vI 4, vI 6, vI 4, vI p7] [] (vs2 := [(.int i13), (.int i22), (.int i27), (.int i32), (.int i37)])
 have N38 := Fr.snoc X38 N33 g_a2
 have f39 := (f34.other W38 hne18)
 obtain ⟨i42, hi42⟩ : ∃ z, z = (p8.toInt8.toInt32) := ⟨_, rfl⟩
 obtain ⟨T43, h43, X43, e43, W43, V43, st43⟩ := own_stB X38 hx hZ e38 V38 1 5 i42 i42 5 (own_i2b2 hi42 : (i42.toInt8.toInt32) = i42) (hb hby d14_31) #[vR a1, vI 5, vR a2, vI 5, vI 6, vI 5, vI p8] [] (vs2 := [(.int i13), (.int i22), (.int i27), (.int i32), (.int i37), (.int i42)])
 have N43 := Fr.snoc X43 N38 g_a2
 have f44 := (Exa.wr W43 (Exa.wr W38 (Exa.wr W33 (Exa.wr W28 (Exa.wr W23 (Exa.wr W16 E_17))))))
 refine fin (some (.int 6)) _ _ _ _ X43 nofun (fun fs hr => pre0 _ ?_) (own_atH e43 ?_) (by decide) (by decide)
 ·
  refine o_iconst X0 hq d14_0 (x := 0) rfl (o_istore X0 hq d14_1 rfl (o_iload X0 hq d14_3 rfl (o_iload X0 hq d14_5 rfl (o_icmpN X0 hq d14_7 (by decide +kernel) (o_aloadN X0 hq d14_10 rfl rfl (o_iloadN X0 hq d14_11 rfl (o_caload X0 hq d14_12 hZ e0 V10 (i := 0) (v := .int p3) (by decide +kernel) rfl (o_istore X0 hq d14_13 rfl (o_iload X0 hq d14_15 rfl (o_sipush X0 hq d14_17 (x := 255) rfl (o_icmpY X0 hq d14_20 (pc := 20) (pc' := 26) (flt hk12).2.2.2 (o_aloadN X0 hq d14_26 rfl rfl (o_iloadN X0 hq d14_27 rfl (o_iload X0 hq d14_28 rfl (o_i2b X0 hq d14_30 (z := i13) hi13.symm (st16 _ (o_iinc X16 hq d14_32 rfl (z := 1) (k' := 1) rfl (by decide +kernel) rfl (o_iinc X16 hq d14_35 rfl (z := 1) (k' := 1) rfl (by decide +kernel) rfl (o_iinc X16 hq d14_38 rfl (z := 1) (k' := 1) rfl (by decide +kernel) rfl (o_goto X16 hq d14_41 (pc := 41) (pc' := 3) (o_iload X16 hq d14_3 rfl (o_iload X16 hq d14_5 rfl (o_icmpN X16 hq d14_7 (by decide +kernel) (o_aloadN X16 hq d14_10 rfl rfl (o_iloadN X16 hq d14_11 rfl (o_caload X16 hq d14_12 hZ e16 f19 (i := 1) (v := .int p4) (by decide +kernel) rfl (o_istore X16 hq d14_13 rfl (o_iload X16 hq d14_15 rfl (o_sipush X16 hq d14_17 (x := 255) rfl (o_icmpY X16 hq d14_20 (pc := 20) (pc' := 26) (flt hk21).2.2.2 (o_aloadN X16 hq d14_26 rfl rfl (o_iloadN X16 hq d14_27 rfl (o_iload X16 hq d14_28 rfl (o_i2b X16 hq d14_30 (z := i22) hi22.symm (st23 _ (o_iinc X23 hq d14_32 rfl (z := 2) (k' := 1) rfl (by decide +kernel) rfl (o_iinc X23 hq d14_35 rfl (z := 2) (k' := 1) rfl (by decide +kernel) rfl (o_iinc X23 hq d14_38 rfl (z := 2) (k' := 1) rfl (by decide +kernel) rfl (o_goto X23 hq d14_41 (pc := 41) (pc' := 3) ?_)))))))))))))))))))))))))))))))))))))))
  refine o_iload X23 hq d14_3 rfl (o_iload X23 hq d14_5 rfl (o_icmpN X23 hq d14_7 (by decide +kernel) (o_aloadN X23 hq d14_10 rfl rfl (o_iloadN X23 hq d14_11 rfl (o_caload X23 hq d14_12 hZ e23 f24 (i := 2) (v := .int p5) (by decide +kernel) rfl (o_istore X23 hq d14_13 rfl (o_iload X23 hq d14_15 rfl (o_sipush X23 hq d14_17 (x := 255) rfl (o_icmpY X23 hq d14_20 (pc := 20) (pc' := 26) (flt hk26).2.2.2 (o_aloadN X23 hq d14_26 rfl rfl (o_iloadN X23 hq d14_27 rfl (o_iload X23 hq d14_28 rfl (o_i2b X23 hq d14_30 (z := i27) hi27.symm (st28 _ (o_iinc X28 hq d14_32 rfl (z := 3) (k' := 1) rfl (by decide +kernel) rfl (o_iinc X28 hq d14_35 rfl (z := 3) (k' := 1) rfl (by decide +kernel) rfl (o_iinc X28 hq d14_38 rfl (z := 3) (k' := 1) rfl (by decide +kernel) rfl (o_goto X28 hq d14_41 (pc := 41) (pc' := 3) (o_iload X28 hq d14_3 rfl (o_iload X28 hq d14_5 rfl (o_icmpN X28 hq d14_7 (by decide +kernel) (o_aloadN X28 hq d14_10 rfl rfl (o_iloadN X28 hq d14_11 rfl (o_caload X28 hq d14_12 hZ e28 f29 (i := 3) (v := .int p6) (by decide +kernel) rfl (o_istore X28 hq d14_13 rfl (o_iload X28 hq d14_15 rfl (o_sipush X28 hq d14_17 (x := 255) rfl (o_icmpY X28 hq d14_20 (pc := 20) (pc' := 26) (flt hk31).2.2.2 (o_aloadN X28 hq d14_26 rfl rfl (o_iloadN X28 hq d14_27 rfl (o_iload X28 hq d14_28 rfl (o_i2b X28 hq d14_30 (z := i32) hi32.symm (st33 _ (o_iinc X33 hq d14_32 rfl (z := 4) (k' := 1) rfl (by decide +kernel) rfl (o_iinc X33 hq d14_35 rfl (z := 4) (k' := 1) rfl (by decide +kernel) rfl (o_iinc X33 hq d14_38 rfl (z := 4) (k' := 1) rfl (by decide +kernel) rfl (o_goto X33 hq d14_41 (pc := 41) (pc' := 3) (o_iload X33 hq d14_3 rfl (o_iload X33 hq d14_5 rfl ?_)))))))))))))))))))))))))))))))))))))))
  refine o_icmpN X33 hq d14_7 (by decide +kernel) (o_aloadN X33 hq d14_10 rfl rfl (o_iloadN X33 hq d14_11 rfl (o_caload X33 hq d14_12 hZ e33 f34 (i := 4) (v := .int p7) (by decide +kernel) rfl (o_istore X33 hq d14_13 rfl (o_iload X33 hq d14_15 rfl (o_sipush X33 hq d14_17 (x := 255) rfl (o_icmpY X33 hq d14_20 (pc := 20) (pc' := 26) (flt hk36).2.2.2 (o_aloadN X33 hq d14_26 rfl rfl (o_iloadN X33 hq d14_27 rfl (o_iload X33 hq d14_28 rfl (o_i2b X33 hq d14_30 (z := i37) hi37.symm (st38 _ (o_iinc X38 hq d14_32 rfl (z := 5) (k' := 1) rfl (by decide +kernel) rfl (o_iinc X38 hq d14_35 rfl (z := 5) (k' := 1) rfl (by decide +kernel) rfl (o_iinc X38 hq d14_38 rfl (z := 5) (k' := 1) rfl (by decide +kernel) rfl (o_goto X38 hq d14_41 (pc := 41) (pc' := 3) (o_iload X38 hq d14_3 rfl (o_iload X38 hq d14_5 rfl (o_icmpN X38 hq d14_7 (by decide +kernel) (o_aloadN X38 hq d14_10 rfl rfl (o_iloadN X38 hq d14_11 rfl (o_caload X38 hq d14_12 hZ e38 f39 (i := 5) (v := .int p8) (by decide +kernel) rfl (o_istore X38 hq d14_13 rfl (o_iload X38 hq d14_15 rfl (o_sipush X38 hq d14_17 (x := 255) rfl (o_icmpY X38 hq d14_20 (pc := 20) (pc' := 26) (flt hk41).2.2.2 (o_aloadN X38 hq d14_26 rfl rfl (o_iloadN X38 hq d14_27 rfl (o_iload X38 hq d14_28 rfl (o_i2b X38 hq d14_30 (z := i42) hi42.symm (st43 _ (o_iinc X43 hq d14_32 rfl (z := 6) (k' := 1) rfl (by decide +kernel) rfl (o_iinc X43 hq d14_35 rfl (z := 6) (k' := 1) rfl (by decide +kernel) rfl (o_iinc X43 hq d14_38 rfl (z := 6) (k' := 1) rfl (by decide +kernel) rfl (o_goto X43 hq d14_41 (pc := 41) (pc' := 3) (o_iload X43 hq d14_3 rfl (o_iload X43 hq d14_5 rfl (o_icmpY X43 hq d14_7 (pc := 7) (pc' := 44) (by decide +kernel) (o_iload X43 hq d14_44 rfl ?_)))))))))))))))))))))))))))))))))))))))
  exact retI X43 hx hret (hb hby d14_46) hr
 ·
  exact ⟨i13, i22, i27, i32, i37, i42, hi13, hi22, hi27, hi32, hi37, hi42, rfl, N43, (((((((Keep.refl h0 [a2]).wr W16 (Or.inl (List.mem_of_getElem? (i := 0) rfl))).wr W23 (Or.inl (List.mem_of_getElem? (i := 0) rfl))).wr W28 (Or.inl (List.mem_of_getElem? (i := 0) rfl))).wr W33 (Or.inl (List.mem_of_getElem? (i := 0) rfl))).wr W38 (Or.inl (List.mem_of_getElem? (i := 0) rfl))).wr W43 (Or.inl (List.mem_of_getElem? (i := 0) rfl))), f44, V43⟩
def Q13_67 (Z : State) (a1 : Addr) (p3 p4 : Int32) (p5 p6 : Int32) (p7 p8 : Int32) (k9 : ClassId) (h0 : Heap) (n0 : Nat) (v : Option Value) (h : Heap) (L : List Loc) : Prop := (∃ (i19 i20 : Int32) (i21 i22 : Int32) (i23 i24 : Int32) (b2 : Addr) (k2 : ClassId), i19 = (p3.toInt8.toInt32) ∧ i20 = (p4.toInt8.toInt32) ∧ i21 = (p5.toInt8.toInt32) ∧ i22 = (p6.toInt8.toInt32) ∧ i23 = (p7.toInt8.toInt32) ∧ i24 = (p8.toInt8.toInt32) ∧ v = some (.ref b2) ∧ Fr n0 L ∧ h0.size ≤ b2 ∧ b2 < h.size ∧ Keep h0 h [] ∧ Exa Z h b2 "[B" ∧ Arv Z h b2 k2 .byte 6 [(.int i19), (.int i20), (.int i21), (.int i22), (.int i23), (.int i24)] (.int 0))
theorem rm13_67 (l : Launch) (Z : State) (a0 : Array Value) (hw : own_HW Z a0) (a1 : Addr) (p3 p4 : Int32) (p5 p6 : Int32) (p7 p8 : Int32) (k9 : ClassId) (h0 : Heap) (n0 : Nat) (O0 : Old Z n0 h0) (V10 : Arv Z h0 a1 k9 .char 6 [(.int p3), (.int p4), (.int p5), (.int p6), (.int p7), (.int p8)] (.int 0)) (hk11 : ¬ (255 < p3)) (lt_a1 : a1 < h0.size) (hk12 : ¬ (255 < p4)) (hk13 : ¬ (255 < p5)) (hk14 : ¬ (255 < p6)) (hk15 : ¬ (255 < p7)) (hk16 : ¬ (255 < p8)) : own_Met l Z M_9 bc13 6 (some (.array .byte)) ({ frames := 1, cells := 1, slots := 6, locals := 18 } : Room) #[(.ref a1), (.int 0), (.int 6)] h0 (Q13_67 Z a1 p3 p4 p5 p6 p7 p8 k9 h0 n0) := by
 refine own_body (L0 := #[vR a1, vI 0, vI 6, .unset, .unset, .unset]) (plainFor_of_name pn_4) (fun m => by first | (simp [entryFrame, mkF, argsToLocals, Value.category]; done) | rfl) fun p e s m below meth c s₁ EN hx hby hml hown hnm hret X0 hZ e0 hh pre0 fin => ?_
 have N0 := Fr.nil n0
 have hq := And.intro hx hby
 obtain ⟨T2, h2, k2, X2, e2, E2, A2, Ex2, st2⟩ := newPE (aty := .byte) X0 hx hZ (ww6 hw) e0 (g := (mkF m 1 #[vR a1, vI 0, vI 6, .unset, .unset, .unset] [(.int 6)])) rfl (hb hby d13_1) rfl (by decide +kernel) (cap := 6) (by decide +kernel) (by decide) (by decide) (by decide) (ad := "[B") (by decide +kernel)
 obtain ⟨b2, g2⟩ : ∃ z, z = h0.size := ⟨_, rfl⟩
 rw [← g2] at A2 Ex2 st2
 have O2 := O0.ext E2
 have bd_b2 : h0.size ≤ b2 := Nat.le_of_eq g2.symm
 have g_b2 : n0 ≤ b2 := Nat.le_trans (own_z O0) bd_b2
 have sz_b2 : h0.size ≤ b2 := Nat.le_trans (Nat.le_refl _) bd_b2
 have lt_b2 : b2 < h2.size := A2.lt
 have V2 : Arv Z h2 b2 k2 .byte 6 [] (.int 0) := Arv.new A2 (by decide +kernel)
 have f17 := (V10.ext E2)
 obtain ⟨_, T18, L18, X18, hQ18, st18⟩ := own_cS X2 hx hZ hown (ww70 hw) (ww71 hw) (ww68 hw) (ww72 hw) (rm14_68 l Z a0 hw a1 b2 p3 p4 p5 p6 p7 p8 k9 k2 h2 n0 O2 f17 hk11 V2 g_b2 Ex2 (own_n lt_a1 bd_b2) hk12 hk13 hk14 hk15 hk16) e2 pd_8 hml (hb hby d13_9) (Ls := #[vR a1, vI 0, vI 6, vR b2, .unset, .unset]) (W := 0) (argsL := [(.ref a1), (.int 0), (.ref b2), (.int 0), (.int 6)]) (rest := [])
 obtain ⟨i19, i20, i21, i22, i23, i24, u25, u26, u27, u28, u29, u30, rfl, u32, Ku33, u34, u35⟩ := hQ18
 have N18 := Fr.app N0 u32
 refine fin (some (.ref b2)) _ _ _ _ X18 nofun (fun fs hr => pre0 _ ?_) ?_ (by decide) (by decide)
 ·
  refine o_iloadN X0 hq d13_0 rfl (st2 _ (o_astoreN X2 hq d13_3 rfl rfl (o_aloadN X2 hq d13_4 rfl rfl (o_iloadN X2 hq d13_5 rfl (o_aloadN X2 hq d13_6 rfl rfl (o_iconst X2 hq d13_7 (x := 0) rfl (o_iloadN X2 hq d13_8 rfl (st18 _ (o_istore X18 hq d13_12 rfl (o_iload X18 hq d13_14 rfl (o_iloadN X18 hq d13_16 rfl (o_icmpY X18 hq d13_17 (pc := 17) (pc' := 57) (by decide +kernel) (o_aloadN X18 hq d13_57 rfl rfl ?_)))))))))))))
  show Steps p.tables e below (T18.setTop (mkF m 58 #[vR a1, vI 0, vI 6, vR b2, vI 6, .unset] [(.ref b2)])) _
  jvm_step X18.here [X18.here.top, hx, (hb hby d13_58), X18.method', hret, Value.isRef, FieldType.isReference]
  first | (intro acts; rw [hr _ acts rfl rfl rfl]) | rw [hr _ _ rfl rfl rfl]
  exact Steps.refl _
 ·
  exact ⟨i19, i20, i21, i22, i23, i24, b2, k2, u25, u26, u27, u28, u29, u30, rfl, N18, sz_b2, (own_t lt_b2 Ku33.1), (((Keep.refl h0 []).ext E2).trans Ku33 (allS (Or.inr sz_b2) all0)), u34, u35⟩
def Q15_69 (Z : State) (a1 : Addr) (p2 p3 : Int32) (p4 p5 : Int32) (p6 p7 : Int32) (k8 : ClassId) (h0 : Heap) (n0 : Nat) (v : Option Value) (h : Heap) (L : List Loc) : Prop := (v = some (.int 0) ∧ Fr n0 L ∧ h = h0)
theorem rm15_69 (l : Launch) (Z : State) (a0 : Array Value) (hw : own_HW Z a0) (a1 : Addr) (p2 p3 : Int32) (p4 p5 : Int32) (p6 p7 : Int32) (k8 : ClassId) (h0 : Heap) (n0 : Nat) (O0 : Old Z n0 h0) (V9 : Arv Z h0 a1 k8 .byte 6 [(.int p2), (.int p3), (.int p4), (.int p5), (.int p6), (.int p7)] (.int 0)) : own_Met l Z M_10 bc15 2 (some .byte) ({ frames := 0, cells := 0, slots := 0, locals := 0 } : Room) #[(.ref a1), (.int 6)] h0 (Q15_69 Z a1 p2 p3 p4 p5 p6 p7 k8 h0 n0) := by
 refine own_body (L0 := #[vR a1, vI 6]) (plainFor_of_name pn_4) (fun m => by first | (simp [entryFrame, mkF, argsToLocals, Value.category]; done) | rfl) fun p e s m below meth c s₁ EN hx hby hml hown hnm hret X0 hZ e0 hh pre0 fin => ?_
 have N0 := Fr.nil n0
 have hq := And.intro hx hby
 refine fin (some (.int 0)) _ _ _ _ X0 nofun (fun fs hr => pre0 _ ?_) (own_atH e0 ?_) (by decide) (by decide)
 ·
  refine o_iloadN X0 hq d15_0 rfl (o_aloadN X0 hq d15_1 rfl rfl (o_alen X0 hq d15_2 hZ e0 V9 (o_isub X0 hq d15_3 (z := 0) (by decide +kernel) (o_bipush X0 hq d15_4 (x := 31) rfl (o_iushr X0 hq d15_6 (z := 0) (by decide +kernel) (o_i2b X0 hq d15_7 (z := 0) (by decide +kernel) ?_))))))
  exact retN X0 hx (t := .byte) hret (by simp) (hb hby d15_8) hr
 ·
  exact ⟨rfl, N0, rfl⟩
def Q11_66 (Z : State) (a1 a2 : Addr) (p4 p8 : Int32) (p9 p10 : Int32) (p11 p12 p13 : Int32) (k14 : ClassId) (h0 : Heap) (n0 : Nat) (v : Option Value) (h : Heap) (L : List Loc) : Prop := (∃ (i23 i24 : Int32) (i25 i26 : Int32) (i27 i28 : Int32) (b29 : Addr) (k30 : ClassId), i23 = (p8.toInt8.toInt32) ∧ i24 = (p9.toInt8.toInt32) ∧ i25 = (p10.toInt8.toInt32) ∧ i26 = (p11.toInt8.toInt32) ∧ i27 = (p12.toInt8.toInt32) ∧ i28 = (p13.toInt8.toInt32) ∧ v = none ∧ Fr n0 L ∧ h0.size ≤ b29 ∧ b29 < h.size ∧ Keep h0 h [a1] ∧ Exa Z h a1 C_2 ∧ Fld Z h a1 C_2 "coder" "B" (.int 0) ∧ Fld Z h a1 C_2 "value" "[B" (.ref b29) ∧ Exa Z h b29 "[B" ∧ Arv Z h b29 k30 .byte 6 [(.int i23), (.int i24), (.int i25), (.int i26), (.int i27), (.int i28)] (.int 0))
theorem rm11_66 (l : Launch) (Z : State) (a0 : Array Value) (hw : own_HW Z a0) (a1 a2 : Addr) (p4 p8 : Int32) (p9 p10 : Int32) (p11 p12 p13 : Int32) (k14 : ClassId) (h0 : Heap) (n0 : Nat) (O0 : Old Z n0 h0) (S_5 : Sta Z Z.heap C_2 "COMPACT_STRINGS" "Z" (.int p4)) (hk7 : ¬ (p4 = 0)) (V15 : Arv Z h0 a2 k14 .char 6 [(.int p8), (.int p9), (.int p10), (.int p11), (.int p12), (.int p13)] (.int 0)) (hk16 : ¬ (255 < p8)) (hk17 : ¬ (255 < p9)) (hk18 : ¬ (255 < p10)) (hk19 : ¬ (255 < p11)) (hk20 : ¬ (255 < p12)) (hk21 : ¬ (255 < p13)) (lt_a2 : a2 < h0.size) (E_48 : Exa Z h0 a1 C_2) (F49 : Fld Z h0 a1 C_2 "coder" "B" (.int 0)) (F50 : Fld Z h0 a1 C_2 "value" "[B" .null) (g_a1 : n0 ≤ a1) (lt_a1 : a1 < h0.size) : own_Met l Z M_11 bc11 6 none ({ frames := 2, cells := 1, slots := 6, locals := 35 } : Room) #[(.ref a1), (.ref a2), (.int 0), (.int 6), .null] h0 (Q11_66 Z a1 a2 p4 p8 p9 p10 p11 p12 p13 k14 h0 n0) := by
 refine own_body (L0 := #[vR a1, vR a2, vI 0, vI 6, vN, .unset]) (plainFor_of_name pn_0) (fun m => by first | (simp [entryFrame, mkF, argsToLocals, Value.category]; done) | rfl) fun p e s m below meth c s₁ EN hx hby hml hown hnm hret X0 hZ e0 hh pre0 fin => ?_
 have N0 := Fr.nil n0
 have hq := And.intro hx hby
 obtain ⟨T3, X3, e3, st3⟩ := initO X0 hx hZ hown (ww63 hw) (ww64 hw) (ww65 hw) e0 (g := (mkF m 1 #[vR a1, vR a2, vI 0, vI 6, vN, .unset] [(.ref a1)])) rfl (by rw [hml]; rfl) rfl (hb hby d11_1) (by decide) (W := 0) (by show 2 * 0 + _ ≤ _; exact Nat.le_of_eq rfl) (by decide)
 obtain ⟨T6, X6, e6, st6⟩ := getS2 X3 hx hZ hown (host := "") (Or.inl (ww22 hw)) Via.refl e3 (Sta.ext O0.2 S_5) (g := (mkF m 27 #[vR a1, vR a2, vI 0, vI 6, vN, .unset] [])) rfl (hb hby d11_27)
 obtain ⟨_, T22, L22, X22, hQ22, st22⟩ := own_cS X6 hx hZ hown (ww66 hw) (ww67 hw) (ww68 hw) (ww69 hw) (rm13_67 l Z a0 hw a2 p8 p9 p10 p11 p12 p13 k14 h0 n0 O0 V15 hk16 lt_a2 hk17 hk18 hk19 hk20 hk21) e6 pd_9 hml (hb hby d11_36) (Ls := #[vR a1, vR a2, vI 0, vI 6, vN, .unset]) (W := 0) (argsL := [(.ref a2), (.int 0), (.int 6)]) (rest := [])
 obtain ⟨i23, i24, i25, i26, i27, i28, b29, k30, u31, u32, u33, u34, u35, u36, rfl, u38, u39, u40, Ku41, u42, u43⟩ := hQ22
 have Ou41 := O0.keep Ku41 all0
 have sz_b29 : h0.size ≤ b29 := Nat.le_trans (Nat.le_refl _) u39
 have N22 := Fr.app N0 u38
 obtain ⟨_, T44, L44, X44, hQ44, st44⟩ := own_cS X22 hx hZ hown (ww73 hw) (ww74 hw) (ww68 hw) (ww75 hw) (rm15_69 l Z a0 hw b29 i23 i24 i25 i26 i27 i28 k30 T22.heap n0 Ou41 u43) rfl pd_10 hml (hb hby d11_45) (Ls := #[vR a1, vR a2, vI 0, vI 6, vN, vR b29]) (W := 1) (argsL := [(.ref b29), (.int 6)]) (rest := [(.ref a1)])
 obtain ⟨rfl, u46, u47⟩ := hQ44
 have N44 := Fr.app N22 u46
 have f51 := (F49.keep Ku41 nin0)
 have f52 := (E_48.keep Ku41)
 obtain ⟨T53, h53, X53, e53, W53, st53⟩ := putFN X44 hx hZ hown (ww23 hw) Via.refl u47 f51 f52 (Or.inr ⟨(ww8 hw), rfl, hnm⟩) (ww5 hw) (ty := .byte) (v' := (.int 0)) (by decide) (by exact congrArg Value.int (by decide +kernel : (nar .byte (0 : Int32)) = (0 : Int32))) ((by decide +kernel : (nar .byte (0 : Int32)) = (0 : Int32)) ▸ fits_nar_byte _) (g := (mkF m 48 #[vR a1, vR a2, vI 0, vI 6, vN, vR b29] [(.int 0), (.ref a1)])) rfl rfl (hb hby d11_48)
 have Fw53 : Fld Z h53 a1 C_2 "coder" "B" (.int 0) := Fld.same W53 f51
 have N53 := Fr.snoc X53 N44 g_a1
 have f54 := (Fld.other W53 (F50.keep Ku41 nin0) (Or.inr (own_sl0 hw)))
 have f55 := (Exa.wr W53 f52)
 obtain ⟨T56, h56, X56, e56, W56, st56⟩ := putF X53 hx hZ hown (host := "") (Or.inl (ww16 hw)) Via.refl e53 f54 f55 (Or.inr ⟨(ww7 hw), rfl, hnm⟩) (ww5 hw) (ty := (.array .byte)) (by decide) rfl rfl (g := (mkF m 54 #[vR a1, vR a2, vI 0, vI 6, vN, vR b29] [(.ref b29), (.ref a1)])) rfl rfl (hb hby d11_54)
 have Fw56 : Fld Z h56 a1 C_2 "value" "[B" (.ref b29) := Fld.same W56 f54
 have N56 := Fr.snoc X56 N53 g_a1
 have f57 := (Exa.wr W56 f55)
 have f58 := (Fld.other W56 Fw53 (Or.inr (own_sl1 hw)))
 have f59 := (Exa.wr W56 (Exa.wr W53 u42))
 have f60 := ((u43.other W53 (Ne.symm (own_n lt_a1 u39))).other W56 (Ne.symm (own_n lt_a1 u39)))
 refine fin none _ _ _ _ X56 (fun _ => rfl) (fun fs hr => pre0 _ ?_) (own_atH e56 ?_) (by decide) (by decide)
 ·
  refine o_aloadN X0 hq d11_0 rfl rfl (st3 _ (o_iloadN X3 hq d11_4 rfl (o_ifY X3 hq d11_5 (pc := 5) (pc' := 27) (by decide +kernel) (st6 _ (o_ifN X6 hq d11_30 ((if0 _ _).trans (feq hk7).1) (o_aloadN X6 hq d11_33 rfl rfl (o_iloadN X6 hq d11_34 rfl (o_iloadN X6 hq d11_35 rfl (st22 _ (o_astore X22 hq d11_39 rfl rfl (o_aloadN X22 hq d11_41 rfl rfl (o_aload X22 hq d11_42 rfl rfl (o_iloadN X22 hq d11_44 rfl (st44 _ (st53 _ (o_aloadN X53 hq d11_51 rfl rfl (o_aload X53 hq d11_52 rfl rfl (st56 _ ?_))))))))))))))))))
  exact X56.returnOut hx hret (hb hby d11_57) hr
 ·
  exact ⟨i23, i24, i25, i26, i27, i28, b29, k30, u31, u32, u33, u34, u35, u36, rfl, N56, sz_b29, (own_t (own_t u40 (Keep.of_wr W53).1) (Keep.of_wr W56).1), ((((Keep.refl h0 [a1]).trans Ku41 all0).wr W53 (Or.inl (List.mem_of_getElem? (i := 0) rfl))).wr W56 (Or.inl (List.mem_of_getElem? (i := 0) rfl))), f57, f58, Fw56, f59, f60⟩
def Q10_65 (Z : State) (a1 a2 : Addr) (p3 p4 : Int32) (p5 p6 : Int32) (p7 p8 : Int32) (k9 : ClassId) (p11 : Int32) (h0 : Heap) (n0 : Nat) (v : Option Value) (h : Heap) (L : List Loc) : Prop := (∃ (i24 i25 : Int32) (i26 i27 : Int32) (i28 i29 : Int32) (b30 : Addr) (k31 : ClassId), i24 = (p3.toInt8.toInt32) ∧ i25 = (p4.toInt8.toInt32) ∧ i26 = (p5.toInt8.toInt32) ∧ i27 = (p6.toInt8.toInt32) ∧ i28 = (p7.toInt8.toInt32) ∧ i29 = (p8.toInt8.toInt32) ∧ v = none ∧ Fr n0 L ∧ h0.size ≤ b30 ∧ b30 < h.size ∧ Keep h0 h [a1] ∧ Exa Z h a1 C_2 ∧ Fld Z h a1 C_2 "coder" "B" (.int 0) ∧ Fld Z h a1 C_2 "value" "[B" (.ref b30) ∧ Exa Z h b30 "[B" ∧ Arv Z h b30 k31 .byte 6 [(.int i24), (.int i25), (.int i26), (.int i27), (.int i28), (.int i29)] (.int 0))
theorem rm10_65 (l : Launch) (Z : State) (a0 : Array Value) (hw : own_HW Z a0) (a1 a2 : Addr) (p3 p4 : Int32) (p5 p6 : Int32) (p7 p8 : Int32) (k9 : ClassId) (p11 : Int32) (h0 : Heap) (n0 : Nat) (O0 : Old Z n0 h0) (V10 : Arv Z h0 a2 k9 .char 6 [(.int p3), (.int p4), (.int p5), (.int p6), (.int p7), (.int p8)] (.int 0)) (S_12 : Sta Z Z.heap C_2 "COMPACT_STRINGS" "Z" (.int p11)) (hk13 : ¬ (p11 = 0)) (hk14 : ¬ (255 < p3)) (hk15 : ¬ (255 < p4)) (hk16 : ¬ (255 < p5)) (hk17 : ¬ (255 < p6)) (hk18 : ¬ (255 < p7)) (hk19 : ¬ (255 < p8)) (E_20 : Exa Z h0 a1 C_2) (F21 : Fld Z h0 a1 C_2 "coder" "B" (.int 0)) (F22 : Fld Z h0 a1 C_2 "value" "[B" .null) (lt_a2 : a2 < h0.size) (g_a1 : n0 ≤ a1) (lt_a1 : a1 < h0.size) : own_Met l Z M_12 bc10 2 none ({ frames := 3, cells := 1, slots := 6, locals := 52 } : Room) #[(.ref a1), (.ref a2)] h0 (Q10_65 Z a1 a2 p3 p4 p5 p6 p7 p8 k9 p11 h0 n0) := by
 refine own_body (L0 := #[vR a1, vR a2]) (plainFor_of_name pn_0) (fun m => by first | (simp [entryFrame, mkF, argsToLocals, Value.category]; done) | rfl) fun p e s m below meth c s₁ EN hx hby hml hown hnm hret X0 hZ e0 hh pre0 fin => ?_
 have N0 := Fr.nil n0
 have hq := And.intro hx hby
 obtain ⟨_, T23, L23, X23, hQ23, st23⟩ := own_cI X0 hx hZ hown (ww59 hw) (ww60 hw) (ww4 hw) (ww62 hw) (rm11_66 l Z a0 hw a1 a2 p11 p3 p4 p5 p6 p7 p8 k9 h0 n0 O0 S_12 hk13 V10 hk14 hk15 hk16 hk17 hk18 hk19 lt_a2 E_20 F21 F22 g_a1 lt_a1) e0 pd_11 hml (hb hby d10_6) (Ls := #[vR a1, vR a2]) (W := 0) (argsL := [(.ref a2), (.int 0), (.int 6), .null]) (rest := []) (b := a1)
 obtain ⟨i24, i25, i26, i27, i28, i29, b30, k31, u32, u33, u34, u35, u36, u37, rfl, u39, u40, u41, Ku42, u43, u44, u45, u46, u47⟩ := hQ23
 have sz_b30 : h0.size ≤ b30 := Nat.le_trans (Nat.le_refl _) u40
 have N23 := Fr.app N0 u39
 refine fin none _ _ _ _ X23 (fun _ => rfl) (fun fs hr => pre0 _ ?_) ?_ (by decide) (by decide)
 ·
  refine o_aloadN X0 hq d10_0 rfl rfl (o_aloadN X0 hq d10_1 rfl rfl (o_iconst X0 hq d10_2 (x := 0) rfl (o_aloadN X0 hq d10_3 rfl rfl (o_alen X0 hq d10_4 hZ e0 V10 (o_null X0 hq d10_5 (st23 _ ?_))))))
  exact X23.returnOut hx hret (hb hby d10_9) hr
 ·
  exact ⟨i24, i25, i26, i27, i28, i29, b30, k31, u32, u33, u34, u35, u36, u37, rfl, N23, sz_b30, u41, ((Keep.refl h0 [a1]).trans Ku42 (allS (Or.inl (List.mem_of_getElem? (i := 0) rfl)) all0)), u43, u44, u45, u46, u47⟩
def Q9_64 (Z : State) (a1 : Addr) (p4 p5 : Int32) (p6 p7 : Int32) (p8 p9 : Int32) (p10 p11 : Int32) (k12 : ClassId) (p44 : Int32) (h0 : Heap) (n0 : Nat) (v : Option Value) (h : Heap) (L : List Loc) : Prop := (∃ (i53 i54 : Int32) (i55 i56 : Int32) (i57 i58 : Int32) (b2 b59 : Addr) (k60 : ClassId), i53 = (p4.toInt8.toInt32) ∧ i54 = (p5.toInt8.toInt32) ∧ i55 = (p6.toInt8.toInt32) ∧ i56 = (p7.toInt8.toInt32) ∧ i57 = (p8.toInt8.toInt32) ∧ i58 = (p9.toInt8.toInt32) ∧ v = some (.ref b2) ∧ Fr n0 L ∧ h0.size ≤ b2 ∧ b2 < h.size ∧ h0.size ≤ b59 ∧ b59 < h.size ∧ b2 ≠ b59 ∧ Keep h0 h [] ∧ Exa Z h b2 C_2 ∧ Fld Z h b2 C_2 "coder" "B" (.int 0) ∧ Fld Z h b2 C_2 "value" "[B" (.ref b59) ∧ Exa Z h b59 "[B" ∧ Arv Z h b59 k60 .byte 6 [(.int i53), (.int i54), (.int i55), (.int i56), (.int i57), (.int i58)] (.int 0))
theorem rm9_64 (l : Launch) (Z : State) (a0 : Array Value) (hw : own_HW Z a0) (a1 : Addr) (p4 p5 : Int32) (p6 p7 : Int32) (p8 p9 : Int32) (p10 p11 : Int32) (k12 : ClassId) (p44 : Int32) (h0 : Heap) (n0 : Nat) (O0 : Old Z n0 h0) (V13 : Arv Z h0 a1 k12 .char 8 [(.int p4), (.int p5), (.int p6), (.int p7), (.int p8), (.int p9), (.int p10), (.int p11)] (.int 0)) (hk16 : ¬ (255 < p4)) (hk17 : ¬ (p4 < 0)) (lt_a1 : a1 < h0.size) (hk21 : ¬ (255 < p5)) (hk22 : ¬ (p5 < 0)) (hk26 : ¬ (255 < p6)) (hk27 : ¬ (p6 < 0)) (hk31 : ¬ (255 < p7)) (hk32 : ¬ (p7 < 0)) (hk36 : ¬ (255 < p8)) (hk37 : ¬ (p8 < 0)) (hk41 : ¬ (255 < p9)) (hk42 : ¬ (p9 < 0)) (S_45 : Sta Z Z.heap C_2 "COMPACT_STRINGS" "Z" (.int p44)) (hk46 : ¬ (p44 = 0)) : own_Met l Z M_13 bc9 2 (some (.object "java/lang/String")) ({ frames := 4, cells := 3, slots := 16, locals := 66 } : Room) #[(.ref a1), (.int 6)] h0 (Q9_64 Z a1 p4 p5 p6 p7 p8 p9 p10 p11 k12 p44 h0 n0) := by
 refine own_body (L0 := #[vR a1, vI 6]) (plainFor_of_name pn_3) (fun m => by first | (simp [entryFrame, mkF, argsToLocals, Value.category]; done) | rfl) fun p e s m below meth c s₁ EN hx hby hml hown hnm hret X0 hZ e0 hh pre0 fin => ?_
 have N0 := Fr.nil n0
 have hq := And.intro hx hby
 obtain ⟨T2, h2, X2, e2, E2, A2, D2, -, st2⟩ := newO X0 hx hZ hown (ww55 hw) (ww5 hw) (ww4 hw) e0 (g := (mkF m 191 #[vR a1, vI 6] [])) rfl (hb hby d9_191) (by decide) (by decide)
 obtain ⟨b2, g2⟩ : ∃ z, z = h0.size := ⟨_, rfl⟩
 rw [← g2] at A2 D2 st2
 have O2 := O0.ext E2
 have bd_b2 : h0.size ≤ b2 := Nat.le_of_eq g2.symm
 have g_b2 : n0 ≤ b2 := Nat.le_trans (own_z O0) bd_b2
 have sz_b2 : h0.size ≤ b2 := Nat.le_trans (Nat.le_refl _) bd_b2
 have lt_b2 : b2 < h2.size := A2.lt
 have D2_7 : Fld Z h2 b2 C_2 "value" "[B" .null := D2 (Or.inr (ww7 hw)) (ty := (.array .byte)) (by decide)
 have D2_8 : Fld Z h2 b2 C_2 "coder" "B" (.int 0) := D2 (Or.inr (ww8 hw)) (ty := .byte) (by decide)
 obtain ⟨T3, h3, k3, X3, e3, E3, A3, Ex3, st3⟩ := newPE (aty := .char) X2 hx hZ (ww24 hw) e2 (g := (mkF m 197 #[vR a1, vI 6] [(.int 6), (.ref b2), (.ref b2)])) rfl (hb hby d9_197) rfl (by decide +kernel) (cap := 6) (by decide +kernel) (by decide) (by decide) (by decide) (ad := "[C") (by decide +kernel)
 obtain ⟨b3, g3⟩ : ∃ z, z = h2.size := ⟨_, rfl⟩
 rw [← g3] at A3 Ex3 st3
 have O3 := O2.ext E3
 have bd_b3 : h2.size ≤ b3 := Nat.le_of_eq g3.symm
 have g_b3 : n0 ≤ b3 := Nat.le_trans (own_z O2) bd_b3
 have sz_b3 : h0.size ≤ b3 := Nat.le_trans E2.1 bd_b3
 have lt_b3 : b3 < h3.size := A3.lt
 have V3 : Arv Z h3 b3 k3 .char 6 [] (.int 0) := Arv.new A3 (by decide +kernel)
 have f14 := ((V13.ext E2).ext E3)
 obtain ⟨T18, h18, X18, e18, W18, V18, st18⟩ := own_stC X3 hx hZ e3 V3 1 0 p4 p4 0 (own_ncR hk16 hk17) (hb hby d9_204) #[vR a1, vI 6] [(.ref b3), (.ref b2), (.ref b2)] (vs2 := [(.int p4)])
 have O18 := O3.wr W18 g_b3
 have N18 := Fr.snoc X18 N0 g_b3
 have f19 := (f14.other W18 (own_n (own_t lt_a1 E2.1) bd_b3))
 obtain ⟨T23, h23, X23, e23, W23, V23, st23⟩ := own_stC X18 hx hZ e18 V18 1 1 p5 p5 1 (own_ncR hk21 hk22) (hb hby d9_210) #[vR a1, vI 6] [(.ref b3), (.ref b2), (.ref b2)] (vs2 := [(.int p4), (.int p5)])
 have O23 := O18.wr W23 g_b3
 have N23 := Fr.snoc X23 N18 g_b3
 have f24 := (f19.other W23 (own_n (own_t lt_a1 E2.1) bd_b3))
 obtain ⟨T28, h28, X28, e28, W28, V28, st28⟩ := own_stC X23 hx hZ e23 V23 1 2 p6 p6 2 (own_ncR hk26 hk27) (hb hby d9_216) #[vR a1, vI 6] [(.ref b3), (.ref b2), (.ref b2)] (vs2 := [(.int p4), (.int p5), (.int p6)])
 have O28 := O23.wr W28 g_b3
 have N28 := Fr.snoc X28 N23 g_b3
 have f29 := (f24.other W28 (own_n (own_t lt_a1 E2.1) bd_b3))
 obtain ⟨T33, h33, X33, e33, W33, V33, st33⟩ := own_stC X28 hx hZ e28 V28 1 3 p7 p7 3 (own_ncR hk31 hk32) (hb hby d9_222) #[vR a1, vI 6] [(.ref b3), (.ref b2), (.ref b2)] (vs2 := [(.int p4), (.int p5), (.int p6), (.int p7)])
 have O33 := O28.wr W33 g_b3
 have N33 := Fr.snoc X33 N28 g_b3
 have f34 := (f29.other W33 (own_n (own_t lt_a1 E2.1) bd_b3))
 obtain ⟨T38, h38, X38, e38, W38, V38, st38⟩ := own_stC X33 hx hZ e33 V33 1 4 p8 p8 4 (own_ncR hk36 hk37) (hb hby d9_228) #[vR a1, vI 6] [(.ref b3), (.ref b2), (.ref b2)] (vs2 := [(.int p4), (.int p5), (.int p6), (.int p7), (.int p8)])
 have O38 := O33.wr W38 g_b3
 have N38 := Fr.snoc X38 N33 g_b3
 have f39 := (f34.other W38 (own_n (own_t lt_a1 E2.1) bd_b3))
 obtain ⟨T43, h43, X43, e43, W43, V43, st43⟩ := own_stC X38 hx hZ e38 V38 1 5 p9 p9 5 (own_ncR hk41 hk42) (hb hby d9_234) #[vR a1, vI 6] [(.ref b3), (.ref b2), (.ref b2)] (vs2 := [(.int p4), (.int p5), (.int p6), (.int p7), (.int p8), (.int p9)])
 have O43 := O38.wr W43 g_b3
 have N43 := Fr.snoc X43 N38 g_b3
 have lt47 : b3 < h43.size := (own_t (own_t (own_t (own_t (own_t (own_t lt_b3 (Keep.of_wr W18).1) (Keep.of_wr W23).1) (Keep.of_wr W28).1) (Keep.of_wr W33).1) (Keep.of_wr W38).1) (Keep.of_wr W43).1)
 have lt48 : b2 < h43.size := (own_t (own_t (own_t (own_t (own_t (own_t (own_t lt_b2 E3.1) (Keep.of_wr W18).1) (Keep.of_wr W23).1) (Keep.of_wr W28).1) (Keep.of_wr W33).1) (Keep.of_wr W38).1) (Keep.of_wr W43).1)
 have f49 := (Exa.wr W43 (Exa.wr W38 (Exa.wr W33 (Exa.wr W28 (Exa.wr W23 (Exa.wr W18 (Exa.ext E3 A2)))))))
 have f50 := (Fld.other W43 (Fld.other W38 (Fld.other W33 (Fld.other W28 (Fld.other W23 (Fld.other W18 (Fld.ext E3 D2_8) (Or.inl (own_n lt_b2 bd_b3))) (Or.inl (own_n lt_b2 bd_b3))) (Or.inl (own_n lt_b2 bd_b3))) (Or.inl (own_n lt_b2 bd_b3))) (Or.inl (own_n lt_b2 bd_b3))) (Or.inl (own_n lt_b2 bd_b3)))
 have f51 := (Fld.other W43 (Fld.other W38 (Fld.other W33 (Fld.other W28 (Fld.other W23 (Fld.other W18 (Fld.ext E3 D2_7) (Or.inl (own_n lt_b2 bd_b3))) (Or.inl (own_n lt_b2 bd_b3))) (Or.inl (own_n lt_b2 bd_b3))) (Or.inl (own_n lt_b2 bd_b3))) (Or.inl (own_n lt_b2 bd_b3))) (Or.inl (own_n lt_b2 bd_b3)))
 obtain ⟨_, T52, L52, X52, hQ52, st52⟩ := own_cI X43 hx hZ hown (ww56 hw) (ww57 hw) (ww4 hw) (ww58 hw) (rm10_65 l Z a0 hw b2 b3 p4 p5 p6 p7 p8 p9 k3 p44 h43 n0 O43 V43 S_45 hk46 hk16 hk21 hk26 hk31 hk36 hk41 f49 f50 f51 lt47 g_b2 lt48) e43 pd_12 hml (hb hby d9_235) (Ls := #[vR a1, vI 6]) (W := 1) (argsL := [(.ref b3)]) (rest := [(.ref b2)]) (b := b2)
 obtain ⟨i53, i54, i55, i56, i57, i58, b59, k60, u61, u62, u63, u64, u65, u66, rfl, u68, u69, u70, Ku71, u72, u73, u74, u75, u76⟩ := hQ52
 have sz_b59 : h0.size ≤ b59 := Nat.le_trans (Nat.le_trans (Nat.le_trans (Nat.le_trans (Nat.le_trans (Nat.le_trans (Nat.le_trans (Nat.le_trans E2.1 E3.1) (Keep.of_wr W18).1) (Keep.of_wr W23).1) (Keep.of_wr W28).1) (Keep.of_wr W33).1) (Keep.of_wr W38).1) (Keep.of_wr W43).1) u69
 have N52 := Fr.app N43 u68
 refine fin (some (.ref b2)) _ _ _ _ X52 nofun (fun fs hr => pre0 _ ?_) ?_ (by decide) (by decide)
 ·
  refine o_iloadN X0 hq d9_0 rfl (o_ifY X0 hq d9_1 (pc := 1) (pc' := 15) (by decide +kernel) (o_iloadN X0 hq d9_15 rfl (o_iconst X0 hq d9_16 (x := 1) rfl (o_icmpY X0 hq d9_17 (pc := 17) (pc' := 37) (by decide +kernel) (o_iloadN X0 hq d9_37 rfl (o_iconst X0 hq d9_38 (x := 2) rfl (o_icmpY X0 hq d9_39 (pc := 39) (pc' := 65) (by decide +kernel) (o_iloadN X0 hq d9_65 rfl (o_iconst X0 hq d9_66 (x := 3) rfl (o_icmpY X0 hq d9_67 (pc := 67) (pc' := 99) (by decide +kernel) (o_iloadN X0 hq d9_99 rfl (o_iconst X0 hq d9_100 (x := 4) rfl (o_icmpY X0 hq d9_101 (pc := 101) (pc' := 139) (by decide +kernel) (o_iloadN X0 hq d9_139 rfl (o_iconst X0 hq d9_140 (x := 5) rfl (o_icmpY X0 hq d9_141 (pc := 141) (pc' := 185) (by decide +kernel) (o_iloadN X0 hq d9_185 rfl (o_bipush X0 hq d9_186 (x := 6) rfl (o_icmpN X0 hq d9_188 (by decide +kernel) (st2 _ (o_dup X2 hq d9_194 rfl (o_bipush X2 hq d9_195 (x := 6) rfl (st3 _ (o_dup X3 hq d9_199 rfl (o_iconst X3 hq d9_200 (x := 0) rfl (o_aloadN X3 hq d9_201 rfl rfl (o_iconst X3 hq d9_202 (x := 0) rfl (o_caload X3 hq d9_203 hZ e3 f14 (i := 0) (v := .int p4) (by decide +kernel) rfl (st18 _ (o_dup X18 hq d9_205 rfl (o_iconst X18 hq d9_206 (x := 1) rfl (o_aloadN X18 hq d9_207 rfl rfl (o_iconst X18 hq d9_208 (x := 1) rfl (o_caload X18 hq d9_209 hZ e18 f19 (i := 1) (v := .int p5) (by decide +kernel) rfl (st23 _ (o_dup X23 hq d9_211 rfl (o_iconst X23 hq d9_212 (x := 2) rfl (o_aloadN X23 hq d9_213 rfl rfl (o_iconst X23 hq d9_214 (x := 2) rfl ?_)))))))))))))))))))))))))))))))))))))))
  refine o_caload X23 hq d9_215 hZ e23 f24 (i := 2) (v := .int p6) (by decide +kernel) rfl (st28 _ (o_dup X28 hq d9_217 rfl (o_iconst X28 hq d9_218 (x := 3) rfl (o_aloadN X28 hq d9_219 rfl rfl (o_iconst X28 hq d9_220 (x := 3) rfl (o_caload X28 hq d9_221 hZ e28 f29 (i := 3) (v := .int p7) (by decide +kernel) rfl (st33 _ (o_dup X33 hq d9_223 rfl (o_iconst X33 hq d9_224 (x := 4) rfl (o_aloadN X33 hq d9_225 rfl rfl (o_iconst X33 hq d9_226 (x := 4) rfl (o_caload X33 hq d9_227 hZ e33 f34 (i := 4) (v := .int p8) (by decide +kernel) rfl (st38 _ (o_dup X38 hq d9_229 rfl (o_iconst X38 hq d9_230 (x := 5) rfl (o_aloadN X38 hq d9_231 rfl rfl (o_iconst X38 hq d9_232 (x := 5) rfl (o_caload X38 hq d9_233 hZ e38 f39 (i := 5) (v := .int p9) (by decide +kernel) rfl (st43 _ (st52 _ ?_))))))))))))))))))))
  show Steps p.tables e below (T52.setTop (mkF m 238 #[vR a1, vI 6] [(.ref b2)])) _
  jvm_step X52.here [X52.here.top, hx, (hb hby d9_238), X52.method', hret, Value.isRef, FieldType.isReference]
  first | (intro acts; rw [hr _ acts rfl rfl rfl]) | rw [hr _ _ rfl rfl rfl]
  exact Steps.refl _
 ·
  exact ⟨i53, i54, i55, i56, i57, i58, b2, b59, k60, u61, u62, u63, u64, u65, u66, rfl, N52, sz_b2, (own_t lt48 Ku71.1), sz_b59, u70, (own_n lt48 u69), ((((((((((Keep.refl h0 []).ext E2).ext E3).wr W18 (Or.inr sz_b3)).wr W23 (Or.inr sz_b3)).wr W28 (Or.inr sz_b3)).wr W33 (Or.inr sz_b3)).wr W38 (Or.inr sz_b3)).wr W43 (Or.inr sz_b3)).trans Ku71 (allS (Or.inr sz_b2) all0)), u72, u73, u74, u75, u76⟩
def Q19_72 (Z : State) (a1 a2 : Addr) (k3 : ClassId) (p5 p6 : Int32) (p7 p8 : Int32) (p9 p10 : Int32) (k11 : ClassId) (h0 : Heap) (n0 : Nat) (v : Option Value) (h : Heap) (L : List Loc) : Prop := (65 = p5 ∧ 112 = p6 ∧ 112 = p7 ∧ 101 = p8 ∧ 110 = p9 ∧ 100 = p10 ∧ v = some (.int 1) ∧ Fr n0 L ∧ h = h0) ∨ (¬ (65 = p5 ∧ 112 = p6 ∧ 112 = p7 ∧ 101 = p8 ∧ 110 = p9 ∧ 100 = p10) ∧ v = some (.int 0) ∧ Fr n0 L ∧ h = h0)
theorem rm19_72 (l : Launch) (Z : State) (a0 : Array Value) (hw : own_HW Z a0) (a1 a2 : Addr) (k3 : ClassId) (p5 p6 : Int32) (p7 p8 : Int32) (p9 p10 : Int32) (k11 : ClassId) (h0 : Heap) (n0 : Nat) (O0 : Old Z n0 h0) (V4 : Arv Z Z.heap a1 k3 .byte 6 [(.int 65), (.int 112), (.int 112), (.int 101), (.int 110), (.int 100)] (.int 0)) (V12 : Arv Z h0 a2 k11 .byte 6 [(.int p5), (.int p6), (.int p7), (.int p8), (.int p9), (.int p10)] (.int 0)) : own_Met l Z M_15 bc19 3 (some .boolean) ({ frames := 0, cells := 0, slots := 0, locals := 0 } : Room) #[(.ref a1), (.ref a2)] h0 (Q19_72 Z a1 a2 k3 p5 p6 p7 p8 p9 p10 k11 h0 n0) := by
 refine own_body (L0 := #[vR a1, vR a2, .unset]) (plainFor_of_name pn_2) (fun m => by first | (simp [entryFrame, mkF, argsToLocals, Value.category]; done) | rfl) fun p e s m below meth c s₁ EN hx hby hml hown hnm hret X0 hZ e0 hh pre0 fin => ?_
 have N0 := Fr.nil n0
 have hq := And.intro hx hby
 have pre15 : oS p e below EN s₁ (mkF m 21 #[vR a1, vR a2, vI 0] [(.int p5), (.int 65)]) := fun t kt => pre0 t (o_aloadN X0 hq d19_0 rfl rfl (o_alen X0 hq d19_1 hZ e0 (V4.ext O0.2) (o_aloadN X0 hq d19_2 rfl rfl (o_alen X0 hq d19_3 hZ e0 V12 (o_icmpN X0 hq d19_4 (by decide +kernel) (o_iconst X0 hq d19_7 (x := 0) rfl (o_istoreN X0 hq d19_8 rfl (o_iloadN X0 hq d19_9 rfl (o_aloadN X0 hq d19_10 rfl rfl (o_alen X0 hq d19_11 hZ e0 (V4.ext O0.2) (o_icmpN X0 hq d19_12 (by decide +kernel) (o_aloadN X0 hq d19_15 rfl rfl (o_iloadN X0 hq d19_16 rfl (o_baload X0 hq d19_17 hZ e0 (V4.ext O0.2) (i := 0) (v := .int 65) (by decide +kernel) rfl (o_aloadN X0 hq d19_18 rfl rfl (o_iloadN X0 hq d19_19 rfl (o_baload X0 hq d19_20 hZ e0 V12 (i := 0) (v := .int p5) (by decide +kernel) rfl kt)))))))))))))))))
 by_cases hc16 : 65 = p5
 ·
  have pre19 : oS p e below EN s₁ (mkF m 21 #[vR a1, vR a2, vI 1] [(.int p6), (.int 112)]) := fun t kt => pre15 t (o_icmpY X0 hq d19_21 (pc := 21) (pc' := 26) (teq hc16).1 (o_iinc X0 hq d19_26 rfl (z := 1) (k' := 1) rfl (by decide +kernel) rfl (o_goto X0 hq d19_29 (pc := 29) (pc' := 9) (o_iloadN X0 hq d19_9 rfl (o_aloadN X0 hq d19_10 rfl rfl (o_alen X0 hq d19_11 hZ e0 (V4.ext O0.2) (o_icmpN X0 hq d19_12 (by decide +kernel) (o_aloadN X0 hq d19_15 rfl rfl (o_iloadN X0 hq d19_16 rfl (o_baload X0 hq d19_17 hZ e0 (V4.ext O0.2) (i := 1) (v := .int 112) (by decide +kernel) rfl (o_aloadN X0 hq d19_18 rfl rfl (o_iloadN X0 hq d19_19 rfl (o_baload X0 hq d19_20 hZ e0 V12 (i := 1) (v := .int p6) (by decide +kernel) rfl kt)))))))))))))
  by_cases hc20 : 112 = p6
  ·
   have pre23 : oS p e below EN s₁ (mkF m 21 #[vR a1, vR a2, vI 2] [(.int p7), (.int 112)]) := fun t kt => pre19 t (o_icmpY X0 hq d19_21 (pc := 21) (pc' := 26) (teq hc20).1 (o_iinc X0 hq d19_26 rfl (z := 2) (k' := 1) rfl (by decide +kernel) rfl (o_goto X0 hq d19_29 (pc := 29) (pc' := 9) (o_iloadN X0 hq d19_9 rfl (o_aloadN X0 hq d19_10 rfl rfl (o_alen X0 hq d19_11 hZ e0 (V4.ext O0.2) (o_icmpN X0 hq d19_12 (by decide +kernel) (o_aloadN X0 hq d19_15 rfl rfl (o_iloadN X0 hq d19_16 rfl (o_baload X0 hq d19_17 hZ e0 (V4.ext O0.2) (i := 2) (v := .int 112) (by decide +kernel) rfl (o_aloadN X0 hq d19_18 rfl rfl (o_iloadN X0 hq d19_19 rfl (o_baload X0 hq d19_20 hZ e0 V12 (i := 2) (v := .int p7) (by decide +kernel) rfl kt)))))))))))))
   by_cases hc24 : 112 = p7
   ·
    have pre27 : oS p e below EN s₁ (mkF m 21 #[vR a1, vR a2, vI 3] [(.int p8), (.int 101)]) := fun t kt => pre23 t (o_icmpY X0 hq d19_21 (pc := 21) (pc' := 26) (teq hc24).1 (o_iinc X0 hq d19_26 rfl (z := 3) (k' := 1) rfl (by decide +kernel) rfl (o_goto X0 hq d19_29 (pc := 29) (pc' := 9) (o_iloadN X0 hq d19_9 rfl (o_aloadN X0 hq d19_10 rfl rfl (o_alen X0 hq d19_11 hZ e0 (V4.ext O0.2) (o_icmpN X0 hq d19_12 (by decide +kernel) (o_aloadN X0 hq d19_15 rfl rfl (o_iloadN X0 hq d19_16 rfl (o_baload X0 hq d19_17 hZ e0 (V4.ext O0.2) (i := 3) (v := .int 101) (by decide +kernel) rfl (o_aloadN X0 hq d19_18 rfl rfl (o_iloadN X0 hq d19_19 rfl (o_baload X0 hq d19_20 hZ e0 V12 (i := 3) (v := .int p8) (by decide +kernel) rfl kt)))))))))))))
    by_cases hc28 : 101 = p8
    ·
     have pre31 : oS p e below EN s₁ (mkF m 21 #[vR a1, vR a2, vI 4] [(.int p9), (.int 110)]) := fun t kt => pre27 t (o_icmpY X0 hq d19_21 (pc := 21) (pc' := 26) (teq hc28).1 (o_iinc X0 hq d19_26 rfl (z := 4) (k' := 1) rfl (by decide +kernel) rfl (o_goto X0 hq d19_29 (pc := 29) (pc' := 9) (o_iloadN X0 hq d19_9 rfl (o_aloadN X0 hq d19_10 rfl rfl (o_alen X0 hq d19_11 hZ e0 (V4.ext O0.2) (o_icmpN X0 hq d19_12 (by decide +kernel) (o_aloadN X0 hq d19_15 rfl rfl (o_iloadN X0 hq d19_16 rfl (o_baload X0 hq d19_17 hZ e0 (V4.ext O0.2) (i := 4) (v := .int 110) (by decide +kernel) rfl (o_aloadN X0 hq d19_18 rfl rfl (o_iloadN X0 hq d19_19 rfl (o_baload X0 hq d19_20 hZ e0 V12 (i := 4) (v := .int p9) (by decide +kernel) rfl kt)))))))))))))
     by_cases hc32 : 110 = p9
     ·
      have pre35 : oS p e below EN s₁ (mkF m 21 #[vR a1, vR a2, vI 5] [(.int p10), (.int 100)]) := fun t kt => pre31 t (o_icmpY X0 hq d19_21 (pc := 21) (pc' := 26) (teq hc32).1 (o_iinc X0 hq d19_26 rfl (z := 5) (k' := 1) rfl (by decide +kernel) rfl (o_goto X0 hq d19_29 (pc := 29) (pc' := 9) (o_iloadN X0 hq d19_9 rfl (o_aloadN X0 hq d19_10 rfl rfl (o_alen X0 hq d19_11 hZ e0 (V4.ext O0.2) (o_icmpN X0 hq d19_12 (by decide +kernel) (o_aloadN X0 hq d19_15 rfl rfl (o_iloadN X0 hq d19_16 rfl (o_baload X0 hq d19_17 hZ e0 (V4.ext O0.2) (i := 5) (v := .int 100) (by decide +kernel) rfl (o_aloadN X0 hq d19_18 rfl rfl (o_iloadN X0 hq d19_19 rfl (o_baload X0 hq d19_20 hZ e0 V12 (i := 5) (v := .int p10) (by decide +kernel) rfl kt)))))))))))))
      by_cases hc36 : 100 = p10
      ·
       refine fin (some (.int 1)) _ _ _ _ X0 nofun (fun fs hr => pre35 _ ?_) (own_atH e0 ?_) (by decide) (by decide)
       ·
        refine o_icmpY X0 hq d19_21 (pc := 21) (pc' := 26) (teq hc36).1 (o_iinc X0 hq d19_26 rfl (z := 6) (k' := 1) rfl (by decide +kernel) rfl (o_goto X0 hq d19_29 (pc := 29) (pc' := 9) (o_iloadN X0 hq d19_9 rfl (o_aloadN X0 hq d19_10 rfl rfl (o_alen X0 hq d19_11 hZ e0 (V4.ext O0.2) (o_icmpY X0 hq d19_12 (pc := 12) (pc' := 32) (by decide +kernel) (o_iconst X0 hq d19_32 (x := 1) rfl ?_)))))))
        exact retN X0 hx (t := .boolean) hret (by simp) (hb hby d19_33) hr
       ·
        exact Or.inl (⟨hc16, hc20, hc24, hc28, hc32, hc36, rfl, N0, rfl⟩)
      ·
       refine fin (some (.int 0)) _ _ _ _ X0 nofun (fun fs hr => pre35 _ ?_) (own_atH e0 ?_) (by decide) (by decide)
       ·
        refine o_icmpN X0 hq d19_21 (feq hc36).1 (o_iconst X0 hq d19_24 (x := 0) rfl ?_)
        exact retN X0 hx (t := .boolean) hret (by simp) (hb hby d19_25) hr
       ·
        exact Or.inr (⟨(fun q => hc36 q.2.2.2.2.2), rfl, N0, rfl⟩)
     ·
      refine fin (some (.int 0)) _ _ _ _ X0 nofun (fun fs hr => pre31 _ ?_) (own_atH e0 ?_) (by decide) (by decide)
      ·
       refine o_icmpN X0 hq d19_21 (feq hc32).1 (o_iconst X0 hq d19_24 (x := 0) rfl ?_)
       exact retN X0 hx (t := .boolean) hret (by simp) (hb hby d19_25) hr
      ·
       exact Or.inr (⟨(fun q => hc32 q.2.2.2.2.1), rfl, N0, rfl⟩)
    ·
     refine fin (some (.int 0)) _ _ _ _ X0 nofun (fun fs hr => pre27 _ ?_) (own_atH e0 ?_) (by decide) (by decide)
     ·
      refine o_icmpN X0 hq d19_21 (feq hc28).1 (o_iconst X0 hq d19_24 (x := 0) rfl ?_)
      exact retN X0 hx (t := .boolean) hret (by simp) (hb hby d19_25) hr
     ·
      exact Or.inr (⟨(fun q => hc28 q.2.2.2.1), rfl, N0, rfl⟩)
   ·
    refine fin (some (.int 0)) _ _ _ _ X0 nofun (fun fs hr => pre23 _ ?_) (own_atH e0 ?_) (by decide) (by decide)
    ·
     refine o_icmpN X0 hq d19_21 (feq hc24).1 (o_iconst X0 hq d19_24 (x := 0) rfl ?_)
     exact retN X0 hx (t := .boolean) hret (by simp) (hb hby d19_25) hr
    ·
     exact Or.inr (⟨(fun q => hc24 q.2.2.1), rfl, N0, rfl⟩)
  ·
   refine fin (some (.int 0)) _ _ _ _ X0 nofun (fun fs hr => pre19 _ ?_) (own_atH e0 ?_) (by decide) (by decide)
   ·
    refine o_icmpN X0 hq d19_21 (feq hc20).1 (o_iconst X0 hq d19_24 (x := 0) rfl ?_)
    exact retN X0 hx (t := .boolean) hret (by simp) (hb hby d19_25) hr
   ·
    exact Or.inr (⟨(fun q => hc20 q.2.1), rfl, N0, rfl⟩)
 ·
  refine fin (some (.int 0)) _ _ _ _ X0 nofun (fun fs hr => pre15 _ ?_) (own_atH e0 ?_) (by decide) (by decide)
  ·
   refine o_icmpN X0 hq d19_21 (feq hc16).1 (o_iconst X0 hq d19_24 (x := 0) rfl ?_)
   exact retN X0 hx (t := .boolean) hret (by simp) (hb hby d19_25) hr
  ·
   exact Or.inr (⟨(fun q => hc16 q.1), rfl, N0, rfl⟩)
def Q18_71 (Z : State) (a1 a2 : Addr) (p7 : Int32) (a15 a18 : Addr) (k21 : ClassId) (p23 p24 : Int32) (p25 p26 : Int32) (p27 p28 : Int32) (k29 : ClassId) (h0 : Heap) (n0 : Nat) (v : Option Value) (h : Heap) (L : List Loc) : Prop := (65 = p23 ∧ 112 = p24 ∧ 112 = p25 ∧ 101 = p26 ∧ 110 = p27 ∧ 100 = p28 ∧ v = some (.int 1) ∧ Fr n0 L ∧ h = h0) ∨ (¬ (65 = p23 ∧ 112 = p24 ∧ 112 = p25 ∧ 101 = p26 ∧ 110 = p27 ∧ 100 = p28) ∧ v = some (.int 0) ∧ Fr n0 L ∧ h = h0)
theorem rm18_71 (l : Launch) (Z : State) (a0 : Array Value) (hw : own_HW Z a0) (a1 a2 : Addr) (p7 : Int32) (a15 a18 : Addr) (k21 : ClassId) (p23 p24 : Int32) (p25 p26 : Int32) (p27 p28 : Int32) (k29 : ClassId) (h0 : Heap) (n0 : Nat) (O0 : Old Z n0 h0) (hne3 : a1 ≠ a2) (E_4 : Exa Z h0 a2 C_2) (S_8 : Sta Z Z.heap C_2 "COMPACT_STRINGS" "Z" (.int p7)) (hk10 : ¬ (p7 = 0)) (F11 : Fld Z Z.heap a1 C_2 "coder" "B" (.int 0)) (F13 : Fld Z h0 a2 C_2 "coder" "B" (.int 0)) (F16 : Fld Z Z.heap a1 C_2 "value" "[B" (.ref a15)) (F19 : Fld Z h0 a2 C_2 "value" "[B" (.ref a18)) (V22 : Arv Z Z.heap a15 k21 .byte 6 [(.int 65), (.int 112), (.int 112), (.int 101), (.int 110), (.int 100)] (.int 0)) (V30 : Arv Z h0 a18 k29 .byte 6 [(.int p23), (.int p24), (.int p25), (.int p26), (.int p27), (.int p28)] (.int 0)) : own_Met l Z M_16 bc18 3 (some .boolean) ({ frames := 1, cells := 0, slots := 0, locals := 14 } : Room) #[(.ref a1), (.ref a2)] h0 (Q18_71 Z a1 a2 p7 a15 a18 k21 p23 p24 p25 p26 p27 p28 k29 h0 n0) := by
 refine own_body (L0 := #[vR a1, vR a2, .unset]) (plainFor_of_name pn_0) (fun m => by first | (simp [entryFrame, mkF, argsToLocals, Value.category]; done) | rfl) fun p e s m below meth c s₁ EN hx hby hml hown hnm hret X0 hZ e0 hh pre0 fin => ?_
 have N0 := Fr.nil n0
 have hq := And.intro hx hby
 obtain ⟨T5, X5, e5, st5⟩ := instY X0 hx hZ hown (ww104 hw) e0 (Ins.self E_4) (g := (mkF m 8 #[vR a1, vR a2, .unset] [(.ref a2)])) rfl rfl (hb hby d18_8)
 obtain ⟨T6, X6, e6, st6⟩ := castY X5 hx hZ hown (ww104 hw) e5 (Ins.self E_4) (g := (mkF m 15 #[vR a1, vR a2, .unset] [(.ref a2)])) rfl rfl (hb hby d18_15)
 obtain ⟨T9, X9, e9, st9⟩ := getS2 X6 hx hZ hown (host := "") (Or.inl (ww22 hw)) Via.refl e6 (Sta.ext O0.2 S_8) (g := (mkF m 19 #[vR a1, vR a2, vR a2] [])) rfl (hb hby d18_19)
 obtain ⟨T12, X12, e12, st12⟩ := getF X9 hx hZ hown (host := "") (Or.inl (ww23 hw)) Via.refl e9 (Fld.ext O0.2 F11) (g := (mkF m 26 #[vR a1, vR a2, vR a2] [(.ref a1)])) rfl rfl (hb hby d18_26)
 obtain ⟨T14, X14, e14, st14⟩ := getF X12 hx hZ hown (host := "") (Or.inl (ww23 hw)) Via.refl e12 F13 (g := (mkF m 30 #[vR a1, vR a2, vR a2] [(.ref a2), (.int 0)])) rfl rfl (hb hby d18_30)
 obtain ⟨T17, X17, e17, st17⟩ := getF X14 hx hZ hown (host := "") (Or.inl (ww16 hw)) Via.refl e14 (Fld.ext O0.2 F16) (g := (mkF m 37 #[vR a1, vR a2, vR a2] [(.ref a1)])) rfl rfl (hb hby d18_37)
 obtain ⟨T20, X20, e20, st20⟩ := getF X17 hx hZ hown (host := "") (Or.inl (ww16 hw)) Via.refl e17 F19 (g := (mkF m 41 #[vR a1, vR a2, vR a2] [(.ref a2), (.ref a15)])) rfl rfl (hb hby d18_41)
 have pre32 : oS p e below EN T20 (mkF m 44 #[vR a1, vR a2, vR a2] [(.ref a18), (.ref a15)]) := fun t kt => pre0 t (o_aloadN X0 hq d18_0 rfl rfl (o_aloadN X0 hq d18_1 rfl rfl (Jvm.RoadKit.acmp (g := (mkF m 2 #[vR a1, vR a2, .unset] [(.ref a2), (.ref a1)])) X0 hx rfl rfl rfl (pc0 := 2) (pc' := 7) (same := false) rfl (hb hby d18_2) rfl (decide_eq_false fun q => hne3 (Value.ref.inj q)) (by decide) (by decide) (o_aloadN X0 hq d18_7 rfl rfl (st5 _ (o_ifN X5 hq d18_11 (by decide +kernel) (o_aloadN X5 hq d18_14 rfl rfl (st6 _ (o_astoreN X6 hq d18_18 rfl rfl (st9 _ (o_ifN X9 hq d18_22 ((if0 _ _).trans (feq hk10).1) (o_aloadN X9 hq d18_25 rfl rfl (st12 _ (o_aloadN X12 hq d18_29 rfl rfl (st14 _ (o_icmpN X14 hq d18_33 (by decide +kernel) (o_aloadN X14 hq d18_36 rfl rfl (st17 _ (o_aloadN X17 hq d18_40 rfl rfl (st20 _ kt))))))))))))))))))))
 obtain ⟨_, T31, L31, X31, hQ31, st31⟩ := own_cS X20 hx hZ hown (ww105 hw) (ww106 hw) (ww41 hw) (ww107 hw) (rm19_72 l Z a0 hw a15 a18 k21 p23 p24 p25 p26 p27 p28 k29 h0 n0 O0 V22 V30) e20 pd_15 hml (hb hby d18_44) (Ls := #[vR a1, vR a2, vR a2]) (W := 0) (argsL := [(.ref a15), (.ref a18)]) (rest := [])
 rcases hQ31 with ⟨u33, u34, u35, u36, u37, u38, rfl, u40, u41⟩ | ⟨u42, rfl, u44, u45⟩
 ·
  have N31 := Fr.app N0 u40
  refine fin (some (.int 1)) _ _ _ _ X31 nofun (fun fs hr => pre32 _ ?_) (own_atH u41 ?_) (by decide) (by decide)
  ·
   refine st31 _ (o_ifN X31 hq d18_47 (by decide +kernel) (o_iconst X31 hq d18_50 (x := 1) rfl (o_goto X31 hq d18_51 (pc := 51) (pc' := 55) ?_)))
   exact retN X31 hx (t := .boolean) hret (by simp) (hb hby d18_55) hr
  ·
   exact Or.inl (⟨u33, u34, u35, u36, u37, u38, rfl, N31, rfl⟩)
 ·
  have N31 := Fr.app N0 u44
  refine fin (some (.int 0)) _ _ _ _ X31 nofun (fun fs hr => pre32 _ ?_) (own_atH u45 ?_) (by decide) (by decide)
  ·
   refine st31 _ (o_ifY X31 hq d18_47 (pc := 47) (pc' := 54) (by decide +kernel) (o_iconst X31 hq d18_54 (x := 0) rfl ?_))
   exact retN X31 hx (t := .boolean) hret (by simp) (hb hby d18_55) hr
  ·
   exact Or.inr (⟨u42, rfl, N31, rfl⟩)
def Q16_70 (Z : State) (a1 a2 : Addr) (a4 a6 : Addr) (a7 a8 a9 : Addr) (k10 : ClassId) (a23 : Addr) (p29 : Int32) (a34 : Addr) (k36 : ClassId) (p38 p39 : Int32) (p40 p41 : Int32) (p42 p43 : Int32) (k44 : ClassId) (a55 a61 : Addr) (k63 : ClassId) (a70 a76 : Addr) (k78 : ClassId) (a105 a111 : Addr) (k113 : ClassId) (a119 : Addr) (h0 : Heap) (n0 : Nat) (v : Option Value) (h : Heap) (L : List Loc) : Prop := (∃ (b96 : Addr), 65 = p38 ∧ 112 = p39 ∧ 112 = p40 ∧ 101 = p41 ∧ 110 = p42 ∧ 100 = p43 ∧ v = some (.ref b96) ∧ Fr n0 L ∧ h0.size ≤ b96 ∧ b96 < h.size ∧ Keep h0 h [] ∧ Exa Z h b96 C_7 ∧ Fld Z h b96 C_7 "value" C_8 (.ref a8)) ∨ (¬ (65 = p38 ∧ 112 = p39 ∧ 112 = p40 ∧ 101 = p41 ∧ 110 = p42 ∧ 100 = p43) ∧ v = some (.ref a119) ∧ Fr n0 L ∧ Keep h0 h [])
theorem rm16_70 (l : Launch) (Z : State) (a0 : Array Value) (hw : own_HW Z a0) (a1 a2 : Addr) (a4 a6 : Addr) (a7 a8 a9 : Addr) (k10 : ClassId) (a23 : Addr) (p29 : Int32) (a34 : Addr) (k36 : ClassId) (p38 p39 : Int32) (p40 p41 : Int32) (p42 p43 : Int32) (k44 : ClassId) (a55 a61 : Addr) (k63 : ClassId) (a70 a76 : Addr) (k78 : ClassId) (a105 a111 : Addr) (k113 : ClassId) (a119 : Addr) (h0 : Heap) (n0 : Nat) (O0 : Old Z n0 h0) (S_3 : Sta Z Z.heap C_0 "$VALUES" C_6 (.ref a2)) (F5 : Fld Z h0 a1 C_2 "value" "[B" (.ref a4)) (V11 : Arv Z Z.heap a2 k10 (.object "com/example/stern_warden/sternwarden/model/AccessMode") (4 : Int32) [(.ref a6), (.ref a7), (.ref a8), (.ref a9)] .null) (E_12 : Exa Z Z.heap a2 C_6) (F24 : Fld Z Z.heap a6 C_0 "localName" C_5 (.ref a23)) (E_26 : Exa Z Z.heap a23 C_2) (hne27 : a23 ≠ a1) (E_28 : Exa Z h0 a1 C_2) (S_30 : Sta Z Z.heap C_2 "COMPACT_STRINGS" "Z" (.int p29)) (hk31 : ¬ (p29 = 0)) (F32 : Fld Z Z.heap a23 C_2 "coder" "B" (.int 0)) (F33 : Fld Z h0 a1 C_2 "coder" "B" (.int 0)) (F35 : Fld Z Z.heap a23 C_2 "value" "[B" (.ref a34)) (V37 : Arv Z Z.heap a34 k36 .byte 4 [(.int 82), (.int 101), (.int 97), (.int 100)] (.int 0)) (V45 : Arv Z h0 a4 k44 .byte 6 [(.int p38), (.int p39), (.int p40), (.int p41), (.int p42), (.int p43)] (.int 0)) (F56 : Fld Z Z.heap a7 C_0 "localName" C_5 (.ref a55)) (E_58 : Exa Z Z.heap a55 C_2) (hne59 : a55 ≠ a1) (F60 : Fld Z Z.heap a55 C_2 "coder" "B" (.int 0)) (F62 : Fld Z Z.heap a55 C_2 "value" "[B" (.ref a61)) (V64 : Arv Z Z.heap a61 k63 .byte 5 [(.int 87), (.int 114), (.int 105), (.int 116), (.int 101)] (.int 0)) (F71 : Fld Z Z.heap a8 C_0 "localName" C_5 (.ref a70)) (E_73 : Exa Z Z.heap a70 C_2) (hne74 : a70 ≠ a1) (F75 : Fld Z Z.heap a70 C_2 "coder" "B" (.int 0)) (F77 : Fld Z Z.heap a70 C_2 "value" "[B" (.ref a76)) (V79 : Arv Z Z.heap a76 k78 .byte 6 [(.int 65), (.int 112), (.int 112), (.int 101), (.int 110), (.int 100)] (.int 0)) (F106 : Fld Z Z.heap a9 C_0 "localName" C_5 (.ref a105)) (E_108 : Exa Z Z.heap a105 C_2) (hne109 : a105 ≠ a1) (F110 : Fld Z Z.heap a105 C_2 "coder" "B" (.int 0)) (F112 : Fld Z Z.heap a105 C_2 "value" "[B" (.ref a111)) (V114 : Arv Z Z.heap a111 k113 .byte 7 [(.int 67), (.int 111), (.int 110), (.int 116), (.int 114), (.int 111), (.int 108)] (.int 0)) (S_120 : Sta Z Z.heap C_7 "EMPTY" C_9 (.ref a119)) : own_Met l Z M_21 bc16 5 (some (.object "java/util/Optional")) ({ frames := 3, cells := 2, slots := 5, locals := 38 } : Room) #[(.ref a1)] h0 (Q16_70 Z a1 a2 a4 a6 a7 a8 a9 k10 a23 p29 a34 k36 p38 p39 p40 p41 p42 p43 k44 a55 a61 k63 a70 a76 k78 a105 a111 k113 a119 h0 n0) := by
 refine own_body (L0 := #[vR a1, .unset, .unset, .unset, .unset]) (plainFor_of_name pn_5) (fun m => by first | (simp [entryFrame, mkF, argsToLocals, Value.category]; done) | rfl) fun p e s m below meth c s₁ EN hx hby hml hown hnm hret X0 hZ e0 hh pre0 fin => ?_
 have N0 := Fr.nil n0
 have hq := And.intro hx hby
 obtain ⟨_, T13, L13, X13, hQ13, st13⟩ := own_cS X0 hx hZ hown (ww79 hw) (ww80 hw) (ww1 hw) (ww81 hw) (rm17_18 l Z a0 hw a2 a6 a7 a8 a9 k10 h0 n0 O0 S_3 V11 E_12) e0 pd_14 hml (hb hby d16_0) (Ls := #[vR a1, .unset, .unset, .unset, .unset]) (W := 0) (argsL := []) (rest := [])
 obtain ⟨b14, rfl, u16, u17, u18, Ku19, u20, u21⟩ := hQ13
 have Ou19 := O0.keep Ku19 all0
 have N13 := Fr.app N0 u16
 obtain ⟨cl22, Ar22, -, Sz22, -, Hh22, -⟩ := id u21
 have hin22 : ¬ ((0 : Int32) < 0 ∨ cl22.slots.size ≤ ((0 : Int32)).toNatClampNeg) := inb_of Sz22 ⟨by decide +kernel, by decide +kernel⟩
 have hat22 : cl22.slots[((0 : Int32)).toNatClampNeg]? = some (.ref a6) := Has.at Hh22 hin22 rfl
 obtain ⟨T25, X25, e25, st25⟩ := getF X13 hx hZ hown (host := "") (Or.inl (ww97 hw)) Via.refl rfl (Fld.ext Ou19.2 F24) (g := (mkF m 21 #[vR a1, vR b14, vI 4, vI 0, vR a6] [(.ref a6)])) rfl rfl (hb hby d16_21)
 have f46 := (E_28.keep Ku19)
 have f47 := (F33.keep Ku19 nin0)
 have f48 := (F5.keep Ku19 nin0)
 have f49 := (V45.keep Ku19 nin0)
 obtain ⟨_, T50, L50, X50, hQ50, st50⟩ := own_cV X25 hx hZ hown (ww99 hw) (ww100 hw) (notFace_of_selects (args := #[]) (mvT hZ (ww102 hw))) (ww102 hw) (ww101 hw) (ww4 hw) (ww103 hw) (Exa.ext Ou19.2 E_26) (rm18_24 l Z a0 hw a23 a1 p29 a34 a4 _ 4 k36 _ 6 k44 T13.heap n0 Ou19 hne27 f46 S_30 hk31 F32 f47 F35 f48 V37 f49 kle4_6) e25 pd_16 hml (hb hby d16_25) (Ls := #[vR a1, vR b14, vI 4, vI 0, vR a6]) (W := 0) (argsL := [(.ref a1)]) (rest := [])
 obtain ⟨rfl, u52, u53⟩ := hQ50
 have N50 := Fr.app N13 u52
 obtain ⟨cl54, Ar54, -, Sz54, -, Hh54, -⟩ := id u21
 have hin54 : ¬ ((1 : Int32) < 0 ∨ cl54.slots.size ≤ ((1 : Int32)).toNatClampNeg) := inb_of Sz54 ⟨by decide +kernel, by decide +kernel⟩
 have hat54 : cl54.slots[((1 : Int32)).toNatClampNeg]? = some (.ref a7) := Has.at Hh54 hin54 rfl
 obtain ⟨T57, X57, e57, st57⟩ := getF X50 hx hZ hown (host := "") (Or.inl (ww97 hw)) Via.refl u53 (Fld.ext Ou19.2 F56) (g := (mkF m 21 #[vR a1, vR b14, vI 4, vI 1, vR a7] [(.ref a7)])) rfl rfl (hb hby d16_21)
 obtain ⟨_, T65, L65, X65, hQ65, st65⟩ := own_cV X57 hx hZ hown (ww99 hw) (ww100 hw) (notFace_of_selects (args := #[]) (mvT hZ (ww102 hw))) (ww102 hw) (ww101 hw) (ww4 hw) (ww103 hw) (Exa.ext Ou19.2 E_58) (rm18_24 l Z a0 hw a55 a1 p29 a61 a4 _ 5 k63 _ 6 k44 T13.heap n0 Ou19 hne59 f46 S_30 hk31 F60 f47 F62 f48 V64 f49 kle5_6) e57 pd_16 hml (hb hby d16_25) (Ls := #[vR a1, vR b14, vI 4, vI 1, vR a7]) (W := 0) (argsL := [(.ref a1)]) (rest := [])
 obtain ⟨rfl, u67, u68⟩ := hQ65
 have N65 := Fr.app N50 u67
 obtain ⟨cl69, Ar69, -, Sz69, -, Hh69, -⟩ := id u21
 have hin69 : ¬ ((2 : Int32) < 0 ∨ cl69.slots.size ≤ ((2 : Int32)).toNatClampNeg) := inb_of Sz69 ⟨by decide +kernel, by decide +kernel⟩
 have hat69 : cl69.slots[((2 : Int32)).toNatClampNeg]? = some (.ref a8) := Has.at Hh69 hin69 rfl
 obtain ⟨T72, X72, e72, st72⟩ := getF X65 hx hZ hown (host := "") (Or.inl (ww97 hw)) Via.refl u68 (Fld.ext Ou19.2 F71) (g := (mkF m 21 #[vR a1, vR b14, vI 4, vI 2, vR a8] [(.ref a8)])) rfl rfl (hb hby d16_21)
 have pre81 : ∀ t, Steps p.tables e below (T72.setTop (mkF m 25 #[vR a1, vR b14, vI 4, vI 2, vR a8] [(.ref a1), (.ref a70)])) t → Steps p.tables e below EN t := by
  intro t kt
  refine pre0 t ?_
  refine st13 _ (o_astoreN X13 hq d16_3 rfl rfl (o_aloadN X13 hq d16_4 rfl rfl (o_alen X13 hq d16_5 hZ rfl u21 (o_istoreN X13 hq d16_6 rfl (o_iconst X13 hq d16_7 (x := 0) rfl (o_istoreN X13 hq d16_8 rfl (o_iloadN X13 hq d16_9 rfl (o_iloadN X13 hq d16_10 rfl (o_icmpN X13 hq d16_11 (by decide +kernel) (o_aloadN X13 hq d16_14 rfl rfl (o_iloadN X13 hq d16_15 rfl (X13.aaload hx (j := 0) (v := (.ref a6)) Ar22.1 (State.isArrayOf_alike hZ.alike Ar22.2.1) rfl Ar22.2.2 hin22 hat22 (g := (mkF m 16 #[vR a1, vR b14, vI 4, vI 0, .unset] [(.int 0), (.ref b14)])) rfl rfl (hb hby d16_16) _ (o_astore X13 hq d16_17 rfl rfl (o_aload X13 hq d16_19 rfl rfl (st25 _ (o_aloadN X25 hq d16_24 rfl rfl (st50 _ (o_ifY X50 hq d16_28 (pc := 28) (pc' := 37) (by decide +kernel) (o_iinc X50 hq d16_37 rfl (z := 1) (k' := 1) rfl (by decide +kernel) rfl (o_goto X50 hq d16_40 (pc := 40) (pc' := 9) (o_iloadN X50 hq d16_9 rfl (o_iloadN X50 hq d16_10 rfl (o_icmpN X50 hq d16_11 (by decide +kernel) (o_aloadN X50 hq d16_14 rfl rfl (o_iloadN X50 hq d16_15 rfl (X50.aaload hx (j := 1) (v := (.ref a7)) (by rw [u53]; exact Ar54.1) (State.isArrayOf_alike hZ.alike Ar54.2.1) rfl Ar54.2.2 hin54 hat54 (g := (mkF m 16 #[vR a1, vR b14, vI 4, vI 1, vR a6] [(.int 1), (.ref b14)])) rfl rfl (hb hby d16_16) _ (o_astore X50 hq d16_17 rfl rfl (o_aload X50 hq d16_19 rfl rfl (st57 _ (o_aloadN X57 hq d16_24 rfl rfl (st65 _ (o_ifY X65 hq d16_28 (pc := 28) (pc' := 37) (by decide +kernel) (o_iinc X65 hq d16_37 rfl (z := 2) (k' := 1) rfl (by decide +kernel) rfl (o_goto X65 hq d16_40 (pc := 40) (pc' := 9) (o_iloadN X65 hq d16_9 rfl (o_iloadN X65 hq d16_10 rfl (o_icmpN X65 hq d16_11 (by decide +kernel) (o_aloadN X65 hq d16_14 rfl rfl (o_iloadN X65 hq d16_15 rfl ?_)))))))))))))))))))))))))))))))))))))))
  refine X65.aaload hx (j := 2) (v := (.ref a8)) (by rw [u68]; exact Ar69.1) (State.isArrayOf_alike hZ.alike Ar69.2.1) rfl Ar69.2.2 hin69 hat69 (g := (mkF m 16 #[vR a1, vR b14, vI 4, vI 2, vR a7] [(.int 2), (.ref b14)])) rfl rfl (hb hby d16_16) _ (o_astore X65 hq d16_17 rfl rfl (o_aload X65 hq d16_19 rfl rfl (st72 _ (o_aloadN X72 hq d16_24 rfl rfl ?_))))
  exact kt
 obtain ⟨_, T80, L80, X80, hQ80, st80⟩ := own_cV X72 hx hZ hown (ww99 hw) (ww100 hw) (notFace_of_selects (args := #[]) (mvT hZ (ww102 hw))) (ww102 hw) (ww101 hw) (ww4 hw) (ww103 hw) (Exa.ext Ou19.2 E_73) (rm18_71 l Z a0 hw a70 a1 p29 a76 a4 k78 p38 p39 p40 p41 p42 p43 k44 T13.heap n0 Ou19 hne74 f46 S_30 hk31 F75 f47 F77 f48 V79 f49) e72 pd_16 hml (hb hby d16_25) (Ls := #[vR a1, vR b14, vI 4, vI 2, vR a8]) (W := 0) (argsL := [(.ref a1)]) (rest := [])
 rcases hQ80 with ⟨u82, u83, u84, u85, u86, u87, rfl, u89, u90⟩ | ⟨u91, rfl, u93, u94⟩
 ·
  have N80 := Fr.app N65 u89
  obtain ⟨_, T95, L95, X95, hQ95, st95⟩ := own_cS X80 hx hZ hown (ww126 hw) (ww127 hw) (ww110 hw) (ww128 hw) (rm22_21 l Z a0 hw a8 T13.heap n0 Ou19) u90 pd_19 hml (hb hby d16_33) (Ls := #[vR a1, vR b14, vI 4, vI 2, vR a8]) (W := 0) (argsL := [(.ref a8)]) (rest := [])
  obtain ⟨b96, rfl, u98, u99, u100, Ku101, u102, u103⟩ := hQ95
  have sz_b96 : h0.size ≤ b96 := Nat.le_trans Ku19.1 u99
  have N95 := Fr.app N80 u98
  refine fin (some (.ref b96)) _ _ _ _ X95 nofun (fun fs hr => pre81 _ ?_) ?_ (by decide) (by decide)
  ·
   refine st80 _ (o_ifN X80 hq d16_28 (by decide +kernel) (o_aload X80 hq d16_31 rfl rfl (st95 _ ?_)))
   show Steps p.tables e below (T95.setTop (mkF m 36 #[vR a1, vR b14, vI 4, vI 2, vR a8] [(.ref b96)])) _
   jvm_step X95.here [X95.here.top, hx, (hb hby d16_36), X95.method', hret, Value.isRef, FieldType.isReference]
   first | (intro acts; rw [hr _ acts rfl rfl rfl]) | rw [hr _ _ rfl rfl rfl]
   exact Steps.refl _
  ·
   exact Or.inl (⟨b96, u82, u83, u84, u85, u86, u87, rfl, N95, sz_b96, u100, (((Keep.refl h0 []).trans Ku19 all0).trans Ku101 all0), u102, u103⟩)
 ·
  have N80 := Fr.app N65 u93
  obtain ⟨cl104, Ar104, -, Sz104, -, Hh104, -⟩ := id u21
  have hin104 : ¬ ((3 : Int32) < 0 ∨ cl104.slots.size ≤ ((3 : Int32)).toNatClampNeg) := inb_of Sz104 ⟨by decide +kernel, by decide +kernel⟩
  have hat104 : cl104.slots[((3 : Int32)).toNatClampNeg]? = some (.ref a9) := Has.at Hh104 hin104 rfl
  obtain ⟨T107, X107, e107, st107⟩ := getF X80 hx hZ hown (host := "") (Or.inl (ww97 hw)) Via.refl u94 (Fld.ext Ou19.2 F106) (g := (mkF m 21 #[vR a1, vR b14, vI 4, vI 3, vR a9] [(.ref a9)])) rfl rfl (hb hby d16_21)
  obtain ⟨_, T115, L115, X115, hQ115, st115⟩ := own_cV X107 hx hZ hown (ww99 hw) (ww100 hw) (notFace_of_selects (args := #[]) (mvT hZ (ww102 hw))) (ww102 hw) (ww101 hw) (ww4 hw) (ww103 hw) (Exa.ext Ou19.2 E_108) (rm18_24 l Z a0 hw a105 a1 p29 a111 a4 _ 7 k113 _ 6 k44 T13.heap n0 Ou19 hne109 f46 S_30 hk31 F110 f47 F112 f48 V114 f49 kle7_6) e107 pd_16 hml (hb hby d16_25) (Ls := #[vR a1, vR b14, vI 4, vI 3, vR a9]) (W := 0) (argsL := [(.ref a1)]) (rest := [])
  obtain ⟨rfl, u117, u118⟩ := hQ115
  have N115 := Fr.app N80 u117
  obtain ⟨_, T121, L121, X121, hQ121, st121⟩ := own_cS X115 hx hZ hown (ww108 hw) (ww109 hw) (ww110 hw) (ww111 hw) (rm20_26 l Z a0 hw a119 T13.heap n0 Ou19 S_120) u118 pd_20 hml (hb hby d16_43) (Ls := #[vR a1, vR b14, vI 4, vI 4, vR a9]) (W := 0) (argsL := []) (rest := [])
  obtain ⟨rfl, u123, u124⟩ := hQ121
  have N121 := Fr.app N115 u123
  refine fin (some (.ref a119)) _ _ _ _ X121 nofun (fun fs hr => pre81 _ ?_) (own_atH u124 ?_) (by decide) (by decide)
  ·
   refine st80 _ (o_ifY X80 hq d16_28 (pc := 28) (pc' := 37) (by decide +kernel) (o_iinc X80 hq d16_37 rfl (z := 3) (k' := 1) rfl (by decide +kernel) rfl (o_goto X80 hq d16_40 (pc := 40) (pc' := 9) (o_iloadN X80 hq d16_9 rfl (o_iloadN X80 hq d16_10 rfl (o_icmpN X80 hq d16_11 (by decide +kernel) (o_aloadN X80 hq d16_14 rfl rfl (o_iloadN X80 hq d16_15 rfl (X80.aaload hx (j := 3) (v := (.ref a9)) (by rw [u94]; exact Ar104.1) (State.isArrayOf_alike hZ.alike Ar104.2.1) rfl Ar104.2.2 hin104 hat104 (g := (mkF m 16 #[vR a1, vR b14, vI 4, vI 3, vR a8] [(.int 3), (.ref b14)])) rfl rfl (hb hby d16_16) _ (o_astore X80 hq d16_17 rfl rfl (o_aload X80 hq d16_19 rfl rfl (st107 _ (o_aloadN X107 hq d16_24 rfl rfl (st115 _ (o_ifY X115 hq d16_28 (pc := 28) (pc' := 37) (by decide +kernel) (o_iinc X115 hq d16_37 rfl (z := 4) (k' := 1) rfl (by decide +kernel) rfl (o_goto X115 hq d16_40 (pc := 40) (pc' := 9) (o_iloadN X115 hq d16_9 rfl (o_iloadN X115 hq d16_10 rfl (o_icmpY X115 hq d16_11 (pc := 11) (pc' := 43) (by decide +kernel) (st121 _ ?_)))))))))))))))))))))
   show Steps p.tables e below (T121.setTop (mkF m 46 #[vR a1, vR b14, vI 4, vI 4, vR a9] [(.ref a119)])) _
   jvm_step X121.here [X121.here.top, hx, (hb hby d16_46), X121.method', hret, Value.isRef, FieldType.isReference]
   first | (intro acts; rw [hr _ acts rfl rfl rfl]) | rw [hr _ _ rfl rfl rfl]
   exact Steps.refl _
  ·
   exact Or.inr (⟨u91, rfl, N121, ((Keep.refl h0 []).trans Ku19 all0)⟩)
def Q14_77 (Z : State) (a1 a2 : Addr) (p3 p4 : Int32) (p5 p6 : Int32) (p7 p8 p9 : Int32) (k10 k15 : ClassId) (h0 : Heap) (n0 : Nat) (v : Option Value) (h : Heap) (L : List Loc) : Prop := (∃ (i14 i23 : Int32) (i28 i33 : Int32) (i38 i43 i48 : Int32), i14 = (p3.toInt8.toInt32) ∧ i23 = (p4.toInt8.toInt32) ∧ i28 = (p5.toInt8.toInt32) ∧ i33 = (p6.toInt8.toInt32) ∧ i38 = (p7.toInt8.toInt32) ∧ i43 = (p8.toInt8.toInt32) ∧ i48 = (p9.toInt8.toInt32) ∧ v = some (.int 7) ∧ Fr n0 L ∧ Keep h0 h [a2] ∧ Exa Z h a2 "[B" ∧ Arv Z h a2 k15 .byte 7 [(.int i14), (.int i23), (.int i28), (.int i33), (.int i38), (.int i43), (.int i48)] (.int 0))
theorem rm14_77 (l : Launch) (Z : State) (a0 : Array Value) (hw : own_HW Z a0) (a1 a2 : Addr) (p3 p4 : Int32) (p5 p6 : Int32) (p7 p8 p9 : Int32) (k10 k15 : ClassId) (h0 : Heap) (n0 : Nat) (O0 : Old Z n0 h0) (V11 : Arv Z h0 a1 k10 .char 7 [(.int p3), (.int p4), (.int p5), (.int p6), (.int p7), (.int p8), (.int p9)] (.int 0)) (hk13 : ¬ (255 < p3)) (V16 : Arv Z h0 a2 k15 .byte 7 [] (.int 0)) (g_a2 : n0 ≤ a2) (E_18 : Exa Z h0 a2 "[B") (hne19 : a1 ≠ a2) (hk22 : ¬ (255 < p4)) (hk27 : ¬ (255 < p5)) (hk32 : ¬ (255 < p6)) (hk37 : ¬ (255 < p7)) (hk42 : ¬ (255 < p8)) (hk47 : ¬ (255 < p9)) : own_Met l Z M_8 bc14 7 (some .int) ({ frames := 0, cells := 0, slots := 0, locals := 0 } : Room) #[(.ref a1), (.int 0), (.ref a2), (.int 0), (.int 7)] h0 (Q14_77 Z a1 a2 p3 p4 p5 p6 p7 p8 p9 k10 k15 h0 n0) := by
 refine own_body (L0 := #[vR a1, vI 0, vR a2, vI 0, vI 7, .unset, .unset]) (plainFor_of_name pn_4) (fun m => by first | (simp [entryFrame, mkF, argsToLocals, Value.category]; done) | rfl) fun p e s m below meth c s₁ EN hx hby hml hown hnm hret X0 hZ e0 hh pre0 fin => ?_
 have N0 := Fr.nil n0
 have hq := And.intro hx hby
 obtain ⟨i14, hi14⟩ : ∃ z, z = (p3.toInt8.toInt32) := ⟨_, rfl⟩
 obtain ⟨T17, h17, X17, e17, W17, V17, st17⟩ := own_stB X0 hx hZ e0 V16 1 0 i14 i14 0 (own_i2b2 hi14 : (i14.toInt8.toInt32) = i14) (hb hby d14_31) #[vR a1, vI 0, vR a2, vI 0, vI 7, vI 0, vI p3] [] (vs2 := [(.int i14)])
 have N17 := Fr.snoc X17 N0 g_a2
 have f20 := (V11.other W17 hne19)
 obtain ⟨i23, hi23⟩ : ∃ z, z = (p4.toInt8.toInt32) := ⟨_, rfl⟩
 obtain ⟨T24, h24, X24, e24, W24, V24, st24⟩ := own_stB X17 hx hZ e17 V17 1 1 i23 i23 1 (own_i2b2 hi23 : (i23.toInt8.toInt32) = i23) (hb hby d14_31) #[vR a1, vI 1, vR a2, vI 1, vI 7, vI 1, vI p4] [] (vs2 := [(.int i14), (.int i23)])
 have N24 := Fr.snoc X24 N17 g_a2
 have f25 := (f20.other W24 hne19)
 obtain ⟨i28, hi28⟩ : ∃ z, z = (p5.toInt8.toInt32) := ⟨_, rfl⟩
 obtain ⟨T29, h29, X29, e29, W29, V29, st29⟩ := own_stB X24 hx hZ e24 V24 1 2 i28 i28 2 (own_i2b2 hi28 : (i28.toInt8.toInt32) = i28) (hb hby d14_31) #[vR a1, vI 2, vR a2, vI 2, vI 7, vI 2, vI p5] [] (vs2 := [(.int i14), (.int i23), (.int i28)])
 have N29 := Fr.snoc X29 N24 g_a2
 have f30 := (f25.other W29 hne19)
 obtain ⟨i33, hi33⟩ : ∃ z, z = (p6.toInt8.toInt32) := ⟨_, rfl⟩
 obtain ⟨T34, h34, X34, e34, W34, V34, st34⟩ := own_stB X29 hx hZ e29 V29 1 3 i33 i33 3 (own_i2b2 hi33 : (i33.toInt8.toInt32) = i33) (hb hby d14_31) #[vR a1, vI 3, vR a2, vI 3, vI 7, vI 3, vI p6] [] (vs2 := [(.int i14), (.int i23), (.int i28), (.int i33)])
 have N34 := Fr.snoc X34 N29 g_a2
 have f35 := (f30.other W34 hne19)
 obtain ⟨i38, hi38⟩ : ∃ z, z = (p7.toInt8.toInt32) := ⟨_, rfl⟩
 obtain ⟨T39, h39, X39, e39, W39, V39, st39⟩ := own_stB X34 hx hZ e34 V34 1 4 i38 i38 4 (own_i2b2 hi38 : (i38.toInt8.toInt32) = i38) (hb hby d14_31) #[vR a1, vI 4, vR a2, vI 4, vI 7, vI 4, vI p7] [] (vs2 := [(.int i14), (.int i23), (.int i28), (.int i33), (.int i38)])
 have N39 := Fr.snoc X39 N34 g_a2
 have f40 := (f35.other W39 hne19)
 obtain ⟨i43, hi43⟩ : ∃ z, z = (p8.toInt8.toInt32) := ⟨_, rfl⟩
 obtain ⟨T44, h44, X44, e44, W44, V44, st44⟩ := own_stB X39 hx hZ e39 V39 1 5 i43 i43 5 (own_i2b2 hi43 : (i43.toInt8.toInt32) = i43) (hb hby d14_31) #[vR a1, vI 5, vR a2, vI 5, vI 7, vI 5, vI p8] [] (vs2 := [(.int i14), (.int i23), (.int i28), (.int i33), (.int i38), (.int i43)])
 have N44 := Fr.snoc X44 N39 g_a2
 have f45 := (f40.other W44 hne19)
 obtain ⟨i48, hi48⟩ : ∃ z, z = (p9.toInt8.toInt32) := ⟨_, rfl⟩
 obtain ⟨T49, h49, X49, e49, W49, V49, st49⟩ := own_stB X44 hx hZ e44 V44 1 6 i48 i48 6 (own_i2b2 hi48 : (i48.toInt8.toInt32) = i48) (hb hby d14_31) #[vR a1, vI 6, vR a2, vI 6, vI 7, vI 6, vI p9] [] (vs2 := [(.int i14), (.int i23), (.int i28), (.int i33), (.int i38), (.int i43), (.int i48)])
 have N49 := Fr.snoc X49 N44 g_a2
 have f50 := (Exa.wr W49 (Exa.wr W44 (Exa.wr W39 (Exa.wr W34 (Exa.wr W29 (Exa.wr W24 (Exa.wr W17 E_18)))))))
 refine fin (some (.int 7)) _ _ _ _ X49 nofun (fun fs hr => pre0 _ ?_) (own_atH e49 ?_) (by decide) (by decide)
 ·
  refine o_iconst X0 hq d14_0 (x := 0) rfl (o_istore X0 hq d14_1 rfl (o_iload X0 hq d14_3 rfl (o_iload X0 hq d14_5 rfl (o_icmpN X0 hq d14_7 (by decide +kernel) (o_aloadN X0 hq d14_10 rfl rfl (o_iloadN X0 hq d14_11 rfl (o_caload X0 hq d14_12 hZ e0 V11 (i := 0) (v := .int p3) (by decide +kernel) rfl (o_istore X0 hq d14_13 rfl (o_iload X0 hq d14_15 rfl (o_sipush X0 hq d14_17 (x := 255) rfl (o_icmpY X0 hq d14_20 (pc := 20) (pc' := 26) (flt hk13).2.2.2 (o_aloadN X0 hq d14_26 rfl rfl (o_iloadN X0 hq d14_27 rfl (o_iload X0 hq d14_28 rfl (o_i2b X0 hq d14_30 (z := i14) hi14.symm (st17 _ (o_iinc X17 hq d14_32 rfl (z := 1) (k' := 1) rfl (by decide +kernel) rfl (o_iinc X17 hq d14_35 rfl (z := 1) (k' := 1) rfl (by decide +kernel) rfl (o_iinc X17 hq d14_38 rfl (z := 1) (k' := 1) rfl (by decide +kernel) rfl (o_goto X17 hq d14_41 (pc := 41) (pc' := 3) (o_iload X17 hq d14_3 rfl (o_iload X17 hq d14_5 rfl (o_icmpN X17 hq d14_7 (by decide +kernel) (o_aloadN X17 hq d14_10 rfl rfl (o_iloadN X17 hq d14_11 rfl (o_caload X17 hq d14_12 hZ e17 f20 (i := 1) (v := .int p4) (by decide +kernel) rfl (o_istore X17 hq d14_13 rfl (o_iload X17 hq d14_15 rfl (o_sipush X17 hq d14_17 (x := 255) rfl (o_icmpY X17 hq d14_20 (pc := 20) (pc' := 26) (flt hk22).2.2.2 (o_aloadN X17 hq d14_26 rfl rfl (o_iloadN X17 hq d14_27 rfl (o_iload X17 hq d14_28 rfl (o_i2b X17 hq d14_30 (z := i23) hi23.symm (st24 _ (o_iinc X24 hq d14_32 rfl (z := 2) (k' := 1) rfl (by decide +kernel) rfl (o_iinc X24 hq d14_35 rfl (z := 2) (k' := 1) rfl (by decide +kernel) rfl (o_iinc X24 hq d14_38 rfl (z := 2) (k' := 1) rfl (by decide +kernel) rfl (o_goto X24 hq d14_41 (pc := 41) (pc' := 3) ?_)))))))))))))))))))))))))))))))))))))))
  refine o_iload X24 hq d14_3 rfl (o_iload X24 hq d14_5 rfl (o_icmpN X24 hq d14_7 (by decide +kernel) (o_aloadN X24 hq d14_10 rfl rfl (o_iloadN X24 hq d14_11 rfl (o_caload X24 hq d14_12 hZ e24 f25 (i := 2) (v := .int p5) (by decide +kernel) rfl (o_istore X24 hq d14_13 rfl (o_iload X24 hq d14_15 rfl (o_sipush X24 hq d14_17 (x := 255) rfl (o_icmpY X24 hq d14_20 (pc := 20) (pc' := 26) (flt hk27).2.2.2 (o_aloadN X24 hq d14_26 rfl rfl (o_iloadN X24 hq d14_27 rfl (o_iload X24 hq d14_28 rfl (o_i2b X24 hq d14_30 (z := i28) hi28.symm (st29 _ (o_iinc X29 hq d14_32 rfl (z := 3) (k' := 1) rfl (by decide +kernel) rfl (o_iinc X29 hq d14_35 rfl (z := 3) (k' := 1) rfl (by decide +kernel) rfl (o_iinc X29 hq d14_38 rfl (z := 3) (k' := 1) rfl (by decide +kernel) rfl (o_goto X29 hq d14_41 (pc := 41) (pc' := 3) (o_iload X29 hq d14_3 rfl (o_iload X29 hq d14_5 rfl (o_icmpN X29 hq d14_7 (by decide +kernel) (o_aloadN X29 hq d14_10 rfl rfl (o_iloadN X29 hq d14_11 rfl (o_caload X29 hq d14_12 hZ e29 f30 (i := 3) (v := .int p6) (by decide +kernel) rfl (o_istore X29 hq d14_13 rfl (o_iload X29 hq d14_15 rfl (o_sipush X29 hq d14_17 (x := 255) rfl (o_icmpY X29 hq d14_20 (pc := 20) (pc' := 26) (flt hk32).2.2.2 (o_aloadN X29 hq d14_26 rfl rfl (o_iloadN X29 hq d14_27 rfl (o_iload X29 hq d14_28 rfl (o_i2b X29 hq d14_30 (z := i33) hi33.symm (st34 _ (o_iinc X34 hq d14_32 rfl (z := 4) (k' := 1) rfl (by decide +kernel) rfl (o_iinc X34 hq d14_35 rfl (z := 4) (k' := 1) rfl (by decide +kernel) rfl (o_iinc X34 hq d14_38 rfl (z := 4) (k' := 1) rfl (by decide +kernel) rfl (o_goto X34 hq d14_41 (pc := 41) (pc' := 3) (o_iload X34 hq d14_3 rfl (o_iload X34 hq d14_5 rfl ?_)))))))))))))))))))))))))))))))))))))))
  refine o_icmpN X34 hq d14_7 (by decide +kernel) (o_aloadN X34 hq d14_10 rfl rfl (o_iloadN X34 hq d14_11 rfl (o_caload X34 hq d14_12 hZ e34 f35 (i := 4) (v := .int p7) (by decide +kernel) rfl (o_istore X34 hq d14_13 rfl (o_iload X34 hq d14_15 rfl (o_sipush X34 hq d14_17 (x := 255) rfl (o_icmpY X34 hq d14_20 (pc := 20) (pc' := 26) (flt hk37).2.2.2 (o_aloadN X34 hq d14_26 rfl rfl (o_iloadN X34 hq d14_27 rfl (o_iload X34 hq d14_28 rfl (o_i2b X34 hq d14_30 (z := i38) hi38.symm (st39 _ (o_iinc X39 hq d14_32 rfl (z := 5) (k' := 1) rfl (by decide +kernel) rfl (o_iinc X39 hq d14_35 rfl (z := 5) (k' := 1) rfl (by decide +kernel) rfl (o_iinc X39 hq d14_38 rfl (z := 5) (k' := 1) rfl (by decide +kernel) rfl (o_goto X39 hq d14_41 (pc := 41) (pc' := 3) (o_iload X39 hq d14_3 rfl (o_iload X39 hq d14_5 rfl (o_icmpN X39 hq d14_7 (by decide +kernel) (o_aloadN X39 hq d14_10 rfl rfl (o_iloadN X39 hq d14_11 rfl (o_caload X39 hq d14_12 hZ e39 f40 (i := 5) (v := .int p8) (by decide +kernel) rfl (o_istore X39 hq d14_13 rfl (o_iload X39 hq d14_15 rfl (o_sipush X39 hq d14_17 (x := 255) rfl (o_icmpY X39 hq d14_20 (pc := 20) (pc' := 26) (flt hk42).2.2.2 (o_aloadN X39 hq d14_26 rfl rfl (o_iloadN X39 hq d14_27 rfl (o_iload X39 hq d14_28 rfl (o_i2b X39 hq d14_30 (z := i43) hi43.symm (st44 _ (o_iinc X44 hq d14_32 rfl (z := 6) (k' := 1) rfl (by decide +kernel) rfl (o_iinc X44 hq d14_35 rfl (z := 6) (k' := 1) rfl (by decide +kernel) rfl (o_iinc X44 hq d14_38 rfl (z := 6) (k' := 1) rfl (by decide +kernel) rfl (o_goto X44 hq d14_41 (pc := 41) (pc' := 3) (o_iload X44 hq d14_3 rfl (o_iload X44 hq d14_5 rfl (o_icmpN X44 hq d14_7 (by decide +kernel) (o_aloadN X44 hq d14_10 rfl rfl ?_)))))))))))))))))))))))))))))))))))))))
  refine o_iloadN X44 hq d14_11 rfl (o_caload X44 hq d14_12 hZ e44 f45 (i := 6) (v := .int p9) (by decide +kernel) rfl (o_istore X44 hq d14_13 rfl (o_iload X44 hq d14_15 rfl (o_sipush X44 hq d14_17 (x := 255) rfl (o_icmpY X44 hq d14_20 (pc := 20) (pc' := 26) (flt hk47).2.2.2 (o_aloadN X44 hq d14_26 rfl rfl (o_iloadN X44 hq d14_27 rfl (o_iload X44 hq d14_28 rfl (o_i2b X44 hq d14_30 (z := i48) hi48.symm (st49 _ (o_iinc X49 hq d14_32 rfl (z := 7) (k' := 1) rfl (by decide +kernel) rfl (o_iinc X49 hq d14_35 rfl (z := 7) (k' := 1) rfl (by decide +kernel) rfl (o_iinc X49 hq d14_38 rfl (z := 7) (k' := 1) rfl (by decide +kernel) rfl (o_goto X49 hq d14_41 (pc := 41) (pc' := 3) (o_iload X49 hq d14_3 rfl (o_iload X49 hq d14_5 rfl (o_icmpY X49 hq d14_7 (pc := 7) (pc' := 44) (by decide +kernel) (o_iload X49 hq d14_44 rfl ?_))))))))))))))))))
  exact retI X49 hx hret (hb hby d14_46) hr
 ·
  exact ⟨i14, i23, i28, i33, i38, i43, i48, hi14, hi23, hi28, hi33, hi38, hi43, hi48, rfl, N49, ((((((((Keep.refl h0 [a2]).wr W17 (Or.inl (List.mem_of_getElem? (i := 0) rfl))).wr W24 (Or.inl (List.mem_of_getElem? (i := 0) rfl))).wr W29 (Or.inl (List.mem_of_getElem? (i := 0) rfl))).wr W34 (Or.inl (List.mem_of_getElem? (i := 0) rfl))).wr W39 (Or.inl (List.mem_of_getElem? (i := 0) rfl))).wr W44 (Or.inl (List.mem_of_getElem? (i := 0) rfl))).wr W49 (Or.inl (List.mem_of_getElem? (i := 0) rfl))), f50, V49⟩
def Q13_76 (Z : State) (a1 : Addr) (p3 p4 : Int32) (p5 p6 : Int32) (p7 p8 p9 : Int32) (k10 : ClassId) (h0 : Heap) (n0 : Nat) (v : Option Value) (h : Heap) (L : List Loc) : Prop := (∃ (i21 i22 : Int32) (i23 i24 : Int32) (i25 i26 i27 : Int32) (b2 : Addr) (k2 : ClassId), i21 = (p3.toInt8.toInt32) ∧ i22 = (p4.toInt8.toInt32) ∧ i23 = (p5.toInt8.toInt32) ∧ i24 = (p6.toInt8.toInt32) ∧ i25 = (p7.toInt8.toInt32) ∧ i26 = (p8.toInt8.toInt32) ∧ i27 = (p9.toInt8.toInt32) ∧ v = some (.ref b2) ∧ Fr n0 L ∧ h0.size ≤ b2 ∧ b2 < h.size ∧ Keep h0 h [] ∧ Exa Z h b2 "[B" ∧ Arv Z h b2 k2 .byte 7 [(.int i21), (.int i22), (.int i23), (.int i24), (.int i25), (.int i26), (.int i27)] (.int 0))
theorem rm13_76 (l : Launch) (Z : State) (a0 : Array Value) (hw : own_HW Z a0) (a1 : Addr) (p3 p4 : Int32) (p5 p6 : Int32) (p7 p8 p9 : Int32) (k10 : ClassId) (h0 : Heap) (n0 : Nat) (O0 : Old Z n0 h0) (V11 : Arv Z h0 a1 k10 .char 7 [(.int p3), (.int p4), (.int p5), (.int p6), (.int p7), (.int p8), (.int p9)] (.int 0)) (hk12 : ¬ (255 < p3)) (lt_a1 : a1 < h0.size) (hk13 : ¬ (255 < p4)) (hk14 : ¬ (255 < p5)) (hk15 : ¬ (255 < p6)) (hk16 : ¬ (255 < p7)) (hk17 : ¬ (255 < p8)) (hk18 : ¬ (255 < p9)) : own_Met l Z M_9 bc13 6 (some (.array .byte)) ({ frames := 1, cells := 1, slots := 7, locals := 18 } : Room) #[(.ref a1), (.int 0), (.int 7)] h0 (Q13_76 Z a1 p3 p4 p5 p6 p7 p8 p9 k10 h0 n0) := by
 refine own_body (L0 := #[vR a1, vI 0, vI 7, .unset, .unset, .unset]) (plainFor_of_name pn_4) (fun m => by first | (simp [entryFrame, mkF, argsToLocals, Value.category]; done) | rfl) fun p e s m below meth c s₁ EN hx hby hml hown hnm hret X0 hZ e0 hh pre0 fin => ?_
 have N0 := Fr.nil n0
 have hq := And.intro hx hby
 obtain ⟨T2, h2, k2, X2, e2, E2, A2, Ex2, st2⟩ := newPE (aty := .byte) X0 hx hZ (ww6 hw) e0 (g := (mkF m 1 #[vR a1, vI 0, vI 7, .unset, .unset, .unset] [(.int 7)])) rfl (hb hby d13_1) rfl (by decide +kernel) (cap := 7) (by decide +kernel) (by decide) (by decide) (by decide) (ad := "[B") (by decide +kernel)
 obtain ⟨b2, g2⟩ : ∃ z, z = h0.size := ⟨_, rfl⟩
 rw [← g2] at A2 Ex2 st2
 have O2 := O0.ext E2
 have bd_b2 : h0.size ≤ b2 := Nat.le_of_eq g2.symm
 have g_b2 : n0 ≤ b2 := Nat.le_trans (own_z O0) bd_b2
 have sz_b2 : h0.size ≤ b2 := Nat.le_trans (Nat.le_refl _) bd_b2
 have lt_b2 : b2 < h2.size := A2.lt
 have V2 : Arv Z h2 b2 k2 .byte 7 [] (.int 0) := Arv.new A2 (by decide +kernel)
 have f19 := (V11.ext E2)
 obtain ⟨_, T20, L20, X20, hQ20, st20⟩ := own_cS X2 hx hZ hown (ww70 hw) (ww71 hw) (ww68 hw) (ww72 hw) (rm14_77 l Z a0 hw a1 b2 p3 p4 p5 p6 p7 p8 p9 k10 k2 h2 n0 O2 f19 hk12 V2 g_b2 Ex2 (own_n lt_a1 bd_b2) hk13 hk14 hk15 hk16 hk17 hk18) e2 pd_8 hml (hb hby d13_9) (Ls := #[vR a1, vI 0, vI 7, vR b2, .unset, .unset]) (W := 0) (argsL := [(.ref a1), (.int 0), (.ref b2), (.int 0), (.int 7)]) (rest := [])
 obtain ⟨i21, i22, i23, i24, i25, i26, i27, u28, u29, u30, u31, u32, u33, u34, rfl, u36, Ku37, u38, u39⟩ := hQ20
 have N20 := Fr.app N0 u36
 refine fin (some (.ref b2)) _ _ _ _ X20 nofun (fun fs hr => pre0 _ ?_) ?_ (by decide) (by decide)
 ·
  refine o_iloadN X0 hq d13_0 rfl (st2 _ (o_astoreN X2 hq d13_3 rfl rfl (o_aloadN X2 hq d13_4 rfl rfl (o_iloadN X2 hq d13_5 rfl (o_aloadN X2 hq d13_6 rfl rfl (o_iconst X2 hq d13_7 (x := 0) rfl (o_iloadN X2 hq d13_8 rfl (st20 _ (o_istore X20 hq d13_12 rfl (o_iload X20 hq d13_14 rfl (o_iloadN X20 hq d13_16 rfl (o_icmpY X20 hq d13_17 (pc := 17) (pc' := 57) (by decide +kernel) (o_aloadN X20 hq d13_57 rfl rfl ?_)))))))))))))
  show Steps p.tables e below (T20.setTop (mkF m 58 #[vR a1, vI 0, vI 7, vR b2, vI 7, .unset] [(.ref b2)])) _
  jvm_step X20.here [X20.here.top, hx, (hb hby d13_58), X20.method', hret, Value.isRef, FieldType.isReference]
  first | (intro acts; rw [hr _ acts rfl rfl rfl]) | rw [hr _ _ rfl rfl rfl]
  exact Steps.refl _
 ·
  exact ⟨i21, i22, i23, i24, i25, i26, i27, b2, k2, u28, u29, u30, u31, u32, u33, u34, rfl, N20, sz_b2, (own_t lt_b2 Ku37.1), (((Keep.refl h0 []).ext E2).trans Ku37 (allS (Or.inr sz_b2) all0)), u38, u39⟩
def Q15_78 (Z : State) (a1 : Addr) (p2 p3 : Int32) (p4 p5 : Int32) (p6 p7 p8 : Int32) (k9 : ClassId) (h0 : Heap) (n0 : Nat) (v : Option Value) (h : Heap) (L : List Loc) : Prop := (v = some (.int 0) ∧ Fr n0 L ∧ h = h0)
theorem rm15_78 (l : Launch) (Z : State) (a0 : Array Value) (hw : own_HW Z a0) (a1 : Addr) (p2 p3 : Int32) (p4 p5 : Int32) (p6 p7 p8 : Int32) (k9 : ClassId) (h0 : Heap) (n0 : Nat) (O0 : Old Z n0 h0) (V10 : Arv Z h0 a1 k9 .byte 7 [(.int p2), (.int p3), (.int p4), (.int p5), (.int p6), (.int p7), (.int p8)] (.int 0)) : own_Met l Z M_10 bc15 2 (some .byte) ({ frames := 0, cells := 0, slots := 0, locals := 0 } : Room) #[(.ref a1), (.int 7)] h0 (Q15_78 Z a1 p2 p3 p4 p5 p6 p7 p8 k9 h0 n0) := by
 refine own_body (L0 := #[vR a1, vI 7]) (plainFor_of_name pn_4) (fun m => by first | (simp [entryFrame, mkF, argsToLocals, Value.category]; done) | rfl) fun p e s m below meth c s₁ EN hx hby hml hown hnm hret X0 hZ e0 hh pre0 fin => ?_
 have N0 := Fr.nil n0
 have hq := And.intro hx hby
 refine fin (some (.int 0)) _ _ _ _ X0 nofun (fun fs hr => pre0 _ ?_) (own_atH e0 ?_) (by decide) (by decide)
 ·
  refine o_iloadN X0 hq d15_0 rfl (o_aloadN X0 hq d15_1 rfl rfl (o_alen X0 hq d15_2 hZ e0 V10 (o_isub X0 hq d15_3 (z := 0) (by decide +kernel) (o_bipush X0 hq d15_4 (x := 31) rfl (o_iushr X0 hq d15_6 (z := 0) (by decide +kernel) (o_i2b X0 hq d15_7 (z := 0) (by decide +kernel) ?_))))))
  exact retN X0 hx (t := .byte) hret (by simp) (hb hby d15_8) hr
 ·
  exact ⟨rfl, N0, rfl⟩
def Q11_75 (Z : State) (a1 a2 : Addr) (p4 p8 : Int32) (p9 p10 : Int32) (p11 p12 : Int32) (p13 p14 : Int32) (k15 : ClassId) (h0 : Heap) (n0 : Nat) (v : Option Value) (h : Heap) (L : List Loc) : Prop := (∃ (i25 i26 : Int32) (i27 i28 : Int32) (i29 i30 i31 : Int32) (b32 : Addr) (k33 : ClassId), i25 = (p8.toInt8.toInt32) ∧ i26 = (p9.toInt8.toInt32) ∧ i27 = (p10.toInt8.toInt32) ∧ i28 = (p11.toInt8.toInt32) ∧ i29 = (p12.toInt8.toInt32) ∧ i30 = (p13.toInt8.toInt32) ∧ i31 = (p14.toInt8.toInt32) ∧ v = none ∧ Fr n0 L ∧ h0.size ≤ b32 ∧ b32 < h.size ∧ Keep h0 h [a1] ∧ Exa Z h a1 C_2 ∧ Fld Z h a1 C_2 "coder" "B" (.int 0) ∧ Fld Z h a1 C_2 "value" "[B" (.ref b32) ∧ Exa Z h b32 "[B" ∧ Arv Z h b32 k33 .byte 7 [(.int i25), (.int i26), (.int i27), (.int i28), (.int i29), (.int i30), (.int i31)] (.int 0))
theorem rm11_75 (l : Launch) (Z : State) (a0 : Array Value) (hw : own_HW Z a0) (a1 a2 : Addr) (p4 p8 : Int32) (p9 p10 : Int32) (p11 p12 : Int32) (p13 p14 : Int32) (k15 : ClassId) (h0 : Heap) (n0 : Nat) (O0 : Old Z n0 h0) (S_5 : Sta Z Z.heap C_2 "COMPACT_STRINGS" "Z" (.int p4)) (hk7 : ¬ (p4 = 0)) (V16 : Arv Z h0 a2 k15 .char 7 [(.int p8), (.int p9), (.int p10), (.int p11), (.int p12), (.int p13), (.int p14)] (.int 0)) (hk17 : ¬ (255 < p8)) (hk18 : ¬ (255 < p9)) (hk19 : ¬ (255 < p10)) (hk20 : ¬ (255 < p11)) (hk21 : ¬ (255 < p12)) (hk22 : ¬ (255 < p13)) (hk23 : ¬ (255 < p14)) (lt_a2 : a2 < h0.size) (E_52 : Exa Z h0 a1 C_2) (F53 : Fld Z h0 a1 C_2 "coder" "B" (.int 0)) (F54 : Fld Z h0 a1 C_2 "value" "[B" .null) (g_a1 : n0 ≤ a1) (lt_a1 : a1 < h0.size) : own_Met l Z M_11 bc11 6 none ({ frames := 2, cells := 1, slots := 7, locals := 35 } : Room) #[(.ref a1), (.ref a2), (.int 0), (.int 7), .null] h0 (Q11_75 Z a1 a2 p4 p8 p9 p10 p11 p12 p13 p14 k15 h0 n0) := by
 refine own_body (L0 := #[vR a1, vR a2, vI 0, vI 7, vN, .unset]) (plainFor_of_name pn_0) (fun m => by first | (simp [entryFrame, mkF, argsToLocals, Value.category]; done) | rfl) fun p e s m below meth c s₁ EN hx hby hml hown hnm hret X0 hZ e0 hh pre0 fin => ?_
 have N0 := Fr.nil n0
 have hq := And.intro hx hby
 obtain ⟨T3, X3, e3, st3⟩ := initO X0 hx hZ hown (ww63 hw) (ww64 hw) (ww65 hw) e0 (g := (mkF m 1 #[vR a1, vR a2, vI 0, vI 7, vN, .unset] [(.ref a1)])) rfl (by rw [hml]; rfl) rfl (hb hby d11_1) (by decide) (W := 0) (by show 2 * 0 + _ ≤ _; exact Nat.le_of_eq rfl) (by decide)
 obtain ⟨T6, X6, e6, st6⟩ := getS2 X3 hx hZ hown (host := "") (Or.inl (ww22 hw)) Via.refl e3 (Sta.ext O0.2 S_5) (g := (mkF m 27 #[vR a1, vR a2, vI 0, vI 7, vN, .unset] [])) rfl (hb hby d11_27)
 obtain ⟨_, T24, L24, X24, hQ24, st24⟩ := own_cS X6 hx hZ hown (ww66 hw) (ww67 hw) (ww68 hw) (ww69 hw) (rm13_76 l Z a0 hw a2 p8 p9 p10 p11 p12 p13 p14 k15 h0 n0 O0 V16 hk17 lt_a2 hk18 hk19 hk20 hk21 hk22 hk23) e6 pd_9 hml (hb hby d11_36) (Ls := #[vR a1, vR a2, vI 0, vI 7, vN, .unset]) (W := 0) (argsL := [(.ref a2), (.int 0), (.int 7)]) (rest := [])
 obtain ⟨i25, i26, i27, i28, i29, i30, i31, b32, k33, u34, u35, u36, u37, u38, u39, u40, rfl, u42, u43, u44, Ku45, u46, u47⟩ := hQ24
 have Ou45 := O0.keep Ku45 all0
 have sz_b32 : h0.size ≤ b32 := Nat.le_trans (Nat.le_refl _) u43
 have N24 := Fr.app N0 u42
 obtain ⟨_, T48, L48, X48, hQ48, st48⟩ := own_cS X24 hx hZ hown (ww73 hw) (ww74 hw) (ww68 hw) (ww75 hw) (rm15_78 l Z a0 hw b32 i25 i26 i27 i28 i29 i30 i31 k33 T24.heap n0 Ou45 u47) rfl pd_10 hml (hb hby d11_45) (Ls := #[vR a1, vR a2, vI 0, vI 7, vN, vR b32]) (W := 1) (argsL := [(.ref b32), (.int 7)]) (rest := [(.ref a1)])
 obtain ⟨rfl, u50, u51⟩ := hQ48
 have N48 := Fr.app N24 u50
 have f55 := (F53.keep Ku45 nin0)
 have f56 := (E_52.keep Ku45)
 obtain ⟨T57, h57, X57, e57, W57, st57⟩ := putFN X48 hx hZ hown (ww23 hw) Via.refl u51 f55 f56 (Or.inr ⟨(ww8 hw), rfl, hnm⟩) (ww5 hw) (ty := .byte) (v' := (.int 0)) (by decide) (by exact congrArg Value.int (by decide +kernel : (nar .byte (0 : Int32)) = (0 : Int32))) ((by decide +kernel : (nar .byte (0 : Int32)) = (0 : Int32)) ▸ fits_nar_byte _) (g := (mkF m 48 #[vR a1, vR a2, vI 0, vI 7, vN, vR b32] [(.int 0), (.ref a1)])) rfl rfl (hb hby d11_48)
 have Fw57 : Fld Z h57 a1 C_2 "coder" "B" (.int 0) := Fld.same W57 f55
 have N57 := Fr.snoc X57 N48 g_a1
 have f58 := (Fld.other W57 (F54.keep Ku45 nin0) (Or.inr (own_sl0 hw)))
 have f59 := (Exa.wr W57 f56)
 obtain ⟨T60, h60, X60, e60, W60, st60⟩ := putF X57 hx hZ hown (host := "") (Or.inl (ww16 hw)) Via.refl e57 f58 f59 (Or.inr ⟨(ww7 hw), rfl, hnm⟩) (ww5 hw) (ty := (.array .byte)) (by decide) rfl rfl (g := (mkF m 54 #[vR a1, vR a2, vI 0, vI 7, vN, vR b32] [(.ref b32), (.ref a1)])) rfl rfl (hb hby d11_54)
 have Fw60 : Fld Z h60 a1 C_2 "value" "[B" (.ref b32) := Fld.same W60 f58
 have N60 := Fr.snoc X60 N57 g_a1
 have f61 := (Exa.wr W60 f59)
 have f62 := (Fld.other W60 Fw57 (Or.inr (own_sl1 hw)))
 have f63 := (Exa.wr W60 (Exa.wr W57 u46))
 have f64 := ((u47.other W57 (Ne.symm (own_n lt_a1 u43))).other W60 (Ne.symm (own_n lt_a1 u43)))
 refine fin none _ _ _ _ X60 (fun _ => rfl) (fun fs hr => pre0 _ ?_) (own_atH e60 ?_) (by decide) (by decide)
 ·
  refine o_aloadN X0 hq d11_0 rfl rfl (st3 _ (o_iloadN X3 hq d11_4 rfl (o_ifY X3 hq d11_5 (pc := 5) (pc' := 27) (by decide +kernel) (st6 _ (o_ifN X6 hq d11_30 ((if0 _ _).trans (feq hk7).1) (o_aloadN X6 hq d11_33 rfl rfl (o_iloadN X6 hq d11_34 rfl (o_iloadN X6 hq d11_35 rfl (st24 _ (o_astore X24 hq d11_39 rfl rfl (o_aloadN X24 hq d11_41 rfl rfl (o_aload X24 hq d11_42 rfl rfl (o_iloadN X24 hq d11_44 rfl (st48 _ (st57 _ (o_aloadN X57 hq d11_51 rfl rfl (o_aload X57 hq d11_52 rfl rfl (st60 _ ?_))))))))))))))))))
  exact X60.returnOut hx hret (hb hby d11_57) hr
 ·
  exact ⟨i25, i26, i27, i28, i29, i30, i31, b32, k33, u34, u35, u36, u37, u38, u39, u40, rfl, N60, sz_b32, (own_t (own_t u44 (Keep.of_wr W57).1) (Keep.of_wr W60).1), ((((Keep.refl h0 [a1]).trans Ku45 all0).wr W57 (Or.inl (List.mem_of_getElem? (i := 0) rfl))).wr W60 (Or.inl (List.mem_of_getElem? (i := 0) rfl))), f61, f62, Fw60, f63, f64⟩
def Q10_74 (Z : State) (a1 a2 : Addr) (p3 p4 : Int32) (p5 p6 : Int32) (p7 p8 p9 : Int32) (k10 : ClassId) (p12 : Int32) (h0 : Heap) (n0 : Nat) (v : Option Value) (h : Heap) (L : List Loc) : Prop := (∃ (i26 i27 : Int32) (i28 i29 : Int32) (i30 i31 i32 : Int32) (b33 : Addr) (k34 : ClassId), i26 = (p3.toInt8.toInt32) ∧ i27 = (p4.toInt8.toInt32) ∧ i28 = (p5.toInt8.toInt32) ∧ i29 = (p6.toInt8.toInt32) ∧ i30 = (p7.toInt8.toInt32) ∧ i31 = (p8.toInt8.toInt32) ∧ i32 = (p9.toInt8.toInt32) ∧ v = none ∧ Fr n0 L ∧ h0.size ≤ b33 ∧ b33 < h.size ∧ Keep h0 h [a1] ∧ Exa Z h a1 C_2 ∧ Fld Z h a1 C_2 "coder" "B" (.int 0) ∧ Fld Z h a1 C_2 "value" "[B" (.ref b33) ∧ Exa Z h b33 "[B" ∧ Arv Z h b33 k34 .byte 7 [(.int i26), (.int i27), (.int i28), (.int i29), (.int i30), (.int i31), (.int i32)] (.int 0))
theorem rm10_74 (l : Launch) (Z : State) (a0 : Array Value) (hw : own_HW Z a0) (a1 a2 : Addr) (p3 p4 : Int32) (p5 p6 : Int32) (p7 p8 p9 : Int32) (k10 : ClassId) (p12 : Int32) (h0 : Heap) (n0 : Nat) (O0 : Old Z n0 h0) (V11 : Arv Z h0 a2 k10 .char 7 [(.int p3), (.int p4), (.int p5), (.int p6), (.int p7), (.int p8), (.int p9)] (.int 0)) (S_13 : Sta Z Z.heap C_2 "COMPACT_STRINGS" "Z" (.int p12)) (hk14 : ¬ (p12 = 0)) (hk15 : ¬ (255 < p3)) (hk16 : ¬ (255 < p4)) (hk17 : ¬ (255 < p5)) (hk18 : ¬ (255 < p6)) (hk19 : ¬ (255 < p7)) (hk20 : ¬ (255 < p8)) (hk21 : ¬ (255 < p9)) (E_22 : Exa Z h0 a1 C_2) (F23 : Fld Z h0 a1 C_2 "coder" "B" (.int 0)) (F24 : Fld Z h0 a1 C_2 "value" "[B" .null) (lt_a2 : a2 < h0.size) (g_a1 : n0 ≤ a1) (lt_a1 : a1 < h0.size) : own_Met l Z M_12 bc10 2 none ({ frames := 3, cells := 1, slots := 7, locals := 52 } : Room) #[(.ref a1), (.ref a2)] h0 (Q10_74 Z a1 a2 p3 p4 p5 p6 p7 p8 p9 k10 p12 h0 n0) := by
 refine own_body (L0 := #[vR a1, vR a2]) (plainFor_of_name pn_0) (fun m => by first | (simp [entryFrame, mkF, argsToLocals, Value.category]; done) | rfl) fun p e s m below meth c s₁ EN hx hby hml hown hnm hret X0 hZ e0 hh pre0 fin => ?_
 have N0 := Fr.nil n0
 have hq := And.intro hx hby
 obtain ⟨_, T25, L25, X25, hQ25, st25⟩ := own_cI X0 hx hZ hown (ww59 hw) (ww60 hw) (ww4 hw) (ww62 hw) (rm11_75 l Z a0 hw a1 a2 p12 p3 p4 p5 p6 p7 p8 p9 k10 h0 n0 O0 S_13 hk14 V11 hk15 hk16 hk17 hk18 hk19 hk20 hk21 lt_a2 E_22 F23 F24 g_a1 lt_a1) e0 pd_11 hml (hb hby d10_6) (Ls := #[vR a1, vR a2]) (W := 0) (argsL := [(.ref a2), (.int 0), (.int 7), .null]) (rest := []) (b := a1)
 obtain ⟨i26, i27, i28, i29, i30, i31, i32, b33, k34, u35, u36, u37, u38, u39, u40, u41, rfl, u43, u44, u45, Ku46, u47, u48, u49, u50, u51⟩ := hQ25
 have sz_b33 : h0.size ≤ b33 := Nat.le_trans (Nat.le_refl _) u44
 have N25 := Fr.app N0 u43
 refine fin none _ _ _ _ X25 (fun _ => rfl) (fun fs hr => pre0 _ ?_) ?_ (by decide) (by decide)
 ·
  refine o_aloadN X0 hq d10_0 rfl rfl (o_aloadN X0 hq d10_1 rfl rfl (o_iconst X0 hq d10_2 (x := 0) rfl (o_aloadN X0 hq d10_3 rfl rfl (o_alen X0 hq d10_4 hZ e0 V11 (o_null X0 hq d10_5 (st25 _ ?_))))))
  exact X25.returnOut hx hret (hb hby d10_9) hr
 ·
  exact ⟨i26, i27, i28, i29, i30, i31, i32, b33, k34, u35, u36, u37, u38, u39, u40, u41, rfl, N25, sz_b33, u45, ((Keep.refl h0 [a1]).trans Ku46 (allS (Or.inl (List.mem_of_getElem? (i := 0) rfl)) all0)), u47, u48, u49, u50, u51⟩
def Q9_73 (Z : State) (a1 : Addr) (p4 p5 : Int32) (p6 p7 : Int32) (p8 p9 : Int32) (p10 p11 : Int32) (k12 : ClassId) (p49 : Int32) (h0 : Heap) (n0 : Nat) (v : Option Value) (h : Heap) (L : List Loc) : Prop := (∃ (i58 i59 : Int32) (i60 i61 : Int32) (i62 i63 i64 : Int32) (b2 b65 : Addr) (k66 : ClassId), i58 = (p4.toInt8.toInt32) ∧ i59 = (p5.toInt8.toInt32) ∧ i60 = (p6.toInt8.toInt32) ∧ i61 = (p7.toInt8.toInt32) ∧ i62 = (p8.toInt8.toInt32) ∧ i63 = (p9.toInt8.toInt32) ∧ i64 = (p10.toInt8.toInt32) ∧ v = some (.ref b2) ∧ Fr n0 L ∧ h0.size ≤ b2 ∧ b2 < h.size ∧ h0.size ≤ b65 ∧ b65 < h.size ∧ b2 ≠ b65 ∧ Keep h0 h [] ∧ Exa Z h b2 C_2 ∧ Fld Z h b2 C_2 "coder" "B" (.int 0) ∧ Fld Z h b2 C_2 "value" "[B" (.ref b65) ∧ Exa Z h b65 "[B" ∧ Arv Z h b65 k66 .byte 7 [(.int i58), (.int i59), (.int i60), (.int i61), (.int i62), (.int i63), (.int i64)] (.int 0))
theorem rm9_73 (l : Launch) (Z : State) (a0 : Array Value) (hw : own_HW Z a0) (a1 : Addr) (p4 p5 : Int32) (p6 p7 : Int32) (p8 p9 : Int32) (p10 p11 : Int32) (k12 : ClassId) (p49 : Int32) (h0 : Heap) (n0 : Nat) (O0 : Old Z n0 h0) (V13 : Arv Z h0 a1 k12 .char 8 [(.int p4), (.int p5), (.int p6), (.int p7), (.int p8), (.int p9), (.int p10), (.int p11)] (.int 0)) (hk16 : ¬ (255 < p4)) (hk17 : ¬ (p4 < 0)) (lt_a1 : a1 < h0.size) (hk21 : ¬ (255 < p5)) (hk22 : ¬ (p5 < 0)) (hk26 : ¬ (255 < p6)) (hk27 : ¬ (p6 < 0)) (hk31 : ¬ (255 < p7)) (hk32 : ¬ (p7 < 0)) (hk36 : ¬ (255 < p8)) (hk37 : ¬ (p8 < 0)) (hk41 : ¬ (255 < p9)) (hk42 : ¬ (p9 < 0)) (hk46 : ¬ (255 < p10)) (hk47 : ¬ (p10 < 0)) (S_50 : Sta Z Z.heap C_2 "COMPACT_STRINGS" "Z" (.int p49)) (hk51 : ¬ (p49 = 0)) : own_Met l Z M_13 bc9 2 (some (.object "java/lang/String")) ({ frames := 4, cells := 3, slots := 18, locals := 66 } : Room) #[(.ref a1), (.int 7)] h0 (Q9_73 Z a1 p4 p5 p6 p7 p8 p9 p10 p11 k12 p49 h0 n0) := by
 refine own_body (L0 := #[vR a1, vI 7]) (plainFor_of_name pn_3) (fun m => by first | (simp [entryFrame, mkF, argsToLocals, Value.category]; done) | rfl) fun p e s m below meth c s₁ EN hx hby hml hown hnm hret X0 hZ e0 hh pre0 fin => ?_
 have N0 := Fr.nil n0
 have hq := And.intro hx hby
 obtain ⟨T2, h2, X2, e2, E2, A2, D2, -, st2⟩ := newO X0 hx hZ hown (ww55 hw) (ww5 hw) (ww4 hw) e0 (g := (mkF m 245 #[vR a1, vI 7] [])) rfl (hb hby d9_245) (by decide) (by decide)
 obtain ⟨b2, g2⟩ : ∃ z, z = h0.size := ⟨_, rfl⟩
 rw [← g2] at A2 D2 st2
 have O2 := O0.ext E2
 have bd_b2 : h0.size ≤ b2 := Nat.le_of_eq g2.symm
 have g_b2 : n0 ≤ b2 := Nat.le_trans (own_z O0) bd_b2
 have sz_b2 : h0.size ≤ b2 := Nat.le_trans (Nat.le_refl _) bd_b2
 have lt_b2 : b2 < h2.size := A2.lt
 have D2_7 : Fld Z h2 b2 C_2 "value" "[B" .null := D2 (Or.inr (ww7 hw)) (ty := (.array .byte)) (by decide)
 have D2_8 : Fld Z h2 b2 C_2 "coder" "B" (.int 0) := D2 (Or.inr (ww8 hw)) (ty := .byte) (by decide)
 obtain ⟨T3, h3, k3, X3, e3, E3, A3, Ex3, st3⟩ := newPE (aty := .char) X2 hx hZ (ww24 hw) e2 (g := (mkF m 251 #[vR a1, vI 7] [(.int 7), (.ref b2), (.ref b2)])) rfl (hb hby d9_251) rfl (by decide +kernel) (cap := 7) (by decide +kernel) (by decide) (by decide) (by decide) (ad := "[C") (by decide +kernel)
 obtain ⟨b3, g3⟩ : ∃ z, z = h2.size := ⟨_, rfl⟩
 rw [← g3] at A3 Ex3 st3
 have O3 := O2.ext E3
 have bd_b3 : h2.size ≤ b3 := Nat.le_of_eq g3.symm
 have g_b3 : n0 ≤ b3 := Nat.le_trans (own_z O2) bd_b3
 have sz_b3 : h0.size ≤ b3 := Nat.le_trans E2.1 bd_b3
 have lt_b3 : b3 < h3.size := A3.lt
 have V3 : Arv Z h3 b3 k3 .char 7 [] (.int 0) := Arv.new A3 (by decide +kernel)
 have f14 := ((V13.ext E2).ext E3)
 obtain ⟨T18, h18, X18, e18, W18, V18, st18⟩ := own_stC X3 hx hZ e3 V3 1 0 p4 p4 0 (own_ncR hk16 hk17) (hb hby d9_258) #[vR a1, vI 7] [(.ref b3), (.ref b2), (.ref b2)] (vs2 := [(.int p4)])
 have O18 := O3.wr W18 g_b3
 have N18 := Fr.snoc X18 N0 g_b3
 have f19 := (f14.other W18 (own_n (own_t lt_a1 E2.1) bd_b3))
 obtain ⟨T23, h23, X23, e23, W23, V23, st23⟩ := own_stC X18 hx hZ e18 V18 1 1 p5 p5 1 (own_ncR hk21 hk22) (hb hby d9_264) #[vR a1, vI 7] [(.ref b3), (.ref b2), (.ref b2)] (vs2 := [(.int p4), (.int p5)])
 have O23 := O18.wr W23 g_b3
 have N23 := Fr.snoc X23 N18 g_b3
 have f24 := (f19.other W23 (own_n (own_t lt_a1 E2.1) bd_b3))
 obtain ⟨T28, h28, X28, e28, W28, V28, st28⟩ := own_stC X23 hx hZ e23 V23 1 2 p6 p6 2 (own_ncR hk26 hk27) (hb hby d9_270) #[vR a1, vI 7] [(.ref b3), (.ref b2), (.ref b2)] (vs2 := [(.int p4), (.int p5), (.int p6)])
 have O28 := O23.wr W28 g_b3
 have N28 := Fr.snoc X28 N23 g_b3
 have f29 := (f24.other W28 (own_n (own_t lt_a1 E2.1) bd_b3))
 obtain ⟨T33, h33, X33, e33, W33, V33, st33⟩ := own_stC X28 hx hZ e28 V28 1 3 p7 p7 3 (own_ncR hk31 hk32) (hb hby d9_276) #[vR a1, vI 7] [(.ref b3), (.ref b2), (.ref b2)] (vs2 := [(.int p4), (.int p5), (.int p6), (.int p7)])
 have O33 := O28.wr W33 g_b3
 have N33 := Fr.snoc X33 N28 g_b3
 have f34 := (f29.other W33 (own_n (own_t lt_a1 E2.1) bd_b3))
 obtain ⟨T38, h38, X38, e38, W38, V38, st38⟩ := own_stC X33 hx hZ e33 V33 1 4 p8 p8 4 (own_ncR hk36 hk37) (hb hby d9_282) #[vR a1, vI 7] [(.ref b3), (.ref b2), (.ref b2)] (vs2 := [(.int p4), (.int p5), (.int p6), (.int p7), (.int p8)])
 have O38 := O33.wr W38 g_b3
 have N38 := Fr.snoc X38 N33 g_b3
 have f39 := (f34.other W38 (own_n (own_t lt_a1 E2.1) bd_b3))
 obtain ⟨T43, h43, X43, e43, W43, V43, st43⟩ := own_stC X38 hx hZ e38 V38 1 5 p9 p9 5 (own_ncR hk41 hk42) (hb hby d9_288) #[vR a1, vI 7] [(.ref b3), (.ref b2), (.ref b2)] (vs2 := [(.int p4), (.int p5), (.int p6), (.int p7), (.int p8), (.int p9)])
 have O43 := O38.wr W43 g_b3
 have N43 := Fr.snoc X43 N38 g_b3
 have f44 := (f39.other W43 (own_n (own_t lt_a1 E2.1) bd_b3))
 obtain ⟨T48, h48, X48, e48, W48, V48, st48⟩ := own_stC X43 hx hZ e43 V43 1 6 p10 p10 6 (own_ncR hk46 hk47) (hb hby d9_296) #[vR a1, vI 7] [(.ref b3), (.ref b2), (.ref b2)] (vs2 := [(.int p4), (.int p5), (.int p6), (.int p7), (.int p8), (.int p9), (.int p10)])
 have O48 := O43.wr W48 g_b3
 have N48 := Fr.snoc X48 N43 g_b3
 have lt52 : b3 < h48.size := (own_t (own_t (own_t (own_t (own_t (own_t (own_t lt_b3 (Keep.of_wr W18).1) (Keep.of_wr W23).1) (Keep.of_wr W28).1) (Keep.of_wr W33).1) (Keep.of_wr W38).1) (Keep.of_wr W43).1) (Keep.of_wr W48).1)
 have lt53 : b2 < h48.size := (own_t (own_t (own_t (own_t (own_t (own_t (own_t (own_t lt_b2 E3.1) (Keep.of_wr W18).1) (Keep.of_wr W23).1) (Keep.of_wr W28).1) (Keep.of_wr W33).1) (Keep.of_wr W38).1) (Keep.of_wr W43).1) (Keep.of_wr W48).1)
 have f54 := (Exa.wr W48 (Exa.wr W43 (Exa.wr W38 (Exa.wr W33 (Exa.wr W28 (Exa.wr W23 (Exa.wr W18 (Exa.ext E3 A2))))))))
 have f55 := (Fld.other W48 (Fld.other W43 (Fld.other W38 (Fld.other W33 (Fld.other W28 (Fld.other W23 (Fld.other W18 (Fld.ext E3 D2_8) (Or.inl (own_n lt_b2 bd_b3))) (Or.inl (own_n lt_b2 bd_b3))) (Or.inl (own_n lt_b2 bd_b3))) (Or.inl (own_n lt_b2 bd_b3))) (Or.inl (own_n lt_b2 bd_b3))) (Or.inl (own_n lt_b2 bd_b3))) (Or.inl (own_n lt_b2 bd_b3)))
 have f56 := (Fld.other W48 (Fld.other W43 (Fld.other W38 (Fld.other W33 (Fld.other W28 (Fld.other W23 (Fld.other W18 (Fld.ext E3 D2_7) (Or.inl (own_n lt_b2 bd_b3))) (Or.inl (own_n lt_b2 bd_b3))) (Or.inl (own_n lt_b2 bd_b3))) (Or.inl (own_n lt_b2 bd_b3))) (Or.inl (own_n lt_b2 bd_b3))) (Or.inl (own_n lt_b2 bd_b3))) (Or.inl (own_n lt_b2 bd_b3)))
 obtain ⟨_, T57, L57, X57, hQ57, st57⟩ := own_cI X48 hx hZ hown (ww56 hw) (ww57 hw) (ww4 hw) (ww58 hw) (rm10_74 l Z a0 hw b2 b3 p4 p5 p6 p7 p8 p9 p10 k3 p49 h48 n0 O48 V48 S_50 hk51 hk16 hk21 hk26 hk31 hk36 hk41 hk46 f54 f55 f56 lt52 g_b2 lt53) e48 pd_12 hml (hb hby d9_297) (Ls := #[vR a1, vI 7]) (W := 1) (argsL := [(.ref b3)]) (rest := [(.ref b2)]) (b := b2)
 obtain ⟨i58, i59, i60, i61, i62, i63, i64, b65, k66, u67, u68, u69, u70, u71, u72, u73, rfl, u75, u76, u77, Ku78, u79, u80, u81, u82, u83⟩ := hQ57
 have sz_b65 : h0.size ≤ b65 := Nat.le_trans (Nat.le_trans (Nat.le_trans (Nat.le_trans (Nat.le_trans (Nat.le_trans (Nat.le_trans (Nat.le_trans (Nat.le_trans E2.1 E3.1) (Keep.of_wr W18).1) (Keep.of_wr W23).1) (Keep.of_wr W28).1) (Keep.of_wr W33).1) (Keep.of_wr W38).1) (Keep.of_wr W43).1) (Keep.of_wr W48).1) u76
 have N57 := Fr.app N48 u75
 refine fin (some (.ref b2)) _ _ _ _ X57 nofun (fun fs hr => pre0 _ ?_) ?_ (by decide) (by decide)
 ·
  refine o_iloadN X0 hq d9_0 rfl (o_ifY X0 hq d9_1 (pc := 1) (pc' := 15) (by decide +kernel) (o_iloadN X0 hq d9_15 rfl (o_iconst X0 hq d9_16 (x := 1) rfl (o_icmpY X0 hq d9_17 (pc := 17) (pc' := 37) (by decide +kernel) (o_iloadN X0 hq d9_37 rfl (o_iconst X0 hq d9_38 (x := 2) rfl (o_icmpY X0 hq d9_39 (pc := 39) (pc' := 65) (by decide +kernel) (o_iloadN X0 hq d9_65 rfl (o_iconst X0 hq d9_66 (x := 3) rfl (o_icmpY X0 hq d9_67 (pc := 67) (pc' := 99) (by decide +kernel) (o_iloadN X0 hq d9_99 rfl (o_iconst X0 hq d9_100 (x := 4) rfl (o_icmpY X0 hq d9_101 (pc := 101) (pc' := 139) (by decide +kernel) (o_iloadN X0 hq d9_139 rfl (o_iconst X0 hq d9_140 (x := 5) rfl (o_icmpY X0 hq d9_141 (pc := 141) (pc' := 185) (by decide +kernel) (o_iloadN X0 hq d9_185 rfl (o_bipush X0 hq d9_186 (x := 6) rfl (o_icmpY X0 hq d9_188 (pc := 188) (pc' := 239) (by decide +kernel) (o_iloadN X0 hq d9_239 rfl (o_bipush X0 hq d9_240 (x := 7) rfl (o_icmpN X0 hq d9_242 (by decide +kernel) (st2 _ (o_dup X2 hq d9_248 rfl (o_bipush X2 hq d9_249 (x := 7) rfl (st3 _ (o_dup X3 hq d9_253 rfl (o_iconst X3 hq d9_254 (x := 0) rfl (o_aloadN X3 hq d9_255 rfl rfl (o_iconst X3 hq d9_256 (x := 0) rfl (o_caload X3 hq d9_257 hZ e3 f14 (i := 0) (v := .int p4) (by decide +kernel) rfl (st18 _ (o_dup X18 hq d9_259 rfl (o_iconst X18 hq d9_260 (x := 1) rfl (o_aloadN X18 hq d9_261 rfl rfl (o_iconst X18 hq d9_262 (x := 1) rfl (o_caload X18 hq d9_263 hZ e18 f19 (i := 1) (v := .int p5) (by decide +kernel) rfl (st23 _ (o_dup X23 hq d9_265 rfl ?_)))))))))))))))))))))))))))))))))))))))
  refine o_iconst X23 hq d9_266 (x := 2) rfl (o_aloadN X23 hq d9_267 rfl rfl (o_iconst X23 hq d9_268 (x := 2) rfl (o_caload X23 hq d9_269 hZ e23 f24 (i := 2) (v := .int p6) (by decide +kernel) rfl (st28 _ (o_dup X28 hq d9_271 rfl (o_iconst X28 hq d9_272 (x := 3) rfl (o_aloadN X28 hq d9_273 rfl rfl (o_iconst X28 hq d9_274 (x := 3) rfl (o_caload X28 hq d9_275 hZ e28 f29 (i := 3) (v := .int p7) (by decide +kernel) rfl (st33 _ (o_dup X33 hq d9_277 rfl (o_iconst X33 hq d9_278 (x := 4) rfl (o_aloadN X33 hq d9_279 rfl rfl (o_iconst X33 hq d9_280 (x := 4) rfl (o_caload X33 hq d9_281 hZ e33 f34 (i := 4) (v := .int p8) (by decide +kernel) rfl (st38 _ (o_dup X38 hq d9_283 rfl (o_iconst X38 hq d9_284 (x := 5) rfl (o_aloadN X38 hq d9_285 rfl rfl (o_iconst X38 hq d9_286 (x := 5) rfl (o_caload X38 hq d9_287 hZ e38 f39 (i := 5) (v := .int p9) (by decide +kernel) rfl (st43 _ (o_dup X43 hq d9_289 rfl (o_bipush X43 hq d9_290 (x := 6) rfl (o_aloadN X43 hq d9_292 rfl rfl (o_bipush X43 hq d9_293 (x := 6) rfl (o_caload X43 hq d9_295 hZ e43 f44 (i := 6) (v := .int p10) (by decide +kernel) rfl (st48 _ (st57 _ ?_)))))))))))))))))))))))))))))
  show Steps p.tables e below (T57.setTop (mkF m 300 #[vR a1, vI 7] [(.ref b2)])) _
  jvm_step X57.here [X57.here.top, hx, (hb hby d9_300), X57.method', hret, Value.isRef, FieldType.isReference]
  first | (intro acts; rw [hr _ acts rfl rfl rfl]) | rw [hr _ _ rfl rfl rfl]
  exact Steps.refl _
 ·
  exact ⟨i58, i59, i60, i61, i62, i63, i64, b2, b65, k66, u67, u68, u69, u70, u71, u72, u73, rfl, N57, sz_b2, (own_t lt53 Ku78.1), sz_b65, u77, (own_n lt53 u76), (((((((((((Keep.refl h0 []).ext E2).ext E3).wr W18 (Or.inr sz_b3)).wr W23 (Or.inr sz_b3)).wr W28 (Or.inr sz_b3)).wr W33 (Or.inr sz_b3)).wr W38 (Or.inr sz_b3)).wr W43 (Or.inr sz_b3)).wr W48 (Or.inr sz_b3)).trans Ku78 (allS (Or.inr sz_b2) all0)), u79, u80, u81, u82, u83⟩
def Q19_81 (Z : State) (a1 a2 : Addr) (k3 : ClassId) (p5 p6 : Int32) (p7 p8 : Int32) (p9 p10 p11 : Int32) (k12 : ClassId) (h0 : Heap) (n0 : Nat) (v : Option Value) (h : Heap) (L : List Loc) : Prop := (67 = p5 ∧ 111 = p6 ∧ 110 = p7 ∧ 116 = p8 ∧ 114 = p9 ∧ 111 = p10 ∧ 108 = p11 ∧ v = some (.int 1) ∧ Fr n0 L ∧ h = h0) ∨ (¬ (67 = p5 ∧ 111 = p6 ∧ 110 = p7 ∧ 116 = p8 ∧ 114 = p9 ∧ 111 = p10 ∧ 108 = p11) ∧ v = some (.int 0) ∧ Fr n0 L ∧ h = h0)
theorem rm19_81 (l : Launch) (Z : State) (a0 : Array Value) (hw : own_HW Z a0) (a1 a2 : Addr) (k3 : ClassId) (p5 p6 : Int32) (p7 p8 : Int32) (p9 p10 p11 : Int32) (k12 : ClassId) (h0 : Heap) (n0 : Nat) (O0 : Old Z n0 h0) (V4 : Arv Z Z.heap a1 k3 .byte 7 [(.int 67), (.int 111), (.int 110), (.int 116), (.int 114), (.int 111), (.int 108)] (.int 0)) (V13 : Arv Z h0 a2 k12 .byte 7 [(.int p5), (.int p6), (.int p7), (.int p8), (.int p9), (.int p10), (.int p11)] (.int 0)) : own_Met l Z M_15 bc19 3 (some .boolean) ({ frames := 0, cells := 0, slots := 0, locals := 0 } : Room) #[(.ref a1), (.ref a2)] h0 (Q19_81 Z a1 a2 k3 p5 p6 p7 p8 p9 p10 p11 k12 h0 n0) := by
 refine own_body (L0 := #[vR a1, vR a2, .unset]) (plainFor_of_name pn_2) (fun m => by first | (simp [entryFrame, mkF, argsToLocals, Value.category]; done) | rfl) fun p e s m below meth c s₁ EN hx hby hml hown hnm hret X0 hZ e0 hh pre0 fin => ?_
 have N0 := Fr.nil n0
 have hq := And.intro hx hby
 have pre16 : oS p e below EN s₁ (mkF m 21 #[vR a1, vR a2, vI 0] [(.int p5), (.int 67)]) := fun t kt => pre0 t (o_aloadN X0 hq d19_0 rfl rfl (o_alen X0 hq d19_1 hZ e0 (V4.ext O0.2) (o_aloadN X0 hq d19_2 rfl rfl (o_alen X0 hq d19_3 hZ e0 V13 (o_icmpN X0 hq d19_4 (by decide +kernel) (o_iconst X0 hq d19_7 (x := 0) rfl (o_istoreN X0 hq d19_8 rfl (o_iloadN X0 hq d19_9 rfl (o_aloadN X0 hq d19_10 rfl rfl (o_alen X0 hq d19_11 hZ e0 (V4.ext O0.2) (o_icmpN X0 hq d19_12 (by decide +kernel) (o_aloadN X0 hq d19_15 rfl rfl (o_iloadN X0 hq d19_16 rfl (o_baload X0 hq d19_17 hZ e0 (V4.ext O0.2) (i := 0) (v := .int 67) (by decide +kernel) rfl (o_aloadN X0 hq d19_18 rfl rfl (o_iloadN X0 hq d19_19 rfl (o_baload X0 hq d19_20 hZ e0 V13 (i := 0) (v := .int p5) (by decide +kernel) rfl kt)))))))))))))))))
 by_cases hc17 : 67 = p5
 ·
  have pre20 : oS p e below EN s₁ (mkF m 21 #[vR a1, vR a2, vI 1] [(.int p6), (.int 111)]) := fun t kt => pre16 t (o_icmpY X0 hq d19_21 (pc := 21) (pc' := 26) (teq hc17).1 (o_iinc X0 hq d19_26 rfl (z := 1) (k' := 1) rfl (by decide +kernel) rfl (o_goto X0 hq d19_29 (pc := 29) (pc' := 9) (o_iloadN X0 hq d19_9 rfl (o_aloadN X0 hq d19_10 rfl rfl (o_alen X0 hq d19_11 hZ e0 (V4.ext O0.2) (o_icmpN X0 hq d19_12 (by decide +kernel) (o_aloadN X0 hq d19_15 rfl rfl (o_iloadN X0 hq d19_16 rfl (o_baload X0 hq d19_17 hZ e0 (V4.ext O0.2) (i := 1) (v := .int 111) (by decide +kernel) rfl (o_aloadN X0 hq d19_18 rfl rfl (o_iloadN X0 hq d19_19 rfl (o_baload X0 hq d19_20 hZ e0 V13 (i := 1) (v := .int p6) (by decide +kernel) rfl kt)))))))))))))
  by_cases hc21 : 111 = p6
  ·
   have pre24 : oS p e below EN s₁ (mkF m 21 #[vR a1, vR a2, vI 2] [(.int p7), (.int 110)]) := fun t kt => pre20 t (o_icmpY X0 hq d19_21 (pc := 21) (pc' := 26) (teq hc21).1 (o_iinc X0 hq d19_26 rfl (z := 2) (k' := 1) rfl (by decide +kernel) rfl (o_goto X0 hq d19_29 (pc := 29) (pc' := 9) (o_iloadN X0 hq d19_9 rfl (o_aloadN X0 hq d19_10 rfl rfl (o_alen X0 hq d19_11 hZ e0 (V4.ext O0.2) (o_icmpN X0 hq d19_12 (by decide +kernel) (o_aloadN X0 hq d19_15 rfl rfl (o_iloadN X0 hq d19_16 rfl (o_baload X0 hq d19_17 hZ e0 (V4.ext O0.2) (i := 2) (v := .int 110) (by decide +kernel) rfl (o_aloadN X0 hq d19_18 rfl rfl (o_iloadN X0 hq d19_19 rfl (o_baload X0 hq d19_20 hZ e0 V13 (i := 2) (v := .int p7) (by decide +kernel) rfl kt)))))))))))))
   by_cases hc25 : 110 = p7
   ·
    have pre28 : oS p e below EN s₁ (mkF m 21 #[vR a1, vR a2, vI 3] [(.int p8), (.int 116)]) := fun t kt => pre24 t (o_icmpY X0 hq d19_21 (pc := 21) (pc' := 26) (teq hc25).1 (o_iinc X0 hq d19_26 rfl (z := 3) (k' := 1) rfl (by decide +kernel) rfl (o_goto X0 hq d19_29 (pc := 29) (pc' := 9) (o_iloadN X0 hq d19_9 rfl (o_aloadN X0 hq d19_10 rfl rfl (o_alen X0 hq d19_11 hZ e0 (V4.ext O0.2) (o_icmpN X0 hq d19_12 (by decide +kernel) (o_aloadN X0 hq d19_15 rfl rfl (o_iloadN X0 hq d19_16 rfl (o_baload X0 hq d19_17 hZ e0 (V4.ext O0.2) (i := 3) (v := .int 116) (by decide +kernel) rfl (o_aloadN X0 hq d19_18 rfl rfl (o_iloadN X0 hq d19_19 rfl (o_baload X0 hq d19_20 hZ e0 V13 (i := 3) (v := .int p8) (by decide +kernel) rfl kt)))))))))))))
    by_cases hc29 : 116 = p8
    ·
     have pre32 : oS p e below EN s₁ (mkF m 21 #[vR a1, vR a2, vI 4] [(.int p9), (.int 114)]) := fun t kt => pre28 t (o_icmpY X0 hq d19_21 (pc := 21) (pc' := 26) (teq hc29).1 (o_iinc X0 hq d19_26 rfl (z := 4) (k' := 1) rfl (by decide +kernel) rfl (o_goto X0 hq d19_29 (pc := 29) (pc' := 9) (o_iloadN X0 hq d19_9 rfl (o_aloadN X0 hq d19_10 rfl rfl (o_alen X0 hq d19_11 hZ e0 (V4.ext O0.2) (o_icmpN X0 hq d19_12 (by decide +kernel) (o_aloadN X0 hq d19_15 rfl rfl (o_iloadN X0 hq d19_16 rfl (o_baload X0 hq d19_17 hZ e0 (V4.ext O0.2) (i := 4) (v := .int 114) (by decide +kernel) rfl (o_aloadN X0 hq d19_18 rfl rfl (o_iloadN X0 hq d19_19 rfl (o_baload X0 hq d19_20 hZ e0 V13 (i := 4) (v := .int p9) (by decide +kernel) rfl kt)))))))))))))
     by_cases hc33 : 114 = p9
     ·
      have pre36 : oS p e below EN s₁ (mkF m 21 #[vR a1, vR a2, vI 5] [(.int p10), (.int 111)]) := fun t kt => pre32 t (o_icmpY X0 hq d19_21 (pc := 21) (pc' := 26) (teq hc33).1 (o_iinc X0 hq d19_26 rfl (z := 5) (k' := 1) rfl (by decide +kernel) rfl (o_goto X0 hq d19_29 (pc := 29) (pc' := 9) (o_iloadN X0 hq d19_9 rfl (o_aloadN X0 hq d19_10 rfl rfl (o_alen X0 hq d19_11 hZ e0 (V4.ext O0.2) (o_icmpN X0 hq d19_12 (by decide +kernel) (o_aloadN X0 hq d19_15 rfl rfl (o_iloadN X0 hq d19_16 rfl (o_baload X0 hq d19_17 hZ e0 (V4.ext O0.2) (i := 5) (v := .int 111) (by decide +kernel) rfl (o_aloadN X0 hq d19_18 rfl rfl (o_iloadN X0 hq d19_19 rfl (o_baload X0 hq d19_20 hZ e0 V13 (i := 5) (v := .int p10) (by decide +kernel) rfl kt)))))))))))))
      by_cases hc37 : 111 = p10
      ·
       have pre40 : oS p e below EN s₁ (mkF m 21 #[vR a1, vR a2, vI 6] [(.int p11), (.int 108)]) := fun t kt => pre36 t (o_icmpY X0 hq d19_21 (pc := 21) (pc' := 26) (teq hc37).1 (o_iinc X0 hq d19_26 rfl (z := 6) (k' := 1) rfl (by decide +kernel) rfl (o_goto X0 hq d19_29 (pc := 29) (pc' := 9) (o_iloadN X0 hq d19_9 rfl (o_aloadN X0 hq d19_10 rfl rfl (o_alen X0 hq d19_11 hZ e0 (V4.ext O0.2) (o_icmpN X0 hq d19_12 (by decide +kernel) (o_aloadN X0 hq d19_15 rfl rfl (o_iloadN X0 hq d19_16 rfl (o_baload X0 hq d19_17 hZ e0 (V4.ext O0.2) (i := 6) (v := .int 108) (by decide +kernel) rfl (o_aloadN X0 hq d19_18 rfl rfl (o_iloadN X0 hq d19_19 rfl (o_baload X0 hq d19_20 hZ e0 V13 (i := 6) (v := .int p11) (by decide +kernel) rfl kt)))))))))))))
       by_cases hc41 : 108 = p11
       ·
        refine fin (some (.int 1)) _ _ _ _ X0 nofun (fun fs hr => pre40 _ ?_) (own_atH e0 ?_) (by decide) (by decide)
        ·
         refine o_icmpY X0 hq d19_21 (pc := 21) (pc' := 26) (teq hc41).1 (o_iinc X0 hq d19_26 rfl (z := 7) (k' := 1) rfl (by decide +kernel) rfl (o_goto X0 hq d19_29 (pc := 29) (pc' := 9) (o_iloadN X0 hq d19_9 rfl (o_aloadN X0 hq d19_10 rfl rfl (o_alen X0 hq d19_11 hZ e0 (V4.ext O0.2) (o_icmpY X0 hq d19_12 (pc := 12) (pc' := 32) (by decide +kernel) (o_iconst X0 hq d19_32 (x := 1) rfl ?_)))))))
         exact retN X0 hx (t := .boolean) hret (by simp) (hb hby d19_33) hr
        ·
         exact Or.inl (⟨hc17, hc21, hc25, hc29, hc33, hc37, hc41, rfl, N0, rfl⟩)
       ·
        refine fin (some (.int 0)) _ _ _ _ X0 nofun (fun fs hr => pre40 _ ?_) (own_atH e0 ?_) (by decide) (by decide)
        ·
         refine o_icmpN X0 hq d19_21 (feq hc41).1 (o_iconst X0 hq d19_24 (x := 0) rfl ?_)
         exact retN X0 hx (t := .boolean) hret (by simp) (hb hby d19_25) hr
        ·
         exact Or.inr (⟨(fun q => hc41 q.2.2.2.2.2.2), rfl, N0, rfl⟩)
      ·
       refine fin (some (.int 0)) _ _ _ _ X0 nofun (fun fs hr => pre36 _ ?_) (own_atH e0 ?_) (by decide) (by decide)
       ·
        refine o_icmpN X0 hq d19_21 (feq hc37).1 (o_iconst X0 hq d19_24 (x := 0) rfl ?_)
        exact retN X0 hx (t := .boolean) hret (by simp) (hb hby d19_25) hr
       ·
        exact Or.inr (⟨(fun q => hc37 q.2.2.2.2.2.1), rfl, N0, rfl⟩)
     ·
      refine fin (some (.int 0)) _ _ _ _ X0 nofun (fun fs hr => pre32 _ ?_) (own_atH e0 ?_) (by decide) (by decide)
      ·
       refine o_icmpN X0 hq d19_21 (feq hc33).1 (o_iconst X0 hq d19_24 (x := 0) rfl ?_)
       exact retN X0 hx (t := .boolean) hret (by simp) (hb hby d19_25) hr
      ·
       exact Or.inr (⟨(fun q => hc33 q.2.2.2.2.1), rfl, N0, rfl⟩)
    ·
     refine fin (some (.int 0)) _ _ _ _ X0 nofun (fun fs hr => pre28 _ ?_) (own_atH e0 ?_) (by decide) (by decide)
     ·
      refine o_icmpN X0 hq d19_21 (feq hc29).1 (o_iconst X0 hq d19_24 (x := 0) rfl ?_)
      exact retN X0 hx (t := .boolean) hret (by simp) (hb hby d19_25) hr
     ·
      exact Or.inr (⟨(fun q => hc29 q.2.2.2.1), rfl, N0, rfl⟩)
   ·
    refine fin (some (.int 0)) _ _ _ _ X0 nofun (fun fs hr => pre24 _ ?_) (own_atH e0 ?_) (by decide) (by decide)
    ·
     refine o_icmpN X0 hq d19_21 (feq hc25).1 (o_iconst X0 hq d19_24 (x := 0) rfl ?_)
     exact retN X0 hx (t := .boolean) hret (by simp) (hb hby d19_25) hr
    ·
     exact Or.inr (⟨(fun q => hc25 q.2.2.1), rfl, N0, rfl⟩)
  ·
   refine fin (some (.int 0)) _ _ _ _ X0 nofun (fun fs hr => pre20 _ ?_) (own_atH e0 ?_) (by decide) (by decide)
   ·
    refine o_icmpN X0 hq d19_21 (feq hc21).1 (o_iconst X0 hq d19_24 (x := 0) rfl ?_)
    exact retN X0 hx (t := .boolean) hret (by simp) (hb hby d19_25) hr
   ·
    exact Or.inr (⟨(fun q => hc21 q.2.1), rfl, N0, rfl⟩)
 ·
  refine fin (some (.int 0)) _ _ _ _ X0 nofun (fun fs hr => pre16 _ ?_) (own_atH e0 ?_) (by decide) (by decide)
  ·
   refine o_icmpN X0 hq d19_21 (feq hc17).1 (o_iconst X0 hq d19_24 (x := 0) rfl ?_)
   exact retN X0 hx (t := .boolean) hret (by simp) (hb hby d19_25) hr
  ·
   exact Or.inr (⟨(fun q => hc17 q.1), rfl, N0, rfl⟩)
def Q18_80 (Z : State) (a1 a2 : Addr) (p7 : Int32) (a15 a18 : Addr) (k21 : ClassId) (p23 p24 : Int32) (p25 p26 : Int32) (p27 p28 p29 : Int32) (k30 : ClassId) (h0 : Heap) (n0 : Nat) (v : Option Value) (h : Heap) (L : List Loc) : Prop := (67 = p23 ∧ 111 = p24 ∧ 110 = p25 ∧ 116 = p26 ∧ 114 = p27 ∧ 111 = p28 ∧ 108 = p29 ∧ v = some (.int 1) ∧ Fr n0 L ∧ h = h0) ∨ (¬ (67 = p23 ∧ 111 = p24 ∧ 110 = p25 ∧ 116 = p26 ∧ 114 = p27 ∧ 111 = p28 ∧ 108 = p29) ∧ v = some (.int 0) ∧ Fr n0 L ∧ h = h0)
theorem rm18_80 (l : Launch) (Z : State) (a0 : Array Value) (hw : own_HW Z a0) (a1 a2 : Addr) (p7 : Int32) (a15 a18 : Addr) (k21 : ClassId) (p23 p24 : Int32) (p25 p26 : Int32) (p27 p28 p29 : Int32) (k30 : ClassId) (h0 : Heap) (n0 : Nat) (O0 : Old Z n0 h0) (hne3 : a1 ≠ a2) (E_4 : Exa Z h0 a2 C_2) (S_8 : Sta Z Z.heap C_2 "COMPACT_STRINGS" "Z" (.int p7)) (hk10 : ¬ (p7 = 0)) (F11 : Fld Z Z.heap a1 C_2 "coder" "B" (.int 0)) (F13 : Fld Z h0 a2 C_2 "coder" "B" (.int 0)) (F16 : Fld Z Z.heap a1 C_2 "value" "[B" (.ref a15)) (F19 : Fld Z h0 a2 C_2 "value" "[B" (.ref a18)) (V22 : Arv Z Z.heap a15 k21 .byte 7 [(.int 67), (.int 111), (.int 110), (.int 116), (.int 114), (.int 111), (.int 108)] (.int 0)) (V31 : Arv Z h0 a18 k30 .byte 7 [(.int p23), (.int p24), (.int p25), (.int p26), (.int p27), (.int p28), (.int p29)] (.int 0)) : own_Met l Z M_16 bc18 3 (some .boolean) ({ frames := 1, cells := 0, slots := 0, locals := 14 } : Room) #[(.ref a1), (.ref a2)] h0 (Q18_80 Z a1 a2 p7 a15 a18 k21 p23 p24 p25 p26 p27 p28 p29 k30 h0 n0) := by
 refine own_body (L0 := #[vR a1, vR a2, .unset]) (plainFor_of_name pn_0) (fun m => by first | (simp [entryFrame, mkF, argsToLocals, Value.category]; done) | rfl) fun p e s m below meth c s₁ EN hx hby hml hown hnm hret X0 hZ e0 hh pre0 fin => ?_
 have N0 := Fr.nil n0
 have hq := And.intro hx hby
 obtain ⟨T5, X5, e5, st5⟩ := instY X0 hx hZ hown (ww104 hw) e0 (Ins.self E_4) (g := (mkF m 8 #[vR a1, vR a2, .unset] [(.ref a2)])) rfl rfl (hb hby d18_8)
 obtain ⟨T6, X6, e6, st6⟩ := castY X5 hx hZ hown (ww104 hw) e5 (Ins.self E_4) (g := (mkF m 15 #[vR a1, vR a2, .unset] [(.ref a2)])) rfl rfl (hb hby d18_15)
 obtain ⟨T9, X9, e9, st9⟩ := getS2 X6 hx hZ hown (host := "") (Or.inl (ww22 hw)) Via.refl e6 (Sta.ext O0.2 S_8) (g := (mkF m 19 #[vR a1, vR a2, vR a2] [])) rfl (hb hby d18_19)
 obtain ⟨T12, X12, e12, st12⟩ := getF X9 hx hZ hown (host := "") (Or.inl (ww23 hw)) Via.refl e9 (Fld.ext O0.2 F11) (g := (mkF m 26 #[vR a1, vR a2, vR a2] [(.ref a1)])) rfl rfl (hb hby d18_26)
 obtain ⟨T14, X14, e14, st14⟩ := getF X12 hx hZ hown (host := "") (Or.inl (ww23 hw)) Via.refl e12 F13 (g := (mkF m 30 #[vR a1, vR a2, vR a2] [(.ref a2), (.int 0)])) rfl rfl (hb hby d18_30)
 obtain ⟨T17, X17, e17, st17⟩ := getF X14 hx hZ hown (host := "") (Or.inl (ww16 hw)) Via.refl e14 (Fld.ext O0.2 F16) (g := (mkF m 37 #[vR a1, vR a2, vR a2] [(.ref a1)])) rfl rfl (hb hby d18_37)
 obtain ⟨T20, X20, e20, st20⟩ := getF X17 hx hZ hown (host := "") (Or.inl (ww16 hw)) Via.refl e17 F19 (g := (mkF m 41 #[vR a1, vR a2, vR a2] [(.ref a2), (.ref a15)])) rfl rfl (hb hby d18_41)
 have pre33 : oS p e below EN T20 (mkF m 44 #[vR a1, vR a2, vR a2] [(.ref a18), (.ref a15)]) := fun t kt => pre0 t (o_aloadN X0 hq d18_0 rfl rfl (o_aloadN X0 hq d18_1 rfl rfl (Jvm.RoadKit.acmp (g := (mkF m 2 #[vR a1, vR a2, .unset] [(.ref a2), (.ref a1)])) X0 hx rfl rfl rfl (pc0 := 2) (pc' := 7) (same := false) rfl (hb hby d18_2) rfl (decide_eq_false fun q => hne3 (Value.ref.inj q)) (by decide) (by decide) (o_aloadN X0 hq d18_7 rfl rfl (st5 _ (o_ifN X5 hq d18_11 (by decide +kernel) (o_aloadN X5 hq d18_14 rfl rfl (st6 _ (o_astoreN X6 hq d18_18 rfl rfl (st9 _ (o_ifN X9 hq d18_22 ((if0 _ _).trans (feq hk10).1) (o_aloadN X9 hq d18_25 rfl rfl (st12 _ (o_aloadN X12 hq d18_29 rfl rfl (st14 _ (o_icmpN X14 hq d18_33 (by decide +kernel) (o_aloadN X14 hq d18_36 rfl rfl (st17 _ (o_aloadN X17 hq d18_40 rfl rfl (st20 _ kt))))))))))))))))))))
 obtain ⟨_, T32, L32, X32, hQ32, st32⟩ := own_cS X20 hx hZ hown (ww105 hw) (ww106 hw) (ww41 hw) (ww107 hw) (rm19_81 l Z a0 hw a15 a18 k21 p23 p24 p25 p26 p27 p28 p29 k30 h0 n0 O0 V22 V31) e20 pd_15 hml (hb hby d18_44) (Ls := #[vR a1, vR a2, vR a2]) (W := 0) (argsL := [(.ref a15), (.ref a18)]) (rest := [])
 rcases hQ32 with ⟨u34, u35, u36, u37, u38, u39, u40, rfl, u42, u43⟩ | ⟨u44, rfl, u46, u47⟩
 ·
  have N32 := Fr.app N0 u42
  refine fin (some (.int 1)) _ _ _ _ X32 nofun (fun fs hr => pre33 _ ?_) (own_atH u43 ?_) (by decide) (by decide)
  ·
   refine st32 _ (o_ifN X32 hq d18_47 (by decide +kernel) (o_iconst X32 hq d18_50 (x := 1) rfl (o_goto X32 hq d18_51 (pc := 51) (pc' := 55) ?_)))
   exact retN X32 hx (t := .boolean) hret (by simp) (hb hby d18_55) hr
  ·
   exact Or.inl (⟨u34, u35, u36, u37, u38, u39, u40, rfl, N32, rfl⟩)
 ·
  have N32 := Fr.app N0 u46
  refine fin (some (.int 0)) _ _ _ _ X32 nofun (fun fs hr => pre33 _ ?_) (own_atH u47 ?_) (by decide) (by decide)
  ·
   refine st32 _ (o_ifY X32 hq d18_47 (pc := 47) (pc' := 54) (by decide +kernel) (o_iconst X32 hq d18_54 (x := 0) rfl ?_))
   exact retN X32 hx (t := .boolean) hret (by simp) (hb hby d18_55) hr
  ·
   exact Or.inr (⟨u44, rfl, N32, rfl⟩)
def Q16_79 (Z : State) (a1 a2 : Addr) (a4 a6 : Addr) (a7 a8 a9 : Addr) (k10 : ClassId) (a23 : Addr) (p29 : Int32) (a34 : Addr) (k36 : ClassId) (p38 p39 : Int32) (p40 p41 : Int32) (p42 p43 p44 : Int32) (k45 : ClassId) (a56 a62 : Addr) (k64 : ClassId) (a71 a77 : Addr) (k79 : ClassId) (a86 a92 : Addr) (k94 : ClassId) (a121 : Addr) (h0 : Heap) (n0 : Nat) (v : Option Value) (h : Heap) (L : List Loc) : Prop := (∃ (b113 : Addr), 67 = p38 ∧ 111 = p39 ∧ 110 = p40 ∧ 116 = p41 ∧ 114 = p42 ∧ 111 = p43 ∧ 108 = p44 ∧ v = some (.ref b113) ∧ Fr n0 L ∧ h0.size ≤ b113 ∧ b113 < h.size ∧ Keep h0 h [] ∧ Exa Z h b113 C_7 ∧ Fld Z h b113 C_7 "value" C_8 (.ref a9)) ∨ (¬ (67 = p38 ∧ 111 = p39 ∧ 110 = p40 ∧ 116 = p41 ∧ 114 = p42 ∧ 111 = p43 ∧ 108 = p44) ∧ v = some (.ref a121) ∧ Fr n0 L ∧ Keep h0 h [])
theorem rm16_79 (l : Launch) (Z : State) (a0 : Array Value) (hw : own_HW Z a0) (a1 a2 : Addr) (a4 a6 : Addr) (a7 a8 a9 : Addr) (k10 : ClassId) (a23 : Addr) (p29 : Int32) (a34 : Addr) (k36 : ClassId) (p38 p39 : Int32) (p40 p41 : Int32) (p42 p43 p44 : Int32) (k45 : ClassId) (a56 a62 : Addr) (k64 : ClassId) (a71 a77 : Addr) (k79 : ClassId) (a86 a92 : Addr) (k94 : ClassId) (a121 : Addr) (h0 : Heap) (n0 : Nat) (O0 : Old Z n0 h0) (S_3 : Sta Z Z.heap C_0 "$VALUES" C_6 (.ref a2)) (F5 : Fld Z h0 a1 C_2 "value" "[B" (.ref a4)) (V11 : Arv Z Z.heap a2 k10 (.object "com/example/stern_warden/sternwarden/model/AccessMode") (4 : Int32) [(.ref a6), (.ref a7), (.ref a8), (.ref a9)] .null) (E_12 : Exa Z Z.heap a2 C_6) (F24 : Fld Z Z.heap a6 C_0 "localName" C_5 (.ref a23)) (E_26 : Exa Z Z.heap a23 C_2) (hne27 : a23 ≠ a1) (E_28 : Exa Z h0 a1 C_2) (S_30 : Sta Z Z.heap C_2 "COMPACT_STRINGS" "Z" (.int p29)) (hk31 : ¬ (p29 = 0)) (F32 : Fld Z Z.heap a23 C_2 "coder" "B" (.int 0)) (F33 : Fld Z h0 a1 C_2 "coder" "B" (.int 0)) (F35 : Fld Z Z.heap a23 C_2 "value" "[B" (.ref a34)) (V37 : Arv Z Z.heap a34 k36 .byte 4 [(.int 82), (.int 101), (.int 97), (.int 100)] (.int 0)) (V46 : Arv Z h0 a4 k45 .byte 7 [(.int p38), (.int p39), (.int p40), (.int p41), (.int p42), (.int p43), (.int p44)] (.int 0)) (F57 : Fld Z Z.heap a7 C_0 "localName" C_5 (.ref a56)) (E_59 : Exa Z Z.heap a56 C_2) (hne60 : a56 ≠ a1) (F61 : Fld Z Z.heap a56 C_2 "coder" "B" (.int 0)) (F63 : Fld Z Z.heap a56 C_2 "value" "[B" (.ref a62)) (V65 : Arv Z Z.heap a62 k64 .byte 5 [(.int 87), (.int 114), (.int 105), (.int 116), (.int 101)] (.int 0)) (F72 : Fld Z Z.heap a8 C_0 "localName" C_5 (.ref a71)) (E_74 : Exa Z Z.heap a71 C_2) (hne75 : a71 ≠ a1) (F76 : Fld Z Z.heap a71 C_2 "coder" "B" (.int 0)) (F78 : Fld Z Z.heap a71 C_2 "value" "[B" (.ref a77)) (V80 : Arv Z Z.heap a77 k79 .byte 6 [(.int 65), (.int 112), (.int 112), (.int 101), (.int 110), (.int 100)] (.int 0)) (F87 : Fld Z Z.heap a9 C_0 "localName" C_5 (.ref a86)) (E_89 : Exa Z Z.heap a86 C_2) (hne90 : a86 ≠ a1) (F91 : Fld Z Z.heap a86 C_2 "coder" "B" (.int 0)) (F93 : Fld Z Z.heap a86 C_2 "value" "[B" (.ref a92)) (V95 : Arv Z Z.heap a92 k94 .byte 7 [(.int 67), (.int 111), (.int 110), (.int 116), (.int 114), (.int 111), (.int 108)] (.int 0)) (S_122 : Sta Z Z.heap C_7 "EMPTY" C_9 (.ref a121)) : own_Met l Z M_21 bc16 5 (some (.object "java/util/Optional")) ({ frames := 3, cells := 2, slots := 5, locals := 38 } : Room) #[(.ref a1)] h0 (Q16_79 Z a1 a2 a4 a6 a7 a8 a9 k10 a23 p29 a34 k36 p38 p39 p40 p41 p42 p43 p44 k45 a56 a62 k64 a71 a77 k79 a86 a92 k94 a121 h0 n0) := by
 refine own_body (L0 := #[vR a1, .unset, .unset, .unset, .unset]) (plainFor_of_name pn_5) (fun m => by first | (simp [entryFrame, mkF, argsToLocals, Value.category]; done) | rfl) fun p e s m below meth c s₁ EN hx hby hml hown hnm hret X0 hZ e0 hh pre0 fin => ?_
 have N0 := Fr.nil n0
 have hq := And.intro hx hby
 obtain ⟨_, T13, L13, X13, hQ13, st13⟩ := own_cS X0 hx hZ hown (ww79 hw) (ww80 hw) (ww1 hw) (ww81 hw) (rm17_18 l Z a0 hw a2 a6 a7 a8 a9 k10 h0 n0 O0 S_3 V11 E_12) e0 pd_14 hml (hb hby d16_0) (Ls := #[vR a1, .unset, .unset, .unset, .unset]) (W := 0) (argsL := []) (rest := [])
 obtain ⟨b14, rfl, u16, u17, u18, Ku19, u20, u21⟩ := hQ13
 have Ou19 := O0.keep Ku19 all0
 have N13 := Fr.app N0 u16
 obtain ⟨cl22, Ar22, -, Sz22, -, Hh22, -⟩ := id u21
 have hin22 : ¬ ((0 : Int32) < 0 ∨ cl22.slots.size ≤ ((0 : Int32)).toNatClampNeg) := inb_of Sz22 ⟨by decide +kernel, by decide +kernel⟩
 have hat22 : cl22.slots[((0 : Int32)).toNatClampNeg]? = some (.ref a6) := Has.at Hh22 hin22 rfl
 obtain ⟨T25, X25, e25, st25⟩ := getF X13 hx hZ hown (host := "") (Or.inl (ww97 hw)) Via.refl rfl (Fld.ext Ou19.2 F24) (g := (mkF m 21 #[vR a1, vR b14, vI 4, vI 0, vR a6] [(.ref a6)])) rfl rfl (hb hby d16_21)
 have f47 := (E_28.keep Ku19)
 have f48 := (F33.keep Ku19 nin0)
 have f49 := (F5.keep Ku19 nin0)
 have f50 := (V46.keep Ku19 nin0)
 obtain ⟨_, T51, L51, X51, hQ51, st51⟩ := own_cV X25 hx hZ hown (ww99 hw) (ww100 hw) (notFace_of_selects (args := #[]) (mvT hZ (ww102 hw))) (ww102 hw) (ww101 hw) (ww4 hw) (ww103 hw) (Exa.ext Ou19.2 E_26) (rm18_24 l Z a0 hw a23 a1 p29 a34 a4 _ 4 k36 _ 7 k45 T13.heap n0 Ou19 hne27 f47 S_30 hk31 F32 f48 F35 f49 V37 f50 kle4_7) e25 pd_16 hml (hb hby d16_25) (Ls := #[vR a1, vR b14, vI 4, vI 0, vR a6]) (W := 0) (argsL := [(.ref a1)]) (rest := [])
 obtain ⟨rfl, u53, u54⟩ := hQ51
 have N51 := Fr.app N13 u53
 obtain ⟨cl55, Ar55, -, Sz55, -, Hh55, -⟩ := id u21
 have hin55 : ¬ ((1 : Int32) < 0 ∨ cl55.slots.size ≤ ((1 : Int32)).toNatClampNeg) := inb_of Sz55 ⟨by decide +kernel, by decide +kernel⟩
 have hat55 : cl55.slots[((1 : Int32)).toNatClampNeg]? = some (.ref a7) := Has.at Hh55 hin55 rfl
 obtain ⟨T58, X58, e58, st58⟩ := getF X51 hx hZ hown (host := "") (Or.inl (ww97 hw)) Via.refl u54 (Fld.ext Ou19.2 F57) (g := (mkF m 21 #[vR a1, vR b14, vI 4, vI 1, vR a7] [(.ref a7)])) rfl rfl (hb hby d16_21)
 obtain ⟨_, T66, L66, X66, hQ66, st66⟩ := own_cV X58 hx hZ hown (ww99 hw) (ww100 hw) (notFace_of_selects (args := #[]) (mvT hZ (ww102 hw))) (ww102 hw) (ww101 hw) (ww4 hw) (ww103 hw) (Exa.ext Ou19.2 E_59) (rm18_24 l Z a0 hw a56 a1 p29 a62 a4 _ 5 k64 _ 7 k45 T13.heap n0 Ou19 hne60 f47 S_30 hk31 F61 f48 F63 f49 V65 f50 kle5_7) e58 pd_16 hml (hb hby d16_25) (Ls := #[vR a1, vR b14, vI 4, vI 1, vR a7]) (W := 0) (argsL := [(.ref a1)]) (rest := [])
 obtain ⟨rfl, u68, u69⟩ := hQ66
 have N66 := Fr.app N51 u68
 obtain ⟨cl70, Ar70, -, Sz70, -, Hh70, -⟩ := id u21
 have hin70 : ¬ ((2 : Int32) < 0 ∨ cl70.slots.size ≤ ((2 : Int32)).toNatClampNeg) := inb_of Sz70 ⟨by decide +kernel, by decide +kernel⟩
 have hat70 : cl70.slots[((2 : Int32)).toNatClampNeg]? = some (.ref a8) := Has.at Hh70 hin70 rfl
 obtain ⟨T73, X73, e73, st73⟩ := getF X66 hx hZ hown (host := "") (Or.inl (ww97 hw)) Via.refl u69 (Fld.ext Ou19.2 F72) (g := (mkF m 21 #[vR a1, vR b14, vI 4, vI 2, vR a8] [(.ref a8)])) rfl rfl (hb hby d16_21)
 obtain ⟨_, T81, L81, X81, hQ81, st81⟩ := own_cV X73 hx hZ hown (ww99 hw) (ww100 hw) (notFace_of_selects (args := #[]) (mvT hZ (ww102 hw))) (ww102 hw) (ww101 hw) (ww4 hw) (ww103 hw) (Exa.ext Ou19.2 E_74) (rm18_24 l Z a0 hw a71 a1 p29 a77 a4 _ 6 k79 _ 7 k45 T13.heap n0 Ou19 hne75 f47 S_30 hk31 F76 f48 F78 f49 V80 f50 kle6_7) e73 pd_16 hml (hb hby d16_25) (Ls := #[vR a1, vR b14, vI 4, vI 2, vR a8]) (W := 0) (argsL := [(.ref a1)]) (rest := [])
 obtain ⟨rfl, u83, u84⟩ := hQ81
 have N81 := Fr.app N66 u83
 obtain ⟨cl85, Ar85, -, Sz85, -, Hh85, -⟩ := id u21
 have hin85 : ¬ ((3 : Int32) < 0 ∨ cl85.slots.size ≤ ((3 : Int32)).toNatClampNeg) := inb_of Sz85 ⟨by decide +kernel, by decide +kernel⟩
 have hat85 : cl85.slots[((3 : Int32)).toNatClampNeg]? = some (.ref a9) := Has.at Hh85 hin85 rfl
 obtain ⟨T88, X88, e88, st88⟩ := getF X81 hx hZ hown (host := "") (Or.inl (ww97 hw)) Via.refl u84 (Fld.ext Ou19.2 F87) (g := (mkF m 21 #[vR a1, vR b14, vI 4, vI 3, vR a9] [(.ref a9)])) rfl rfl (hb hby d16_21)
 have pre97 : ∀ t, Steps p.tables e below (T88.setTop (mkF m 25 #[vR a1, vR b14, vI 4, vI 3, vR a9] [(.ref a1), (.ref a86)])) t → Steps p.tables e below EN t := by
  intro t kt
  refine pre0 t ?_
  refine st13 _ (o_astoreN X13 hq d16_3 rfl rfl (o_aloadN X13 hq d16_4 rfl rfl (o_alen X13 hq d16_5 hZ rfl u21 (o_istoreN X13 hq d16_6 rfl (o_iconst X13 hq d16_7 (x := 0) rfl (o_istoreN X13 hq d16_8 rfl (o_iloadN X13 hq d16_9 rfl (o_iloadN X13 hq d16_10 rfl (o_icmpN X13 hq d16_11 (by decide +kernel) (o_aloadN X13 hq d16_14 rfl rfl (o_iloadN X13 hq d16_15 rfl (X13.aaload hx (j := 0) (v := (.ref a6)) Ar22.1 (State.isArrayOf_alike hZ.alike Ar22.2.1) rfl Ar22.2.2 hin22 hat22 (g := (mkF m 16 #[vR a1, vR b14, vI 4, vI 0, .unset] [(.int 0), (.ref b14)])) rfl rfl (hb hby d16_16) _ (o_astore X13 hq d16_17 rfl rfl (o_aload X13 hq d16_19 rfl rfl (st25 _ (o_aloadN X25 hq d16_24 rfl rfl (st51 _ (o_ifY X51 hq d16_28 (pc := 28) (pc' := 37) (by decide +kernel) (o_iinc X51 hq d16_37 rfl (z := 1) (k' := 1) rfl (by decide +kernel) rfl (o_goto X51 hq d16_40 (pc := 40) (pc' := 9) (o_iloadN X51 hq d16_9 rfl (o_iloadN X51 hq d16_10 rfl (o_icmpN X51 hq d16_11 (by decide +kernel) (o_aloadN X51 hq d16_14 rfl rfl (o_iloadN X51 hq d16_15 rfl (X51.aaload hx (j := 1) (v := (.ref a7)) (by rw [u54]; exact Ar55.1) (State.isArrayOf_alike hZ.alike Ar55.2.1) rfl Ar55.2.2 hin55 hat55 (g := (mkF m 16 #[vR a1, vR b14, vI 4, vI 1, vR a6] [(.int 1), (.ref b14)])) rfl rfl (hb hby d16_16) _ (o_astore X51 hq d16_17 rfl rfl (o_aload X51 hq d16_19 rfl rfl (st58 _ (o_aloadN X58 hq d16_24 rfl rfl (st66 _ (o_ifY X66 hq d16_28 (pc := 28) (pc' := 37) (by decide +kernel) (o_iinc X66 hq d16_37 rfl (z := 2) (k' := 1) rfl (by decide +kernel) rfl (o_goto X66 hq d16_40 (pc := 40) (pc' := 9) (o_iloadN X66 hq d16_9 rfl (o_iloadN X66 hq d16_10 rfl (o_icmpN X66 hq d16_11 (by decide +kernel) (o_aloadN X66 hq d16_14 rfl rfl (o_iloadN X66 hq d16_15 rfl ?_)))))))))))))))))))))))))))))))))))))))
  refine X66.aaload hx (j := 2) (v := (.ref a8)) (by rw [u69]; exact Ar70.1) (State.isArrayOf_alike hZ.alike Ar70.2.1) rfl Ar70.2.2 hin70 hat70 (g := (mkF m 16 #[vR a1, vR b14, vI 4, vI 2, vR a7] [(.int 2), (.ref b14)])) rfl rfl (hb hby d16_16) _ (o_astore X66 hq d16_17 rfl rfl (o_aload X66 hq d16_19 rfl rfl (st73 _ (o_aloadN X73 hq d16_24 rfl rfl (st81 _ (o_ifY X81 hq d16_28 (pc := 28) (pc' := 37) (by decide +kernel) (o_iinc X81 hq d16_37 rfl (z := 3) (k' := 1) rfl (by decide +kernel) rfl (o_goto X81 hq d16_40 (pc := 40) (pc' := 9) (o_iloadN X81 hq d16_9 rfl (o_iloadN X81 hq d16_10 rfl (o_icmpN X81 hq d16_11 (by decide +kernel) (o_aloadN X81 hq d16_14 rfl rfl (o_iloadN X81 hq d16_15 rfl (X81.aaload hx (j := 3) (v := (.ref a9)) (by rw [u84]; exact Ar85.1) (State.isArrayOf_alike hZ.alike Ar85.2.1) rfl Ar85.2.2 hin85 hat85 (g := (mkF m 16 #[vR a1, vR b14, vI 4, vI 3, vR a8] [(.int 3), (.ref b14)])) rfl rfl (hb hby d16_16) _ (o_astore X81 hq d16_17 rfl rfl (o_aload X81 hq d16_19 rfl rfl (st88 _ (o_aloadN X88 hq d16_24 rfl rfl ?_))))))))))))))))))
  exact kt
 obtain ⟨_, T96, L96, X96, hQ96, st96⟩ := own_cV X88 hx hZ hown (ww99 hw) (ww100 hw) (notFace_of_selects (args := #[]) (mvT hZ (ww102 hw))) (ww102 hw) (ww101 hw) (ww4 hw) (ww103 hw) (Exa.ext Ou19.2 E_89) (rm18_80 l Z a0 hw a86 a1 p29 a92 a4 k94 p38 p39 p40 p41 p42 p43 p44 k45 T13.heap n0 Ou19 hne90 f47 S_30 hk31 F91 f48 F93 f49 V95 f50) e88 pd_16 hml (hb hby d16_25) (Ls := #[vR a1, vR b14, vI 4, vI 3, vR a9]) (W := 0) (argsL := [(.ref a1)]) (rest := [])
 rcases hQ96 with ⟨u98, u99, u100, u101, u102, u103, u104, rfl, u106, u107⟩ | ⟨u108, rfl, u110, u111⟩
 ·
  have N96 := Fr.app N81 u106
  obtain ⟨_, T112, L112, X112, hQ112, st112⟩ := own_cS X96 hx hZ hown (ww126 hw) (ww127 hw) (ww110 hw) (ww128 hw) (rm22_21 l Z a0 hw a9 T13.heap n0 Ou19) u107 pd_19 hml (hb hby d16_33) (Ls := #[vR a1, vR b14, vI 4, vI 3, vR a9]) (W := 0) (argsL := [(.ref a9)]) (rest := [])
  obtain ⟨b113, rfl, u115, u116, u117, Ku118, u119, u120⟩ := hQ112
  have sz_b113 : h0.size ≤ b113 := Nat.le_trans Ku19.1 u116
  have N112 := Fr.app N96 u115
  refine fin (some (.ref b113)) _ _ _ _ X112 nofun (fun fs hr => pre97 _ ?_) ?_ (by decide) (by decide)
  ·
   refine st96 _ (o_ifN X96 hq d16_28 (by decide +kernel) (o_aload X96 hq d16_31 rfl rfl (st112 _ ?_)))
   show Steps p.tables e below (T112.setTop (mkF m 36 #[vR a1, vR b14, vI 4, vI 3, vR a9] [(.ref b113)])) _
   jvm_step X112.here [X112.here.top, hx, (hb hby d16_36), X112.method', hret, Value.isRef, FieldType.isReference]
   first | (intro acts; rw [hr _ acts rfl rfl rfl]) | rw [hr _ _ rfl rfl rfl]
   exact Steps.refl _
  ·
   exact Or.inl (⟨b113, u98, u99, u100, u101, u102, u103, u104, rfl, N112, sz_b113, u117, (((Keep.refl h0 []).trans Ku19 all0).trans Ku118 all0), u119, u120⟩)
 ·
  have N96 := Fr.app N81 u110
  obtain ⟨_, T123, L123, X123, hQ123, st123⟩ := own_cS X96 hx hZ hown (ww108 hw) (ww109 hw) (ww110 hw) (ww111 hw) (rm20_26 l Z a0 hw a121 T13.heap n0 Ou19 S_122) u111 pd_20 hml (hb hby d16_43) (Ls := #[vR a1, vR b14, vI 4, vI 4, vR a9]) (W := 0) (argsL := []) (rest := [])
  obtain ⟨rfl, u125, u126⟩ := hQ123
  have N123 := Fr.app N96 u125
  refine fin (some (.ref a121)) _ _ _ _ X123 nofun (fun fs hr => pre97 _ ?_) (own_atH u126 ?_) (by decide) (by decide)
  ·
   refine st96 _ (o_ifY X96 hq d16_28 (pc := 28) (pc' := 37) (by decide +kernel) (o_iinc X96 hq d16_37 rfl (z := 4) (k' := 1) rfl (by decide +kernel) rfl (o_goto X96 hq d16_40 (pc := 40) (pc' := 9) (o_iloadN X96 hq d16_9 rfl (o_iloadN X96 hq d16_10 rfl (o_icmpY X96 hq d16_11 (pc := 11) (pc' := 43) (by decide +kernel) (st123 _ ?_)))))))
   show Steps p.tables e below (T123.setTop (mkF m 46 #[vR a1, vR b14, vI 4, vI 4, vR a9] [(.ref a121)])) _
   jvm_step X123.here [X123.here.top, hx, (hb hby d16_46), X123.method', hret, Value.isRef, FieldType.isReference]
   first | (intro acts; rw [hr _ acts rfl rfl rfl]) | rw [hr _ _ rfl rfl rfl]
   exact Steps.refl _
  ·
   exact Or.inr (⟨u108, rfl, N123, ((Keep.refl h0 []).trans Ku19 all0)⟩)
def Q14_86 (Z : State) (a1 a2 : Addr) (p3 p4 : Int32) (p5 p6 : Int32) (p7 p8 : Int32) (p9 p10 : Int32) (k11 k16 : ClassId) (h0 : Heap) (n0 : Nat) (v : Option Value) (h : Heap) (L : List Loc) : Prop := (∃ (i15 i24 : Int32) (i29 i34 : Int32) (i39 i44 : Int32) (i49 i54 : Int32), i15 = (p3.toInt8.toInt32) ∧ i24 = (p4.toInt8.toInt32) ∧ i29 = (p5.toInt8.toInt32) ∧ i34 = (p6.toInt8.toInt32) ∧ i39 = (p7.toInt8.toInt32) ∧ i44 = (p8.toInt8.toInt32) ∧ i49 = (p9.toInt8.toInt32) ∧ i54 = (p10.toInt8.toInt32) ∧ v = some (.int 8) ∧ Fr n0 L ∧ Keep h0 h [a2] ∧ Exa Z h a2 "[B" ∧ Arv Z h a2 k16 .byte 8 [(.int i15), (.int i24), (.int i29), (.int i34), (.int i39), (.int i44), (.int i49), (.int i54)] (.int 0))
theorem rm14_86 (l : Launch) (Z : State) (a0 : Array Value) (hw : own_HW Z a0) (a1 a2 : Addr) (p3 p4 : Int32) (p5 p6 : Int32) (p7 p8 : Int32) (p9 p10 : Int32) (k11 k16 : ClassId) (h0 : Heap) (n0 : Nat) (O0 : Old Z n0 h0) (V12 : Arv Z h0 a1 k11 .char 8 [(.int p3), (.int p4), (.int p5), (.int p6), (.int p7), (.int p8), (.int p9), (.int p10)] (.int 0)) (hk14 : ¬ (255 < p3)) (V17 : Arv Z h0 a2 k16 .byte 8 [] (.int 0)) (g_a2 : n0 ≤ a2) (E_19 : Exa Z h0 a2 "[B") (hne20 : a1 ≠ a2) (hk23 : ¬ (255 < p4)) (hk28 : ¬ (255 < p5)) (hk33 : ¬ (255 < p6)) (hk38 : ¬ (255 < p7)) (hk43 : ¬ (255 < p8)) (hk48 : ¬ (255 < p9)) (hk53 : ¬ (255 < p10)) : own_Met l Z M_8 bc14 7 (some .int) ({ frames := 0, cells := 0, slots := 0, locals := 0 } : Room) #[(.ref a1), (.int 0), (.ref a2), (.int 0), (.int 8)] h0 (Q14_86 Z a1 a2 p3 p4 p5 p6 p7 p8 p9 p10 k11 k16 h0 n0) := by
 refine own_body (L0 := #[vR a1, vI 0, vR a2, vI 0, vI 8, .unset, .unset]) (plainFor_of_name pn_4) (fun m => by first | (simp [entryFrame, mkF, argsToLocals, Value.category]; done) | rfl) fun p e s m below meth c s₁ EN hx hby hml hown hnm hret X0 hZ e0 hh pre0 fin => ?_
 have N0 := Fr.nil n0
 have hq := And.intro hx hby
 obtain ⟨i15, hi15⟩ : ∃ z, z = (p3.toInt8.toInt32) := ⟨_, rfl⟩
 obtain ⟨T18, h18, X18, e18, W18, V18, st18⟩ := own_stB X0 hx hZ e0 V17 1 0 i15 i15 0 (own_i2b2 hi15 : (i15.toInt8.toInt32) = i15) (hb hby d14_31) #[vR a1, vI 0, vR a2, vI 0, vI 8, vI 0, vI p3] [] (vs2 := [(.int i15)])
 have N18 := Fr.snoc X18 N0 g_a2
 have f21 := (V12.other W18 hne20)
 obtain ⟨i24, hi24⟩ : ∃ z, z = (p4.toInt8.toInt32) := ⟨_, rfl⟩
 obtain ⟨T25, h25, X25, e25, W25, V25, st25⟩ := own_stB X18 hx hZ e18 V18 1 1 i24 i24 1 (own_i2b2 hi24 : (i24.toInt8.toInt32) = i24) (hb hby d14_31) #[vR a1, vI 1, vR a2, vI 1, vI 8, vI 1, vI p4] [] (vs2 := [(.int i15), (.int i24)])
 have N25 := Fr.snoc X25 N18 g_a2
 have f26 := (f21.other W25 hne20)
 obtain ⟨i29, hi29⟩ : ∃ z, z = (p5.toInt8.toInt32) := ⟨_, rfl⟩
 obtain ⟨T30, h30, X30, e30, W30, V30, st30⟩ := own_stB X25 hx hZ e25 V25 1 2 i29 i29 2 (own_i2b2 hi29 : (i29.toInt8.toInt32) = i29) (hb hby d14_31) #[vR a1, vI 2, vR a2, vI 2, vI 8, vI 2, vI p5] [] (vs2 := [(.int i15), (.int i24), (.int i29)])
 have N30 := Fr.snoc X30 N25 g_a2
 have f31 := (f26.other W30 hne20)
 obtain ⟨i34, hi34⟩ : ∃ z, z = (p6.toInt8.toInt32) := ⟨_, rfl⟩
 obtain ⟨T35, h35, X35, e35, W35, V35, st35⟩ := own_stB X30 hx hZ e30 V30 1 3 i34 i34 3 (own_i2b2 hi34 : (i34.toInt8.toInt32) = i34) (hb hby d14_31) #[vR a1, vI 3, vR a2, vI 3, vI 8, vI 3, vI p6] [] (vs2 := [(.int i15), (.int i24), (.int i29), (.int i34)])
 have N35 := Fr.snoc X35 N30 g_a2
 have f36 := (f31.other W35 hne20)
 obtain ⟨i39, hi39⟩ : ∃ z, z = (p7.toInt8.toInt32) := ⟨_, rfl⟩
 obtain ⟨T40, h40, X40, e40, W40, V40, st40⟩ := own_stB X35 hx hZ e35 V35 1 4 i39 i39 4 (own_i2b2 hi39 : (i39.toInt8.toInt32) = i39) (hb hby d14_31) #[vR a1, vI 4, vR a2, vI 4, vI 8, vI 4, vI p7] [] (vs2 := [(.int i15), (.int i24), (.int i29), (.int i34), (.int i39)])
 have N40 := Fr.snoc X40 N35 g_a2
 have f41 := (f36.other W40 hne20)
 obtain ⟨i44, hi44⟩ : ∃ z, z = (p8.toInt8.toInt32) := ⟨_, rfl⟩
 obtain ⟨T45, h45, X45, e45, W45, V45, st45⟩ := own_stB X40 hx hZ e40 V40 1 5 i44 i44 5 (own_i2b2 hi44 : (i44.toInt8.toInt32) = i44) (hb hby d14_31) #[vR a1, vI 5, vR a2, vI 5, vI 8, vI 5, vI p8] [] (vs2 := [(.int i15), (.int i24), (.int i29), (.int i34), (.int i39), (.int i44)])
 have N45 := Fr.snoc X45 N40 g_a2
 have f46 := (f41.other W45 hne20)
 obtain ⟨i49, hi49⟩ : ∃ z, z = (p9.toInt8.toInt32) := ⟨_, rfl⟩
 obtain ⟨T50, h50, X50, e50, W50, V50, st50⟩ := own_stB X45 hx hZ e45 V45 1 6 i49 i49 6 (own_i2b2 hi49 : (i49.toInt8.toInt32) = i49) (hb hby d14_31) #[vR a1, vI 6, vR a2, vI 6, vI 8, vI 6, vI p9] [] (vs2 := [(.int i15), (.int i24), (.int i29), (.int i34), (.int i39), (.int i44), (.int i49)])
 have N50 := Fr.snoc X50 N45 g_a2
 have f51 := (f46.other W50 hne20)
 obtain ⟨i54, hi54⟩ : ∃ z, z = (p10.toInt8.toInt32) := ⟨_, rfl⟩
 obtain ⟨T55, h55, X55, e55, W55, V55, st55⟩ := own_stB X50 hx hZ e50 V50 1 7 i54 i54 7 (own_i2b2 hi54 : (i54.toInt8.toInt32) = i54) (hb hby d14_31) #[vR a1, vI 7, vR a2, vI 7, vI 8, vI 7, vI p10] [] (vs2 := [(.int i15), (.int i24), (.int i29), (.int i34), (.int i39), (.int i44), (.int i49), (.int i54)])
 have N55 := Fr.snoc X55 N50 g_a2
 have f56 := (Exa.wr W55 (Exa.wr W50 (Exa.wr W45 (Exa.wr W40 (Exa.wr W35 (Exa.wr W30 (Exa.wr W25 (Exa.wr W18 E_19))))))))
 refine fin (some (.int 8)) _ _ _ _ X55 nofun (fun fs hr => pre0 _ ?_) (own_atH e55 ?_) (by decide) (by decide)
 ·
  refine o_iconst X0 hq d14_0 (x := 0) rfl (o_istore X0 hq d14_1 rfl (o_iload X0 hq d14_3 rfl (o_iload X0 hq d14_5 rfl (o_icmpN X0 hq d14_7 (by decide +kernel) (o_aloadN X0 hq d14_10 rfl rfl (o_iloadN X0 hq d14_11 rfl (o_caload X0 hq d14_12 hZ e0 V12 (i := 0) (v := .int p3) (by decide +kernel) rfl (o_istore X0 hq d14_13 rfl (o_iload X0 hq d14_15 rfl (o_sipush X0 hq d14_17 (x := 255) rfl (o_icmpY X0 hq d14_20 (pc := 20) (pc' := 26) (flt hk14).2.2.2 (o_aloadN X0 hq d14_26 rfl rfl (o_iloadN X0 hq d14_27 rfl (o_iload X0 hq d14_28 rfl (o_i2b X0 hq d14_30 (z := i15) hi15.symm (st18 _ (o_iinc X18 hq d14_32 rfl (z := 1) (k' := 1) rfl (by decide +kernel) rfl (o_iinc X18 hq d14_35 rfl (z := 1) (k' := 1) rfl (by decide +kernel) rfl (o_iinc X18 hq d14_38 rfl (z := 1) (k' := 1) rfl (by decide +kernel) rfl (o_goto X18 hq d14_41 (pc := 41) (pc' := 3) (o_iload X18 hq d14_3 rfl (o_iload X18 hq d14_5 rfl (o_icmpN X18 hq d14_7 (by decide +kernel) (o_aloadN X18 hq d14_10 rfl rfl (o_iloadN X18 hq d14_11 rfl (o_caload X18 hq d14_12 hZ e18 f21 (i := 1) (v := .int p4) (by decide +kernel) rfl (o_istore X18 hq d14_13 rfl (o_iload X18 hq d14_15 rfl (o_sipush X18 hq d14_17 (x := 255) rfl (o_icmpY X18 hq d14_20 (pc := 20) (pc' := 26) (flt hk23).2.2.2 (o_aloadN X18 hq d14_26 rfl rfl (o_iloadN X18 hq d14_27 rfl (o_iload X18 hq d14_28 rfl (o_i2b X18 hq d14_30 (z := i24) hi24.symm (st25 _ (o_iinc X25 hq d14_32 rfl (z := 2) (k' := 1) rfl (by decide +kernel) rfl (o_iinc X25 hq d14_35 rfl (z := 2) (k' := 1) rfl (by decide +kernel) rfl (o_iinc X25 hq d14_38 rfl (z := 2) (k' := 1) rfl (by decide +kernel) rfl (o_goto X25 hq d14_41 (pc := 41) (pc' := 3) ?_)))))))))))))))))))))))))))))))))))))))
  refine o_iload X25 hq d14_3 rfl (o_iload X25 hq d14_5 rfl (o_icmpN X25 hq d14_7 (by decide +kernel) (o_aloadN X25 hq d14_10 rfl rfl (o_iloadN X25 hq d14_11 rfl (o_caload X25 hq d14_12 hZ e25 f26 (i := 2) (v := .int p5) (by decide +kernel) rfl (o_istore X25 hq d14_13 rfl (o_iload X25 hq d14_15 rfl (o_sipush X25 hq d14_17 (x := 255) rfl (o_icmpY X25 hq d14_20 (pc := 20) (pc' := 26) (flt hk28).2.2.2 (o_aloadN X25 hq d14_26 rfl rfl (o_iloadN X25 hq d14_27 rfl (o_iload X25 hq d14_28 rfl (o_i2b X25 hq d14_30 (z := i29) hi29.symm (st30 _ (o_iinc X30 hq d14_32 rfl (z := 3) (k' := 1) rfl (by decide +kernel) rfl (o_iinc X30 hq d14_35 rfl (z := 3) (k' := 1) rfl (by decide +kernel) rfl (o_iinc X30 hq d14_38 rfl (z := 3) (k' := 1) rfl (by decide +kernel) rfl (o_goto X30 hq d14_41 (pc := 41) (pc' := 3) (o_iload X30 hq d14_3 rfl (o_iload X30 hq d14_5 rfl (o_icmpN X30 hq d14_7 (by decide +kernel) (o_aloadN X30 hq d14_10 rfl rfl (o_iloadN X30 hq d14_11 rfl (o_caload X30 hq d14_12 hZ e30 f31 (i := 3) (v := .int p6) (by decide +kernel) rfl (o_istore X30 hq d14_13 rfl (o_iload X30 hq d14_15 rfl (o_sipush X30 hq d14_17 (x := 255) rfl (o_icmpY X30 hq d14_20 (pc := 20) (pc' := 26) (flt hk33).2.2.2 (o_aloadN X30 hq d14_26 rfl rfl (o_iloadN X30 hq d14_27 rfl (o_iload X30 hq d14_28 rfl (o_i2b X30 hq d14_30 (z := i34) hi34.symm (st35 _ (o_iinc X35 hq d14_32 rfl (z := 4) (k' := 1) rfl (by decide +kernel) rfl (o_iinc X35 hq d14_35 rfl (z := 4) (k' := 1) rfl (by decide +kernel) rfl (o_iinc X35 hq d14_38 rfl (z := 4) (k' := 1) rfl (by decide +kernel) rfl (o_goto X35 hq d14_41 (pc := 41) (pc' := 3) (o_iload X35 hq d14_3 rfl (o_iload X35 hq d14_5 rfl ?_)))))))))))))))))))))))))))))))))))))))
  refine o_icmpN X35 hq d14_7 (by decide +kernel) (o_aloadN X35 hq d14_10 rfl rfl (o_iloadN X35 hq d14_11 rfl (o_caload X35 hq d14_12 hZ e35 f36 (i := 4) (v := .int p7) (by decide +kernel) rfl (o_istore X35 hq d14_13 rfl (o_iload X35 hq d14_15 rfl (o_sipush X35 hq d14_17 (x := 255) rfl (o_icmpY X35 hq d14_20 (pc := 20) (pc' := 26) (flt hk38).2.2.2 (o_aloadN X35 hq d14_26 rfl rfl (o_iloadN X35 hq d14_27 rfl (o_iload X35 hq d14_28 rfl (o_i2b X35 hq d14_30 (z := i39) hi39.symm (st40 _ (o_iinc X40 hq d14_32 rfl (z := 5) (k' := 1) rfl (by decide +kernel) rfl (o_iinc X40 hq d14_35 rfl (z := 5) (k' := 1) rfl (by decide +kernel) rfl (o_iinc X40 hq d14_38 rfl (z := 5) (k' := 1) rfl (by decide +kernel) rfl (o_goto X40 hq d14_41 (pc := 41) (pc' := 3) (o_iload X40 hq d14_3 rfl (o_iload X40 hq d14_5 rfl (o_icmpN X40 hq d14_7 (by decide +kernel) (o_aloadN X40 hq d14_10 rfl rfl (o_iloadN X40 hq d14_11 rfl (o_caload X40 hq d14_12 hZ e40 f41 (i := 5) (v := .int p8) (by decide +kernel) rfl (o_istore X40 hq d14_13 rfl (o_iload X40 hq d14_15 rfl (o_sipush X40 hq d14_17 (x := 255) rfl (o_icmpY X40 hq d14_20 (pc := 20) (pc' := 26) (flt hk43).2.2.2 (o_aloadN X40 hq d14_26 rfl rfl (o_iloadN X40 hq d14_27 rfl (o_iload X40 hq d14_28 rfl (o_i2b X40 hq d14_30 (z := i44) hi44.symm (st45 _ (o_iinc X45 hq d14_32 rfl (z := 6) (k' := 1) rfl (by decide +kernel) rfl (o_iinc X45 hq d14_35 rfl (z := 6) (k' := 1) rfl (by decide +kernel) rfl (o_iinc X45 hq d14_38 rfl (z := 6) (k' := 1) rfl (by decide +kernel) rfl (o_goto X45 hq d14_41 (pc := 41) (pc' := 3) (o_iload X45 hq d14_3 rfl (o_iload X45 hq d14_5 rfl (o_icmpN X45 hq d14_7 (by decide +kernel) (o_aloadN X45 hq d14_10 rfl rfl ?_)))))))))))))))))))))))))))))))))))))))
  refine o_iloadN X45 hq d14_11 rfl (o_caload X45 hq d14_12 hZ e45 f46 (i := 6) (v := .int p9) (by decide +kernel) rfl (o_istore X45 hq d14_13 rfl (o_iload X45 hq d14_15 rfl (o_sipush X45 hq d14_17 (x := 255) rfl (o_icmpY X45 hq d14_20 (pc := 20) (pc' := 26) (flt hk48).2.2.2 (o_aloadN X45 hq d14_26 rfl rfl (o_iloadN X45 hq d14_27 rfl (o_iload X45 hq d14_28 rfl (o_i2b X45 hq d14_30 (z := i49) hi49.symm (st50 _ (o_iinc X50 hq d14_32 rfl (z := 7) (k' := 1) rfl (by decide +kernel) rfl (o_iinc X50 hq d14_35 rfl (z := 7) (k' := 1) rfl (by decide +kernel) rfl (o_iinc X50 hq d14_38 rfl (z := 7) (k' := 1) rfl (by decide +kernel) rfl (o_goto X50 hq d14_41 (pc := 41) (pc' := 3) (o_iload X50 hq d14_3 rfl (o_iload X50 hq d14_5 rfl (o_icmpN X50 hq d14_7 (by decide +kernel) (o_aloadN X50 hq d14_10 rfl rfl (o_iloadN X50 hq d14_11 rfl (o_caload X50 hq d14_12 hZ e50 f51 (i := 7) (v := .int p10) (by decide +kernel) rfl (o_istore X50 hq d14_13 rfl (o_iload X50 hq d14_15 rfl (o_sipush X50 hq d14_17 (x := 255) rfl (o_icmpY X50 hq d14_20 (pc := 20) (pc' := 26) (flt hk53).2.2.2 (o_aloadN X50 hq d14_26 rfl rfl (o_iloadN X50 hq d14_27 rfl (o_iload X50 hq d14_28 rfl (o_i2b X50 hq d14_30 (z := i54) hi54.symm (st55 _ (o_iinc X55 hq d14_32 rfl (z := 8) (k' := 1) rfl (by decide +kernel) rfl (o_iinc X55 hq d14_35 rfl (z := 8) (k' := 1) rfl (by decide +kernel) rfl (o_iinc X55 hq d14_38 rfl (z := 8) (k' := 1) rfl (by decide +kernel) rfl (o_goto X55 hq d14_41 (pc := 41) (pc' := 3) (o_iload X55 hq d14_3 rfl (o_iload X55 hq d14_5 rfl (o_icmpY X55 hq d14_7 (pc := 7) (pc' := 44) (by decide +kernel) (o_iload X55 hq d14_44 rfl ?_)))))))))))))))))))))))))))))))))))))
  exact retI X55 hx hret (hb hby d14_46) hr
 ·
  exact ⟨i15, i24, i29, i34, i39, i44, i49, i54, hi15, hi24, hi29, hi34, hi39, hi44, hi49, hi54, rfl, N55, (((((((((Keep.refl h0 [a2]).wr W18 (Or.inl (List.mem_of_getElem? (i := 0) rfl))).wr W25 (Or.inl (List.mem_of_getElem? (i := 0) rfl))).wr W30 (Or.inl (List.mem_of_getElem? (i := 0) rfl))).wr W35 (Or.inl (List.mem_of_getElem? (i := 0) rfl))).wr W40 (Or.inl (List.mem_of_getElem? (i := 0) rfl))).wr W45 (Or.inl (List.mem_of_getElem? (i := 0) rfl))).wr W50 (Or.inl (List.mem_of_getElem? (i := 0) rfl))).wr W55 (Or.inl (List.mem_of_getElem? (i := 0) rfl))), f56, V55⟩
def Q13_85 (Z : State) (a1 : Addr) (p3 p4 : Int32) (p5 p6 : Int32) (p7 p8 : Int32) (p9 p10 : Int32) (k11 : ClassId) (h0 : Heap) (n0 : Nat) (v : Option Value) (h : Heap) (L : List Loc) : Prop := (∃ (i23 i24 : Int32) (i25 i26 : Int32) (i27 i28 : Int32) (i29 i30 : Int32) (b2 : Addr) (k2 : ClassId), i23 = (p3.toInt8.toInt32) ∧ i24 = (p4.toInt8.toInt32) ∧ i25 = (p5.toInt8.toInt32) ∧ i26 = (p6.toInt8.toInt32) ∧ i27 = (p7.toInt8.toInt32) ∧ i28 = (p8.toInt8.toInt32) ∧ i29 = (p9.toInt8.toInt32) ∧ i30 = (p10.toInt8.toInt32) ∧ v = some (.ref b2) ∧ Fr n0 L ∧ h0.size ≤ b2 ∧ b2 < h.size ∧ Keep h0 h [] ∧ Exa Z h b2 "[B" ∧ Arv Z h b2 k2 .byte 8 [(.int i23), (.int i24), (.int i25), (.int i26), (.int i27), (.int i28), (.int i29), (.int i30)] (.int 0))
theorem rm13_85 (l : Launch) (Z : State) (a0 : Array Value) (hw : own_HW Z a0) (a1 : Addr) (p3 p4 : Int32) (p5 p6 : Int32) (p7 p8 : Int32) (p9 p10 : Int32) (k11 : ClassId) (h0 : Heap) (n0 : Nat) (O0 : Old Z n0 h0) (V12 : Arv Z h0 a1 k11 .char 8 [(.int p3), (.int p4), (.int p5), (.int p6), (.int p7), (.int p8), (.int p9), (.int p10)] (.int 0)) (hk13 : ¬ (255 < p3)) (lt_a1 : a1 < h0.size) (hk14 : ¬ (255 < p4)) (hk15 : ¬ (255 < p5)) (hk16 : ¬ (255 < p6)) (hk17 : ¬ (255 < p7)) (hk18 : ¬ (255 < p8)) (hk19 : ¬ (255 < p9)) (hk20 : ¬ (255 < p10)) : own_Met l Z M_9 bc13 6 (some (.array .byte)) ({ frames := 1, cells := 1, slots := 8, locals := 18 } : Room) #[(.ref a1), (.int 0), (.int 8)] h0 (Q13_85 Z a1 p3 p4 p5 p6 p7 p8 p9 p10 k11 h0 n0) := by
 refine own_body (L0 := #[vR a1, vI 0, vI 8, .unset, .unset, .unset]) (plainFor_of_name pn_4) (fun m => by first | (simp [entryFrame, mkF, argsToLocals, Value.category]; done) | rfl) fun p e s m below meth c s₁ EN hx hby hml hown hnm hret X0 hZ e0 hh pre0 fin => ?_
 have N0 := Fr.nil n0
 have hq := And.intro hx hby
 obtain ⟨T2, h2, k2, X2, e2, E2, A2, Ex2, st2⟩ := newPE (aty := .byte) X0 hx hZ (ww6 hw) e0 (g := (mkF m 1 #[vR a1, vI 0, vI 8, .unset, .unset, .unset] [(.int 8)])) rfl (hb hby d13_1) rfl (by decide +kernel) (cap := 8) (by decide +kernel) (by decide) (by decide) (by decide) (ad := "[B") (by decide +kernel)
 obtain ⟨b2, g2⟩ : ∃ z, z = h0.size := ⟨_, rfl⟩
 rw [← g2] at A2 Ex2 st2
 have O2 := O0.ext E2
 have bd_b2 : h0.size ≤ b2 := Nat.le_of_eq g2.symm
 have g_b2 : n0 ≤ b2 := Nat.le_trans (own_z O0) bd_b2
 have sz_b2 : h0.size ≤ b2 := Nat.le_trans (Nat.le_refl _) bd_b2
 have lt_b2 : b2 < h2.size := A2.lt
 have V2 : Arv Z h2 b2 k2 .byte 8 [] (.int 0) := Arv.new A2 (by decide +kernel)
 have f21 := (V12.ext E2)
 obtain ⟨_, T22, L22, X22, hQ22, st22⟩ := own_cS X2 hx hZ hown (ww70 hw) (ww71 hw) (ww68 hw) (ww72 hw) (rm14_86 l Z a0 hw a1 b2 p3 p4 p5 p6 p7 p8 p9 p10 k11 k2 h2 n0 O2 f21 hk13 V2 g_b2 Ex2 (own_n lt_a1 bd_b2) hk14 hk15 hk16 hk17 hk18 hk19 hk20) e2 pd_8 hml (hb hby d13_9) (Ls := #[vR a1, vI 0, vI 8, vR b2, .unset, .unset]) (W := 0) (argsL := [(.ref a1), (.int 0), (.ref b2), (.int 0), (.int 8)]) (rest := [])
 obtain ⟨i23, i24, i25, i26, i27, i28, i29, i30, u31, u32, u33, u34, u35, u36, u37, u38, rfl, u40, Ku41, u42, u43⟩ := hQ22
 have N22 := Fr.app N0 u40
 refine fin (some (.ref b2)) _ _ _ _ X22 nofun (fun fs hr => pre0 _ ?_) ?_ (by decide) (by decide)
 ·
  refine o_iloadN X0 hq d13_0 rfl (st2 _ (o_astoreN X2 hq d13_3 rfl rfl (o_aloadN X2 hq d13_4 rfl rfl (o_iloadN X2 hq d13_5 rfl (o_aloadN X2 hq d13_6 rfl rfl (o_iconst X2 hq d13_7 (x := 0) rfl (o_iloadN X2 hq d13_8 rfl (st22 _ (o_istore X22 hq d13_12 rfl (o_iload X22 hq d13_14 rfl (o_iloadN X22 hq d13_16 rfl (o_icmpY X22 hq d13_17 (pc := 17) (pc' := 57) (by decide +kernel) (o_aloadN X22 hq d13_57 rfl rfl ?_)))))))))))))
  show Steps p.tables e below (T22.setTop (mkF m 58 #[vR a1, vI 0, vI 8, vR b2, vI 8, .unset] [(.ref b2)])) _
  jvm_step X22.here [X22.here.top, hx, (hb hby d13_58), X22.method', hret, Value.isRef, FieldType.isReference]
  first | (intro acts; rw [hr _ acts rfl rfl rfl]) | rw [hr _ _ rfl rfl rfl]
  exact Steps.refl _
 ·
  exact ⟨i23, i24, i25, i26, i27, i28, i29, i30, b2, k2, u31, u32, u33, u34, u35, u36, u37, u38, rfl, N22, sz_b2, (own_t lt_b2 Ku41.1), (((Keep.refl h0 []).ext E2).trans Ku41 (allS (Or.inr sz_b2) all0)), u42, u43⟩
def Q15_87 (Z : State) (a1 : Addr) (p2 p3 : Int32) (p4 p5 : Int32) (p6 p7 : Int32) (p8 p9 : Int32) (k10 : ClassId) (h0 : Heap) (n0 : Nat) (v : Option Value) (h : Heap) (L : List Loc) : Prop := (v = some (.int 0) ∧ Fr n0 L ∧ h = h0)
theorem rm15_87 (l : Launch) (Z : State) (a0 : Array Value) (hw : own_HW Z a0) (a1 : Addr) (p2 p3 : Int32) (p4 p5 : Int32) (p6 p7 : Int32) (p8 p9 : Int32) (k10 : ClassId) (h0 : Heap) (n0 : Nat) (O0 : Old Z n0 h0) (V11 : Arv Z h0 a1 k10 .byte 8 [(.int p2), (.int p3), (.int p4), (.int p5), (.int p6), (.int p7), (.int p8), (.int p9)] (.int 0)) : own_Met l Z M_10 bc15 2 (some .byte) ({ frames := 0, cells := 0, slots := 0, locals := 0 } : Room) #[(.ref a1), (.int 8)] h0 (Q15_87 Z a1 p2 p3 p4 p5 p6 p7 p8 p9 k10 h0 n0) := by
 refine own_body (L0 := #[vR a1, vI 8]) (plainFor_of_name pn_4) (fun m => by first | (simp [entryFrame, mkF, argsToLocals, Value.category]; done) | rfl) fun p e s m below meth c s₁ EN hx hby hml hown hnm hret X0 hZ e0 hh pre0 fin => ?_
 have N0 := Fr.nil n0
 have hq := And.intro hx hby
 refine fin (some (.int 0)) _ _ _ _ X0 nofun (fun fs hr => pre0 _ ?_) (own_atH e0 ?_) (by decide) (by decide)
 ·
  refine o_iloadN X0 hq d15_0 rfl (o_aloadN X0 hq d15_1 rfl rfl (o_alen X0 hq d15_2 hZ e0 V11 (o_isub X0 hq d15_3 (z := 0) (by decide +kernel) (o_bipush X0 hq d15_4 (x := 31) rfl (o_iushr X0 hq d15_6 (z := 0) (by decide +kernel) (o_i2b X0 hq d15_7 (z := 0) (by decide +kernel) ?_))))))
  exact retN X0 hx (t := .byte) hret (by simp) (hb hby d15_8) hr
 ·
  exact ⟨rfl, N0, rfl⟩
def Q11_84 (Z : State) (a1 a2 : Addr) (p4 p8 : Int32) (p9 p10 : Int32) (p11 p12 : Int32) (p13 p14 p15 : Int32) (k16 : ClassId) (h0 : Heap) (n0 : Nat) (v : Option Value) (h : Heap) (L : List Loc) : Prop := (∃ (i27 i28 : Int32) (i29 i30 : Int32) (i31 i32 : Int32) (i33 i34 : Int32) (b35 : Addr) (k36 : ClassId), i27 = (p8.toInt8.toInt32) ∧ i28 = (p9.toInt8.toInt32) ∧ i29 = (p10.toInt8.toInt32) ∧ i30 = (p11.toInt8.toInt32) ∧ i31 = (p12.toInt8.toInt32) ∧ i32 = (p13.toInt8.toInt32) ∧ i33 = (p14.toInt8.toInt32) ∧ i34 = (p15.toInt8.toInt32) ∧ v = none ∧ Fr n0 L ∧ h0.size ≤ b35 ∧ b35 < h.size ∧ Keep h0 h [a1] ∧ Exa Z h a1 C_2 ∧ Fld Z h a1 C_2 "coder" "B" (.int 0) ∧ Fld Z h a1 C_2 "value" "[B" (.ref b35) ∧ Exa Z h b35 "[B" ∧ Arv Z h b35 k36 .byte 8 [(.int i27), (.int i28), (.int i29), (.int i30), (.int i31), (.int i32), (.int i33), (.int i34)] (.int 0))
theorem rm11_84 (l : Launch) (Z : State) (a0 : Array Value) (hw : own_HW Z a0) (a1 a2 : Addr) (p4 p8 : Int32) (p9 p10 : Int32) (p11 p12 : Int32) (p13 p14 p15 : Int32) (k16 : ClassId) (h0 : Heap) (n0 : Nat) (O0 : Old Z n0 h0) (S_5 : Sta Z Z.heap C_2 "COMPACT_STRINGS" "Z" (.int p4)) (hk7 : ¬ (p4 = 0)) (V17 : Arv Z h0 a2 k16 .char 8 [(.int p8), (.int p9), (.int p10), (.int p11), (.int p12), (.int p13), (.int p14), (.int p15)] (.int 0)) (hk18 : ¬ (255 < p8)) (hk19 : ¬ (255 < p9)) (hk20 : ¬ (255 < p10)) (hk21 : ¬ (255 < p11)) (hk22 : ¬ (255 < p12)) (hk23 : ¬ (255 < p13)) (hk24 : ¬ (255 < p14)) (hk25 : ¬ (255 < p15)) (lt_a2 : a2 < h0.size) (E_56 : Exa Z h0 a1 C_2) (F57 : Fld Z h0 a1 C_2 "coder" "B" (.int 0)) (F58 : Fld Z h0 a1 C_2 "value" "[B" .null) (g_a1 : n0 ≤ a1) (lt_a1 : a1 < h0.size) : own_Met l Z M_11 bc11 6 none ({ frames := 2, cells := 1, slots := 8, locals := 35 } : Room) #[(.ref a1), (.ref a2), (.int 0), (.int 8), .null] h0 (Q11_84 Z a1 a2 p4 p8 p9 p10 p11 p12 p13 p14 p15 k16 h0 n0) := by
 refine own_body (L0 := #[vR a1, vR a2, vI 0, vI 8, vN, .unset]) (plainFor_of_name pn_0) (fun m => by first | (simp [entryFrame, mkF, argsToLocals, Value.category]; done) | rfl) fun p e s m below meth c s₁ EN hx hby hml hown hnm hret X0 hZ e0 hh pre0 fin => ?_
 have N0 := Fr.nil n0
 have hq := And.intro hx hby
 obtain ⟨T3, X3, e3, st3⟩ := initO X0 hx hZ hown (ww63 hw) (ww64 hw) (ww65 hw) e0 (g := (mkF m 1 #[vR a1, vR a2, vI 0, vI 8, vN, .unset] [(.ref a1)])) rfl (by rw [hml]; rfl) rfl (hb hby d11_1) (by decide) (W := 0) (by show 2 * 0 + _ ≤ _; exact Nat.le_of_eq rfl) (by decide)
 obtain ⟨T6, X6, e6, st6⟩ := getS2 X3 hx hZ hown (host := "") (Or.inl (ww22 hw)) Via.refl e3 (Sta.ext O0.2 S_5) (g := (mkF m 27 #[vR a1, vR a2, vI 0, vI 8, vN, .unset] [])) rfl (hb hby d11_27)
 obtain ⟨_, T26, L26, X26, hQ26, st26⟩ := own_cS X6 hx hZ hown (ww66 hw) (ww67 hw) (ww68 hw) (ww69 hw) (rm13_85 l Z a0 hw a2 p8 p9 p10 p11 p12 p13 p14 p15 k16 h0 n0 O0 V17 hk18 lt_a2 hk19 hk20 hk21 hk22 hk23 hk24 hk25) e6 pd_9 hml (hb hby d11_36) (Ls := #[vR a1, vR a2, vI 0, vI 8, vN, .unset]) (W := 0) (argsL := [(.ref a2), (.int 0), (.int 8)]) (rest := [])
 obtain ⟨i27, i28, i29, i30, i31, i32, i33, i34, b35, k36, u37, u38, u39, u40, u41, u42, u43, u44, rfl, u46, u47, u48, Ku49, u50, u51⟩ := hQ26
 have Ou49 := O0.keep Ku49 all0
 have sz_b35 : h0.size ≤ b35 := Nat.le_trans (Nat.le_refl _) u47
 have N26 := Fr.app N0 u46
 obtain ⟨_, T52, L52, X52, hQ52, st52⟩ := own_cS X26 hx hZ hown (ww73 hw) (ww74 hw) (ww68 hw) (ww75 hw) (rm15_87 l Z a0 hw b35 i27 i28 i29 i30 i31 i32 i33 i34 k36 T26.heap n0 Ou49 u51) rfl pd_10 hml (hb hby d11_45) (Ls := #[vR a1, vR a2, vI 0, vI 8, vN, vR b35]) (W := 1) (argsL := [(.ref b35), (.int 8)]) (rest := [(.ref a1)])
 obtain ⟨rfl, u54, u55⟩ := hQ52
 have N52 := Fr.app N26 u54
 have f59 := (F57.keep Ku49 nin0)
 have f60 := (E_56.keep Ku49)
 obtain ⟨T61, h61, X61, e61, W61, st61⟩ := putFN X52 hx hZ hown (ww23 hw) Via.refl u55 f59 f60 (Or.inr ⟨(ww8 hw), rfl, hnm⟩) (ww5 hw) (ty := .byte) (v' := (.int 0)) (by decide) (by exact congrArg Value.int (by decide +kernel : (nar .byte (0 : Int32)) = (0 : Int32))) ((by decide +kernel : (nar .byte (0 : Int32)) = (0 : Int32)) ▸ fits_nar_byte _) (g := (mkF m 48 #[vR a1, vR a2, vI 0, vI 8, vN, vR b35] [(.int 0), (.ref a1)])) rfl rfl (hb hby d11_48)
 have Fw61 : Fld Z h61 a1 C_2 "coder" "B" (.int 0) := Fld.same W61 f59
 have N61 := Fr.snoc X61 N52 g_a1
 have f62 := (Fld.other W61 (F58.keep Ku49 nin0) (Or.inr (own_sl0 hw)))
 have f63 := (Exa.wr W61 f60)
 obtain ⟨T64, h64, X64, e64, W64, st64⟩ := putF X61 hx hZ hown (host := "") (Or.inl (ww16 hw)) Via.refl e61 f62 f63 (Or.inr ⟨(ww7 hw), rfl, hnm⟩) (ww5 hw) (ty := (.array .byte)) (by decide) rfl rfl (g := (mkF m 54 #[vR a1, vR a2, vI 0, vI 8, vN, vR b35] [(.ref b35), (.ref a1)])) rfl rfl (hb hby d11_54)
 have Fw64 : Fld Z h64 a1 C_2 "value" "[B" (.ref b35) := Fld.same W64 f62
 have N64 := Fr.snoc X64 N61 g_a1
 have f65 := (Exa.wr W64 f63)
 have f66 := (Fld.other W64 Fw61 (Or.inr (own_sl1 hw)))
 have f67 := (Exa.wr W64 (Exa.wr W61 u50))
 have f68 := ((u51.other W61 (Ne.symm (own_n lt_a1 u47))).other W64 (Ne.symm (own_n lt_a1 u47)))
 refine fin none _ _ _ _ X64 (fun _ => rfl) (fun fs hr => pre0 _ ?_) (own_atH e64 ?_) (by decide) (by decide)
 ·
  refine o_aloadN X0 hq d11_0 rfl rfl (st3 _ (o_iloadN X3 hq d11_4 rfl (o_ifY X3 hq d11_5 (pc := 5) (pc' := 27) (by decide +kernel) (st6 _ (o_ifN X6 hq d11_30 ((if0 _ _).trans (feq hk7).1) (o_aloadN X6 hq d11_33 rfl rfl (o_iloadN X6 hq d11_34 rfl (o_iloadN X6 hq d11_35 rfl (st26 _ (o_astore X26 hq d11_39 rfl rfl (o_aloadN X26 hq d11_41 rfl rfl (o_aload X26 hq d11_42 rfl rfl (o_iloadN X26 hq d11_44 rfl (st52 _ (st61 _ (o_aloadN X61 hq d11_51 rfl rfl (o_aload X61 hq d11_52 rfl rfl (st64 _ ?_))))))))))))))))))
  exact X64.returnOut hx hret (hb hby d11_57) hr
 ·
  exact ⟨i27, i28, i29, i30, i31, i32, i33, i34, b35, k36, u37, u38, u39, u40, u41, u42, u43, u44, rfl, N64, sz_b35, (own_t (own_t u48 (Keep.of_wr W61).1) (Keep.of_wr W64).1), ((((Keep.refl h0 [a1]).trans Ku49 all0).wr W61 (Or.inl (List.mem_of_getElem? (i := 0) rfl))).wr W64 (Or.inl (List.mem_of_getElem? (i := 0) rfl))), f65, f66, Fw64, f67, f68⟩
def Q10_83 (Z : State) (a1 a2 : Addr) (p3 p4 : Int32) (p5 p6 : Int32) (p7 p8 : Int32) (p9 p10 : Int32) (k11 : ClassId) (p13 : Int32) (h0 : Heap) (n0 : Nat) (v : Option Value) (h : Heap) (L : List Loc) : Prop := (∃ (i28 i29 : Int32) (i30 i31 : Int32) (i32 i33 : Int32) (i34 i35 : Int32) (b36 : Addr) (k37 : ClassId), i28 = (p3.toInt8.toInt32) ∧ i29 = (p4.toInt8.toInt32) ∧ i30 = (p5.toInt8.toInt32) ∧ i31 = (p6.toInt8.toInt32) ∧ i32 = (p7.toInt8.toInt32) ∧ i33 = (p8.toInt8.toInt32) ∧ i34 = (p9.toInt8.toInt32) ∧ i35 = (p10.toInt8.toInt32) ∧ v = none ∧ Fr n0 L ∧ h0.size ≤ b36 ∧ b36 < h.size ∧ Keep h0 h [a1] ∧ Exa Z h a1 C_2 ∧ Fld Z h a1 C_2 "coder" "B" (.int 0) ∧ Fld Z h a1 C_2 "value" "[B" (.ref b36) ∧ Exa Z h b36 "[B" ∧ Arv Z h b36 k37 .byte 8 [(.int i28), (.int i29), (.int i30), (.int i31), (.int i32), (.int i33), (.int i34), (.int i35)] (.int 0))
theorem rm10_83 (l : Launch) (Z : State) (a0 : Array Value) (hw : own_HW Z a0) (a1 a2 : Addr) (p3 p4 : Int32) (p5 p6 : Int32) (p7 p8 : Int32) (p9 p10 : Int32) (k11 : ClassId) (p13 : Int32) (h0 : Heap) (n0 : Nat) (O0 : Old Z n0 h0) (V12 : Arv Z h0 a2 k11 .char 8 [(.int p3), (.int p4), (.int p5), (.int p6), (.int p7), (.int p8), (.int p9), (.int p10)] (.int 0)) (S_14 : Sta Z Z.heap C_2 "COMPACT_STRINGS" "Z" (.int p13)) (hk15 : ¬ (p13 = 0)) (hk16 : ¬ (255 < p3)) (hk17 : ¬ (255 < p4)) (hk18 : ¬ (255 < p5)) (hk19 : ¬ (255 < p6)) (hk20 : ¬ (255 < p7)) (hk21 : ¬ (255 < p8)) (hk22 : ¬ (255 < p9)) (hk23 : ¬ (255 < p10)) (E_24 : Exa Z h0 a1 C_2) (F25 : Fld Z h0 a1 C_2 "coder" "B" (.int 0)) (F26 : Fld Z h0 a1 C_2 "value" "[B" .null) (lt_a2 : a2 < h0.size) (g_a1 : n0 ≤ a1) (lt_a1 : a1 < h0.size) : own_Met l Z M_12 bc10 2 none ({ frames := 3, cells := 1, slots := 8, locals := 52 } : Room) #[(.ref a1), (.ref a2)] h0 (Q10_83 Z a1 a2 p3 p4 p5 p6 p7 p8 p9 p10 k11 p13 h0 n0) := by
 refine own_body (L0 := #[vR a1, vR a2]) (plainFor_of_name pn_0) (fun m => by first | (simp [entryFrame, mkF, argsToLocals, Value.category]; done) | rfl) fun p e s m below meth c s₁ EN hx hby hml hown hnm hret X0 hZ e0 hh pre0 fin => ?_
 have N0 := Fr.nil n0
 have hq := And.intro hx hby
 obtain ⟨_, T27, L27, X27, hQ27, st27⟩ := own_cI X0 hx hZ hown (ww59 hw) (ww60 hw) (ww4 hw) (ww62 hw) (rm11_84 l Z a0 hw a1 a2 p13 p3 p4 p5 p6 p7 p8 p9 p10 k11 h0 n0 O0 S_14 hk15 V12 hk16 hk17 hk18 hk19 hk20 hk21 hk22 hk23 lt_a2 E_24 F25 F26 g_a1 lt_a1) e0 pd_11 hml (hb hby d10_6) (Ls := #[vR a1, vR a2]) (W := 0) (argsL := [(.ref a2), (.int 0), (.int 8), .null]) (rest := []) (b := a1)
 obtain ⟨i28, i29, i30, i31, i32, i33, i34, i35, b36, k37, u38, u39, u40, u41, u42, u43, u44, u45, rfl, u47, u48, u49, Ku50, u51, u52, u53, u54, u55⟩ := hQ27
 have sz_b36 : h0.size ≤ b36 := Nat.le_trans (Nat.le_refl _) u48
 have N27 := Fr.app N0 u47
 refine fin none _ _ _ _ X27 (fun _ => rfl) (fun fs hr => pre0 _ ?_) ?_ (by decide) (by decide)
 ·
  refine o_aloadN X0 hq d10_0 rfl rfl (o_aloadN X0 hq d10_1 rfl rfl (o_iconst X0 hq d10_2 (x := 0) rfl (o_aloadN X0 hq d10_3 rfl rfl (o_alen X0 hq d10_4 hZ e0 V12 (o_null X0 hq d10_5 (st27 _ ?_))))))
  exact X27.returnOut hx hret (hb hby d10_9) hr
 ·
  exact ⟨i28, i29, i30, i31, i32, i33, i34, i35, b36, k37, u38, u39, u40, u41, u42, u43, u44, u45, rfl, N27, sz_b36, u49, ((Keep.refl h0 [a1]).trans Ku50 (allS (Or.inl (List.mem_of_getElem? (i := 0) rfl)) all0)), u51, u52, u53, u54, u55⟩
def Q9_82 (Z : State) (a1 : Addr) (p4 p5 : Int32) (p6 p7 : Int32) (p8 p9 : Int32) (p10 p11 : Int32) (k12 : ClassId) (p54 : Int32) (h0 : Heap) (n0 : Nat) (v : Option Value) (h : Heap) (L : List Loc) : Prop := (∃ (i63 i64 : Int32) (i65 i66 : Int32) (i67 i68 : Int32) (i69 i70 : Int32) (b2 b71 : Addr) (k72 : ClassId), i63 = (p4.toInt8.toInt32) ∧ i64 = (p5.toInt8.toInt32) ∧ i65 = (p6.toInt8.toInt32) ∧ i66 = (p7.toInt8.toInt32) ∧ i67 = (p8.toInt8.toInt32) ∧ i68 = (p9.toInt8.toInt32) ∧ i69 = (p10.toInt8.toInt32) ∧ i70 = (p11.toInt8.toInt32) ∧ v = some (.ref b2) ∧ Fr n0 L ∧ h0.size ≤ b2 ∧ b2 < h.size ∧ h0.size ≤ b71 ∧ b71 < h.size ∧ b2 ≠ b71 ∧ Keep h0 h [] ∧ Exa Z h b2 C_2 ∧ Fld Z h b2 C_2 "coder" "B" (.int 0) ∧ Fld Z h b2 C_2 "value" "[B" (.ref b71) ∧ Exa Z h b71 "[B" ∧ Arv Z h b71 k72 .byte 8 [(.int i63), (.int i64), (.int i65), (.int i66), (.int i67), (.int i68), (.int i69), (.int i70)] (.int 0))
theorem rm9_82 (l : Launch) (Z : State) (a0 : Array Value) (hw : own_HW Z a0) (a1 : Addr) (p4 p5 : Int32) (p6 p7 : Int32) (p8 p9 : Int32) (p10 p11 : Int32) (k12 : ClassId) (p54 : Int32) (h0 : Heap) (n0 : Nat) (O0 : Old Z n0 h0) (V13 : Arv Z h0 a1 k12 .char 8 [(.int p4), (.int p5), (.int p6), (.int p7), (.int p8), (.int p9), (.int p10), (.int p11)] (.int 0)) (hk16 : ¬ (255 < p4)) (hk17 : ¬ (p4 < 0)) (lt_a1 : a1 < h0.size) (hk21 : ¬ (255 < p5)) (hk22 : ¬ (p5 < 0)) (hk26 : ¬ (255 < p6)) (hk27 : ¬ (p6 < 0)) (hk31 : ¬ (255 < p7)) (hk32 : ¬ (p7 < 0)) (hk36 : ¬ (255 < p8)) (hk37 : ¬ (p8 < 0)) (hk41 : ¬ (255 < p9)) (hk42 : ¬ (p9 < 0)) (hk46 : ¬ (255 < p10)) (hk47 : ¬ (p10 < 0)) (hk51 : ¬ (255 < p11)) (hk52 : ¬ (p11 < 0)) (S_55 : Sta Z Z.heap C_2 "COMPACT_STRINGS" "Z" (.int p54)) (hk56 : ¬ (p54 = 0)) : own_Met l Z M_13 bc9 2 (some (.object "java/lang/String")) ({ frames := 4, cells := 3, slots := 20, locals := 66 } : Room) #[(.ref a1), (.int 8)] h0 (Q9_82 Z a1 p4 p5 p6 p7 p8 p9 p10 p11 k12 p54 h0 n0) := by
 refine own_body (L0 := #[vR a1, vI 8]) (plainFor_of_name pn_3) (fun m => by first | (simp [entryFrame, mkF, argsToLocals, Value.category]; done) | rfl) fun p e s m below meth c s₁ EN hx hby hml hown hnm hret X0 hZ e0 hh pre0 fin => ?_
 have N0 := Fr.nil n0
 have hq := And.intro hx hby
 obtain ⟨T2, h2, X2, e2, E2, A2, D2, -, st2⟩ := newO X0 hx hZ hown (ww55 hw) (ww5 hw) (ww4 hw) e0 (g := (mkF m 301 #[vR a1, vI 8] [])) rfl (hb hby d9_301) (by decide) (by decide)
 obtain ⟨b2, g2⟩ : ∃ z, z = h0.size := ⟨_, rfl⟩
 rw [← g2] at A2 D2 st2
 have O2 := O0.ext E2
 have bd_b2 : h0.size ≤ b2 := Nat.le_of_eq g2.symm
 have g_b2 : n0 ≤ b2 := Nat.le_trans (own_z O0) bd_b2
 have sz_b2 : h0.size ≤ b2 := Nat.le_trans (Nat.le_refl _) bd_b2
 have lt_b2 : b2 < h2.size := A2.lt
 have D2_7 : Fld Z h2 b2 C_2 "value" "[B" .null := D2 (Or.inr (ww7 hw)) (ty := (.array .byte)) (by decide)
 have D2_8 : Fld Z h2 b2 C_2 "coder" "B" (.int 0) := D2 (Or.inr (ww8 hw)) (ty := .byte) (by decide)
 obtain ⟨T3, h3, k3, X3, e3, E3, A3, Ex3, st3⟩ := newPE (aty := .char) X2 hx hZ (ww24 hw) e2 (g := (mkF m 307 #[vR a1, vI 8] [(.int 8), (.ref b2), (.ref b2)])) rfl (hb hby d9_307) rfl (by decide +kernel) (cap := 8) (by decide +kernel) (by decide) (by decide) (by decide) (ad := "[C") (by decide +kernel)
 obtain ⟨b3, g3⟩ : ∃ z, z = h2.size := ⟨_, rfl⟩
 rw [← g3] at A3 Ex3 st3
 have O3 := O2.ext E3
 have bd_b3 : h2.size ≤ b3 := Nat.le_of_eq g3.symm
 have g_b3 : n0 ≤ b3 := Nat.le_trans (own_z O2) bd_b3
 have sz_b3 : h0.size ≤ b3 := Nat.le_trans E2.1 bd_b3
 have lt_b3 : b3 < h3.size := A3.lt
 have V3 : Arv Z h3 b3 k3 .char 8 [] (.int 0) := Arv.new A3 (by decide +kernel)
 have f14 := ((V13.ext E2).ext E3)
 obtain ⟨T18, h18, X18, e18, W18, V18, st18⟩ := own_stC X3 hx hZ e3 V3 1 0 p4 p4 0 (own_ncR hk16 hk17) (hb hby d9_314) #[vR a1, vI 8] [(.ref b3), (.ref b2), (.ref b2)] (vs2 := [(.int p4)])
 have O18 := O3.wr W18 g_b3
 have N18 := Fr.snoc X18 N0 g_b3
 have f19 := (f14.other W18 (own_n (own_t lt_a1 E2.1) bd_b3))
 obtain ⟨T23, h23, X23, e23, W23, V23, st23⟩ := own_stC X18 hx hZ e18 V18 1 1 p5 p5 1 (own_ncR hk21 hk22) (hb hby d9_320) #[vR a1, vI 8] [(.ref b3), (.ref b2), (.ref b2)] (vs2 := [(.int p4), (.int p5)])
 have O23 := O18.wr W23 g_b3
 have N23 := Fr.snoc X23 N18 g_b3
 have f24 := (f19.other W23 (own_n (own_t lt_a1 E2.1) bd_b3))
 obtain ⟨T28, h28, X28, e28, W28, V28, st28⟩ := own_stC X23 hx hZ e23 V23 1 2 p6 p6 2 (own_ncR hk26 hk27) (hb hby d9_326) #[vR a1, vI 8] [(.ref b3), (.ref b2), (.ref b2)] (vs2 := [(.int p4), (.int p5), (.int p6)])
 have O28 := O23.wr W28 g_b3
 have N28 := Fr.snoc X28 N23 g_b3
 have f29 := (f24.other W28 (own_n (own_t lt_a1 E2.1) bd_b3))
 obtain ⟨T33, h33, X33, e33, W33, V33, st33⟩ := own_stC X28 hx hZ e28 V28 1 3 p7 p7 3 (own_ncR hk31 hk32) (hb hby d9_332) #[vR a1, vI 8] [(.ref b3), (.ref b2), (.ref b2)] (vs2 := [(.int p4), (.int p5), (.int p6), (.int p7)])
 have O33 := O28.wr W33 g_b3
 have N33 := Fr.snoc X33 N28 g_b3
 have f34 := (f29.other W33 (own_n (own_t lt_a1 E2.1) bd_b3))
 obtain ⟨T38, h38, X38, e38, W38, V38, st38⟩ := own_stC X33 hx hZ e33 V33 1 4 p8 p8 4 (own_ncR hk36 hk37) (hb hby d9_338) #[vR a1, vI 8] [(.ref b3), (.ref b2), (.ref b2)] (vs2 := [(.int p4), (.int p5), (.int p6), (.int p7), (.int p8)])
 have O38 := O33.wr W38 g_b3
 have N38 := Fr.snoc X38 N33 g_b3
 have f39 := (f34.other W38 (own_n (own_t lt_a1 E2.1) bd_b3))
 obtain ⟨T43, h43, X43, e43, W43, V43, st43⟩ := own_stC X38 hx hZ e38 V38 1 5 p9 p9 5 (own_ncR hk41 hk42) (hb hby d9_344) #[vR a1, vI 8] [(.ref b3), (.ref b2), (.ref b2)] (vs2 := [(.int p4), (.int p5), (.int p6), (.int p7), (.int p8), (.int p9)])
 have O43 := O38.wr W43 g_b3
 have N43 := Fr.snoc X43 N38 g_b3
 have f44 := (f39.other W43 (own_n (own_t lt_a1 E2.1) bd_b3))
 obtain ⟨T48, h48, X48, e48, W48, V48, st48⟩ := own_stC X43 hx hZ e43 V43 1 6 p10 p10 6 (own_ncR hk46 hk47) (hb hby d9_352) #[vR a1, vI 8] [(.ref b3), (.ref b2), (.ref b2)] (vs2 := [(.int p4), (.int p5), (.int p6), (.int p7), (.int p8), (.int p9), (.int p10)])
 have O48 := O43.wr W48 g_b3
 have N48 := Fr.snoc X48 N43 g_b3
 have f49 := (f44.other W48 (own_n (own_t lt_a1 E2.1) bd_b3))
 obtain ⟨T53, h53, X53, e53, W53, V53, st53⟩ := own_stC X48 hx hZ e48 V48 1 7 p11 p11 7 (own_ncR hk51 hk52) (hb hby d9_360) #[vR a1, vI 8] [(.ref b3), (.ref b2), (.ref b2)] (vs2 := [(.int p4), (.int p5), (.int p6), (.int p7), (.int p8), (.int p9), (.int p10), (.int p11)])
 have O53 := O48.wr W53 g_b3
 have N53 := Fr.snoc X53 N48 g_b3
 have lt57 : b3 < h53.size := (own_t (own_t (own_t (own_t (own_t (own_t (own_t (own_t lt_b3 (Keep.of_wr W18).1) (Keep.of_wr W23).1) (Keep.of_wr W28).1) (Keep.of_wr W33).1) (Keep.of_wr W38).1) (Keep.of_wr W43).1) (Keep.of_wr W48).1) (Keep.of_wr W53).1)
 have lt58 : b2 < h53.size := (own_t (own_t (own_t (own_t (own_t (own_t (own_t (own_t (own_t lt_b2 E3.1) (Keep.of_wr W18).1) (Keep.of_wr W23).1) (Keep.of_wr W28).1) (Keep.of_wr W33).1) (Keep.of_wr W38).1) (Keep.of_wr W43).1) (Keep.of_wr W48).1) (Keep.of_wr W53).1)
 have f59 := (Exa.wr W53 (Exa.wr W48 (Exa.wr W43 (Exa.wr W38 (Exa.wr W33 (Exa.wr W28 (Exa.wr W23 (Exa.wr W18 (Exa.ext E3 A2)))))))))
 have f60 := (Fld.other W53 (Fld.other W48 (Fld.other W43 (Fld.other W38 (Fld.other W33 (Fld.other W28 (Fld.other W23 (Fld.other W18 (Fld.ext E3 D2_8) (Or.inl (own_n lt_b2 bd_b3))) (Or.inl (own_n lt_b2 bd_b3))) (Or.inl (own_n lt_b2 bd_b3))) (Or.inl (own_n lt_b2 bd_b3))) (Or.inl (own_n lt_b2 bd_b3))) (Or.inl (own_n lt_b2 bd_b3))) (Or.inl (own_n lt_b2 bd_b3))) (Or.inl (own_n lt_b2 bd_b3)))
 have f61 := (Fld.other W53 (Fld.other W48 (Fld.other W43 (Fld.other W38 (Fld.other W33 (Fld.other W28 (Fld.other W23 (Fld.other W18 (Fld.ext E3 D2_7) (Or.inl (own_n lt_b2 bd_b3))) (Or.inl (own_n lt_b2 bd_b3))) (Or.inl (own_n lt_b2 bd_b3))) (Or.inl (own_n lt_b2 bd_b3))) (Or.inl (own_n lt_b2 bd_b3))) (Or.inl (own_n lt_b2 bd_b3))) (Or.inl (own_n lt_b2 bd_b3))) (Or.inl (own_n lt_b2 bd_b3)))
 obtain ⟨_, T62, L62, X62, hQ62, st62⟩ := own_cI X53 hx hZ hown (ww56 hw) (ww57 hw) (ww4 hw) (ww58 hw) (rm10_83 l Z a0 hw b2 b3 p4 p5 p6 p7 p8 p9 p10 p11 k3 p54 h53 n0 O53 V53 S_55 hk56 hk16 hk21 hk26 hk31 hk36 hk41 hk46 hk51 f59 f60 f61 lt57 g_b2 lt58) e53 pd_12 hml (hb hby d9_361) (Ls := #[vR a1, vI 8]) (W := 1) (argsL := [(.ref b3)]) (rest := [(.ref b2)]) (b := b2)
 obtain ⟨i63, i64, i65, i66, i67, i68, i69, i70, b71, k72, u73, u74, u75, u76, u77, u78, u79, u80, rfl, u82, u83, u84, Ku85, u86, u87, u88, u89, u90⟩ := hQ62
 have sz_b71 : h0.size ≤ b71 := Nat.le_trans (Nat.le_trans (Nat.le_trans (Nat.le_trans (Nat.le_trans (Nat.le_trans (Nat.le_trans (Nat.le_trans (Nat.le_trans (Nat.le_trans E2.1 E3.1) (Keep.of_wr W18).1) (Keep.of_wr W23).1) (Keep.of_wr W28).1) (Keep.of_wr W33).1) (Keep.of_wr W38).1) (Keep.of_wr W43).1) (Keep.of_wr W48).1) (Keep.of_wr W53).1) u83
 have N62 := Fr.app N53 u82
 refine fin (some (.ref b2)) _ _ _ _ X62 nofun (fun fs hr => pre0 _ ?_) ?_ (by decide) (by decide)
 ·
  refine o_iloadN X0 hq d9_0 rfl (o_ifY X0 hq d9_1 (pc := 1) (pc' := 15) (by decide +kernel) (o_iloadN X0 hq d9_15 rfl (o_iconst X0 hq d9_16 (x := 1) rfl (o_icmpY X0 hq d9_17 (pc := 17) (pc' := 37) (by decide +kernel) (o_iloadN X0 hq d9_37 rfl (o_iconst X0 hq d9_38 (x := 2) rfl (o_icmpY X0 hq d9_39 (pc := 39) (pc' := 65) (by decide +kernel) (o_iloadN X0 hq d9_65 rfl (o_iconst X0 hq d9_66 (x := 3) rfl (o_icmpY X0 hq d9_67 (pc := 67) (pc' := 99) (by decide +kernel) (o_iloadN X0 hq d9_99 rfl (o_iconst X0 hq d9_100 (x := 4) rfl (o_icmpY X0 hq d9_101 (pc := 101) (pc' := 139) (by decide +kernel) (o_iloadN X0 hq d9_139 rfl (o_iconst X0 hq d9_140 (x := 5) rfl (o_icmpY X0 hq d9_141 (pc := 141) (pc' := 185) (by decide +kernel) (o_iloadN X0 hq d9_185 rfl (o_bipush X0 hq d9_186 (x := 6) rfl (o_icmpY X0 hq d9_188 (pc := 188) (pc' := 239) (by decide +kernel) (o_iloadN X0 hq d9_239 rfl (o_bipush X0 hq d9_240 (x := 7) rfl (o_icmpY X0 hq d9_242 (pc := 242) (pc' := 301) (by decide +kernel) (st2 _ (o_dup X2 hq d9_304 rfl (o_bipush X2 hq d9_305 (x := 8) rfl (st3 _ (o_dup X3 hq d9_309 rfl (o_iconst X3 hq d9_310 (x := 0) rfl (o_aloadN X3 hq d9_311 rfl rfl (o_iconst X3 hq d9_312 (x := 0) rfl (o_caload X3 hq d9_313 hZ e3 f14 (i := 0) (v := .int p4) (by decide +kernel) rfl (st18 _ (o_dup X18 hq d9_315 rfl (o_iconst X18 hq d9_316 (x := 1) rfl (o_aloadN X18 hq d9_317 rfl rfl (o_iconst X18 hq d9_318 (x := 1) rfl (o_caload X18 hq d9_319 hZ e18 f19 (i := 1) (v := .int p5) (by decide +kernel) rfl (st23 _ (o_dup X23 hq d9_321 rfl ?_)))))))))))))))))))))))))))))))))))))))
  refine o_iconst X23 hq d9_322 (x := 2) rfl (o_aloadN X23 hq d9_323 rfl rfl (o_iconst X23 hq d9_324 (x := 2) rfl (o_caload X23 hq d9_325 hZ e23 f24 (i := 2) (v := .int p6) (by decide +kernel) rfl (st28 _ (o_dup X28 hq d9_327 rfl (o_iconst X28 hq d9_328 (x := 3) rfl (o_aloadN X28 hq d9_329 rfl rfl (o_iconst X28 hq d9_330 (x := 3) rfl (o_caload X28 hq d9_331 hZ e28 f29 (i := 3) (v := .int p7) (by decide +kernel) rfl (st33 _ (o_dup X33 hq d9_333 rfl (o_iconst X33 hq d9_334 (x := 4) rfl (o_aloadN X33 hq d9_335 rfl rfl (o_iconst X33 hq d9_336 (x := 4) rfl (o_caload X33 hq d9_337 hZ e33 f34 (i := 4) (v := .int p8) (by decide +kernel) rfl (st38 _ (o_dup X38 hq d9_339 rfl (o_iconst X38 hq d9_340 (x := 5) rfl (o_aloadN X38 hq d9_341 rfl rfl (o_iconst X38 hq d9_342 (x := 5) rfl (o_caload X38 hq d9_343 hZ e38 f39 (i := 5) (v := .int p9) (by decide +kernel) rfl (st43 _ (o_dup X43 hq d9_345 rfl (o_bipush X43 hq d9_346 (x := 6) rfl (o_aloadN X43 hq d9_348 rfl rfl (o_bipush X43 hq d9_349 (x := 6) rfl (o_caload X43 hq d9_351 hZ e43 f44 (i := 6) (v := .int p10) (by decide +kernel) rfl (st48 _ (o_dup X48 hq d9_353 rfl (o_bipush X48 hq d9_354 (x := 7) rfl (o_aloadN X48 hq d9_356 rfl rfl (o_bipush X48 hq d9_357 (x := 7) rfl (o_caload X48 hq d9_359 hZ e48 f49 (i := 7) (v := .int p11) (by decide +kernel) rfl (st53 _ (st62 _ ?_)))))))))))))))))))))))))))))))))))
  show Steps p.tables e below (T62.setTop (mkF m 364 #[vR a1, vI 8] [(.ref b2)])) _
  jvm_step X62.here [X62.here.top, hx, (hb hby d9_364), X62.method', hret, Value.isRef, FieldType.isReference]
  first | (intro acts; rw [hr _ acts rfl rfl rfl]) | rw [hr _ _ rfl rfl rfl]
  exact Steps.refl _
 ·
  exact ⟨i63, i64, i65, i66, i67, i68, i69, i70, b2, b71, k72, u73, u74, u75, u76, u77, u78, u79, u80, rfl, N62, sz_b2, (own_t lt58 Ku85.1), sz_b71, u84, (own_n lt58 u83), ((((((((((((Keep.refl h0 []).ext E2).ext E3).wr W18 (Or.inr sz_b3)).wr W23 (Or.inr sz_b3)).wr W28 (Or.inr sz_b3)).wr W33 (Or.inr sz_b3)).wr W38 (Or.inr sz_b3)).wr W43 (Or.inr sz_b3)).wr W48 (Or.inr sz_b3)).wr W53 (Or.inr sz_b3)).trans Ku85 (allS (Or.inr sz_b2) all0)), u86, u87, u88, u89, u90⟩
def Q0 (Z : State) (p1 p2 : Int32) (p3 p4 : Int32) (a7 : Addr) (p11 : Int32) (va19 : Value) (a120 a123 : Addr) (a125 a128 : Addr) (a130 a133 : Addr) (a135 a170 : Addr) (k172 : ClassId) (a177 : Addr) (k179 : ClassId) (a183 : Addr) (k185 : ClassId) (a189 : Addr) (k191 : ClassId) (a195 : Addr) (k197 : ClassId) (a199 : Addr) (h0 : Heap) (n0 : Nat) (v : Option Value) (h : Heap) (L : List Loc) : Prop := v = some (.int 1) ∧ Fr n0 L
theorem rm0 (l : Launch) (Z : State) (a0 : Array Value) (hw : own_HW Z a0) (ws : List Jvm.Cond) (p1 p2 : Int32) (p3 p4 : Int32) (a7 : Addr) (p11 : Int32) (va19 : Value) (a120 a123 : Addr) (a125 a128 : Addr) (a130 a133 : Addr) (a135 a170 : Addr) (k172 : ClassId) (a177 : Addr) (k179 : ClassId) (a183 : Addr) (k185 : ClassId) (a189 : Addr) (k191 : ClassId) (a195 : Addr) (k197 : ClassId) (a199 : Addr) (h0 : Heap) (n0 : Nat) (O0 : Old Z n0 h0) (S_8 : Sta Z Z.heap C_0 "READ" C_1 (.ref a7)) (S_12 : Sta Z Z.heap C_2 "COMPACT_STRINGS" "Z" (.int p11)) (hk13 : ¬ (p11 = 0)) (S_20 : Sta Z Z.heap C_3 "SIOOBE_FORMATTER" C_4 va19) (ir_va19 : va19.isRef = true) (F121 : Fld Z Z.heap a7 C_0 "localName" C_5 (.ref a120)) (lt_a120 : a120 < h0.size) (S_124 : Sta Z Z.heap C_0 "WRITE" C_1 (.ref a123)) (F126 : Fld Z Z.heap a123 C_0 "localName" C_5 (.ref a125)) (lt_a125 : a125 < h0.size) (S_129 : Sta Z Z.heap C_0 "APPEND" C_1 (.ref a128)) (F131 : Fld Z Z.heap a128 C_0 "localName" C_5 (.ref a130)) (lt_a130 : a130 < h0.size) (S_134 : Sta Z Z.heap C_0 "CONTROL" C_1 (.ref a133)) (F136 : Fld Z Z.heap a133 C_0 "localName" C_5 (.ref a135)) (lt_a135 : a135 < h0.size) (S_171 : Sta Z Z.heap C_0 "$VALUES" C_6 (.ref a170)) (V173 : Arv Z Z.heap a170 k172 (.object "com/example/stern_warden/sternwarden/model/AccessMode") (4 : Int32) [(.ref a7), (.ref a123), (.ref a128), (.ref a133)] .null) (E_174 : Exa Z Z.heap a170 C_6) (E_175 : Exa Z Z.heap a120 C_2) (F176 : Fld Z Z.heap a120 C_2 "coder" "B" (.int 0)) (F178 : Fld Z Z.heap a120 C_2 "value" "[B" (.ref a177)) (V180 : Arv Z Z.heap a177 k179 .byte 4 [(.int 82), (.int 101), (.int 97), (.int 100)] (.int 0)) (E_181 : Exa Z Z.heap a125 C_2) (F182 : Fld Z Z.heap a125 C_2 "coder" "B" (.int 0)) (F184 : Fld Z Z.heap a125 C_2 "value" "[B" (.ref a183)) (V186 : Arv Z Z.heap a183 k185 .byte 5 [(.int 87), (.int 114), (.int 105), (.int 116), (.int 101)] (.int 0)) (E_187 : Exa Z Z.heap a130 C_2) (F188 : Fld Z Z.heap a130 C_2 "coder" "B" (.int 0)) (F190 : Fld Z Z.heap a130 C_2 "value" "[B" (.ref a189)) (V192 : Arv Z Z.heap a189 k191 .byte 6 [(.int 65), (.int 112), (.int 112), (.int 101), (.int 110), (.int 100)] (.int 0)) (E_193 : Exa Z Z.heap a135 C_2) (F194 : Fld Z Z.heap a135 C_2 "coder" "B" (.int 0)) (F196 : Fld Z Z.heap a135 C_2 "value" "[B" (.ref a195)) (V198 : Arv Z Z.heap a195 k197 .byte 7 [(.int 67), (.int 111), (.int 110), (.int 116), (.int 114), (.int 111), (.int 108)] (.int 0)) (S_200 : Sta Z Z.heap C_7 "EMPTY" C_9 (.ref a199)) (E_315 : Exa Z Z.heap a199 C_7) (F316 : Fld Z Z.heap a199 C_7 "value" C_8 .null) : MetFree l x (head1 (Jvm.Cond.code x code maxLocals ret :: ws) room_1) (fun a U => a = #[(.int p1), (.int p2), (.int p3), (.int p4)] ∧ Z.Warmed39 U.vm ∧ U.heap = h0 ∧ CHv Z own_EL U.vm h0) (fun _ _ _ _ _ => True) (fun _ U o U' => ∃ v L, o = .returned v ∧ Q0 Z p1 p2 p3 p4 a7 p11 va19 a120 a123 a125 a128 a130 a133 a135 a170 k172 a177 k179 a183 k185 a189 k191 a195 k197 a199 h0 n0 v U'.heap L ∧ ReturnedEndW U o U' L room_1.cells room_1.slots) := by
 refine own_body0H (L0 := #[vI p1, vI p2, vI p3, vI p4, .unset, .unset, .unset, .unset, .unset, .unset, .unset, .unset, .unset, .unset, .unset]) (plainFor_of_name pn_3) (fun m => by first | (simp [entryFrame, mkF, argsToLocals, Value.category, maxLocals]; done) | rfl) fun p e s m below meth c s₁ EN hx hby hml hown hnm hret X0 hZ e0 hh pre0 hCH fin => ?_
 have g16_17 := fun y0 y2 y12 y13 y14 y15 y16 y27 y29 y31 y36 y37 y41 y44 y47 y53 y59 => rm16_17 l Z a0 hw y0 a170 y2 a7 a123 a128 a133 k172 a120 p11 a177 k179 y12 y13 y14 y15 y16 a125 a183 k185 a130 a189 k191 a135 a195 k197 a199 y27 n0 y29 S_171 y31 V173 E_174 F121 E_175 y36 y37 S_12 hk13 F176 y41 F178 V180 y44 F126 E_181 y47 F182 F184 V186 F131 E_187 y53 F188 F190 V192 F136 E_193 y59 F194 F196 V198 S_200
 have g16_33 := fun y0 y2 y12 y13 y14 y25 y27 y29 y34 y35 y39 y42 y43 y46 y50 y53 y57 y60 y64 => rm16_33 l Z a0 hw y0 a170 y2 a7 a123 a128 a133 k172 a120 p11 a177 k179 y12 y13 y14 a125 a183 k185 a130 a189 k191 a135 a195 k197 a199 y25 n0 y27 S_171 y29 V173 E_174 F121 E_175 y34 y35 S_12 hk13 F176 y39 F178 V180 y42 y43 F126 E_181 y46 F182 F184 V186 y50 F131 E_187 y53 F188 F190 V192 y57 F136 E_193 y60 F194 F196 V198 y64 S_200
 have g16_42 := fun y0 y2 y12 y13 y14 y25 y27 y29 y34 y35 y39 y42 y43 y46 y50 y53 y57 y60 y64 => rm16_42 l Z a0 hw y0 a170 y2 a7 a123 a128 a133 k172 a120 p11 a177 k179 y12 y13 y14 a125 a183 k185 a130 a189 k191 a135 a195 k197 a199 y25 n0 y27 S_171 y29 V173 E_174 F121 E_175 y34 y35 S_12 hk13 F176 y39 F178 V180 y42 y43 F126 E_181 y46 F182 F184 V186 y50 F131 E_187 y53 F188 F190 V192 y57 F136 E_193 y60 F194 F196 V198 y64 S_200
 have g16_61 := fun y0 y2 y12 y13 y14 y15 y16 y17 y28 y30 y32 y37 y38 y42 y45 y48 y54 y60 => rm16_61 l Z a0 hw y0 a170 y2 a7 a123 a128 a133 k172 a120 p11 a177 k179 y12 y13 y14 y15 y16 y17 a125 a183 k185 a130 a189 k191 a135 a195 k197 a199 y28 n0 y30 S_171 y32 V173 E_174 F121 E_175 y37 y38 S_12 hk13 F176 y42 F178 V180 y45 F126 E_181 y48 F182 F184 V186 F131 E_187 y54 F188 F190 V192 F136 E_193 y60 F194 F196 V198 S_200
 have g16_70 := fun y0 y2 y12 y13 y14 y15 y16 y17 y18 y29 y31 y33 y38 y39 y43 y46 y49 y55 y61 => rm16_70 l Z a0 hw y0 a170 y2 a7 a123 a128 a133 k172 a120 p11 a177 k179 y12 y13 y14 y15 y16 y17 y18 a125 a183 k185 a130 a189 k191 a135 a195 k197 a199 y29 n0 y31 S_171 y33 V173 E_174 F121 E_175 y38 y39 S_12 hk13 F176 y43 F178 V180 y46 F126 E_181 y49 F182 F184 V186 F131 E_187 y55 F188 F190 V192 F136 E_193 y61 F194 F196 V198 S_200
 have N0 := Fr.nil n0
 have hq := And.intro hx hby
 have hml : c.maxLocals = 15 := hml
 have Y0 : h0.size ≤ h0.size := Nat.le_refl _
 have hS0 : s.Since s.vm h0.size := (State.WarmedH.refl s).since _
 have CR0 : CHr Z own_EL s.vm h0 s.vm h0 := CHr.refl hCH
 have pre6 : oS p e below EN s₁ (mkF m 2 #[vI p1, vI p2, vI p3, vI p4, .unset, .unset, .unset, .unset, .unset, .unset, .unset, .unset, .unset, .unset, .unset] [(.int 3), (.int p1)]) := fun t kt => pre0 t (o_iloadN X0 hq at_0 rfl (o_iconst X0 hq at_1 (x := 3) rfl kt))
 rcases (own_and3 p1) with hq5 | hq5 | hq5 | hq5
 ·
  obtain ⟨T9, X9, e9, st9⟩ := getS2 X0 hx hZ hown (host := "") (Or.inl (ww0 hw)) Via.refl e0 (Sta.ext O0.2 S_8) (g := (mkF m 10 #[vI p1, vI p2, vI p3, vI p4, vI 0, .unset, .unset, .unset, .unset, .unset, .unset, .unset, .unset, .unset, .unset] [])) rfl (hb hby at_10)
  obtain ⟨b10, T10, h10, kk10, bv10, k10, X10, e10, E10, hS10, hk10, hZ10, hown10, A10, Fc10, Fv10, V10, lta10, ltb10, cg10, Lt10, ns10, st10⟩ := ldcCH (s := s) (vm0 := s.vm) (EL := own_EL) X9 hx hZ hown (ww3 hw) (own_wS hw) e9 hS0 Y0 (own_EW hw) (by decide) CR0.1 (vs := [(.int (82 : Int32)), (.int (101 : Int32)), (.int (97 : Int32)), (.int (100 : Int32))]) (z := 4) (by decide +kernel) (by decide +kernel) (by decide +kernel) (g := (mkF m 50 #[vI p1, vI p2, vI p3, vI p4, vI 0, vR a7, .unset, .unset, .unset, .unset, .unset, .unset, .unset, .unset, .unset] [])) rfl (hb hby at_50) (n := 16) (by decide +kernel) (by decide) (by decide) (by decide)
  have O10 := O0.ext E10
  have ch10 := cg10
  have CR10 := CR0.trans ch10
  obtain ⟨_, T14, L14, X14, hQ14, st14⟩ := own_cV X10 hx hZ10 hown10 (ww11 hw) (ww12 hw) (notFace_of_selects (args := #[]) (mvT hZ10 (ww14 hw))) (ww14 hw) (ww13 hw) (ww4 hw) (ww15 hw) A10 (rm1_2 l Z a0 hw b10 bv10 _ 4 k10 p11 h10 n0 O10 Fv10 V10 A10 S_12 hk13 Fc10) e10 pd_1 hml (hb hby at_83) (Ls := #[vI p1, vI p2, vI p3, vI p4, vI 0, vR a7, vR b10, .unset, .unset, .unset, .unset, .unset, .unset, .unset, .unset]) (W := 0) (argsL := []) (rest := [])
  obtain ⟨rfl, u16, u17⟩ := hQ14
  have N14 := Fr.app N0 u16
  obtain ⟨T18, h18, k18, X18, e18, E18, A18, Ex18, st18⟩ := newPE (aty := .char) X14 hx hZ10 (ww24 hw) u17 (g := (mkF m 90 #[vI p1, vI p2, vI p3, vI p4, vI 0, vR a7, vR b10, vI 4, .unset, .unset, .unset, .unset, .unset, .unset, .unset] [(.int 8)])) rfl (hb hby at_90) rfl (by decide +kernel) (cap := 8) (by decide +kernel) (by decide) (by decide) (by decide) (ad := "[C") (by decide +kernel)
  obtain ⟨b18, g18⟩ : ∃ z, z = h10.size := ⟨_, rfl⟩
  rw [← g18] at A18 Ex18 st18
  have O18 := O10.ext E18
  have ch18 := CHr.ext E18 CR10.1
  have CR18 := CR10.trans ch18
  have bd_b18 : h10.size ≤ b18 := Nat.le_of_eq g18.symm
  have g_b18 : n0 ≤ b18 := Nat.le_trans (own_z O10) bd_b18
  have lt_b18 : b18 < h18.size := A18.lt
  have V18 : Arv Z h18 b18 k18 .char 8 [] (.int 0) := Arv.new A18 (by decide +kernel)
  have f21 := (Exa.ext E18 A10)
  have f22 := (Fld.ext E18 Fv10)
  have f23 := (V10.ext E18)
  have f24 := (Fld.ext E18 Fc10)
  obtain ⟨_, T25, L25, X25, hQ25, st25⟩ := own_cS X18 hx hZ10 hown10 (ww25 hw) (ww26 hw) (ww27 hw) (ww28 hw) (rm3_4 l Z a0 hw b10 0 bv10 _ 4 k10 p11 va19 82 h18 n0 O18 f21 f22 f23 S_12 hk13 f24 kll0_4 S_20 kll0_0 rfl ir_va19) e18 pd_7 hml (hb hby at_100) (Ls := #[vI p1, vI p2, vI p3, vI p4, vI 0, vR a7, vR b10, vI 4, vR b18, .unset, .unset, .unset, .unset, .unset, .unset]) (W := 2) (argsL := [(.ref b10), (.int 0)]) (rest := [(.int 0), (.ref b18)])
  obtain ⟨i26, u27, rfl, u29, u30⟩ := hQ25
  have N25 := Fr.app N14 u29
  have pre31 : oS p e below EN T25 (mkF m 103 #[vI p1, vI p2, vI p3, vI p4, vI 0, vR a7, vR b10, vI 4, vR b18, .unset, .unset, .unset, .unset, .unset, .unset] [(.int i26), (.int 0), (.ref b18)]) := fun t kt => pre6 t (o_iand X0 hq at_2 (z := 0) hq5 (o_istore X0 hq at_3 rfl (o_iload X0 hq at_5 rfl (o_ifN X0 hq at_7 (by decide +kernel) (st9 _ (o_goto X9 hq at_13 (pc := 13) (pc' := 43) (o_astore X9 hq at_43 rfl rfl (o_iload X9 hq at_45 rfl (o_ifN X9 hq at_47 (by decide +kernel) (st10 _ (o_goto X10 hq at_52 (pc := 52) (pc' := 79) (o_astore X10 hq at_79 rfl rfl (o_aload X10 hq at_81 rfl rfl (st14 _ (o_istore X14 hq at_86 rfl (o_bipush X14 hq at_88 (x := 8) rfl (st18 _ (o_astore X18 hq at_92 rfl rfl (o_aload X18 hq at_94 rfl rfl (o_iconst X18 hq at_96 (x := 0) rfl (o_aload X18 hq at_97 rfl rfl (o_iconst X18 hq at_99 (x := 0) rfl (st25 _ kt)))))))))))))))))))))))
  obtain rfl : 82 = i26 := (u27.trans (by decide +kernel : ((82 : Int32) &&& (255 : Int32)) = (82 : Int32))).symm
  obtain ⟨T32, h32, X32, e32, W32, V32, st32⟩ := own_stC X25 hx hZ10 u30 V18 1 0 82 82 0 knc82 (hb hby at_103) #[vI p1, vI p2, vI p3, vI p4, vI 0, vR a7, vR b10, vI 4, vR b18, .unset, .unset, .unset, .unset, .unset, .unset] [] (vs2 := [(.int 82)])
  have O32 := O18.wr W32 g_b18
  have ch32 := CHr.wr W32 (Safe.exa hZ10.alike Ex18 (by decide) (by decide)) CR18.1
  have CR32 := CR18.trans ch32
  have N32 := Fr.snoc X32 N25 g_b18
  have f33 := (Exa.wr W32 f21)
  have f34 := (Fld.other W32 f22 (Or.inl (own_n lta10 bd_b18)))
  have f35 := (f23.other W32 (own_n ltb10 bd_b18))
  have f36 := (Fld.other W32 f24 (Or.inl (own_n lta10 bd_b18)))
  obtain ⟨_, T37, L37, X37, hQ37, st37⟩ := own_cS X32 hx hZ10 hown10 (ww25 hw) (ww26 hw) (ww27 hw) (ww28 hw) (rm3_4 l Z a0 hw b10 1 bv10 _ 4 k10 p11 va19 101 h32 n0 O32 f33 f34 f35 S_12 hk13 f36 kll1_4 S_20 kll1_0 rfl ir_va19) e32 pd_7 hml (hb hby at_110) (Ls := #[vI p1, vI p2, vI p3, vI p4, vI 0, vR a7, vR b10, vI 4, vR b18, .unset, .unset, .unset, .unset, .unset, .unset]) (W := 2) (argsL := [(.ref b10), (.int 1)]) (rest := [(.int 1), (.ref b18)])
  obtain ⟨i38, u39, rfl, u41, u42⟩ := hQ37
  have N37 := Fr.app N32 u41
  have pre43 : oS p e below EN T37 (mkF m 113 #[vI p1, vI p2, vI p3, vI p4, vI 0, vR a7, vR b10, vI 4, vR b18, .unset, .unset, .unset, .unset, .unset, .unset] [(.int i38), (.int 1), (.ref b18)]) := fun t kt => pre31 t (st32 _ (o_aload X32 hq at_104 rfl rfl (o_iconst X32 hq at_106 (x := 1) rfl (o_aload X32 hq at_107 rfl rfl (o_iconst X32 hq at_109 (x := 1) rfl (st37 _ kt))))))
  obtain rfl : 101 = i38 := (u39.trans (by decide +kernel : ((101 : Int32) &&& (255 : Int32)) = (101 : Int32))).symm
  have f44 := (Exa.wr W32 Ex18)
  obtain ⟨T45, h45, X45, e45, W45, V45, st45⟩ := own_stC X37 hx hZ10 u42 V32 1 1 101 101 1 knc101 (hb hby at_113) #[vI p1, vI p2, vI p3, vI p4, vI 0, vR a7, vR b10, vI 4, vR b18, .unset, .unset, .unset, .unset, .unset, .unset] [] (vs2 := [(.int 82), (.int 101)])
  have O45 := O32.wr W45 g_b18
  have ch45 := CHr.wr W45 (Safe.exa hZ10.alike f44 (by decide) (by decide)) CR32.1
  have CR45 := CR32.trans ch45
  have N45 := Fr.snoc X45 N37 g_b18
  have f46 := (Exa.wr W45 f33)
  have f47 := (Fld.other W45 f34 (Or.inl (own_n lta10 bd_b18)))
  have f48 := (f35.other W45 (own_n ltb10 bd_b18))
  have f49 := (Fld.other W45 f36 (Or.inl (own_n lta10 bd_b18)))
  obtain ⟨_, T50, L50, X50, hQ50, st50⟩ := own_cS X45 hx hZ10 hown10 (ww25 hw) (ww26 hw) (ww27 hw) (ww28 hw) (rm3_4 l Z a0 hw b10 2 bv10 _ 4 k10 p11 va19 97 h45 n0 O45 f46 f47 f48 S_12 hk13 f49 kll2_4 S_20 kll2_0 rfl ir_va19) e45 pd_7 hml (hb hby at_120) (Ls := #[vI p1, vI p2, vI p3, vI p4, vI 0, vR a7, vR b10, vI 4, vR b18, .unset, .unset, .unset, .unset, .unset, .unset]) (W := 2) (argsL := [(.ref b10), (.int 2)]) (rest := [(.int 2), (.ref b18)])
  obtain ⟨i51, u52, rfl, u54, u55⟩ := hQ50
  have N50 := Fr.app N45 u54
  have pre56 : oS p e below EN T50 (mkF m 123 #[vI p1, vI p2, vI p3, vI p4, vI 0, vR a7, vR b10, vI 4, vR b18, .unset, .unset, .unset, .unset, .unset, .unset] [(.int i51), (.int 2), (.ref b18)]) := fun t kt => pre43 t (st45 _ (o_aload X45 hq at_114 rfl rfl (o_iconst X45 hq at_116 (x := 2) rfl (o_aload X45 hq at_117 rfl rfl (o_iconst X45 hq at_119 (x := 2) rfl (st50 _ kt))))))
  obtain rfl : 97 = i51 := (u52.trans (by decide +kernel : ((97 : Int32) &&& (255 : Int32)) = (97 : Int32))).symm
  have f57 := (Exa.wr W45 f44)
  obtain ⟨T58, h58, X58, e58, W58, V58, st58⟩ := own_stC X50 hx hZ10 u55 V45 1 2 97 97 2 knc97 (hb hby at_123) #[vI p1, vI p2, vI p3, vI p4, vI 0, vR a7, vR b10, vI 4, vR b18, .unset, .unset, .unset, .unset, .unset, .unset] [] (vs2 := [(.int 82), (.int 101), (.int 97)])
  have O58 := O45.wr W58 g_b18
  have ch58 := CHr.wr W58 (Safe.exa hZ10.alike f57 (by decide) (by decide)) CR45.1
  have CR58 := CR45.trans ch58
  have N58 := Fr.snoc X58 N50 g_b18
  have f59 := (Exa.wr W58 f46)
  have f60 := (Fld.other W58 f47 (Or.inl (own_n lta10 bd_b18)))
  have f61 := (f48.other W58 (own_n ltb10 bd_b18))
  have f62 := (Fld.other W58 f49 (Or.inl (own_n lta10 bd_b18)))
  obtain ⟨_, T63, L63, X63, hQ63, st63⟩ := own_cS X58 hx hZ10 hown10 (ww25 hw) (ww26 hw) (ww27 hw) (ww28 hw) (rm3_4 l Z a0 hw b10 3 bv10 _ 4 k10 p11 va19 100 h58 n0 O58 f59 f60 f61 S_12 hk13 f62 kll3_4 S_20 kll3_0 rfl ir_va19) e58 pd_7 hml (hb hby at_130) (Ls := #[vI p1, vI p2, vI p3, vI p4, vI 0, vR a7, vR b10, vI 4, vR b18, .unset, .unset, .unset, .unset, .unset, .unset]) (W := 2) (argsL := [(.ref b10), (.int 3)]) (rest := [(.int 3), (.ref b18)])
  obtain ⟨i64, u65, rfl, u67, u68⟩ := hQ63
  have N63 := Fr.app N58 u67
  have pre69 : oS p e below EN T63 (mkF m 133 #[vI p1, vI p2, vI p3, vI p4, vI 0, vR a7, vR b10, vI 4, vR b18, .unset, .unset, .unset, .unset, .unset, .unset] [(.int i64), (.int 3), (.ref b18)]) := fun t kt => pre56 t (st58 _ (o_aload X58 hq at_124 rfl rfl (o_iconst X58 hq at_126 (x := 3) rfl (o_aload X58 hq at_127 rfl rfl (o_iconst X58 hq at_129 (x := 3) rfl (st63 _ kt))))))
  obtain rfl : 100 = i64 := (u65.trans (by decide +kernel : ((100 : Int32) &&& (255 : Int32)) = (100 : Int32))).symm
  have f70 := (Exa.wr W58 f57)
  obtain ⟨T71, h71, X71, e71, W71, V71, st71⟩ := own_stC X63 hx hZ10 u68 V58 1 3 100 100 3 knc100 (hb hby at_133) #[vI p1, vI p2, vI p3, vI p4, vI 0, vR a7, vR b10, vI 4, vR b18, .unset, .unset, .unset, .unset, .unset, .unset] [] (vs2 := [(.int 82), (.int 101), (.int 97), (.int 100)])
  have O71 := O58.wr W71 g_b18
  have ch71 := CHr.wr W71 (Safe.exa hZ10.alike f70 (by decide) (by decide)) CR58.1
  have CR71 := CR58.trans ch71
  have N71 := Fr.snoc X71 N63 g_b18
  have f72 := (Exa.wr W71 f59)
  have f73 := (Fld.other W71 f60 (Or.inl (own_n lta10 bd_b18)))
  have f74 := (f61.other W71 (own_n ltb10 bd_b18))
  have f75 := (Fld.other W71 f62 (Or.inl (own_n lta10 bd_b18)))
  obtain ⟨_, T76, L76, X76, hQ76, st76⟩ := own_cS X71 hx hZ10 hown10 (ww25 hw) (ww26 hw) (ww27 hw) (ww28 hw) (rm3_10 l Z a0 hw b10 4 bv10 _ 4 k10 p11 h71 n0 O71 f72 f73 f74 S_12 hk13 f75 kll4_4) e71 pd_7 hml (hb hby at_140) (Ls := #[vI p1, vI p2, vI p3, vI p4, vI 0, vR a7, vR b10, vI 4, vR b18, .unset, .unset, .unset, .unset, .unset, .unset]) (W := 2) (argsL := [(.ref b10), (.int 4)]) (rest := [(.int 4), (.ref b18)])
  obtain ⟨rfl, u78, u79⟩ := hQ76
  have N76 := Fr.app N71 u78
  have f80 := (Exa.wr W71 f70)
  obtain ⟨T81, h81, X81, e81, W81, V81, st81⟩ := own_stC X76 hx hZ10 u79 V71 1 4 0 0 4 knc0 (hb hby at_143) #[vI p1, vI p2, vI p3, vI p4, vI 0, vR a7, vR b10, vI 4, vR b18, .unset, .unset, .unset, .unset, .unset, .unset] [] (vs2 := [(.int 82), (.int 101), (.int 97), (.int 100), (.int 0)])
  have O81 := O71.wr W81 g_b18
  have ch81 := CHr.wr W81 (Safe.exa hZ10.alike f80 (by decide) (by decide)) CR71.1
  have CR81 := CR71.trans ch81
  have N81 := Fr.snoc X81 N76 g_b18
  have f82 := (Exa.wr W81 f72)
  have f83 := (Fld.other W81 f73 (Or.inl (own_n lta10 bd_b18)))
  have f84 := (f74.other W81 (own_n ltb10 bd_b18))
  have f85 := (Fld.other W81 f75 (Or.inl (own_n lta10 bd_b18)))
  obtain ⟨_, T86, L86, X86, hQ86, st86⟩ := own_cS X81 hx hZ10 hown10 (ww25 hw) (ww26 hw) (ww27 hw) (ww28 hw) (rm3_10 l Z a0 hw b10 5 bv10 _ 4 k10 p11 h81 n0 O81 f82 f83 f84 S_12 hk13 f85 kll5_4) e81 pd_7 hml (hb hby at_150) (Ls := #[vI p1, vI p2, vI p3, vI p4, vI 0, vR a7, vR b10, vI 4, vR b18, .unset, .unset, .unset, .unset, .unset, .unset]) (W := 2) (argsL := [(.ref b10), (.int 5)]) (rest := [(.int 5), (.ref b18)])
  obtain ⟨rfl, u88, u89⟩ := hQ86
  have N86 := Fr.app N81 u88
  have f90 := (Exa.wr W81 f80)
  obtain ⟨T91, h91, X91, e91, W91, V91, st91⟩ := own_stC X86 hx hZ10 u89 V81 1 5 0 0 5 knc0 (hb hby at_153) #[vI p1, vI p2, vI p3, vI p4, vI 0, vR a7, vR b10, vI 4, vR b18, .unset, .unset, .unset, .unset, .unset, .unset] [] (vs2 := [(.int 82), (.int 101), (.int 97), (.int 100), (.int 0), (.int 0)])
  have O91 := O81.wr W91 g_b18
  have ch91 := CHr.wr W91 (Safe.exa hZ10.alike f90 (by decide) (by decide)) CR81.1
  have CR91 := CR81.trans ch91
  have N91 := Fr.snoc X91 N86 g_b18
  have f92 := (Exa.wr W91 f82)
  have f93 := (Fld.other W91 f83 (Or.inl (own_n lta10 bd_b18)))
  have f94 := (f84.other W91 (own_n ltb10 bd_b18))
  have f95 := (Fld.other W91 f85 (Or.inl (own_n lta10 bd_b18)))
  obtain ⟨_, T96, L96, X96, hQ96, st96⟩ := own_cS X91 hx hZ10 hown10 (ww25 hw) (ww26 hw) (ww27 hw) (ww28 hw) (rm3_10 l Z a0 hw b10 6 bv10 _ 4 k10 p11 h91 n0 O91 f92 f93 f94 S_12 hk13 f95 kll6_4) e91 pd_7 hml (hb hby at_162) (Ls := #[vI p1, vI p2, vI p3, vI p4, vI 0, vR a7, vR b10, vI 4, vR b18, .unset, .unset, .unset, .unset, .unset, .unset]) (W := 2) (argsL := [(.ref b10), (.int 6)]) (rest := [(.int 6), (.ref b18)])
  obtain ⟨rfl, u98, u99⟩ := hQ96
  have N96 := Fr.app N91 u98
  have f100 := (Exa.wr W91 f90)
  obtain ⟨T101, h101, X101, e101, W101, V101, st101⟩ := own_stC X96 hx hZ10 u99 V91 1 6 0 0 6 knc0 (hb hby at_165) #[vI p1, vI p2, vI p3, vI p4, vI 0, vR a7, vR b10, vI 4, vR b18, .unset, .unset, .unset, .unset, .unset, .unset] [] (vs2 := [(.int 82), (.int 101), (.int 97), (.int 100), (.int 0), (.int 0), (.int 0)])
  have O101 := O91.wr W101 g_b18
  have ch101 := CHr.wr W101 (Safe.exa hZ10.alike f100 (by decide) (by decide)) CR91.1
  have CR101 := CR91.trans ch101
  have N101 := Fr.snoc X101 N96 g_b18
  have f102 := (Exa.wr W101 f92)
  have f103 := (Fld.other W101 f93 (Or.inl (own_n lta10 bd_b18)))
  have f104 := (f94.other W101 (own_n ltb10 bd_b18))
  have f105 := (Fld.other W101 f95 (Or.inl (own_n lta10 bd_b18)))
  obtain ⟨_, T106, L106, X106, hQ106, st106⟩ := own_cS X101 hx hZ10 hown10 (ww25 hw) (ww26 hw) (ww27 hw) (ww28 hw) (rm3_10 l Z a0 hw b10 7 bv10 _ 4 k10 p11 h101 n0 O101 f102 f103 f104 S_12 hk13 f105 kll7_4) e101 pd_7 hml (hb hby at_174) (Ls := #[vI p1, vI p2, vI p3, vI p4, vI 0, vR a7, vR b10, vI 4, vR b18, .unset, .unset, .unset, .unset, .unset, .unset]) (W := 2) (argsL := [(.ref b10), (.int 7)]) (rest := [(.int 7), (.ref b18)])
  obtain ⟨rfl, u108, u109⟩ := hQ106
  have N106 := Fr.app N101 u108
  have f110 := (Exa.wr W101 f100)
  obtain ⟨T111, h111, X111, e111, W111, V111, st111⟩ := own_stC X106 hx hZ10 u109 V101 1 7 0 0 7 knc0 (hb hby at_177) #[vI p1, vI p2, vI p3, vI p4, vI 0, vR a7, vR b10, vI 4, vR b18, .unset, .unset, .unset, .unset, .unset, .unset] [] (vs2 := [(.int 82), (.int 101), (.int 97), (.int 100), (.int 0), (.int 0), (.int 0), (.int 0)])
  have O111 := O101.wr W111 g_b18
  have ch111 := CHr.wr W111 (Safe.exa hZ10.alike f110 (by decide) (by decide)) CR101.1
  have CR111 := CR101.trans ch111
  have N111 := Fr.snoc X111 N106 g_b18
  have pre112 : oS p e below EN T111 (mkF m 178 #[vI p1, vI p2, vI p3, vI p4, vI 0, vR a7, vR b10, vI 4, vR b18, .unset, .unset, .unset, .unset, .unset, .unset] []) := fun t kt => pre69 t (st71 _ (o_aload X71 hq at_134 rfl rfl (o_iconst X71 hq at_136 (x := 4) rfl (o_aload X71 hq at_137 rfl rfl (o_iconst X71 hq at_139 (x := 4) rfl (st76 _ (st81 _ (o_aload X81 hq at_144 rfl rfl (o_iconst X81 hq at_146 (x := 5) rfl (o_aload X81 hq at_147 rfl rfl (o_iconst X81 hq at_149 (x := 5) rfl (st86 _ (st91 _ (o_aload X91 hq at_154 rfl rfl (o_bipush X91 hq at_156 (x := 6) rfl (o_aload X91 hq at_158 rfl rfl (o_bipush X91 hq at_160 (x := 6) rfl (st96 _ (st101 _ (o_aload X101 hq at_166 rfl rfl (o_bipush X101 hq at_168 (x := 7) rfl (o_aload X101 hq at_170 rfl rfl (o_bipush X101 hq at_172 (x := 7) rfl (st106 _ (st111 _ kt)))))))))))))))))))))))))
  have hz113 := (Nat.le_trans (Nat.le_trans (Nat.le_trans (Nat.le_trans (Nat.le_trans (Nat.le_trans (Nat.le_trans (Nat.le_trans (Nat.le_trans hk10 E18.1) (Keep.of_wr W32).1) (Keep.of_wr W45).1) (Keep.of_wr W58).1) (Keep.of_wr W71).1) (Keep.of_wr W81).1) (Keep.of_wr W91).1) (Keep.of_wr W101).1) (Keep.of_wr W111).1)
  have lt119 : b18 < h111.size := (own_t (own_t (own_t (own_t (own_t (own_t (own_t (own_t lt_b18 (Keep.of_wr W32).1) (Keep.of_wr W45).1) (Keep.of_wr W58).1) (Keep.of_wr W71).1) (Keep.of_wr W81).1) (Keep.of_wr W91).1) (Keep.of_wr W101).1) (Keep.of_wr W111).1)
  have lt122 : a120 < h111.size := (own_t (own_t (own_t (own_t (own_t (own_t (own_t (own_t (own_t (own_t lt_a120 E10.1) E18.1) (Keep.of_wr W32).1) (Keep.of_wr W45).1) (Keep.of_wr W58).1) (Keep.of_wr W71).1) (Keep.of_wr W81).1) (Keep.of_wr W91).1) (Keep.of_wr W101).1) (Keep.of_wr W111).1)
  have lt127 : a125 < h111.size := (own_t (own_t (own_t (own_t (own_t (own_t (own_t (own_t (own_t (own_t lt_a125 E10.1) E18.1) (Keep.of_wr W32).1) (Keep.of_wr W45).1) (Keep.of_wr W58).1) (Keep.of_wr W71).1) (Keep.of_wr W81).1) (Keep.of_wr W91).1) (Keep.of_wr W101).1) (Keep.of_wr W111).1)
  have lt132 : a130 < h111.size := (own_t (own_t (own_t (own_t (own_t (own_t (own_t (own_t (own_t (own_t lt_a130 E10.1) E18.1) (Keep.of_wr W32).1) (Keep.of_wr W45).1) (Keep.of_wr W58).1) (Keep.of_wr W71).1) (Keep.of_wr W81).1) (Keep.of_wr W91).1) (Keep.of_wr W101).1) (Keep.of_wr W111).1)
  have lt137 : a135 < h111.size := (own_t (own_t (own_t (own_t (own_t (own_t (own_t (own_t (own_t (own_t lt_a135 E10.1) E18.1) (Keep.of_wr W32).1) (Keep.of_wr W45).1) (Keep.of_wr W58).1) (Keep.of_wr W71).1) (Keep.of_wr W81).1) (Keep.of_wr W91).1) (Keep.of_wr W101).1) (Keep.of_wr W111).1)
  obtain ⟨i138, hi138⟩ : ∃ z, z = (p2 &&& (3 : Int32)) := ⟨_, rfl⟩
  obtain ⟨i139, hi139⟩ : ∃ z, z = (p3 &&& (2147483647 : Int32)) := ⟨_, rfl⟩
  obtain ⟨i140, hi140⟩ : ∃ z, z = (i139 % (4 : Int32)) := ⟨_, rfl⟩
  obtain ⟨i141, hi141⟩ : ∃ z, z = (p4 &&& (255 : Int32)) := ⟨_, rfl⟩
  have pre142 : oS p e below EN T111 (mkF m 204 #[vI p1, vI p2, vI p3, vI p4, vI 0, vR a7, vR b10, vI 4, vR b18, vI i138, vI i140, vI i141, vI 4, .unset, .unset] []) := fun t kt => pre112 t (o_iloadN X111 hq at_178 rfl (o_iconst X111 hq at_179 (x := 3) rfl (o_iand X111 hq at_180 (z := i138) hi138.symm (o_istore X111 hq at_181 rfl (o_iloadN X111 hq at_183 rfl (X111.ldcInt hx hown10 (mvT hZ10 (ww51 hw)) (g := (mkF m 184 #[vI p1, vI p2, vI p3, vI p4, vI 0, vR a7, vR b10, vI 4, vR b18, vI i138, .unset, .unset, .unset, .unset, .unset] [(.int p3)])) rfl (hb hby at_184) _ (o_iand X111 hq at_186 (z := i139) hi139.symm (o_iload X111 hq at_187 rfl (o_irem X111 hq at_189 kle4_0 (z := i140) hi140.symm (o_istore X111 hq at_190 rfl (o_iloadN X111 hq at_192 rfl (o_sipush X111 hq at_193 (x := 255) rfl (o_iand X111 hq at_196 (z := i141) hi141.symm (o_i2c X111 hq at_197 (z := i141) (own_i2c255 hi141) (o_istore X111 hq at_198 rfl (o_iload X111 hq at_200 rfl (o_istore X111 hq at_202 rfl kt)))))))))))))))))
  rcases (hi138 ▸ own_and3 p2 : i138 = 0 ∨ i138 = 1 ∨ i138 = 2 ∨ i138 = 3) with hq143 | hq143 | hq143 | hq143
  ·
   subst hq143
   obtain ⟨_, T144, L144, X144, hQ144, st144⟩ := own_cS X111 hx hZ10 hown10 (ww52 hw) (ww53 hw) (ww27 hw) (ww54 hw) (rm9_11 l Z a0 hw b18 82 101 97 100 0 0 0 0 k18 p11 h111 n0 O111 V111 kll255_82 kll82_0 lt119 kll255_101 kll101_0 kll255_97 kll97_0 kll255_100 kll100_0 S_12 hk13) e111 pd_13 hml (hb hby at_284) (Ls := (oL p1 p2 p3 p4 0 a7 b10 4 b18 0 i140 i141 4 1)) (W := 0) (argsL := [(.ref b18), (.int 4)]) (rest := [])
   obtain ⟨i145, i146, i147, i148, b149, b150, k151, u152, u153, u154, u155, rfl, u157, u158, u159, u160, u161, u162, Ku163, u164, u165, u166, u167, u168⟩ := hQ144
   have Ou163 := O111.keep Ku163 all0
   have N144 := Fr.app N111 u157
   have pre169 : oS p e below EN T144 (mkF m 287 (oL p1 p2 p3 p4 0 a7 b10 4 b18 0 i140 i141 4 1) [(.ref b149)]) := fun t kt => pre142 t (o_iload X111 hq at_204 rfl (o_ifN X111 hq at_206 (by decide +kernel) (o_iconst X111 hq at_209 (x := 1) rfl (o_istore X111 hq at_210 rfl (o_goto X111 hq at_212 (pc := 212) (pc' := 280) (o_aload X111 hq at_280 rfl rfl (o_iload X111 hq at_282 rfl (st144 _ kt))))))))
   obtain rfl := kb82 u152
   obtain rfl := kb101 u153
   obtain rfl := kb97 u154
   obtain rfl := kb100 u155
   obtain ⟨_, T201, L201, X201, hQ201, st201⟩ := own_cS X144 hx hZ10 hown10 (ww76 hw) (ww77 hw) (ww1 hw) (ww78 hw) (g16_17 b149 b150 82 101 97 100 k151 T144.heap Ou163 u166 (own_n lt122 u158) u164 u165 u168 (own_n lt127 u158) (own_n lt132 u158) (own_n lt137 u158)) rfl pd_21 hml (hb hby at_287) (Ls := (oL p1 p2 p3 p4 0 a7 b10 4 b18 0 i140 i141 4 1)) (W := 0) (argsL := [(.ref b149)]) (rest := [])
   rcases hQ201 with ⟨b202, u203, u204, u205, u206, rfl, u208, u209, u210, Ku211, u212, u213⟩ | ⟨u214, rfl, u216, Ku217⟩
   ·
    have Ou211 := Ou163.keep Ku211 all0
    have N201 := Fr.app N144 u208
    obtain ⟨T218, L218, X218, u218, e218, st218⟩ := own_tP hw X201 hx hby hml hZ10 hown10 Ou211 u212 u213 (oL p1 p2 p3 p4 0 a7 b10 4 b18 0 i140 i141 4 1) rfl
    have N218 := Fr.app N201 u218
    refine fin (some (.int 1)) _ _ _ _ T10.vm _ X218 hS10 (by rw [e218]; exact (Nat.le_trans (Nat.le_trans hz113 Ku163.1) Ku211.1)) nofun (fun fs hr => pre169 _ ?_) (own_atH e218 ?_) (by decide) (by decide)
    ·
     refine st201 _ (st218 _ ?_)
     exact retN X218 hx (t := .boolean) hret (by simp) (hb hby at_326) hr
    ·
     exact ⟨rfl, N218⟩
   ·
    exact absurd ⟨kle82_82, kle101_101, kle97_97, kle100_100⟩ u214
  ·
   subst hq143
   have pre219 : oS p e below EN T111 (mkF m 227 #[vI p1, vI p2, vI p3, vI p4, vI 0, vR a7, vR b10, vI 4, vR b18, vI 1, vI i140, vI i141, vI 4, .unset, .unset] [(.int i140), (.ref b18), (.int i141)]) := fun t kt => pre142 t (o_iload X111 hq at_204 rfl (o_ifY X111 hq at_206 (pc := 206) (pc' := 215) (by decide +kernel) (o_iload X111 hq at_215 rfl (o_iconst X111 hq at_217 (x := 1) rfl (o_icmpN X111 hq at_218 (by decide +kernel) (o_iload X111 hq at_221 rfl (o_aload X111 hq at_223 rfl rfl (o_iload X111 hq at_225 rfl kt))))))))
   rcases (hi140 ▸ own_mod4 hi139 : i140 = 0 ∨ i140 = 1 ∨ i140 = 2 ∨ i140 = 3) with hq220 | hq220 | hq220 | hq220
   ·
    subst hq220
    have pre222 : oS p e below EN T111 (mkF m 228 #[vI p1, vI p2, vI p3, vI p4, vI 0, vR a7, vR b10, vI 4, vR b18, vI 1, vI 0, vI i141, vI 4, .unset, .unset] [(.int 82), (.int i141)]) := fun t kt => pre219 t (o_caload X111 hq at_227 hZ10 e111 V111 (i := 0) (v := .int 82) (by decide +kernel) rfl kt)
    by_cases hc223 : i141 = 82
    ·
     subst hc223
     obtain ⟨T225, h225, X225, e225, W225, V225, st225⟩ := own_stC X111 hx hZ10 e111 V111 0 0 82 82 0 knc82 (hb hby at_244) (oL p1 p2 p3 p4 0 a7 b10 4 b18 1 0 82 4 1) [] (vs2 := [(.int 82), (.int 101), (.int 97), (.int 100), (.int 0), (.int 0), (.int 0), (.int 0)])
     have O225 := O111.wr W225 g_b18
     have N225 := Fr.snoc X225 N111 g_b18
     obtain ⟨_, T226, L226, X226, hQ226, st226⟩ := own_cS X225 hx hZ10 hown10 (ww52 hw) (ww53 hw) (ww27 hw) (ww54 hw) (rm9_11 l Z a0 hw b18 82 101 97 100 0 0 0 0 k18 p11 h225 n0 O225 V225 kll255_82 kll82_0 (own_t lt119 (Keep.of_wr W225).1) kll255_101 kll101_0 kll255_97 kll97_0 kll255_100 kll100_0 S_12 hk13) e225 pd_13 hml (hb hby at_284) (Ls := (oL p1 p2 p3 p4 0 a7 b10 4 b18 1 0 82 4 1)) (W := 0) (argsL := [(.ref b18), (.int 4)]) (rest := [])
     obtain ⟨i227, i228, i229, i230, b231, b232, k233, u234, u235, u236, u237, rfl, u239, u240, u241, u242, u243, u244, Ku245, u246, u247, u248, u249, u250⟩ := hQ226
     have Ou245 := O225.keep Ku245 all0
     have N226 := Fr.app N225 u239
     have pre251 : oS p e below EN T226 (mkF m 287 (oL p1 p2 p3 p4 0 a7 b10 4 b18 1 0 82 4 1) [(.ref b231)]) := fun t kt => pre222 t (o_icmpN X111 hq at_228 (by decide +kernel) (o_iconst X111 hq at_231 (x := 1) rfl (o_goto X111 hq at_232 (pc := 232) (pc' := 236) (o_istore X111 hq at_236 rfl (o_aload X111 hq at_238 rfl rfl (o_iload X111 hq at_240 rfl (o_iload X111 hq at_242 rfl (st225 _ (o_goto X225 hq at_245 (pc := 245) (pc' := 280) (o_aload X225 hq at_280 rfl rfl (o_iload X225 hq at_282 rfl (st226 _ kt))))))))))))
     obtain rfl := kb82 u234
     obtain rfl := kb101 u235
     obtain rfl := kb97 u236
     obtain rfl := kb100 u237
     obtain ⟨_, T252, L252, X252, hQ252, st252⟩ := own_cS X226 hx hZ10 hown10 (ww76 hw) (ww77 hw) (ww1 hw) (ww78 hw) (rm16_17 l Z a0 hw b231 a170 b232 a7 a123 a128 a133 k172 a120 p11 a177 k179 82 101 97 100 k233 a125 a183 k185 a130 a189 k191 a135 a195 k197 a199 T226.heap n0 Ou245 S_171 u248 V173 E_174 F121 E_175 (own_n (own_t lt122 (Keep.of_wr W225).1) u240) u246 S_12 hk13 F176 u247 F178 V180 u250 F126 E_181 (own_n (own_t lt127 (Keep.of_wr W225).1) u240) F182 F184 V186 F131 E_187 (own_n (own_t lt132 (Keep.of_wr W225).1) u240) F188 F190 V192 F136 E_193 (own_n (own_t lt137 (Keep.of_wr W225).1) u240) F194 F196 V198 S_200) rfl pd_21 hml (hb hby at_287) (Ls := (oL p1 p2 p3 p4 0 a7 b10 4 b18 1 0 82 4 1)) (W := 0) (argsL := [(.ref b231)]) (rest := [])
     rcases hQ252 with ⟨b253, u254, u255, u256, u257, rfl, u259, u260, u261, Ku262, u263, u264⟩ | ⟨u265, rfl, u267, Ku268⟩
     ·
      have Ou262 := Ou245.keep Ku262 all0
      have N252 := Fr.app N226 u259
      obtain ⟨T269, L269, X269, u269, e269, st269⟩ := own_tP hw X252 hx hby hml hZ10 hown10 Ou262 u263 u264 (oL p1 p2 p3 p4 0 a7 b10 4 b18 1 0 82 4 1) rfl
      have N269 := Fr.app N252 u269
      refine fin (some (.int 1)) _ _ _ _ T10.vm _ X269 hS10 (by rw [e269]; exact (Nat.le_trans (Nat.le_trans (Nat.le_trans hz113 (Keep.of_wr W225).1) Ku245.1) Ku262.1)) nofun (fun fs hr => pre251 _ ?_) (own_atH e269 ?_) (by decide) (by decide)
      ·
       refine st252 _ (st269 _ ?_)
       exact retN X269 hx (t := .boolean) hret (by simp) (hb hby at_326) hr
      ·
       exact ⟨rfl, N269⟩
     ·
      exact absurd ⟨kle82_82, kle101_101, kle97_97, kle100_100⟩ u265
    ·
     obtain ⟨T271, h271, X271, e271, W271, V271, st271⟩ := own_stC X111 hx hZ10 e111 V111 0 0 i141 i141 0 (own_nar255 hi141) (hb hby at_244) (oL p1 p2 p3 p4 0 a7 b10 4 b18 1 0 i141 4 0) [] (vs2 := [(.int i141), (.int 101), (.int 97), (.int 100), (.int 0), (.int 0), (.int 0), (.int 0)])
     have O271 := O111.wr W271 g_b18
     have N271 := Fr.snoc X271 N111 g_b18
     obtain ⟨_, T272, L272, X272, hQ272, st272⟩ := own_cS X271 hx hZ10 hown10 (ww52 hw) (ww53 hw) (ww27 hw) (ww54 hw) (rm9_11 l Z a0 hw b18 i141 101 97 100 0 0 0 0 k18 p11 h271 n0 O271 V271 (own_lt255 hi141) (own_nn hi141) (own_t lt119 (Keep.of_wr W271).1) kll255_101 kll101_0 kll255_97 kll97_0 kll255_100 kll100_0 S_12 hk13) e271 pd_13 hml (hb hby at_284) (Ls := (oL p1 p2 p3 p4 0 a7 b10 4 b18 1 0 i141 4 0)) (W := 0) (argsL := [(.ref b18), (.int 4)]) (rest := [])
     obtain ⟨i273, i274, i275, i276, b277, b278, k279, u280, u281, u282, u283, rfl, u285, u286, u287, u288, u289, u290, Ku291, u292, u293, u294, u295, u296⟩ := hQ272
     have Ou291 := O271.keep Ku291 all0
     have N272 := Fr.app N271 u285
     have pre297 : oS p e below EN T272 (mkF m 287 (oL p1 p2 p3 p4 0 a7 b10 4 b18 1 0 i141 4 0) [(.ref b277)]) := fun t kt => pre222 t (o_icmpY X111 hq at_228 (pc := 228) (pc' := 235) (feq hc223).2 (o_iconst X111 hq at_235 (x := 0) rfl (o_istore X111 hq at_236 rfl (o_aload X111 hq at_238 rfl rfl (o_iload X111 hq at_240 rfl (o_iload X111 hq at_242 rfl (st271 _ (o_goto X271 hq at_245 (pc := 245) (pc' := 280) (o_aload X271 hq at_280 rfl rfl (o_iload X271 hq at_282 rfl (st272 _ kt)))))))))))
     obtain rfl := kb101 u281
     obtain rfl := kb97 u282
     obtain rfl := kb100 u283
     obtain ⟨_, T298, L298, X298, hQ298, st298⟩ := own_cS X272 hx hZ10 hown10 (ww76 hw) (ww77 hw) (ww1 hw) (ww78 hw) (rm16_17 l Z a0 hw b277 a170 b278 a7 a123 a128 a133 k172 a120 p11 a177 k179 i273 101 97 100 k279 a125 a183 k185 a130 a189 k191 a135 a195 k197 a199 T272.heap n0 Ou291 S_171 u294 V173 E_174 F121 E_175 (own_n (own_t lt122 (Keep.of_wr W271).1) u286) u292 S_12 hk13 F176 u293 F178 V180 u296 F126 E_181 (own_n (own_t lt127 (Keep.of_wr W271).1) u286) F182 F184 V186 F131 E_187 (own_n (own_t lt132 (Keep.of_wr W271).1) u286) F188 F190 V192 F136 E_193 (own_n (own_t lt137 (Keep.of_wr W271).1) u286) F194 F196 V198 S_200) rfl pd_21 hml (hb hby at_287) (Ls := (oL p1 p2 p3 p4 0 a7 b10 4 b18 1 0 i141 4 0)) (W := 0) (argsL := [(.ref b277)]) (rest := [])
     rcases hQ298 with ⟨b299, u300, u301, u302, u303, rfl, u305, u306, u307, Ku308, u309, u310⟩ | ⟨u311, rfl, u313, Ku314⟩
     ·
      exact absurd u300 (fun q => (own_bnl (c := (82 : Int32)) u280 hi141 (by decide +kernel) hc223 : ¬ i273 = 82) q.symm)
     ·
      have Ou314 := Ou291.keep Ku314 all0
      have N298 := Fr.app N272 u313
      obtain ⟨T317, L317, X317, u317, e317, st317⟩ := own_tE hw X298 hx hby hml hZ10 hown10 Ou314 E_315 F316 (oL p1 p2 p3 p4 0 a7 b10 4 b18 1 0 i141 4 0) rfl
      have N317 := Fr.app N298 u317
      refine fin (some (.int 1)) _ _ _ _ T10.vm _ X317 hS10 (by rw [e317]; exact (Nat.le_trans (Nat.le_trans (Nat.le_trans hz113 (Keep.of_wr W271).1) Ku291.1) Ku314.1)) nofun (fun fs hr => pre297 _ ?_) (own_atH e317 ?_) (by decide) (by decide)
      ·
       refine st298 _ (st317 _ ?_)
       exact retN X317 hx (t := .boolean) hret (by simp) (hb hby at_302) hr
      ·
       exact ⟨rfl, N317⟩
   ·
    subst hq220
    have pre319 : oS p e below EN T111 (mkF m 228 #[vI p1, vI p2, vI p3, vI p4, vI 0, vR a7, vR b10, vI 4, vR b18, vI 1, vI 1, vI i141, vI 4, .unset, .unset] [(.int 101), (.int i141)]) := fun t kt => pre219 t (o_caload X111 hq at_227 hZ10 e111 V111 (i := 1) (v := .int 101) (by decide +kernel) rfl kt)
    by_cases hc320 : i141 = 101
    ·
     subst hc320
     obtain ⟨T322, h322, X322, e322, W322, V322, st322⟩ := own_stC X111 hx hZ10 e111 V111 0 1 101 101 1 knc101 (hb hby at_244) (oL p1 p2 p3 p4 0 a7 b10 4 b18 1 1 101 4 1) [] (vs2 := [(.int 82), (.int 101), (.int 97), (.int 100), (.int 0), (.int 0), (.int 0), (.int 0)])
     have O322 := O111.wr W322 g_b18
     have N322 := Fr.snoc X322 N111 g_b18
     obtain ⟨_, T323, L323, X323, hQ323, st323⟩ := own_cS X322 hx hZ10 hown10 (ww52 hw) (ww53 hw) (ww27 hw) (ww54 hw) (rm9_11 l Z a0 hw b18 82 101 97 100 0 0 0 0 k18 p11 h322 n0 O322 V322 kll255_82 kll82_0 (own_t lt119 (Keep.of_wr W322).1) kll255_101 kll101_0 kll255_97 kll97_0 kll255_100 kll100_0 S_12 hk13) e322 pd_13 hml (hb hby at_284) (Ls := (oL p1 p2 p3 p4 0 a7 b10 4 b18 1 1 101 4 1)) (W := 0) (argsL := [(.ref b18), (.int 4)]) (rest := [])
     obtain ⟨i324, i325, i326, i327, b328, b329, k330, u331, u332, u333, u334, rfl, u336, u337, u338, u339, u340, u341, Ku342, u343, u344, u345, u346, u347⟩ := hQ323
     have Ou342 := O322.keep Ku342 all0
     have N323 := Fr.app N322 u336
     have pre348 : oS p e below EN T323 (mkF m 287 (oL p1 p2 p3 p4 0 a7 b10 4 b18 1 1 101 4 1) [(.ref b328)]) := fun t kt => pre319 t (o_icmpN X111 hq at_228 (by decide +kernel) (o_iconst X111 hq at_231 (x := 1) rfl (o_goto X111 hq at_232 (pc := 232) (pc' := 236) (o_istore X111 hq at_236 rfl (o_aload X111 hq at_238 rfl rfl (o_iload X111 hq at_240 rfl (o_iload X111 hq at_242 rfl (st322 _ (o_goto X322 hq at_245 (pc := 245) (pc' := 280) (o_aload X322 hq at_280 rfl rfl (o_iload X322 hq at_282 rfl (st323 _ kt))))))))))))
     obtain rfl := kb82 u331
     obtain rfl := kb101 u332
     obtain rfl := kb97 u333
     obtain rfl := kb100 u334
     obtain ⟨_, T349, L349, X349, hQ349, st349⟩ := own_cS X323 hx hZ10 hown10 (ww76 hw) (ww77 hw) (ww1 hw) (ww78 hw) (rm16_17 l Z a0 hw b328 a170 b329 a7 a123 a128 a133 k172 a120 p11 a177 k179 82 101 97 100 k330 a125 a183 k185 a130 a189 k191 a135 a195 k197 a199 T323.heap n0 Ou342 S_171 u345 V173 E_174 F121 E_175 (own_n (own_t lt122 (Keep.of_wr W322).1) u337) u343 S_12 hk13 F176 u344 F178 V180 u347 F126 E_181 (own_n (own_t lt127 (Keep.of_wr W322).1) u337) F182 F184 V186 F131 E_187 (own_n (own_t lt132 (Keep.of_wr W322).1) u337) F188 F190 V192 F136 E_193 (own_n (own_t lt137 (Keep.of_wr W322).1) u337) F194 F196 V198 S_200) rfl pd_21 hml (hb hby at_287) (Ls := (oL p1 p2 p3 p4 0 a7 b10 4 b18 1 1 101 4 1)) (W := 0) (argsL := [(.ref b328)]) (rest := [])
     rcases hQ349 with ⟨b350, u351, u352, u353, u354, rfl, u356, u357, u358, Ku359, u360, u361⟩ | ⟨u362, rfl, u364, Ku365⟩
     ·
      have Ou359 := Ou342.keep Ku359 all0
      have N349 := Fr.app N323 u356
      obtain ⟨T366, L366, X366, u366, e366, st366⟩ := own_tP hw X349 hx hby hml hZ10 hown10 Ou359 u360 u361 (oL p1 p2 p3 p4 0 a7 b10 4 b18 1 1 101 4 1) rfl
      have N366 := Fr.app N349 u366
      refine fin (some (.int 1)) _ _ _ _ T10.vm _ X366 hS10 (by rw [e366]; exact (Nat.le_trans (Nat.le_trans (Nat.le_trans hz113 (Keep.of_wr W322).1) Ku342.1) Ku359.1)) nofun (fun fs hr => pre348 _ ?_) (own_atH e366 ?_) (by decide) (by decide)
      ·
       refine st349 _ (st366 _ ?_)
       exact retN X366 hx (t := .boolean) hret (by simp) (hb hby at_326) hr
      ·
       exact ⟨rfl, N366⟩
     ·
      exact absurd ⟨kle82_82, kle101_101, kle97_97, kle100_100⟩ u362
    ·
     obtain ⟨T368, h368, X368, e368, W368, V368, st368⟩ := own_stC X111 hx hZ10 e111 V111 0 1 i141 i141 1 (own_nar255 hi141) (hb hby at_244) (oL p1 p2 p3 p4 0 a7 b10 4 b18 1 1 i141 4 0) [] (vs2 := [(.int 82), (.int i141), (.int 97), (.int 100), (.int 0), (.int 0), (.int 0), (.int 0)])
     have O368 := O111.wr W368 g_b18
     have N368 := Fr.snoc X368 N111 g_b18
     obtain ⟨_, T369, L369, X369, hQ369, st369⟩ := own_cS X368 hx hZ10 hown10 (ww52 hw) (ww53 hw) (ww27 hw) (ww54 hw) (rm9_11 l Z a0 hw b18 82 i141 97 100 0 0 0 0 k18 p11 h368 n0 O368 V368 kll255_82 kll82_0 (own_t lt119 (Keep.of_wr W368).1) (own_lt255 hi141) (own_nn hi141) kll255_97 kll97_0 kll255_100 kll100_0 S_12 hk13) e368 pd_13 hml (hb hby at_284) (Ls := (oL p1 p2 p3 p4 0 a7 b10 4 b18 1 1 i141 4 0)) (W := 0) (argsL := [(.ref b18), (.int 4)]) (rest := [])
     obtain ⟨i370, i371, i372, i373, b374, b375, k376, u377, u378, u379, u380, rfl, u382, u383, u384, u385, u386, u387, Ku388, u389, u390, u391, u392, u393⟩ := hQ369
     have Ou388 := O368.keep Ku388 all0
     have N369 := Fr.app N368 u382
     have pre394 : oS p e below EN T369 (mkF m 287 (oL p1 p2 p3 p4 0 a7 b10 4 b18 1 1 i141 4 0) [(.ref b374)]) := fun t kt => pre319 t (o_icmpY X111 hq at_228 (pc := 228) (pc' := 235) (feq hc320).2 (o_iconst X111 hq at_235 (x := 0) rfl (o_istore X111 hq at_236 rfl (o_aload X111 hq at_238 rfl rfl (o_iload X111 hq at_240 rfl (o_iload X111 hq at_242 rfl (st368 _ (o_goto X368 hq at_245 (pc := 245) (pc' := 280) (o_aload X368 hq at_280 rfl rfl (o_iload X368 hq at_282 rfl (st369 _ kt)))))))))))
     obtain rfl := kb82 u377
     obtain rfl := kb97 u379
     obtain rfl := kb100 u380
     obtain ⟨_, T395, L395, X395, hQ395, st395⟩ := own_cS X369 hx hZ10 hown10 (ww76 hw) (ww77 hw) (ww1 hw) (ww78 hw) (rm16_17 l Z a0 hw b374 a170 b375 a7 a123 a128 a133 k172 a120 p11 a177 k179 82 i371 97 100 k376 a125 a183 k185 a130 a189 k191 a135 a195 k197 a199 T369.heap n0 Ou388 S_171 u391 V173 E_174 F121 E_175 (own_n (own_t lt122 (Keep.of_wr W368).1) u383) u389 S_12 hk13 F176 u390 F178 V180 u393 F126 E_181 (own_n (own_t lt127 (Keep.of_wr W368).1) u383) F182 F184 V186 F131 E_187 (own_n (own_t lt132 (Keep.of_wr W368).1) u383) F188 F190 V192 F136 E_193 (own_n (own_t lt137 (Keep.of_wr W368).1) u383) F194 F196 V198 S_200) rfl pd_21 hml (hb hby at_287) (Ls := (oL p1 p2 p3 p4 0 a7 b10 4 b18 1 1 i141 4 0)) (W := 0) (argsL := [(.ref b374)]) (rest := [])
     rcases hQ395 with ⟨b396, u397, u398, u399, u400, rfl, u402, u403, u404, Ku405, u406, u407⟩ | ⟨u408, rfl, u410, Ku411⟩
     ·
      exact absurd u398 (fun q => (own_bnl (c := (101 : Int32)) u378 hi141 (by decide +kernel) hc320 : ¬ i371 = 101) q.symm)
     ·
      have Ou411 := Ou388.keep Ku411 all0
      have N395 := Fr.app N369 u410
      obtain ⟨T412, L412, X412, u412, e412, st412⟩ := own_tE hw X395 hx hby hml hZ10 hown10 Ou411 E_315 F316 (oL p1 p2 p3 p4 0 a7 b10 4 b18 1 1 i141 4 0) rfl
      have N412 := Fr.app N395 u412
      refine fin (some (.int 1)) _ _ _ _ T10.vm _ X412 hS10 (by rw [e412]; exact (Nat.le_trans (Nat.le_trans (Nat.le_trans hz113 (Keep.of_wr W368).1) Ku388.1) Ku411.1)) nofun (fun fs hr => pre394 _ ?_) (own_atH e412 ?_) (by decide) (by decide)
      ·
       refine st395 _ (st412 _ ?_)
       exact retN X412 hx (t := .boolean) hret (by simp) (hb hby at_302) hr
      ·
       exact ⟨rfl, N412⟩
   ·
    subst hq220
    have pre414 : oS p e below EN T111 (mkF m 228 #[vI p1, vI p2, vI p3, vI p4, vI 0, vR a7, vR b10, vI 4, vR b18, vI 1, vI 2, vI i141, vI 4, .unset, .unset] [(.int 97), (.int i141)]) := fun t kt => pre219 t (o_caload X111 hq at_227 hZ10 e111 V111 (i := 2) (v := .int 97) (by decide +kernel) rfl kt)
    by_cases hc415 : i141 = 97
    ·
     subst hc415
     obtain ⟨T417, h417, X417, e417, W417, V417, st417⟩ := own_stC X111 hx hZ10 e111 V111 0 2 97 97 2 knc97 (hb hby at_244) (oL p1 p2 p3 p4 0 a7 b10 4 b18 1 2 97 4 1) [] (vs2 := [(.int 82), (.int 101), (.int 97), (.int 100), (.int 0), (.int 0), (.int 0), (.int 0)])
     have O417 := O111.wr W417 g_b18
     have N417 := Fr.snoc X417 N111 g_b18
     obtain ⟨_, T418, L418, X418, hQ418, st418⟩ := own_cS X417 hx hZ10 hown10 (ww52 hw) (ww53 hw) (ww27 hw) (ww54 hw) (rm9_11 l Z a0 hw b18 82 101 97 100 0 0 0 0 k18 p11 h417 n0 O417 V417 kll255_82 kll82_0 (own_t lt119 (Keep.of_wr W417).1) kll255_101 kll101_0 kll255_97 kll97_0 kll255_100 kll100_0 S_12 hk13) e417 pd_13 hml (hb hby at_284) (Ls := (oL p1 p2 p3 p4 0 a7 b10 4 b18 1 2 97 4 1)) (W := 0) (argsL := [(.ref b18), (.int 4)]) (rest := [])
     obtain ⟨i419, i420, i421, i422, b423, b424, k425, u426, u427, u428, u429, rfl, u431, u432, u433, u434, u435, u436, Ku437, u438, u439, u440, u441, u442⟩ := hQ418
     have Ou437 := O417.keep Ku437 all0
     have N418 := Fr.app N417 u431
     have pre443 : oS p e below EN T418 (mkF m 287 (oL p1 p2 p3 p4 0 a7 b10 4 b18 1 2 97 4 1) [(.ref b423)]) := fun t kt => pre414 t (o_icmpN X111 hq at_228 (by decide +kernel) (o_iconst X111 hq at_231 (x := 1) rfl (o_goto X111 hq at_232 (pc := 232) (pc' := 236) (o_istore X111 hq at_236 rfl (o_aload X111 hq at_238 rfl rfl (o_iload X111 hq at_240 rfl (o_iload X111 hq at_242 rfl (st417 _ (o_goto X417 hq at_245 (pc := 245) (pc' := 280) (o_aload X417 hq at_280 rfl rfl (o_iload X417 hq at_282 rfl (st418 _ kt))))))))))))
     obtain rfl := kb82 u426
     obtain rfl := kb101 u427
     obtain rfl := kb97 u428
     obtain rfl := kb100 u429
     obtain ⟨_, T444, L444, X444, hQ444, st444⟩ := own_cS X418 hx hZ10 hown10 (ww76 hw) (ww77 hw) (ww1 hw) (ww78 hw) (rm16_17 l Z a0 hw b423 a170 b424 a7 a123 a128 a133 k172 a120 p11 a177 k179 82 101 97 100 k425 a125 a183 k185 a130 a189 k191 a135 a195 k197 a199 T418.heap n0 Ou437 S_171 u440 V173 E_174 F121 E_175 (own_n (own_t lt122 (Keep.of_wr W417).1) u432) u438 S_12 hk13 F176 u439 F178 V180 u442 F126 E_181 (own_n (own_t lt127 (Keep.of_wr W417).1) u432) F182 F184 V186 F131 E_187 (own_n (own_t lt132 (Keep.of_wr W417).1) u432) F188 F190 V192 F136 E_193 (own_n (own_t lt137 (Keep.of_wr W417).1) u432) F194 F196 V198 S_200) rfl pd_21 hml (hb hby at_287) (Ls := (oL p1 p2 p3 p4 0 a7 b10 4 b18 1 2 97 4 1)) (W := 0) (argsL := [(.ref b423)]) (rest := [])
     rcases hQ444 with ⟨b445, u446, u447, u448, u449, rfl, u451, u452, u453, Ku454, u455, u456⟩ | ⟨u457, rfl, u459, Ku460⟩
     ·
      have Ou454 := Ou437.keep Ku454 all0
      have N444 := Fr.app N418 u451
      obtain ⟨T461, L461, X461, u461, e461, st461⟩ := own_tP hw X444 hx hby hml hZ10 hown10 Ou454 u455 u456 (oL p1 p2 p3 p4 0 a7 b10 4 b18 1 2 97 4 1) rfl
      have N461 := Fr.app N444 u461
      refine fin (some (.int 1)) _ _ _ _ T10.vm _ X461 hS10 (by rw [e461]; exact (Nat.le_trans (Nat.le_trans (Nat.le_trans hz113 (Keep.of_wr W417).1) Ku437.1) Ku454.1)) nofun (fun fs hr => pre443 _ ?_) (own_atH e461 ?_) (by decide) (by decide)
      ·
       refine st444 _ (st461 _ ?_)
       exact retN X461 hx (t := .boolean) hret (by simp) (hb hby at_326) hr
      ·
       exact ⟨rfl, N461⟩
     ·
      exact absurd ⟨kle82_82, kle101_101, kle97_97, kle100_100⟩ u457
    ·
     obtain ⟨T463, h463, X463, e463, W463, V463, st463⟩ := own_stC X111 hx hZ10 e111 V111 0 2 i141 i141 2 (own_nar255 hi141) (hb hby at_244) (oL p1 p2 p3 p4 0 a7 b10 4 b18 1 2 i141 4 0) [] (vs2 := [(.int 82), (.int 101), (.int i141), (.int 100), (.int 0), (.int 0), (.int 0), (.int 0)])
     have O463 := O111.wr W463 g_b18
     have N463 := Fr.snoc X463 N111 g_b18
     obtain ⟨_, T464, L464, X464, hQ464, st464⟩ := own_cS X463 hx hZ10 hown10 (ww52 hw) (ww53 hw) (ww27 hw) (ww54 hw) (rm9_11 l Z a0 hw b18 82 101 i141 100 0 0 0 0 k18 p11 h463 n0 O463 V463 kll255_82 kll82_0 (own_t lt119 (Keep.of_wr W463).1) kll255_101 kll101_0 (own_lt255 hi141) (own_nn hi141) kll255_100 kll100_0 S_12 hk13) e463 pd_13 hml (hb hby at_284) (Ls := (oL p1 p2 p3 p4 0 a7 b10 4 b18 1 2 i141 4 0)) (W := 0) (argsL := [(.ref b18), (.int 4)]) (rest := [])
     obtain ⟨i465, i466, i467, i468, b469, b470, k471, u472, u473, u474, u475, rfl, u477, u478, u479, u480, u481, u482, Ku483, u484, u485, u486, u487, u488⟩ := hQ464
     have Ou483 := O463.keep Ku483 all0
     have N464 := Fr.app N463 u477
     have pre489 : oS p e below EN T464 (mkF m 287 (oL p1 p2 p3 p4 0 a7 b10 4 b18 1 2 i141 4 0) [(.ref b469)]) := fun t kt => pre414 t (o_icmpY X111 hq at_228 (pc := 228) (pc' := 235) (feq hc415).2 (o_iconst X111 hq at_235 (x := 0) rfl (o_istore X111 hq at_236 rfl (o_aload X111 hq at_238 rfl rfl (o_iload X111 hq at_240 rfl (o_iload X111 hq at_242 rfl (st463 _ (o_goto X463 hq at_245 (pc := 245) (pc' := 280) (o_aload X463 hq at_280 rfl rfl (o_iload X463 hq at_282 rfl (st464 _ kt)))))))))))
     obtain rfl := kb82 u472
     obtain rfl := kb101 u473
     obtain rfl := kb100 u475
     obtain ⟨_, T490, L490, X490, hQ490, st490⟩ := own_cS X464 hx hZ10 hown10 (ww76 hw) (ww77 hw) (ww1 hw) (ww78 hw) (rm16_17 l Z a0 hw b469 a170 b470 a7 a123 a128 a133 k172 a120 p11 a177 k179 82 101 i467 100 k471 a125 a183 k185 a130 a189 k191 a135 a195 k197 a199 T464.heap n0 Ou483 S_171 u486 V173 E_174 F121 E_175 (own_n (own_t lt122 (Keep.of_wr W463).1) u478) u484 S_12 hk13 F176 u485 F178 V180 u488 F126 E_181 (own_n (own_t lt127 (Keep.of_wr W463).1) u478) F182 F184 V186 F131 E_187 (own_n (own_t lt132 (Keep.of_wr W463).1) u478) F188 F190 V192 F136 E_193 (own_n (own_t lt137 (Keep.of_wr W463).1) u478) F194 F196 V198 S_200) rfl pd_21 hml (hb hby at_287) (Ls := (oL p1 p2 p3 p4 0 a7 b10 4 b18 1 2 i141 4 0)) (W := 0) (argsL := [(.ref b469)]) (rest := [])
     rcases hQ490 with ⟨b491, u492, u493, u494, u495, rfl, u497, u498, u499, Ku500, u501, u502⟩ | ⟨u503, rfl, u505, Ku506⟩
     ·
      exact absurd u494 (fun q => (own_bnl (c := (97 : Int32)) u474 hi141 (by decide +kernel) hc415 : ¬ i467 = 97) q.symm)
     ·
      have Ou506 := Ou483.keep Ku506 all0
      have N490 := Fr.app N464 u505
      obtain ⟨T507, L507, X507, u507, e507, st507⟩ := own_tE hw X490 hx hby hml hZ10 hown10 Ou506 E_315 F316 (oL p1 p2 p3 p4 0 a7 b10 4 b18 1 2 i141 4 0) rfl
      have N507 := Fr.app N490 u507
      refine fin (some (.int 1)) _ _ _ _ T10.vm _ X507 hS10 (by rw [e507]; exact (Nat.le_trans (Nat.le_trans (Nat.le_trans hz113 (Keep.of_wr W463).1) Ku483.1) Ku506.1)) nofun (fun fs hr => pre489 _ ?_) (own_atH e507 ?_) (by decide) (by decide)
      ·
       refine st490 _ (st507 _ ?_)
       exact retN X507 hx (t := .boolean) hret (by simp) (hb hby at_302) hr
      ·
       exact ⟨rfl, N507⟩
   ·
    subst hq220
    have pre509 : oS p e below EN T111 (mkF m 228 #[vI p1, vI p2, vI p3, vI p4, vI 0, vR a7, vR b10, vI 4, vR b18, vI 1, vI 3, vI i141, vI 4, .unset, .unset] [(.int 100), (.int i141)]) := fun t kt => pre219 t (o_caload X111 hq at_227 hZ10 e111 V111 (i := 3) (v := .int 100) (by decide +kernel) rfl kt)
    by_cases hc510 : i141 = 100
    ·
     subst hc510
     obtain ⟨T512, h512, X512, e512, W512, V512, st512⟩ := own_stC X111 hx hZ10 e111 V111 0 3 100 100 3 knc100 (hb hby at_244) (oL p1 p2 p3 p4 0 a7 b10 4 b18 1 3 100 4 1) [] (vs2 := [(.int 82), (.int 101), (.int 97), (.int 100), (.int 0), (.int 0), (.int 0), (.int 0)])
     have O512 := O111.wr W512 g_b18
     have N512 := Fr.snoc X512 N111 g_b18
     obtain ⟨_, T513, L513, X513, hQ513, st513⟩ := own_cS X512 hx hZ10 hown10 (ww52 hw) (ww53 hw) (ww27 hw) (ww54 hw) (rm9_11 l Z a0 hw b18 82 101 97 100 0 0 0 0 k18 p11 h512 n0 O512 V512 kll255_82 kll82_0 (own_t lt119 (Keep.of_wr W512).1) kll255_101 kll101_0 kll255_97 kll97_0 kll255_100 kll100_0 S_12 hk13) e512 pd_13 hml (hb hby at_284) (Ls := (oL p1 p2 p3 p4 0 a7 b10 4 b18 1 3 100 4 1)) (W := 0) (argsL := [(.ref b18), (.int 4)]) (rest := [])
     obtain ⟨i514, i515, i516, i517, b518, b519, k520, u521, u522, u523, u524, rfl, u526, u527, u528, u529, u530, u531, Ku532, u533, u534, u535, u536, u537⟩ := hQ513
     have Ou532 := O512.keep Ku532 all0
     have N513 := Fr.app N512 u526
     have pre538 : oS p e below EN T513 (mkF m 287 (oL p1 p2 p3 p4 0 a7 b10 4 b18 1 3 100 4 1) [(.ref b518)]) := fun t kt => pre509 t (o_icmpN X111 hq at_228 (by decide +kernel) (o_iconst X111 hq at_231 (x := 1) rfl (o_goto X111 hq at_232 (pc := 232) (pc' := 236) (o_istore X111 hq at_236 rfl (o_aload X111 hq at_238 rfl rfl (o_iload X111 hq at_240 rfl (o_iload X111 hq at_242 rfl (st512 _ (o_goto X512 hq at_245 (pc := 245) (pc' := 280) (o_aload X512 hq at_280 rfl rfl (o_iload X512 hq at_282 rfl (st513 _ kt))))))))))))
     obtain rfl := kb82 u521
     obtain rfl := kb101 u522
     obtain rfl := kb97 u523
     obtain rfl := kb100 u524
     obtain ⟨_, T539, L539, X539, hQ539, st539⟩ := own_cS X513 hx hZ10 hown10 (ww76 hw) (ww77 hw) (ww1 hw) (ww78 hw) (rm16_17 l Z a0 hw b518 a170 b519 a7 a123 a128 a133 k172 a120 p11 a177 k179 82 101 97 100 k520 a125 a183 k185 a130 a189 k191 a135 a195 k197 a199 T513.heap n0 Ou532 S_171 u535 V173 E_174 F121 E_175 (own_n (own_t lt122 (Keep.of_wr W512).1) u527) u533 S_12 hk13 F176 u534 F178 V180 u537 F126 E_181 (own_n (own_t lt127 (Keep.of_wr W512).1) u527) F182 F184 V186 F131 E_187 (own_n (own_t lt132 (Keep.of_wr W512).1) u527) F188 F190 V192 F136 E_193 (own_n (own_t lt137 (Keep.of_wr W512).1) u527) F194 F196 V198 S_200) rfl pd_21 hml (hb hby at_287) (Ls := (oL p1 p2 p3 p4 0 a7 b10 4 b18 1 3 100 4 1)) (W := 0) (argsL := [(.ref b518)]) (rest := [])
     rcases hQ539 with ⟨b540, u541, u542, u543, u544, rfl, u546, u547, u548, Ku549, u550, u551⟩ | ⟨u552, rfl, u554, Ku555⟩
     ·
      have Ou549 := Ou532.keep Ku549 all0
      have N539 := Fr.app N513 u546
      obtain ⟨T556, L556, X556, u556, e556, st556⟩ := own_tP hw X539 hx hby hml hZ10 hown10 Ou549 u550 u551 (oL p1 p2 p3 p4 0 a7 b10 4 b18 1 3 100 4 1) rfl
      have N556 := Fr.app N539 u556
      refine fin (some (.int 1)) _ _ _ _ T10.vm _ X556 hS10 (by rw [e556]; exact (Nat.le_trans (Nat.le_trans (Nat.le_trans hz113 (Keep.of_wr W512).1) Ku532.1) Ku549.1)) nofun (fun fs hr => pre538 _ ?_) (own_atH e556 ?_) (by decide) (by decide)
      ·
       refine st539 _ (st556 _ ?_)
       exact retN X556 hx (t := .boolean) hret (by simp) (hb hby at_326) hr
      ·
       exact ⟨rfl, N556⟩
     ·
      exact absurd ⟨kle82_82, kle101_101, kle97_97, kle100_100⟩ u552
    ·
     obtain ⟨T558, h558, X558, e558, W558, V558, st558⟩ := own_stC X111 hx hZ10 e111 V111 0 3 i141 i141 3 (own_nar255 hi141) (hb hby at_244) (oL p1 p2 p3 p4 0 a7 b10 4 b18 1 3 i141 4 0) [] (vs2 := [(.int 82), (.int 101), (.int 97), (.int i141), (.int 0), (.int 0), (.int 0), (.int 0)])
     have O558 := O111.wr W558 g_b18
     have N558 := Fr.snoc X558 N111 g_b18
     obtain ⟨_, T559, L559, X559, hQ559, st559⟩ := own_cS X558 hx hZ10 hown10 (ww52 hw) (ww53 hw) (ww27 hw) (ww54 hw) (rm9_11 l Z a0 hw b18 82 101 97 i141 0 0 0 0 k18 p11 h558 n0 O558 V558 kll255_82 kll82_0 (own_t lt119 (Keep.of_wr W558).1) kll255_101 kll101_0 kll255_97 kll97_0 (own_lt255 hi141) (own_nn hi141) S_12 hk13) e558 pd_13 hml (hb hby at_284) (Ls := (oL p1 p2 p3 p4 0 a7 b10 4 b18 1 3 i141 4 0)) (W := 0) (argsL := [(.ref b18), (.int 4)]) (rest := [])
     obtain ⟨i560, i561, i562, i563, b564, b565, k566, u567, u568, u569, u570, rfl, u572, u573, u574, u575, u576, u577, Ku578, u579, u580, u581, u582, u583⟩ := hQ559
     have Ou578 := O558.keep Ku578 all0
     have N559 := Fr.app N558 u572
     have pre584 : oS p e below EN T559 (mkF m 287 (oL p1 p2 p3 p4 0 a7 b10 4 b18 1 3 i141 4 0) [(.ref b564)]) := fun t kt => pre509 t (o_icmpY X111 hq at_228 (pc := 228) (pc' := 235) (feq hc510).2 (o_iconst X111 hq at_235 (x := 0) rfl (o_istore X111 hq at_236 rfl (o_aload X111 hq at_238 rfl rfl (o_iload X111 hq at_240 rfl (o_iload X111 hq at_242 rfl (st558 _ (o_goto X558 hq at_245 (pc := 245) (pc' := 280) (o_aload X558 hq at_280 rfl rfl (o_iload X558 hq at_282 rfl (st559 _ kt)))))))))))
     obtain rfl := kb82 u567
     obtain rfl := kb101 u568
     obtain rfl := kb97 u569
     obtain ⟨_, T585, L585, X585, hQ585, st585⟩ := own_cS X559 hx hZ10 hown10 (ww76 hw) (ww77 hw) (ww1 hw) (ww78 hw) (rm16_17 l Z a0 hw b564 a170 b565 a7 a123 a128 a133 k172 a120 p11 a177 k179 82 101 97 i563 k566 a125 a183 k185 a130 a189 k191 a135 a195 k197 a199 T559.heap n0 Ou578 S_171 u581 V173 E_174 F121 E_175 (own_n (own_t lt122 (Keep.of_wr W558).1) u573) u579 S_12 hk13 F176 u580 F178 V180 u583 F126 E_181 (own_n (own_t lt127 (Keep.of_wr W558).1) u573) F182 F184 V186 F131 E_187 (own_n (own_t lt132 (Keep.of_wr W558).1) u573) F188 F190 V192 F136 E_193 (own_n (own_t lt137 (Keep.of_wr W558).1) u573) F194 F196 V198 S_200) rfl pd_21 hml (hb hby at_287) (Ls := (oL p1 p2 p3 p4 0 a7 b10 4 b18 1 3 i141 4 0)) (W := 0) (argsL := [(.ref b564)]) (rest := [])
     rcases hQ585 with ⟨b586, u587, u588, u589, u590, rfl, u592, u593, u594, Ku595, u596, u597⟩ | ⟨u598, rfl, u600, Ku601⟩
     ·
      exact absurd u590 (fun q => (own_bnl (c := (100 : Int32)) u570 hi141 (by decide +kernel) hc510 : ¬ i563 = 100) q.symm)
     ·
      have Ou601 := Ou578.keep Ku601 all0
      have N585 := Fr.app N559 u600
      obtain ⟨T602, L602, X602, u602, e602, st602⟩ := own_tE hw X585 hx hby hml hZ10 hown10 Ou601 E_315 F316 (oL p1 p2 p3 p4 0 a7 b10 4 b18 1 3 i141 4 0) rfl
      have N602 := Fr.app N585 u602
      refine fin (some (.int 1)) _ _ _ _ T10.vm _ X602 hS10 (by rw [e602]; exact (Nat.le_trans (Nat.le_trans (Nat.le_trans hz113 (Keep.of_wr W558).1) Ku578.1) Ku601.1)) nofun (fun fs hr => pre584 _ ?_) (own_atH e602 ?_) (by decide) (by decide)
      ·
       refine st585 _ (st602 _ ?_)
       exact retN X602 hx (t := .boolean) hret (by simp) (hb hby at_302) hr
      ·
       exact ⟨rfl, N602⟩
  ·
   subst hq143
   have pre603 : oS p e below EN T111 (mkF m 254 #[vI p1, vI p2, vI p3, vI p4, vI 0, vR a7, vR b10, vI 4, vR b18, vI 2, vI i140, vI i141, vI 4, .unset, .unset] []) := fun t kt => pre142 t (o_iload X111 hq at_204 rfl (o_ifY X111 hq at_206 (pc := 206) (pc' := 215) (by decide +kernel) (o_iload X111 hq at_215 rfl (o_iconst X111 hq at_217 (x := 1) rfl (o_icmpY X111 hq at_218 (pc := 218) (pc' := 248) (by decide +kernel) (o_iload X111 hq at_248 rfl (o_iconst X111 hq at_250 (x := 2) rfl (o_icmpN X111 hq at_251 (by decide +kernel) kt))))))))
   rcases (hi140 ▸ own_mod4 hi139 : i140 = 0 ∨ i140 = 1 ∨ i140 = 2 ∨ i140 = 3) with hq604 | hq604 | hq604 | hq604
   ·
    subst hq604
    obtain ⟨_, T605, L605, X605, hS605, hZ605, hown605, cg605, hQ605, st605⟩ := own_cSH (s := s) (vm0 := T10.vm) X111 hx hZ10 hown10 hS10 hz113 (own_EW hw) CR111.1 (ww52 hw) (ww53 hw) (ww27 hw) (ww54 hw) (rm9_30 l Z a0 hw b18 h111 n0 O111) e111 pd_13 hml (hb hby at_284) (Ls := (oL p1 p2 p3 p4 0 a7 b10 4 b18 2 0 i141 0 0)) (W := 0) (argsL := [(.ref b18), (.int 0)]) (rest := [])
    obtain ⟨b606, b607, k608, rfl, u610, u611, u612, u613, Ku614, u615, u616, u617, u618⟩ := hQ605
    have Ou614 := O111.keep Ku614 all0
    have N605 := Fr.app N111 u610
    obtain ⟨_, T619, L619, X619, hQ619, st619⟩ := own_cS X605 hx hZ605 hown605 (ww76 hw) (ww77 hw) (ww1 hw) (ww78 hw) (g16_33 b606 b607 _ 0 k608 T605.heap Ou614 u617 (own_n lt122 u611) u615 u616 u618 kle4_0 (own_n lt127 u611) kle5_0 (own_n lt132 u611) kle6_0 (own_n lt137 u611) kle7_0) rfl pd_21 hml (hb hby at_287) (Ls := (oL p1 p2 p3 p4 0 a7 b10 4 b18 2 0 i141 0 0)) (W := 0) (argsL := [(.ref b606)]) (rest := [])
    obtain ⟨rfl, u621, Ku622⟩ := hQ619
    have Ou622 := Ou614.keep Ku622 all0
    have N619 := Fr.app N605 u621
    obtain ⟨T623, L623, X623, u623, e623, st623⟩ := own_tE hw X619 hx hby hml hZ605 hown605 Ou622 E_315 F316 (oL p1 p2 p3 p4 0 a7 b10 4 b18 2 0 i141 0 0) rfl
    have N623 := Fr.app N619 u623
    refine fin (some (.int 1)) _ _ _ _ T605.vm _ X623 hS605 (by rw [e623]; exact (Nat.le_trans (Nat.le_refl _) Ku622.1)) nofun (fun fs hr => pre603 _ ?_) (own_atH e623 ?_) (by decide) (by decide)
    ·
     refine o_iload X111 hq at_254 rfl (o_istore X111 hq at_256 rfl (o_iconst X111 hq at_258 (x := 0) rfl (o_istore X111 hq at_259 rfl (o_goto X111 hq at_261 (pc := 261) (pc' := 280) (o_aload X111 hq at_280 rfl rfl (o_iload X111 hq at_282 rfl (st605 _ (st619 _ (st623 _ ?_)))))))))
     exact retN X623 hx (t := .boolean) hret (by simp) (hb hby at_302) hr
    ·
     exact ⟨rfl, N623⟩
   ·
    subst hq604
    obtain ⟨_, T624, L624, X624, hQ624, st624⟩ := own_cS X111 hx hZ10 hown10 (ww52 hw) (ww53 hw) (ww27 hw) (ww54 hw) (rm9_36 l Z a0 hw b18 82 101 97 100 0 0 0 0 k18 p11 h111 n0 O111 V111 kll255_82 kll82_0 S_12 hk13) e111 pd_13 hml (hb hby at_284) (Ls := (oL p1 p2 p3 p4 0 a7 b10 4 b18 2 1 i141 1 0)) (W := 0) (argsL := [(.ref b18), (.int 1)]) (rest := [])
    obtain ⟨i625, b626, b627, k628, u629, rfl, u631, u632, u633, u634, u635, u636, Ku637, u638, u639, u640, u641, u642⟩ := hQ624
    have Ou637 := O111.keep Ku637 all0
    have N624 := Fr.app N111 u631
    have pre643 : oS p e below EN T624 (mkF m 287 (oL p1 p2 p3 p4 0 a7 b10 4 b18 2 1 i141 1 0) [(.ref b626)]) := fun t kt => pre603 t (o_iload X111 hq at_254 rfl (o_istore X111 hq at_256 rfl (o_iconst X111 hq at_258 (x := 0) rfl (o_istore X111 hq at_259 rfl (o_goto X111 hq at_261 (pc := 261) (pc' := 280) (o_aload X111 hq at_280 rfl rfl (o_iload X111 hq at_282 rfl (st624 _ kt))))))))
    obtain rfl := kb82 u629
    obtain ⟨_, T644, L644, X644, hQ644, st644⟩ := own_cS X624 hx hZ10 hown10 (ww76 hw) (ww77 hw) (ww1 hw) (ww78 hw) (g16_42 b626 b627 _ 1 k628 T624.heap Ou637 u640 (own_n lt122 u632) u638 u639 u642 kle4_1 (own_n lt127 u632) kle5_1 (own_n lt132 u632) kle6_1 (own_n lt137 u632) kle7_1) rfl pd_21 hml (hb hby at_287) (Ls := (oL p1 p2 p3 p4 0 a7 b10 4 b18 2 1 i141 1 0)) (W := 0) (argsL := [(.ref b626)]) (rest := [])
    obtain ⟨rfl, u646, Ku647⟩ := hQ644
    have Ou647 := Ou637.keep Ku647 all0
    have N644 := Fr.app N624 u646
    obtain ⟨T648, L648, X648, u648, e648, st648⟩ := own_tE hw X644 hx hby hml hZ10 hown10 Ou647 E_315 F316 (oL p1 p2 p3 p4 0 a7 b10 4 b18 2 1 i141 1 0) rfl
    have N648 := Fr.app N644 u648
    refine fin (some (.int 1)) _ _ _ _ T10.vm _ X648 hS10 (by rw [e648]; exact (Nat.le_trans (Nat.le_trans hz113 Ku637.1) Ku647.1)) nofun (fun fs hr => pre643 _ ?_) (own_atH e648 ?_) (by decide) (by decide)
    ·
     refine st644 _ (st648 _ ?_)
     exact retN X648 hx (t := .boolean) hret (by simp) (hb hby at_302) hr
    ·
     exact ⟨rfl, N648⟩
   ·
    subst hq604
    obtain ⟨_, T649, L649, X649, hQ649, st649⟩ := own_cS X111 hx hZ10 hown10 (ww52 hw) (ww53 hw) (ww27 hw) (ww54 hw) (rm9_43 l Z a0 hw b18 82 101 97 100 0 0 0 0 k18 p11 h111 n0 O111 V111 kll255_82 kll82_0 lt119 kll255_101 kll101_0 S_12 hk13) e111 pd_13 hml (hb hby at_284) (Ls := (oL p1 p2 p3 p4 0 a7 b10 4 b18 2 2 i141 2 0)) (W := 0) (argsL := [(.ref b18), (.int 2)]) (rest := [])
    obtain ⟨i650, i651, b652, b653, k654, u655, u656, rfl, u658, u659, u660, u661, u662, u663, Ku664, u665, u666, u667, u668, u669⟩ := hQ649
    have Ou664 := O111.keep Ku664 all0
    have N649 := Fr.app N111 u658
    have pre670 : oS p e below EN T649 (mkF m 287 (oL p1 p2 p3 p4 0 a7 b10 4 b18 2 2 i141 2 0) [(.ref b652)]) := fun t kt => pre603 t (o_iload X111 hq at_254 rfl (o_istore X111 hq at_256 rfl (o_iconst X111 hq at_258 (x := 0) rfl (o_istore X111 hq at_259 rfl (o_goto X111 hq at_261 (pc := 261) (pc' := 280) (o_aload X111 hq at_280 rfl rfl (o_iload X111 hq at_282 rfl (st649 _ kt))))))))
    obtain rfl := kb82 u655
    obtain rfl := kb101 u656
    obtain ⟨_, T671, L671, X671, hQ671, st671⟩ := own_cS X649 hx hZ10 hown10 (ww76 hw) (ww77 hw) (ww1 hw) (ww78 hw) (g16_42 b652 b653 _ 2 k654 T649.heap Ou664 u667 (own_n lt122 u659) u665 u666 u669 kle4_2 (own_n lt127 u659) kle5_2 (own_n lt132 u659) kle6_2 (own_n lt137 u659) kle7_2) rfl pd_21 hml (hb hby at_287) (Ls := (oL p1 p2 p3 p4 0 a7 b10 4 b18 2 2 i141 2 0)) (W := 0) (argsL := [(.ref b652)]) (rest := [])
    obtain ⟨rfl, u673, Ku674⟩ := hQ671
    have Ou674 := Ou664.keep Ku674 all0
    have N671 := Fr.app N649 u673
    obtain ⟨T675, L675, X675, u675, e675, st675⟩ := own_tE hw X671 hx hby hml hZ10 hown10 Ou674 E_315 F316 (oL p1 p2 p3 p4 0 a7 b10 4 b18 2 2 i141 2 0) rfl
    have N675 := Fr.app N671 u675
    refine fin (some (.int 1)) _ _ _ _ T10.vm _ X675 hS10 (by rw [e675]; exact (Nat.le_trans (Nat.le_trans hz113 Ku664.1) Ku674.1)) nofun (fun fs hr => pre670 _ ?_) (own_atH e675 ?_) (by decide) (by decide)
    ·
     refine st671 _ (st675 _ ?_)
     exact retN X675 hx (t := .boolean) hret (by simp) (hb hby at_302) hr
    ·
     exact ⟨rfl, N675⟩
   ·
    subst hq604
    obtain ⟨_, T676, L676, X676, hQ676, st676⟩ := own_cS X111 hx hZ10 hown10 (ww52 hw) (ww53 hw) (ww27 hw) (ww54 hw) (rm9_49 l Z a0 hw b18 82 101 97 100 0 0 0 0 k18 p11 h111 n0 O111 V111 kll255_82 kll82_0 lt119 kll255_101 kll101_0 kll255_97 kll97_0 S_12 hk13) e111 pd_13 hml (hb hby at_284) (Ls := (oL p1 p2 p3 p4 0 a7 b10 4 b18 2 3 i141 3 0)) (W := 0) (argsL := [(.ref b18), (.int 3)]) (rest := [])
    obtain ⟨i677, i678, i679, b680, b681, k682, u683, u684, u685, rfl, u687, u688, u689, u690, u691, u692, Ku693, u694, u695, u696, u697, u698⟩ := hQ676
    have Ou693 := O111.keep Ku693 all0
    have N676 := Fr.app N111 u687
    have pre699 : oS p e below EN T676 (mkF m 287 (oL p1 p2 p3 p4 0 a7 b10 4 b18 2 3 i141 3 0) [(.ref b680)]) := fun t kt => pre603 t (o_iload X111 hq at_254 rfl (o_istore X111 hq at_256 rfl (o_iconst X111 hq at_258 (x := 0) rfl (o_istore X111 hq at_259 rfl (o_goto X111 hq at_261 (pc := 261) (pc' := 280) (o_aload X111 hq at_280 rfl rfl (o_iload X111 hq at_282 rfl (st676 _ kt))))))))
    obtain rfl := kb82 u683
    obtain rfl := kb101 u684
    obtain rfl := kb97 u685
    obtain ⟨_, T700, L700, X700, hQ700, st700⟩ := own_cS X676 hx hZ10 hown10 (ww76 hw) (ww77 hw) (ww1 hw) (ww78 hw) (g16_42 b680 b681 _ 3 k682 T676.heap Ou693 u696 (own_n lt122 u688) u694 u695 u698 kle4_3 (own_n lt127 u688) kle5_3 (own_n lt132 u688) kle6_3 (own_n lt137 u688) kle7_3) rfl pd_21 hml (hb hby at_287) (Ls := (oL p1 p2 p3 p4 0 a7 b10 4 b18 2 3 i141 3 0)) (W := 0) (argsL := [(.ref b680)]) (rest := [])
    obtain ⟨rfl, u702, Ku703⟩ := hQ700
    have Ou703 := Ou693.keep Ku703 all0
    have N700 := Fr.app N676 u702
    obtain ⟨T704, L704, X704, u704, e704, st704⟩ := own_tE hw X700 hx hby hml hZ10 hown10 Ou703 E_315 F316 (oL p1 p2 p3 p4 0 a7 b10 4 b18 2 3 i141 3 0) rfl
    have N704 := Fr.app N700 u704
    refine fin (some (.int 1)) _ _ _ _ T10.vm _ X704 hS10 (by rw [e704]; exact (Nat.le_trans (Nat.le_trans hz113 Ku693.1) Ku703.1)) nofun (fun fs hr => pre699 _ ?_) (own_atH e704 ?_) (by decide) (by decide)
    ·
     refine st700 _ (st704 _ ?_)
     exact retN X704 hx (t := .boolean) hret (by simp) (hb hby at_302) hr
    ·
     exact ⟨rfl, N704⟩
  ·
   subst hq143
   obtain ⟨T706, h706, X706, e706, W706, V706, st706⟩ := own_stC X111 hx hZ10 e111 V111 0 4 i141 i141 4 (own_nar255 hi141) (hb hby at_270) #[vI p1, vI p2, vI p3, vI p4, vI 0, vR a7, vR b10, vI 4, vR b18, vI 3, vI i140, vI i141, vI 4, .unset, .unset] [] (vs2 := [(.int 82), (.int 101), (.int 97), (.int 100), (.int i141), (.int 0), (.int 0), (.int 0)])
   have O706 := O111.wr W706 g_b18
   have N706 := Fr.snoc X706 N111 g_b18
   obtain ⟨_, T707, L707, X707, hQ707, st707⟩ := own_cS X706 hx hZ10 hown10 (ww52 hw) (ww53 hw) (ww27 hw) (ww54 hw) (rm9_55 l Z a0 hw b18 82 101 97 100 i141 0 0 0 k18 p11 h706 n0 O706 V706 kll255_82 kll82_0 (own_t lt119 (Keep.of_wr W706).1) kll255_101 kll101_0 kll255_97 kll97_0 kll255_100 kll100_0 (own_lt255 hi141) (own_nn hi141) S_12 hk13) e706 pd_13 hml (hb hby at_284) (Ls := (oL p1 p2 p3 p4 0 a7 b10 4 b18 3 i140 i141 5 0)) (W := 0) (argsL := [(.ref b18), (.int 5)]) (rest := [])
   obtain ⟨i708, i709, i710, i711, i712, b713, b714, k715, u716, u717, u718, u719, u720, rfl, u722, u723, u724, u725, u726, u727, Ku728, u729, u730, u731, u732, u733⟩ := hQ707
   have Ou728 := O706.keep Ku728 all0
   have N707 := Fr.app N706 u722
   have pre734 : oS p e below EN T707 (mkF m 287 (oL p1 p2 p3 p4 0 a7 b10 4 b18 3 i140 i141 5 0) [(.ref b713)]) := fun t kt => pre142 t (o_iload X111 hq at_204 rfl (o_ifY X111 hq at_206 (pc := 206) (pc' := 215) (by decide +kernel) (o_iload X111 hq at_215 rfl (o_iconst X111 hq at_217 (x := 1) rfl (o_icmpY X111 hq at_218 (pc := 218) (pc' := 248) (by decide +kernel) (o_iload X111 hq at_248 rfl (o_iconst X111 hq at_250 (x := 2) rfl (o_icmpY X111 hq at_251 (pc := 251) (pc' := 264) (by decide +kernel) (o_aload X111 hq at_264 rfl rfl (o_iload X111 hq at_266 rfl (o_iload X111 hq at_268 rfl (st706 _ (o_iload X706 hq at_271 rfl (o_iconst X706 hq at_273 (x := 1) rfl (o_iadd X706 hq at_274 (z := 5) (by decide +kernel) (o_istore X706 hq at_275 rfl (o_iconst X706 hq at_277 (x := 0) rfl (o_istore X706 hq at_278 rfl (o_aload X706 hq at_280 rfl rfl (o_iload X706 hq at_282 rfl (st707 _ kt)))))))))))))))))))))
   obtain rfl := kb82 u716
   obtain rfl := kb101 u717
   obtain rfl := kb97 u718
   obtain rfl := kb100 u719
   obtain ⟨_, T735, L735, X735, hQ735, st735⟩ := own_cS X707 hx hZ10 hown10 (ww76 hw) (ww77 hw) (ww1 hw) (ww78 hw) (rm16_61 l Z a0 hw b713 a170 b714 a7 a123 a128 a133 k172 a120 p11 a177 k179 82 101 97 100 i712 k715 a125 a183 k185 a130 a189 k191 a135 a195 k197 a199 T707.heap n0 Ou728 S_171 u731 V173 E_174 F121 E_175 (own_n (own_t lt122 (Keep.of_wr W706).1) u723) u729 S_12 hk13 F176 u730 F178 V180 u733 F126 E_181 (own_n (own_t lt127 (Keep.of_wr W706).1) u723) F182 F184 V186 F131 E_187 (own_n (own_t lt132 (Keep.of_wr W706).1) u723) F188 F190 V192 F136 E_193 (own_n (own_t lt137 (Keep.of_wr W706).1) u723) F194 F196 V198 S_200) rfl pd_21 hml (hb hby at_287) (Ls := (oL p1 p2 p3 p4 0 a7 b10 4 b18 3 i140 i141 5 0)) (W := 0) (argsL := [(.ref b713)]) (rest := [])
   rcases hQ735 with ⟨b736, u737, u738, u739, u740, u741, rfl, u743, u744, u745, Ku746, u747, u748⟩ | ⟨u749, rfl, u751, Ku752⟩
   ·
    exact absurd u737 (by decide +kernel)
   ·
    have Ou752 := Ou728.keep Ku752 all0
    have N735 := Fr.app N707 u751
    obtain ⟨T753, L753, X753, u753, e753, st753⟩ := own_tE hw X735 hx hby hml hZ10 hown10 Ou752 E_315 F316 (oL p1 p2 p3 p4 0 a7 b10 4 b18 3 i140 i141 5 0) rfl
    have N753 := Fr.app N735 u753
    refine fin (some (.int 1)) _ _ _ _ T10.vm _ X753 hS10 (by rw [e753]; exact (Nat.le_trans (Nat.le_trans (Nat.le_trans hz113 (Keep.of_wr W706).1) Ku728.1) Ku752.1)) nofun (fun fs hr => pre734 _ ?_) (own_atH e753 ?_) (by decide) (by decide)
    ·
     refine st735 _ (st753 _ ?_)
     exact retN X753 hx (t := .boolean) hret (by simp) (hb hby at_302) hr
    ·
     exact ⟨rfl, N753⟩
 ·
  obtain ⟨T754, X754, e754, st754⟩ := getS2 X0 hx hZ hown (host := "") (Or.inl (ww124 hw)) Via.refl e0 (Sta.ext O0.2 S_124) (g := (mkF m 22 #[vI p1, vI p2, vI p3, vI p4, vI 1, .unset, .unset, .unset, .unset, .unset, .unset, .unset, .unset, .unset, .unset] [])) rfl (hb hby at_22)
  obtain ⟨b755, T755, h755, kk755, bv755, k755, X755, e755, E755, hS755, hk755, hZ755, hown755, A755, Fc755, Fv755, V755, lta755, ltb755, cg755, Lt755, ns755, st755⟩ := ldcCH (s := s) (vm0 := s.vm) (EL := own_EL) X754 hx hZ hown (ww125 hw) (own_wS hw) e754 hS0 Y0 (own_EW hw) (by decide) CR0.1 (vs := [(.int (87 : Int32)), (.int (114 : Int32)), (.int (105 : Int32)), (.int (116 : Int32)), (.int (101 : Int32))]) (z := 5) (by decide +kernel) (by decide +kernel) (by decide +kernel) (g := (mkF m 61 #[vI p1, vI p2, vI p3, vI p4, vI 1, vR a123, .unset, .unset, .unset, .unset, .unset, .unset, .unset, .unset, .unset] [])) rfl (hb hby at_61) (n := 20) (by decide +kernel) (by decide) (by decide) (by decide)
  have O755 := O0.ext E755
  have ch755 := cg755
  have CR755 := CR0.trans ch755
  obtain ⟨_, T756, L756, X756, hQ756, st756⟩ := own_cV X755 hx hZ755 hown755 (ww11 hw) (ww12 hw) (notFace_of_selects (args := #[]) (mvT hZ755 (ww14 hw))) (ww14 hw) (ww13 hw) (ww4 hw) (ww15 hw) A755 (rm1_2 l Z a0 hw b755 bv755 _ 5 k755 p11 h755 n0 O755 Fv755 V755 A755 S_12 hk13 Fc755) e755 pd_1 hml (hb hby at_83) (Ls := #[vI p1, vI p2, vI p3, vI p4, vI 1, vR a123, vR b755, .unset, .unset, .unset, .unset, .unset, .unset, .unset, .unset]) (W := 0) (argsL := []) (rest := [])
  obtain ⟨rfl, u758, u759⟩ := hQ756
  have N756 := Fr.app N0 u758
  obtain ⟨T760, h760, k760, X760, e760, E760, A760, Ex760, st760⟩ := newPE (aty := .char) X756 hx hZ755 (ww24 hw) u759 (g := (mkF m 90 #[vI p1, vI p2, vI p3, vI p4, vI 1, vR a123, vR b755, vI 5, .unset, .unset, .unset, .unset, .unset, .unset, .unset] [(.int 8)])) rfl (hb hby at_90) rfl (by decide +kernel) (cap := 8) (by decide +kernel) (by decide) (by decide) (by decide) (ad := "[C") (by decide +kernel)
  obtain ⟨b760, g760⟩ : ∃ z, z = h755.size := ⟨_, rfl⟩
  rw [← g760] at A760 Ex760 st760
  have O760 := O755.ext E760
  have ch760 := CHr.ext E760 CR755.1
  have CR760 := CR755.trans ch760
  have bd_b760 : h755.size ≤ b760 := Nat.le_of_eq g760.symm
  have g_b760 : n0 ≤ b760 := Nat.le_trans (own_z O755) bd_b760
  have lt_b760 : b760 < h760.size := A760.lt
  have V760 : Arv Z h760 b760 k760 .char 8 [] (.int 0) := Arv.new A760 (by decide +kernel)
  have f761 := (Exa.ext E760 A755)
  have f762 := (Fld.ext E760 Fv755)
  have f763 := (V755.ext E760)
  have f764 := (Fld.ext E760 Fc755)
  obtain ⟨_, T765, L765, X765, hQ765, st765⟩ := own_cS X760 hx hZ755 hown755 (ww25 hw) (ww26 hw) (ww27 hw) (ww28 hw) (rm3_4 l Z a0 hw b755 0 bv755 _ 5 k755 p11 va19 87 h760 n0 O760 f761 f762 f763 S_12 hk13 f764 kll0_5 S_20 kll0_0 rfl ir_va19) e760 pd_7 hml (hb hby at_100) (Ls := #[vI p1, vI p2, vI p3, vI p4, vI 1, vR a123, vR b755, vI 5, vR b760, .unset, .unset, .unset, .unset, .unset, .unset]) (W := 2) (argsL := [(.ref b755), (.int 0)]) (rest := [(.int 0), (.ref b760)])
  obtain ⟨i766, u767, rfl, u769, u770⟩ := hQ765
  have N765 := Fr.app N756 u769
  have pre771 : oS p e below EN T765 (mkF m 103 #[vI p1, vI p2, vI p3, vI p4, vI 1, vR a123, vR b755, vI 5, vR b760, .unset, .unset, .unset, .unset, .unset, .unset] [(.int i766), (.int 0), (.ref b760)]) := fun t kt => pre6 t (o_iand X0 hq at_2 (z := 1) hq5 (o_istore X0 hq at_3 rfl (o_iload X0 hq at_5 rfl (o_ifY X0 hq at_7 (pc := 7) (pc' := 16) (by decide +kernel) (o_iload X0 hq at_16 rfl (o_iconst X0 hq at_18 (x := 1) rfl (o_icmpN X0 hq at_19 (by decide +kernel) (st754 _ (o_goto X754 hq at_25 (pc := 25) (pc' := 43) (o_astore X754 hq at_43 rfl rfl (o_iload X754 hq at_45 rfl (o_ifY X754 hq at_47 (pc := 47) (pc' := 55) (by decide +kernel) (o_iload X754 hq at_55 rfl (o_iconst X754 hq at_57 (x := 1) rfl (o_icmpN X754 hq at_58 (by decide +kernel) (st755 _ (o_goto X755 hq at_63 (pc := 63) (pc' := 79) (o_astore X755 hq at_79 rfl rfl (o_aload X755 hq at_81 rfl rfl (st756 _ (o_istore X756 hq at_86 rfl (o_bipush X756 hq at_88 (x := 8) rfl (st760 _ (o_astore X760 hq at_92 rfl rfl (o_aload X760 hq at_94 rfl rfl (o_iconst X760 hq at_96 (x := 0) rfl (o_aload X760 hq at_97 rfl rfl (o_iconst X760 hq at_99 (x := 0) rfl (st765 _ kt)))))))))))))))))))))))))))))
  obtain rfl : 87 = i766 := (u767.trans (by decide +kernel : ((87 : Int32) &&& (255 : Int32)) = (87 : Int32))).symm
  obtain ⟨T772, h772, X772, e772, W772, V772, st772⟩ := own_stC X765 hx hZ755 u770 V760 1 0 87 87 0 knc87 (hb hby at_103) #[vI p1, vI p2, vI p3, vI p4, vI 1, vR a123, vR b755, vI 5, vR b760, .unset, .unset, .unset, .unset, .unset, .unset] [] (vs2 := [(.int 87)])
  have O772 := O760.wr W772 g_b760
  have ch772 := CHr.wr W772 (Safe.exa hZ755.alike Ex760 (by decide) (by decide)) CR760.1
  have CR772 := CR760.trans ch772
  have N772 := Fr.snoc X772 N765 g_b760
  have f773 := (Exa.wr W772 f761)
  have f774 := (Fld.other W772 f762 (Or.inl (own_n lta755 bd_b760)))
  have f775 := (f763.other W772 (own_n ltb755 bd_b760))
  have f776 := (Fld.other W772 f764 (Or.inl (own_n lta755 bd_b760)))
  obtain ⟨_, T777, L777, X777, hQ777, st777⟩ := own_cS X772 hx hZ755 hown755 (ww25 hw) (ww26 hw) (ww27 hw) (ww28 hw) (rm3_4 l Z a0 hw b755 1 bv755 _ 5 k755 p11 va19 114 h772 n0 O772 f773 f774 f775 S_12 hk13 f776 kll1_5 S_20 kll1_0 rfl ir_va19) e772 pd_7 hml (hb hby at_110) (Ls := #[vI p1, vI p2, vI p3, vI p4, vI 1, vR a123, vR b755, vI 5, vR b760, .unset, .unset, .unset, .unset, .unset, .unset]) (W := 2) (argsL := [(.ref b755), (.int 1)]) (rest := [(.int 1), (.ref b760)])
  obtain ⟨i778, u779, rfl, u781, u782⟩ := hQ777
  have N777 := Fr.app N772 u781
  have pre783 : oS p e below EN T777 (mkF m 113 #[vI p1, vI p2, vI p3, vI p4, vI 1, vR a123, vR b755, vI 5, vR b760, .unset, .unset, .unset, .unset, .unset, .unset] [(.int i778), (.int 1), (.ref b760)]) := fun t kt => pre771 t (st772 _ (o_aload X772 hq at_104 rfl rfl (o_iconst X772 hq at_106 (x := 1) rfl (o_aload X772 hq at_107 rfl rfl (o_iconst X772 hq at_109 (x := 1) rfl (st777 _ kt))))))
  obtain rfl : 114 = i778 := (u779.trans (by decide +kernel : ((114 : Int32) &&& (255 : Int32)) = (114 : Int32))).symm
  have f784 := (Exa.wr W772 Ex760)
  obtain ⟨T785, h785, X785, e785, W785, V785, st785⟩ := own_stC X777 hx hZ755 u782 V772 1 1 114 114 1 knc114 (hb hby at_113) #[vI p1, vI p2, vI p3, vI p4, vI 1, vR a123, vR b755, vI 5, vR b760, .unset, .unset, .unset, .unset, .unset, .unset] [] (vs2 := [(.int 87), (.int 114)])
  have O785 := O772.wr W785 g_b760
  have ch785 := CHr.wr W785 (Safe.exa hZ755.alike f784 (by decide) (by decide)) CR772.1
  have CR785 := CR772.trans ch785
  have N785 := Fr.snoc X785 N777 g_b760
  have f786 := (Exa.wr W785 f773)
  have f787 := (Fld.other W785 f774 (Or.inl (own_n lta755 bd_b760)))
  have f788 := (f775.other W785 (own_n ltb755 bd_b760))
  have f789 := (Fld.other W785 f776 (Or.inl (own_n lta755 bd_b760)))
  obtain ⟨_, T790, L790, X790, hQ790, st790⟩ := own_cS X785 hx hZ755 hown755 (ww25 hw) (ww26 hw) (ww27 hw) (ww28 hw) (rm3_4 l Z a0 hw b755 2 bv755 _ 5 k755 p11 va19 105 h785 n0 O785 f786 f787 f788 S_12 hk13 f789 kll2_5 S_20 kll2_0 rfl ir_va19) e785 pd_7 hml (hb hby at_120) (Ls := #[vI p1, vI p2, vI p3, vI p4, vI 1, vR a123, vR b755, vI 5, vR b760, .unset, .unset, .unset, .unset, .unset, .unset]) (W := 2) (argsL := [(.ref b755), (.int 2)]) (rest := [(.int 2), (.ref b760)])
  obtain ⟨i791, u792, rfl, u794, u795⟩ := hQ790
  have N790 := Fr.app N785 u794
  have pre796 : oS p e below EN T790 (mkF m 123 #[vI p1, vI p2, vI p3, vI p4, vI 1, vR a123, vR b755, vI 5, vR b760, .unset, .unset, .unset, .unset, .unset, .unset] [(.int i791), (.int 2), (.ref b760)]) := fun t kt => pre783 t (st785 _ (o_aload X785 hq at_114 rfl rfl (o_iconst X785 hq at_116 (x := 2) rfl (o_aload X785 hq at_117 rfl rfl (o_iconst X785 hq at_119 (x := 2) rfl (st790 _ kt))))))
  obtain rfl : 105 = i791 := (u792.trans (by decide +kernel : ((105 : Int32) &&& (255 : Int32)) = (105 : Int32))).symm
  have f797 := (Exa.wr W785 f784)
  obtain ⟨T798, h798, X798, e798, W798, V798, st798⟩ := own_stC X790 hx hZ755 u795 V785 1 2 105 105 2 knc105 (hb hby at_123) #[vI p1, vI p2, vI p3, vI p4, vI 1, vR a123, vR b755, vI 5, vR b760, .unset, .unset, .unset, .unset, .unset, .unset] [] (vs2 := [(.int 87), (.int 114), (.int 105)])
  have O798 := O785.wr W798 g_b760
  have ch798 := CHr.wr W798 (Safe.exa hZ755.alike f797 (by decide) (by decide)) CR785.1
  have CR798 := CR785.trans ch798
  have N798 := Fr.snoc X798 N790 g_b760
  have f799 := (Exa.wr W798 f786)
  have f800 := (Fld.other W798 f787 (Or.inl (own_n lta755 bd_b760)))
  have f801 := (f788.other W798 (own_n ltb755 bd_b760))
  have f802 := (Fld.other W798 f789 (Or.inl (own_n lta755 bd_b760)))
  obtain ⟨_, T803, L803, X803, hQ803, st803⟩ := own_cS X798 hx hZ755 hown755 (ww25 hw) (ww26 hw) (ww27 hw) (ww28 hw) (rm3_4 l Z a0 hw b755 3 bv755 _ 5 k755 p11 va19 116 h798 n0 O798 f799 f800 f801 S_12 hk13 f802 kll3_5 S_20 kll3_0 rfl ir_va19) e798 pd_7 hml (hb hby at_130) (Ls := #[vI p1, vI p2, vI p3, vI p4, vI 1, vR a123, vR b755, vI 5, vR b760, .unset, .unset, .unset, .unset, .unset, .unset]) (W := 2) (argsL := [(.ref b755), (.int 3)]) (rest := [(.int 3), (.ref b760)])
  obtain ⟨i804, u805, rfl, u807, u808⟩ := hQ803
  have N803 := Fr.app N798 u807
  have pre809 : oS p e below EN T803 (mkF m 133 #[vI p1, vI p2, vI p3, vI p4, vI 1, vR a123, vR b755, vI 5, vR b760, .unset, .unset, .unset, .unset, .unset, .unset] [(.int i804), (.int 3), (.ref b760)]) := fun t kt => pre796 t (st798 _ (o_aload X798 hq at_124 rfl rfl (o_iconst X798 hq at_126 (x := 3) rfl (o_aload X798 hq at_127 rfl rfl (o_iconst X798 hq at_129 (x := 3) rfl (st803 _ kt))))))
  obtain rfl : 116 = i804 := (u805.trans (by decide +kernel : ((116 : Int32) &&& (255 : Int32)) = (116 : Int32))).symm
  have f810 := (Exa.wr W798 f797)
  obtain ⟨T811, h811, X811, e811, W811, V811, st811⟩ := own_stC X803 hx hZ755 u808 V798 1 3 116 116 3 knc116 (hb hby at_133) #[vI p1, vI p2, vI p3, vI p4, vI 1, vR a123, vR b755, vI 5, vR b760, .unset, .unset, .unset, .unset, .unset, .unset] [] (vs2 := [(.int 87), (.int 114), (.int 105), (.int 116)])
  have O811 := O798.wr W811 g_b760
  have ch811 := CHr.wr W811 (Safe.exa hZ755.alike f810 (by decide) (by decide)) CR798.1
  have CR811 := CR798.trans ch811
  have N811 := Fr.snoc X811 N803 g_b760
  have f812 := (Exa.wr W811 f799)
  have f813 := (Fld.other W811 f800 (Or.inl (own_n lta755 bd_b760)))
  have f814 := (f801.other W811 (own_n ltb755 bd_b760))
  have f815 := (Fld.other W811 f802 (Or.inl (own_n lta755 bd_b760)))
  obtain ⟨_, T816, L816, X816, hQ816, st816⟩ := own_cS X811 hx hZ755 hown755 (ww25 hw) (ww26 hw) (ww27 hw) (ww28 hw) (rm3_4 l Z a0 hw b755 4 bv755 _ 5 k755 p11 va19 101 h811 n0 O811 f812 f813 f814 S_12 hk13 f815 kll4_5 S_20 kll4_0 rfl ir_va19) e811 pd_7 hml (hb hby at_140) (Ls := #[vI p1, vI p2, vI p3, vI p4, vI 1, vR a123, vR b755, vI 5, vR b760, .unset, .unset, .unset, .unset, .unset, .unset]) (W := 2) (argsL := [(.ref b755), (.int 4)]) (rest := [(.int 4), (.ref b760)])
  obtain ⟨i817, u818, rfl, u820, u821⟩ := hQ816
  have N816 := Fr.app N811 u820
  have pre822 : oS p e below EN T816 (mkF m 143 #[vI p1, vI p2, vI p3, vI p4, vI 1, vR a123, vR b755, vI 5, vR b760, .unset, .unset, .unset, .unset, .unset, .unset] [(.int i817), (.int 4), (.ref b760)]) := fun t kt => pre809 t (st811 _ (o_aload X811 hq at_134 rfl rfl (o_iconst X811 hq at_136 (x := 4) rfl (o_aload X811 hq at_137 rfl rfl (o_iconst X811 hq at_139 (x := 4) rfl (st816 _ kt))))))
  obtain rfl : 101 = i817 := (u818.trans (by decide +kernel : ((101 : Int32) &&& (255 : Int32)) = (101 : Int32))).symm
  have f823 := (Exa.wr W811 f810)
  obtain ⟨T824, h824, X824, e824, W824, V824, st824⟩ := own_stC X816 hx hZ755 u821 V811 1 4 101 101 4 knc101 (hb hby at_143) #[vI p1, vI p2, vI p3, vI p4, vI 1, vR a123, vR b755, vI 5, vR b760, .unset, .unset, .unset, .unset, .unset, .unset] [] (vs2 := [(.int 87), (.int 114), (.int 105), (.int 116), (.int 101)])
  have O824 := O811.wr W824 g_b760
  have ch824 := CHr.wr W824 (Safe.exa hZ755.alike f823 (by decide) (by decide)) CR811.1
  have CR824 := CR811.trans ch824
  have N824 := Fr.snoc X824 N816 g_b760
  have f825 := (Exa.wr W824 f812)
  have f826 := (Fld.other W824 f813 (Or.inl (own_n lta755 bd_b760)))
  have f827 := (f814.other W824 (own_n ltb755 bd_b760))
  have f828 := (Fld.other W824 f815 (Or.inl (own_n lta755 bd_b760)))
  obtain ⟨_, T829, L829, X829, hQ829, st829⟩ := own_cS X824 hx hZ755 hown755 (ww25 hw) (ww26 hw) (ww27 hw) (ww28 hw) (rm3_10 l Z a0 hw b755 5 bv755 _ 5 k755 p11 h824 n0 O824 f825 f826 f827 S_12 hk13 f828 kll5_5) e824 pd_7 hml (hb hby at_150) (Ls := #[vI p1, vI p2, vI p3, vI p4, vI 1, vR a123, vR b755, vI 5, vR b760, .unset, .unset, .unset, .unset, .unset, .unset]) (W := 2) (argsL := [(.ref b755), (.int 5)]) (rest := [(.int 5), (.ref b760)])
  obtain ⟨rfl, u831, u832⟩ := hQ829
  have N829 := Fr.app N824 u831
  have f833 := (Exa.wr W824 f823)
  obtain ⟨T834, h834, X834, e834, W834, V834, st834⟩ := own_stC X829 hx hZ755 u832 V824 1 5 0 0 5 knc0 (hb hby at_153) #[vI p1, vI p2, vI p3, vI p4, vI 1, vR a123, vR b755, vI 5, vR b760, .unset, .unset, .unset, .unset, .unset, .unset] [] (vs2 := [(.int 87), (.int 114), (.int 105), (.int 116), (.int 101), (.int 0)])
  have O834 := O824.wr W834 g_b760
  have ch834 := CHr.wr W834 (Safe.exa hZ755.alike f833 (by decide) (by decide)) CR824.1
  have CR834 := CR824.trans ch834
  have N834 := Fr.snoc X834 N829 g_b760
  have f835 := (Exa.wr W834 f825)
  have f836 := (Fld.other W834 f826 (Or.inl (own_n lta755 bd_b760)))
  have f837 := (f827.other W834 (own_n ltb755 bd_b760))
  have f838 := (Fld.other W834 f828 (Or.inl (own_n lta755 bd_b760)))
  obtain ⟨_, T839, L839, X839, hQ839, st839⟩ := own_cS X834 hx hZ755 hown755 (ww25 hw) (ww26 hw) (ww27 hw) (ww28 hw) (rm3_10 l Z a0 hw b755 6 bv755 _ 5 k755 p11 h834 n0 O834 f835 f836 f837 S_12 hk13 f838 kll6_5) e834 pd_7 hml (hb hby at_162) (Ls := #[vI p1, vI p2, vI p3, vI p4, vI 1, vR a123, vR b755, vI 5, vR b760, .unset, .unset, .unset, .unset, .unset, .unset]) (W := 2) (argsL := [(.ref b755), (.int 6)]) (rest := [(.int 6), (.ref b760)])
  obtain ⟨rfl, u841, u842⟩ := hQ839
  have N839 := Fr.app N834 u841
  have f843 := (Exa.wr W834 f833)
  obtain ⟨T844, h844, X844, e844, W844, V844, st844⟩ := own_stC X839 hx hZ755 u842 V834 1 6 0 0 6 knc0 (hb hby at_165) #[vI p1, vI p2, vI p3, vI p4, vI 1, vR a123, vR b755, vI 5, vR b760, .unset, .unset, .unset, .unset, .unset, .unset] [] (vs2 := [(.int 87), (.int 114), (.int 105), (.int 116), (.int 101), (.int 0), (.int 0)])
  have O844 := O834.wr W844 g_b760
  have ch844 := CHr.wr W844 (Safe.exa hZ755.alike f843 (by decide) (by decide)) CR834.1
  have CR844 := CR834.trans ch844
  have N844 := Fr.snoc X844 N839 g_b760
  have f845 := (Exa.wr W844 f835)
  have f846 := (Fld.other W844 f836 (Or.inl (own_n lta755 bd_b760)))
  have f847 := (f837.other W844 (own_n ltb755 bd_b760))
  have f848 := (Fld.other W844 f838 (Or.inl (own_n lta755 bd_b760)))
  obtain ⟨_, T849, L849, X849, hQ849, st849⟩ := own_cS X844 hx hZ755 hown755 (ww25 hw) (ww26 hw) (ww27 hw) (ww28 hw) (rm3_10 l Z a0 hw b755 7 bv755 _ 5 k755 p11 h844 n0 O844 f845 f846 f847 S_12 hk13 f848 kll7_5) e844 pd_7 hml (hb hby at_174) (Ls := #[vI p1, vI p2, vI p3, vI p4, vI 1, vR a123, vR b755, vI 5, vR b760, .unset, .unset, .unset, .unset, .unset, .unset]) (W := 2) (argsL := [(.ref b755), (.int 7)]) (rest := [(.int 7), (.ref b760)])
  obtain ⟨rfl, u851, u852⟩ := hQ849
  have N849 := Fr.app N844 u851
  have f853 := (Exa.wr W844 f843)
  obtain ⟨T854, h854, X854, e854, W854, V854, st854⟩ := own_stC X849 hx hZ755 u852 V844 1 7 0 0 7 knc0 (hb hby at_177) #[vI p1, vI p2, vI p3, vI p4, vI 1, vR a123, vR b755, vI 5, vR b760, .unset, .unset, .unset, .unset, .unset, .unset] [] (vs2 := [(.int 87), (.int 114), (.int 105), (.int 116), (.int 101), (.int 0), (.int 0), (.int 0)])
  have O854 := O844.wr W854 g_b760
  have ch854 := CHr.wr W854 (Safe.exa hZ755.alike f853 (by decide) (by decide)) CR844.1
  have CR854 := CR844.trans ch854
  have N854 := Fr.snoc X854 N849 g_b760
  have pre855 : oS p e below EN T854 (mkF m 178 #[vI p1, vI p2, vI p3, vI p4, vI 1, vR a123, vR b755, vI 5, vR b760, .unset, .unset, .unset, .unset, .unset, .unset] []) := fun t kt => pre822 t (st824 _ (o_aload X824 hq at_144 rfl rfl (o_iconst X824 hq at_146 (x := 5) rfl (o_aload X824 hq at_147 rfl rfl (o_iconst X824 hq at_149 (x := 5) rfl (st829 _ (st834 _ (o_aload X834 hq at_154 rfl rfl (o_bipush X834 hq at_156 (x := 6) rfl (o_aload X834 hq at_158 rfl rfl (o_bipush X834 hq at_160 (x := 6) rfl (st839 _ (st844 _ (o_aload X844 hq at_166 rfl rfl (o_bipush X844 hq at_168 (x := 7) rfl (o_aload X844 hq at_170 rfl rfl (o_bipush X844 hq at_172 (x := 7) rfl (st849 _ (st854 _ kt)))))))))))))))))))
  have hz856 := (Nat.le_trans (Nat.le_trans (Nat.le_trans (Nat.le_trans (Nat.le_trans (Nat.le_trans (Nat.le_trans (Nat.le_trans (Nat.le_trans hk755 E760.1) (Keep.of_wr W772).1) (Keep.of_wr W785).1) (Keep.of_wr W798).1) (Keep.of_wr W811).1) (Keep.of_wr W824).1) (Keep.of_wr W834).1) (Keep.of_wr W844).1) (Keep.of_wr W854).1)
  have lt862 : b760 < h854.size := (own_t (own_t (own_t (own_t (own_t (own_t (own_t (own_t lt_b760 (Keep.of_wr W772).1) (Keep.of_wr W785).1) (Keep.of_wr W798).1) (Keep.of_wr W811).1) (Keep.of_wr W824).1) (Keep.of_wr W834).1) (Keep.of_wr W844).1) (Keep.of_wr W854).1)
  have lt863 : a120 < h854.size := (own_t (own_t (own_t (own_t (own_t (own_t (own_t (own_t (own_t (own_t lt_a120 E755.1) E760.1) (Keep.of_wr W772).1) (Keep.of_wr W785).1) (Keep.of_wr W798).1) (Keep.of_wr W811).1) (Keep.of_wr W824).1) (Keep.of_wr W834).1) (Keep.of_wr W844).1) (Keep.of_wr W854).1)
  have lt864 : a125 < h854.size := (own_t (own_t (own_t (own_t (own_t (own_t (own_t (own_t (own_t (own_t lt_a125 E755.1) E760.1) (Keep.of_wr W772).1) (Keep.of_wr W785).1) (Keep.of_wr W798).1) (Keep.of_wr W811).1) (Keep.of_wr W824).1) (Keep.of_wr W834).1) (Keep.of_wr W844).1) (Keep.of_wr W854).1)
  have lt865 : a130 < h854.size := (own_t (own_t (own_t (own_t (own_t (own_t (own_t (own_t (own_t (own_t lt_a130 E755.1) E760.1) (Keep.of_wr W772).1) (Keep.of_wr W785).1) (Keep.of_wr W798).1) (Keep.of_wr W811).1) (Keep.of_wr W824).1) (Keep.of_wr W834).1) (Keep.of_wr W844).1) (Keep.of_wr W854).1)
  have lt866 : a135 < h854.size := (own_t (own_t (own_t (own_t (own_t (own_t (own_t (own_t (own_t (own_t lt_a135 E755.1) E760.1) (Keep.of_wr W772).1) (Keep.of_wr W785).1) (Keep.of_wr W798).1) (Keep.of_wr W811).1) (Keep.of_wr W824).1) (Keep.of_wr W834).1) (Keep.of_wr W844).1) (Keep.of_wr W854).1)
  obtain ⟨i867, hi867⟩ : ∃ z, z = (p2 &&& (3 : Int32)) := ⟨_, rfl⟩
  obtain ⟨i868, hi868⟩ : ∃ z, z = (p3 &&& (2147483647 : Int32)) := ⟨_, rfl⟩
  obtain ⟨i869, hi869⟩ : ∃ z, z = (i868 % (5 : Int32)) := ⟨_, rfl⟩
  obtain ⟨i870, hi870⟩ : ∃ z, z = (p4 &&& (255 : Int32)) := ⟨_, rfl⟩
  have pre871 : oS p e below EN T854 (mkF m 204 #[vI p1, vI p2, vI p3, vI p4, vI 1, vR a123, vR b755, vI 5, vR b760, vI i867, vI i869, vI i870, vI 5, .unset, .unset] []) := fun t kt => pre855 t (o_iloadN X854 hq at_178 rfl (o_iconst X854 hq at_179 (x := 3) rfl (o_iand X854 hq at_180 (z := i867) hi867.symm (o_istore X854 hq at_181 rfl (o_iloadN X854 hq at_183 rfl (X854.ldcInt hx hown755 (mvT hZ755 (ww51 hw)) (g := (mkF m 184 #[vI p1, vI p2, vI p3, vI p4, vI 1, vR a123, vR b755, vI 5, vR b760, vI i867, .unset, .unset, .unset, .unset, .unset] [(.int p3)])) rfl (hb hby at_184) _ (o_iand X854 hq at_186 (z := i868) hi868.symm (o_iload X854 hq at_187 rfl (o_irem X854 hq at_189 kle5_0 (z := i869) hi869.symm (o_istore X854 hq at_190 rfl (o_iloadN X854 hq at_192 rfl (o_sipush X854 hq at_193 (x := 255) rfl (o_iand X854 hq at_196 (z := i870) hi870.symm (o_i2c X854 hq at_197 (z := i870) (own_i2c255 hi870) (o_istore X854 hq at_198 rfl (o_iload X854 hq at_200 rfl (o_istore X854 hq at_202 rfl kt)))))))))))))))))
  rcases (hi867 ▸ own_and3 p2 : i867 = 0 ∨ i867 = 1 ∨ i867 = 2 ∨ i867 = 3) with hq872 | hq872 | hq872 | hq872
  ·
   subst hq872
   obtain ⟨_, T873, L873, X873, hQ873, st873⟩ := own_cS X854 hx hZ755 hown755 (ww52 hw) (ww53 hw) (ww27 hw) (ww54 hw) (rm9_55 l Z a0 hw b760 87 114 105 116 101 0 0 0 k760 p11 h854 n0 O854 V854 kll255_87 kll87_0 lt862 kll255_114 kll114_0 kll255_105 kll105_0 kll255_116 kll116_0 kll255_101 kll101_0 S_12 hk13) e854 pd_13 hml (hb hby at_284) (Ls := (oL p1 p2 p3 p4 1 a123 b755 5 b760 0 i869 i870 5 1)) (W := 0) (argsL := [(.ref b760), (.int 5)]) (rest := [])
   obtain ⟨i874, i875, i876, i877, i878, b879, b880, k881, u882, u883, u884, u885, u886, rfl, u888, u889, u890, u891, u892, u893, Ku894, u895, u896, u897, u898, u899⟩ := hQ873
   have Ou894 := O854.keep Ku894 all0
   have N873 := Fr.app N854 u888
   have pre900 : oS p e below EN T873 (mkF m 287 (oL p1 p2 p3 p4 1 a123 b755 5 b760 0 i869 i870 5 1) [(.ref b879)]) := fun t kt => pre871 t (o_iload X854 hq at_204 rfl (o_ifN X854 hq at_206 (by decide +kernel) (o_iconst X854 hq at_209 (x := 1) rfl (o_istore X854 hq at_210 rfl (o_goto X854 hq at_212 (pc := 212) (pc' := 280) (o_aload X854 hq at_280 rfl rfl (o_iload X854 hq at_282 rfl (st873 _ kt))))))))
   obtain rfl := kb87 u882
   obtain rfl := kb114 u883
   obtain rfl := kb105 u884
   obtain rfl := kb116 u885
   obtain rfl := kb101 u886
   obtain ⟨_, T901, L901, X901, hQ901, st901⟩ := own_cS X873 hx hZ755 hown755 (ww76 hw) (ww77 hw) (ww1 hw) (ww78 hw) (g16_61 b879 b880 87 114 105 116 101 k881 T873.heap Ou894 u897 (own_n lt863 u889) u895 u896 u899 (own_n lt864 u889) (own_n lt865 u889) (own_n lt866 u889)) rfl pd_21 hml (hb hby at_287) (Ls := (oL p1 p2 p3 p4 1 a123 b755 5 b760 0 i869 i870 5 1)) (W := 0) (argsL := [(.ref b879)]) (rest := [])
   rcases hQ901 with ⟨b902, u903, u904, u905, u906, u907, rfl, u909, u910, u911, Ku912, u913, u914⟩ | ⟨u915, rfl, u917, Ku918⟩
   ·
    have Ou912 := Ou894.keep Ku912 all0
    have N901 := Fr.app N873 u909
    obtain ⟨T919, L919, X919, u919, e919, st919⟩ := own_tP hw X901 hx hby hml hZ755 hown755 Ou912 u913 u914 (oL p1 p2 p3 p4 1 a123 b755 5 b760 0 i869 i870 5 1) rfl
    have N919 := Fr.app N901 u919
    refine fin (some (.int 1)) _ _ _ _ T755.vm _ X919 hS755 (by rw [e919]; exact (Nat.le_trans (Nat.le_trans hz856 Ku894.1) Ku912.1)) nofun (fun fs hr => pre900 _ ?_) (own_atH e919 ?_) (by decide) (by decide)
    ·
     refine st901 _ (st919 _ ?_)
     exact retN X919 hx (t := .boolean) hret (by simp) (hb hby at_326) hr
    ·
     exact ⟨rfl, N919⟩
   ·
    exact absurd ⟨kle87_87, kle114_114, kle105_105, kle116_116, kle101_101⟩ u915
  ·
   subst hq872
   have pre920 : oS p e below EN T854 (mkF m 227 #[vI p1, vI p2, vI p3, vI p4, vI 1, vR a123, vR b755, vI 5, vR b760, vI 1, vI i869, vI i870, vI 5, .unset, .unset] [(.int i869), (.ref b760), (.int i870)]) := fun t kt => pre871 t (o_iload X854 hq at_204 rfl (o_ifY X854 hq at_206 (pc := 206) (pc' := 215) (by decide +kernel) (o_iload X854 hq at_215 rfl (o_iconst X854 hq at_217 (x := 1) rfl (o_icmpN X854 hq at_218 (by decide +kernel) (o_iload X854 hq at_221 rfl (o_aload X854 hq at_223 rfl rfl (o_iload X854 hq at_225 rfl kt))))))))
   rcases (hi869 ▸ own_mod5 hi868 : i869 = 0 ∨ i869 = 1 ∨ i869 = 2 ∨ i869 = 3 ∨ i869 = 4) with hq921 | hq921 | hq921 | hq921 | hq921
   ·
    subst hq921
    have pre923 : oS p e below EN T854 (mkF m 228 #[vI p1, vI p2, vI p3, vI p4, vI 1, vR a123, vR b755, vI 5, vR b760, vI 1, vI 0, vI i870, vI 5, .unset, .unset] [(.int 87), (.int i870)]) := fun t kt => pre920 t (o_caload X854 hq at_227 hZ755 e854 V854 (i := 0) (v := .int 87) (by decide +kernel) rfl kt)
    by_cases hc924 : i870 = 87
    ·
     subst hc924
     obtain ⟨T926, h926, X926, e926, W926, V926, st926⟩ := own_stC X854 hx hZ755 e854 V854 0 0 87 87 0 knc87 (hb hby at_244) (oL p1 p2 p3 p4 1 a123 b755 5 b760 1 0 87 5 1) [] (vs2 := [(.int 87), (.int 114), (.int 105), (.int 116), (.int 101), (.int 0), (.int 0), (.int 0)])
     have O926 := O854.wr W926 g_b760
     have N926 := Fr.snoc X926 N854 g_b760
     obtain ⟨_, T927, L927, X927, hQ927, st927⟩ := own_cS X926 hx hZ755 hown755 (ww52 hw) (ww53 hw) (ww27 hw) (ww54 hw) (rm9_55 l Z a0 hw b760 87 114 105 116 101 0 0 0 k760 p11 h926 n0 O926 V926 kll255_87 kll87_0 (own_t lt862 (Keep.of_wr W926).1) kll255_114 kll114_0 kll255_105 kll105_0 kll255_116 kll116_0 kll255_101 kll101_0 S_12 hk13) e926 pd_13 hml (hb hby at_284) (Ls := (oL p1 p2 p3 p4 1 a123 b755 5 b760 1 0 87 5 1)) (W := 0) (argsL := [(.ref b760), (.int 5)]) (rest := [])
     obtain ⟨i928, i929, i930, i931, i932, b933, b934, k935, u936, u937, u938, u939, u940, rfl, u942, u943, u944, u945, u946, u947, Ku948, u949, u950, u951, u952, u953⟩ := hQ927
     have Ou948 := O926.keep Ku948 all0
     have N927 := Fr.app N926 u942
     have pre954 : oS p e below EN T927 (mkF m 287 (oL p1 p2 p3 p4 1 a123 b755 5 b760 1 0 87 5 1) [(.ref b933)]) := fun t kt => pre923 t (o_icmpN X854 hq at_228 (by decide +kernel) (o_iconst X854 hq at_231 (x := 1) rfl (o_goto X854 hq at_232 (pc := 232) (pc' := 236) (o_istore X854 hq at_236 rfl (o_aload X854 hq at_238 rfl rfl (o_iload X854 hq at_240 rfl (o_iload X854 hq at_242 rfl (st926 _ (o_goto X926 hq at_245 (pc := 245) (pc' := 280) (o_aload X926 hq at_280 rfl rfl (o_iload X926 hq at_282 rfl (st927 _ kt))))))))))))
     obtain rfl := kb87 u936
     obtain rfl := kb114 u937
     obtain rfl := kb105 u938
     obtain rfl := kb116 u939
     obtain rfl := kb101 u940
     obtain ⟨_, T955, L955, X955, hQ955, st955⟩ := own_cS X927 hx hZ755 hown755 (ww76 hw) (ww77 hw) (ww1 hw) (ww78 hw) (rm16_61 l Z a0 hw b933 a170 b934 a7 a123 a128 a133 k172 a120 p11 a177 k179 87 114 105 116 101 k935 a125 a183 k185 a130 a189 k191 a135 a195 k197 a199 T927.heap n0 Ou948 S_171 u951 V173 E_174 F121 E_175 (own_n (own_t lt863 (Keep.of_wr W926).1) u943) u949 S_12 hk13 F176 u950 F178 V180 u953 F126 E_181 (own_n (own_t lt864 (Keep.of_wr W926).1) u943) F182 F184 V186 F131 E_187 (own_n (own_t lt865 (Keep.of_wr W926).1) u943) F188 F190 V192 F136 E_193 (own_n (own_t lt866 (Keep.of_wr W926).1) u943) F194 F196 V198 S_200) rfl pd_21 hml (hb hby at_287) (Ls := (oL p1 p2 p3 p4 1 a123 b755 5 b760 1 0 87 5 1)) (W := 0) (argsL := [(.ref b933)]) (rest := [])
     rcases hQ955 with ⟨b956, u957, u958, u959, u960, u961, rfl, u963, u964, u965, Ku966, u967, u968⟩ | ⟨u969, rfl, u971, Ku972⟩
     ·
      have Ou966 := Ou948.keep Ku966 all0
      have N955 := Fr.app N927 u963
      obtain ⟨T973, L973, X973, u973, e973, st973⟩ := own_tP hw X955 hx hby hml hZ755 hown755 Ou966 u967 u968 (oL p1 p2 p3 p4 1 a123 b755 5 b760 1 0 87 5 1) rfl
      have N973 := Fr.app N955 u973
      refine fin (some (.int 1)) _ _ _ _ T755.vm _ X973 hS755 (by rw [e973]; exact (Nat.le_trans (Nat.le_trans (Nat.le_trans hz856 (Keep.of_wr W926).1) Ku948.1) Ku966.1)) nofun (fun fs hr => pre954 _ ?_) (own_atH e973 ?_) (by decide) (by decide)
      ·
       refine st955 _ (st973 _ ?_)
       exact retN X973 hx (t := .boolean) hret (by simp) (hb hby at_326) hr
      ·
       exact ⟨rfl, N973⟩
     ·
      exact absurd ⟨kle87_87, kle114_114, kle105_105, kle116_116, kle101_101⟩ u969
    ·
     obtain ⟨T975, h975, X975, e975, W975, V975, st975⟩ := own_stC X854 hx hZ755 e854 V854 0 0 i870 i870 0 (own_nar255 hi870) (hb hby at_244) (oL p1 p2 p3 p4 1 a123 b755 5 b760 1 0 i870 5 0) [] (vs2 := [(.int i870), (.int 114), (.int 105), (.int 116), (.int 101), (.int 0), (.int 0), (.int 0)])
     have O975 := O854.wr W975 g_b760
     have N975 := Fr.snoc X975 N854 g_b760
     obtain ⟨_, T976, L976, X976, hQ976, st976⟩ := own_cS X975 hx hZ755 hown755 (ww52 hw) (ww53 hw) (ww27 hw) (ww54 hw) (rm9_55 l Z a0 hw b760 i870 114 105 116 101 0 0 0 k760 p11 h975 n0 O975 V975 (own_lt255 hi870) (own_nn hi870) (own_t lt862 (Keep.of_wr W975).1) kll255_114 kll114_0 kll255_105 kll105_0 kll255_116 kll116_0 kll255_101 kll101_0 S_12 hk13) e975 pd_13 hml (hb hby at_284) (Ls := (oL p1 p2 p3 p4 1 a123 b755 5 b760 1 0 i870 5 0)) (W := 0) (argsL := [(.ref b760), (.int 5)]) (rest := [])
     obtain ⟨i977, i978, i979, i980, i981, b982, b983, k984, u985, u986, u987, u988, u989, rfl, u991, u992, u993, u994, u995, u996, Ku997, u998, u999, u1000, u1001, u1002⟩ := hQ976
     have Ou997 := O975.keep Ku997 all0
     have N976 := Fr.app N975 u991
     have pre1003 : oS p e below EN T976 (mkF m 287 (oL p1 p2 p3 p4 1 a123 b755 5 b760 1 0 i870 5 0) [(.ref b982)]) := fun t kt => pre923 t (o_icmpY X854 hq at_228 (pc := 228) (pc' := 235) (feq hc924).2 (o_iconst X854 hq at_235 (x := 0) rfl (o_istore X854 hq at_236 rfl (o_aload X854 hq at_238 rfl rfl (o_iload X854 hq at_240 rfl (o_iload X854 hq at_242 rfl (st975 _ (o_goto X975 hq at_245 (pc := 245) (pc' := 280) (o_aload X975 hq at_280 rfl rfl (o_iload X975 hq at_282 rfl (st976 _ kt)))))))))))
     obtain rfl := kb114 u986
     obtain rfl := kb105 u987
     obtain rfl := kb116 u988
     obtain rfl := kb101 u989
     obtain ⟨_, T1004, L1004, X1004, hQ1004, st1004⟩ := own_cS X976 hx hZ755 hown755 (ww76 hw) (ww77 hw) (ww1 hw) (ww78 hw) (rm16_61 l Z a0 hw b982 a170 b983 a7 a123 a128 a133 k172 a120 p11 a177 k179 i977 114 105 116 101 k984 a125 a183 k185 a130 a189 k191 a135 a195 k197 a199 T976.heap n0 Ou997 S_171 u1000 V173 E_174 F121 E_175 (own_n (own_t lt863 (Keep.of_wr W975).1) u992) u998 S_12 hk13 F176 u999 F178 V180 u1002 F126 E_181 (own_n (own_t lt864 (Keep.of_wr W975).1) u992) F182 F184 V186 F131 E_187 (own_n (own_t lt865 (Keep.of_wr W975).1) u992) F188 F190 V192 F136 E_193 (own_n (own_t lt866 (Keep.of_wr W975).1) u992) F194 F196 V198 S_200) rfl pd_21 hml (hb hby at_287) (Ls := (oL p1 p2 p3 p4 1 a123 b755 5 b760 1 0 i870 5 0)) (W := 0) (argsL := [(.ref b982)]) (rest := [])
     rcases hQ1004 with ⟨b1005, u1006, u1007, u1008, u1009, u1010, rfl, u1012, u1013, u1014, Ku1015, u1016, u1017⟩ | ⟨u1018, rfl, u1020, Ku1021⟩
     ·
      exact absurd u1006 (fun q => (own_bnl (c := (87 : Int32)) u985 hi870 (by decide +kernel) hc924 : ¬ i977 = 87) q.symm)
     ·
      have Ou1021 := Ou997.keep Ku1021 all0
      have N1004 := Fr.app N976 u1020
      obtain ⟨T1022, L1022, X1022, u1022, e1022, st1022⟩ := own_tE hw X1004 hx hby hml hZ755 hown755 Ou1021 E_315 F316 (oL p1 p2 p3 p4 1 a123 b755 5 b760 1 0 i870 5 0) rfl
      have N1022 := Fr.app N1004 u1022
      refine fin (some (.int 1)) _ _ _ _ T755.vm _ X1022 hS755 (by rw [e1022]; exact (Nat.le_trans (Nat.le_trans (Nat.le_trans hz856 (Keep.of_wr W975).1) Ku997.1) Ku1021.1)) nofun (fun fs hr => pre1003 _ ?_) (own_atH e1022 ?_) (by decide) (by decide)
      ·
       refine st1004 _ (st1022 _ ?_)
       exact retN X1022 hx (t := .boolean) hret (by simp) (hb hby at_302) hr
      ·
       exact ⟨rfl, N1022⟩
   ·
    subst hq921
    have pre1024 : oS p e below EN T854 (mkF m 228 #[vI p1, vI p2, vI p3, vI p4, vI 1, vR a123, vR b755, vI 5, vR b760, vI 1, vI 1, vI i870, vI 5, .unset, .unset] [(.int 114), (.int i870)]) := fun t kt => pre920 t (o_caload X854 hq at_227 hZ755 e854 V854 (i := 1) (v := .int 114) (by decide +kernel) rfl kt)
    by_cases hc1025 : i870 = 114
    ·
     subst hc1025
     obtain ⟨T1027, h1027, X1027, e1027, W1027, V1027, st1027⟩ := own_stC X854 hx hZ755 e854 V854 0 1 114 114 1 knc114 (hb hby at_244) (oL p1 p2 p3 p4 1 a123 b755 5 b760 1 1 114 5 1) [] (vs2 := [(.int 87), (.int 114), (.int 105), (.int 116), (.int 101), (.int 0), (.int 0), (.int 0)])
     have O1027 := O854.wr W1027 g_b760
     have N1027 := Fr.snoc X1027 N854 g_b760
     obtain ⟨_, T1028, L1028, X1028, hQ1028, st1028⟩ := own_cS X1027 hx hZ755 hown755 (ww52 hw) (ww53 hw) (ww27 hw) (ww54 hw) (rm9_55 l Z a0 hw b760 87 114 105 116 101 0 0 0 k760 p11 h1027 n0 O1027 V1027 kll255_87 kll87_0 (own_t lt862 (Keep.of_wr W1027).1) kll255_114 kll114_0 kll255_105 kll105_0 kll255_116 kll116_0 kll255_101 kll101_0 S_12 hk13) e1027 pd_13 hml (hb hby at_284) (Ls := (oL p1 p2 p3 p4 1 a123 b755 5 b760 1 1 114 5 1)) (W := 0) (argsL := [(.ref b760), (.int 5)]) (rest := [])
     obtain ⟨i1029, i1030, i1031, i1032, i1033, b1034, b1035, k1036, u1037, u1038, u1039, u1040, u1041, rfl, u1043, u1044, u1045, u1046, u1047, u1048, Ku1049, u1050, u1051, u1052, u1053, u1054⟩ := hQ1028
     have Ou1049 := O1027.keep Ku1049 all0
     have N1028 := Fr.app N1027 u1043
     have pre1055 : oS p e below EN T1028 (mkF m 287 (oL p1 p2 p3 p4 1 a123 b755 5 b760 1 1 114 5 1) [(.ref b1034)]) := fun t kt => pre1024 t (o_icmpN X854 hq at_228 (by decide +kernel) (o_iconst X854 hq at_231 (x := 1) rfl (o_goto X854 hq at_232 (pc := 232) (pc' := 236) (o_istore X854 hq at_236 rfl (o_aload X854 hq at_238 rfl rfl (o_iload X854 hq at_240 rfl (o_iload X854 hq at_242 rfl (st1027 _ (o_goto X1027 hq at_245 (pc := 245) (pc' := 280) (o_aload X1027 hq at_280 rfl rfl (o_iload X1027 hq at_282 rfl (st1028 _ kt))))))))))))
     obtain rfl := kb87 u1037
     obtain rfl := kb114 u1038
     obtain rfl := kb105 u1039
     obtain rfl := kb116 u1040
     obtain rfl := kb101 u1041
     obtain ⟨_, T1056, L1056, X1056, hQ1056, st1056⟩ := own_cS X1028 hx hZ755 hown755 (ww76 hw) (ww77 hw) (ww1 hw) (ww78 hw) (rm16_61 l Z a0 hw b1034 a170 b1035 a7 a123 a128 a133 k172 a120 p11 a177 k179 87 114 105 116 101 k1036 a125 a183 k185 a130 a189 k191 a135 a195 k197 a199 T1028.heap n0 Ou1049 S_171 u1052 V173 E_174 F121 E_175 (own_n (own_t lt863 (Keep.of_wr W1027).1) u1044) u1050 S_12 hk13 F176 u1051 F178 V180 u1054 F126 E_181 (own_n (own_t lt864 (Keep.of_wr W1027).1) u1044) F182 F184 V186 F131 E_187 (own_n (own_t lt865 (Keep.of_wr W1027).1) u1044) F188 F190 V192 F136 E_193 (own_n (own_t lt866 (Keep.of_wr W1027).1) u1044) F194 F196 V198 S_200) rfl pd_21 hml (hb hby at_287) (Ls := (oL p1 p2 p3 p4 1 a123 b755 5 b760 1 1 114 5 1)) (W := 0) (argsL := [(.ref b1034)]) (rest := [])
     rcases hQ1056 with ⟨b1057, u1058, u1059, u1060, u1061, u1062, rfl, u1064, u1065, u1066, Ku1067, u1068, u1069⟩ | ⟨u1070, rfl, u1072, Ku1073⟩
     ·
      have Ou1067 := Ou1049.keep Ku1067 all0
      have N1056 := Fr.app N1028 u1064
      obtain ⟨T1074, L1074, X1074, u1074, e1074, st1074⟩ := own_tP hw X1056 hx hby hml hZ755 hown755 Ou1067 u1068 u1069 (oL p1 p2 p3 p4 1 a123 b755 5 b760 1 1 114 5 1) rfl
      have N1074 := Fr.app N1056 u1074
      refine fin (some (.int 1)) _ _ _ _ T755.vm _ X1074 hS755 (by rw [e1074]; exact (Nat.le_trans (Nat.le_trans (Nat.le_trans hz856 (Keep.of_wr W1027).1) Ku1049.1) Ku1067.1)) nofun (fun fs hr => pre1055 _ ?_) (own_atH e1074 ?_) (by decide) (by decide)
      ·
       refine st1056 _ (st1074 _ ?_)
       exact retN X1074 hx (t := .boolean) hret (by simp) (hb hby at_326) hr
      ·
       exact ⟨rfl, N1074⟩
     ·
      exact absurd ⟨kle87_87, kle114_114, kle105_105, kle116_116, kle101_101⟩ u1070
    ·
     obtain ⟨T1076, h1076, X1076, e1076, W1076, V1076, st1076⟩ := own_stC X854 hx hZ755 e854 V854 0 1 i870 i870 1 (own_nar255 hi870) (hb hby at_244) (oL p1 p2 p3 p4 1 a123 b755 5 b760 1 1 i870 5 0) [] (vs2 := [(.int 87), (.int i870), (.int 105), (.int 116), (.int 101), (.int 0), (.int 0), (.int 0)])
     have O1076 := O854.wr W1076 g_b760
     have N1076 := Fr.snoc X1076 N854 g_b760
     obtain ⟨_, T1077, L1077, X1077, hQ1077, st1077⟩ := own_cS X1076 hx hZ755 hown755 (ww52 hw) (ww53 hw) (ww27 hw) (ww54 hw) (rm9_55 l Z a0 hw b760 87 i870 105 116 101 0 0 0 k760 p11 h1076 n0 O1076 V1076 kll255_87 kll87_0 (own_t lt862 (Keep.of_wr W1076).1) (own_lt255 hi870) (own_nn hi870) kll255_105 kll105_0 kll255_116 kll116_0 kll255_101 kll101_0 S_12 hk13) e1076 pd_13 hml (hb hby at_284) (Ls := (oL p1 p2 p3 p4 1 a123 b755 5 b760 1 1 i870 5 0)) (W := 0) (argsL := [(.ref b760), (.int 5)]) (rest := [])
     obtain ⟨i1078, i1079, i1080, i1081, i1082, b1083, b1084, k1085, u1086, u1087, u1088, u1089, u1090, rfl, u1092, u1093, u1094, u1095, u1096, u1097, Ku1098, u1099, u1100, u1101, u1102, u1103⟩ := hQ1077
     have Ou1098 := O1076.keep Ku1098 all0
     have N1077 := Fr.app N1076 u1092
     have pre1104 : oS p e below EN T1077 (mkF m 287 (oL p1 p2 p3 p4 1 a123 b755 5 b760 1 1 i870 5 0) [(.ref b1083)]) := fun t kt => pre1024 t (o_icmpY X854 hq at_228 (pc := 228) (pc' := 235) (feq hc1025).2 (o_iconst X854 hq at_235 (x := 0) rfl (o_istore X854 hq at_236 rfl (o_aload X854 hq at_238 rfl rfl (o_iload X854 hq at_240 rfl (o_iload X854 hq at_242 rfl (st1076 _ (o_goto X1076 hq at_245 (pc := 245) (pc' := 280) (o_aload X1076 hq at_280 rfl rfl (o_iload X1076 hq at_282 rfl (st1077 _ kt)))))))))))
     obtain rfl := kb87 u1086
     obtain rfl := kb105 u1088
     obtain rfl := kb116 u1089
     obtain rfl := kb101 u1090
     obtain ⟨_, T1105, L1105, X1105, hQ1105, st1105⟩ := own_cS X1077 hx hZ755 hown755 (ww76 hw) (ww77 hw) (ww1 hw) (ww78 hw) (rm16_61 l Z a0 hw b1083 a170 b1084 a7 a123 a128 a133 k172 a120 p11 a177 k179 87 i1079 105 116 101 k1085 a125 a183 k185 a130 a189 k191 a135 a195 k197 a199 T1077.heap n0 Ou1098 S_171 u1101 V173 E_174 F121 E_175 (own_n (own_t lt863 (Keep.of_wr W1076).1) u1093) u1099 S_12 hk13 F176 u1100 F178 V180 u1103 F126 E_181 (own_n (own_t lt864 (Keep.of_wr W1076).1) u1093) F182 F184 V186 F131 E_187 (own_n (own_t lt865 (Keep.of_wr W1076).1) u1093) F188 F190 V192 F136 E_193 (own_n (own_t lt866 (Keep.of_wr W1076).1) u1093) F194 F196 V198 S_200) rfl pd_21 hml (hb hby at_287) (Ls := (oL p1 p2 p3 p4 1 a123 b755 5 b760 1 1 i870 5 0)) (W := 0) (argsL := [(.ref b1083)]) (rest := [])
     rcases hQ1105 with ⟨b1106, u1107, u1108, u1109, u1110, u1111, rfl, u1113, u1114, u1115, Ku1116, u1117, u1118⟩ | ⟨u1119, rfl, u1121, Ku1122⟩
     ·
      exact absurd u1108 (fun q => (own_bnl (c := (114 : Int32)) u1087 hi870 (by decide +kernel) hc1025 : ¬ i1079 = 114) q.symm)
     ·
      have Ou1122 := Ou1098.keep Ku1122 all0
      have N1105 := Fr.app N1077 u1121
      obtain ⟨T1123, L1123, X1123, u1123, e1123, st1123⟩ := own_tE hw X1105 hx hby hml hZ755 hown755 Ou1122 E_315 F316 (oL p1 p2 p3 p4 1 a123 b755 5 b760 1 1 i870 5 0) rfl
      have N1123 := Fr.app N1105 u1123
      refine fin (some (.int 1)) _ _ _ _ T755.vm _ X1123 hS755 (by rw [e1123]; exact (Nat.le_trans (Nat.le_trans (Nat.le_trans hz856 (Keep.of_wr W1076).1) Ku1098.1) Ku1122.1)) nofun (fun fs hr => pre1104 _ ?_) (own_atH e1123 ?_) (by decide) (by decide)
      ·
       refine st1105 _ (st1123 _ ?_)
       exact retN X1123 hx (t := .boolean) hret (by simp) (hb hby at_302) hr
      ·
       exact ⟨rfl, N1123⟩
   ·
    subst hq921
    have pre1125 : oS p e below EN T854 (mkF m 228 #[vI p1, vI p2, vI p3, vI p4, vI 1, vR a123, vR b755, vI 5, vR b760, vI 1, vI 2, vI i870, vI 5, .unset, .unset] [(.int 105), (.int i870)]) := fun t kt => pre920 t (o_caload X854 hq at_227 hZ755 e854 V854 (i := 2) (v := .int 105) (by decide +kernel) rfl kt)
    by_cases hc1126 : i870 = 105
    ·
     subst hc1126
     obtain ⟨T1128, h1128, X1128, e1128, W1128, V1128, st1128⟩ := own_stC X854 hx hZ755 e854 V854 0 2 105 105 2 knc105 (hb hby at_244) (oL p1 p2 p3 p4 1 a123 b755 5 b760 1 2 105 5 1) [] (vs2 := [(.int 87), (.int 114), (.int 105), (.int 116), (.int 101), (.int 0), (.int 0), (.int 0)])
     have O1128 := O854.wr W1128 g_b760
     have N1128 := Fr.snoc X1128 N854 g_b760
     obtain ⟨_, T1129, L1129, X1129, hQ1129, st1129⟩ := own_cS X1128 hx hZ755 hown755 (ww52 hw) (ww53 hw) (ww27 hw) (ww54 hw) (rm9_55 l Z a0 hw b760 87 114 105 116 101 0 0 0 k760 p11 h1128 n0 O1128 V1128 kll255_87 kll87_0 (own_t lt862 (Keep.of_wr W1128).1) kll255_114 kll114_0 kll255_105 kll105_0 kll255_116 kll116_0 kll255_101 kll101_0 S_12 hk13) e1128 pd_13 hml (hb hby at_284) (Ls := (oL p1 p2 p3 p4 1 a123 b755 5 b760 1 2 105 5 1)) (W := 0) (argsL := [(.ref b760), (.int 5)]) (rest := [])
     obtain ⟨i1130, i1131, i1132, i1133, i1134, b1135, b1136, k1137, u1138, u1139, u1140, u1141, u1142, rfl, u1144, u1145, u1146, u1147, u1148, u1149, Ku1150, u1151, u1152, u1153, u1154, u1155⟩ := hQ1129
     have Ou1150 := O1128.keep Ku1150 all0
     have N1129 := Fr.app N1128 u1144
     have pre1156 : oS p e below EN T1129 (mkF m 287 (oL p1 p2 p3 p4 1 a123 b755 5 b760 1 2 105 5 1) [(.ref b1135)]) := fun t kt => pre1125 t (o_icmpN X854 hq at_228 (by decide +kernel) (o_iconst X854 hq at_231 (x := 1) rfl (o_goto X854 hq at_232 (pc := 232) (pc' := 236) (o_istore X854 hq at_236 rfl (o_aload X854 hq at_238 rfl rfl (o_iload X854 hq at_240 rfl (o_iload X854 hq at_242 rfl (st1128 _ (o_goto X1128 hq at_245 (pc := 245) (pc' := 280) (o_aload X1128 hq at_280 rfl rfl (o_iload X1128 hq at_282 rfl (st1129 _ kt))))))))))))
     obtain rfl := kb87 u1138
     obtain rfl := kb114 u1139
     obtain rfl := kb105 u1140
     obtain rfl := kb116 u1141
     obtain rfl := kb101 u1142
     obtain ⟨_, T1157, L1157, X1157, hQ1157, st1157⟩ := own_cS X1129 hx hZ755 hown755 (ww76 hw) (ww77 hw) (ww1 hw) (ww78 hw) (rm16_61 l Z a0 hw b1135 a170 b1136 a7 a123 a128 a133 k172 a120 p11 a177 k179 87 114 105 116 101 k1137 a125 a183 k185 a130 a189 k191 a135 a195 k197 a199 T1129.heap n0 Ou1150 S_171 u1153 V173 E_174 F121 E_175 (own_n (own_t lt863 (Keep.of_wr W1128).1) u1145) u1151 S_12 hk13 F176 u1152 F178 V180 u1155 F126 E_181 (own_n (own_t lt864 (Keep.of_wr W1128).1) u1145) F182 F184 V186 F131 E_187 (own_n (own_t lt865 (Keep.of_wr W1128).1) u1145) F188 F190 V192 F136 E_193 (own_n (own_t lt866 (Keep.of_wr W1128).1) u1145) F194 F196 V198 S_200) rfl pd_21 hml (hb hby at_287) (Ls := (oL p1 p2 p3 p4 1 a123 b755 5 b760 1 2 105 5 1)) (W := 0) (argsL := [(.ref b1135)]) (rest := [])
     rcases hQ1157 with ⟨b1158, u1159, u1160, u1161, u1162, u1163, rfl, u1165, u1166, u1167, Ku1168, u1169, u1170⟩ | ⟨u1171, rfl, u1173, Ku1174⟩
     ·
      have Ou1168 := Ou1150.keep Ku1168 all0
      have N1157 := Fr.app N1129 u1165
      obtain ⟨T1175, L1175, X1175, u1175, e1175, st1175⟩ := own_tP hw X1157 hx hby hml hZ755 hown755 Ou1168 u1169 u1170 (oL p1 p2 p3 p4 1 a123 b755 5 b760 1 2 105 5 1) rfl
      have N1175 := Fr.app N1157 u1175
      refine fin (some (.int 1)) _ _ _ _ T755.vm _ X1175 hS755 (by rw [e1175]; exact (Nat.le_trans (Nat.le_trans (Nat.le_trans hz856 (Keep.of_wr W1128).1) Ku1150.1) Ku1168.1)) nofun (fun fs hr => pre1156 _ ?_) (own_atH e1175 ?_) (by decide) (by decide)
      ·
       refine st1157 _ (st1175 _ ?_)
       exact retN X1175 hx (t := .boolean) hret (by simp) (hb hby at_326) hr
      ·
       exact ⟨rfl, N1175⟩
     ·
      exact absurd ⟨kle87_87, kle114_114, kle105_105, kle116_116, kle101_101⟩ u1171
    ·
     obtain ⟨T1177, h1177, X1177, e1177, W1177, V1177, st1177⟩ := own_stC X854 hx hZ755 e854 V854 0 2 i870 i870 2 (own_nar255 hi870) (hb hby at_244) (oL p1 p2 p3 p4 1 a123 b755 5 b760 1 2 i870 5 0) [] (vs2 := [(.int 87), (.int 114), (.int i870), (.int 116), (.int 101), (.int 0), (.int 0), (.int 0)])
     have O1177 := O854.wr W1177 g_b760
     have N1177 := Fr.snoc X1177 N854 g_b760
     obtain ⟨_, T1178, L1178, X1178, hQ1178, st1178⟩ := own_cS X1177 hx hZ755 hown755 (ww52 hw) (ww53 hw) (ww27 hw) (ww54 hw) (rm9_55 l Z a0 hw b760 87 114 i870 116 101 0 0 0 k760 p11 h1177 n0 O1177 V1177 kll255_87 kll87_0 (own_t lt862 (Keep.of_wr W1177).1) kll255_114 kll114_0 (own_lt255 hi870) (own_nn hi870) kll255_116 kll116_0 kll255_101 kll101_0 S_12 hk13) e1177 pd_13 hml (hb hby at_284) (Ls := (oL p1 p2 p3 p4 1 a123 b755 5 b760 1 2 i870 5 0)) (W := 0) (argsL := [(.ref b760), (.int 5)]) (rest := [])
     obtain ⟨i1179, i1180, i1181, i1182, i1183, b1184, b1185, k1186, u1187, u1188, u1189, u1190, u1191, rfl, u1193, u1194, u1195, u1196, u1197, u1198, Ku1199, u1200, u1201, u1202, u1203, u1204⟩ := hQ1178
     have Ou1199 := O1177.keep Ku1199 all0
     have N1178 := Fr.app N1177 u1193
     have pre1205 : oS p e below EN T1178 (mkF m 287 (oL p1 p2 p3 p4 1 a123 b755 5 b760 1 2 i870 5 0) [(.ref b1184)]) := fun t kt => pre1125 t (o_icmpY X854 hq at_228 (pc := 228) (pc' := 235) (feq hc1126).2 (o_iconst X854 hq at_235 (x := 0) rfl (o_istore X854 hq at_236 rfl (o_aload X854 hq at_238 rfl rfl (o_iload X854 hq at_240 rfl (o_iload X854 hq at_242 rfl (st1177 _ (o_goto X1177 hq at_245 (pc := 245) (pc' := 280) (o_aload X1177 hq at_280 rfl rfl (o_iload X1177 hq at_282 rfl (st1178 _ kt)))))))))))
     obtain rfl := kb87 u1187
     obtain rfl := kb114 u1188
     obtain rfl := kb116 u1190
     obtain rfl := kb101 u1191
     obtain ⟨_, T1206, L1206, X1206, hQ1206, st1206⟩ := own_cS X1178 hx hZ755 hown755 (ww76 hw) (ww77 hw) (ww1 hw) (ww78 hw) (rm16_61 l Z a0 hw b1184 a170 b1185 a7 a123 a128 a133 k172 a120 p11 a177 k179 87 114 i1181 116 101 k1186 a125 a183 k185 a130 a189 k191 a135 a195 k197 a199 T1178.heap n0 Ou1199 S_171 u1202 V173 E_174 F121 E_175 (own_n (own_t lt863 (Keep.of_wr W1177).1) u1194) u1200 S_12 hk13 F176 u1201 F178 V180 u1204 F126 E_181 (own_n (own_t lt864 (Keep.of_wr W1177).1) u1194) F182 F184 V186 F131 E_187 (own_n (own_t lt865 (Keep.of_wr W1177).1) u1194) F188 F190 V192 F136 E_193 (own_n (own_t lt866 (Keep.of_wr W1177).1) u1194) F194 F196 V198 S_200) rfl pd_21 hml (hb hby at_287) (Ls := (oL p1 p2 p3 p4 1 a123 b755 5 b760 1 2 i870 5 0)) (W := 0) (argsL := [(.ref b1184)]) (rest := [])
     rcases hQ1206 with ⟨b1207, u1208, u1209, u1210, u1211, u1212, rfl, u1214, u1215, u1216, Ku1217, u1218, u1219⟩ | ⟨u1220, rfl, u1222, Ku1223⟩
     ·
      exact absurd u1210 (fun q => (own_bnl (c := (105 : Int32)) u1189 hi870 (by decide +kernel) hc1126 : ¬ i1181 = 105) q.symm)
     ·
      have Ou1223 := Ou1199.keep Ku1223 all0
      have N1206 := Fr.app N1178 u1222
      obtain ⟨T1224, L1224, X1224, u1224, e1224, st1224⟩ := own_tE hw X1206 hx hby hml hZ755 hown755 Ou1223 E_315 F316 (oL p1 p2 p3 p4 1 a123 b755 5 b760 1 2 i870 5 0) rfl
      have N1224 := Fr.app N1206 u1224
      refine fin (some (.int 1)) _ _ _ _ T755.vm _ X1224 hS755 (by rw [e1224]; exact (Nat.le_trans (Nat.le_trans (Nat.le_trans hz856 (Keep.of_wr W1177).1) Ku1199.1) Ku1223.1)) nofun (fun fs hr => pre1205 _ ?_) (own_atH e1224 ?_) (by decide) (by decide)
      ·
       refine st1206 _ (st1224 _ ?_)
       exact retN X1224 hx (t := .boolean) hret (by simp) (hb hby at_302) hr
      ·
       exact ⟨rfl, N1224⟩
   ·
    subst hq921
    have pre1226 : oS p e below EN T854 (mkF m 228 #[vI p1, vI p2, vI p3, vI p4, vI 1, vR a123, vR b755, vI 5, vR b760, vI 1, vI 3, vI i870, vI 5, .unset, .unset] [(.int 116), (.int i870)]) := fun t kt => pre920 t (o_caload X854 hq at_227 hZ755 e854 V854 (i := 3) (v := .int 116) (by decide +kernel) rfl kt)
    by_cases hc1227 : i870 = 116
    ·
     subst hc1227
     obtain ⟨T1229, h1229, X1229, e1229, W1229, V1229, st1229⟩ := own_stC X854 hx hZ755 e854 V854 0 3 116 116 3 knc116 (hb hby at_244) (oL p1 p2 p3 p4 1 a123 b755 5 b760 1 3 116 5 1) [] (vs2 := [(.int 87), (.int 114), (.int 105), (.int 116), (.int 101), (.int 0), (.int 0), (.int 0)])
     have O1229 := O854.wr W1229 g_b760
     have N1229 := Fr.snoc X1229 N854 g_b760
     obtain ⟨_, T1230, L1230, X1230, hQ1230, st1230⟩ := own_cS X1229 hx hZ755 hown755 (ww52 hw) (ww53 hw) (ww27 hw) (ww54 hw) (rm9_55 l Z a0 hw b760 87 114 105 116 101 0 0 0 k760 p11 h1229 n0 O1229 V1229 kll255_87 kll87_0 (own_t lt862 (Keep.of_wr W1229).1) kll255_114 kll114_0 kll255_105 kll105_0 kll255_116 kll116_0 kll255_101 kll101_0 S_12 hk13) e1229 pd_13 hml (hb hby at_284) (Ls := (oL p1 p2 p3 p4 1 a123 b755 5 b760 1 3 116 5 1)) (W := 0) (argsL := [(.ref b760), (.int 5)]) (rest := [])
     obtain ⟨i1231, i1232, i1233, i1234, i1235, b1236, b1237, k1238, u1239, u1240, u1241, u1242, u1243, rfl, u1245, u1246, u1247, u1248, u1249, u1250, Ku1251, u1252, u1253, u1254, u1255, u1256⟩ := hQ1230
     have Ou1251 := O1229.keep Ku1251 all0
     have N1230 := Fr.app N1229 u1245
     have pre1257 : oS p e below EN T1230 (mkF m 287 (oL p1 p2 p3 p4 1 a123 b755 5 b760 1 3 116 5 1) [(.ref b1236)]) := fun t kt => pre1226 t (o_icmpN X854 hq at_228 (by decide +kernel) (o_iconst X854 hq at_231 (x := 1) rfl (o_goto X854 hq at_232 (pc := 232) (pc' := 236) (o_istore X854 hq at_236 rfl (o_aload X854 hq at_238 rfl rfl (o_iload X854 hq at_240 rfl (o_iload X854 hq at_242 rfl (st1229 _ (o_goto X1229 hq at_245 (pc := 245) (pc' := 280) (o_aload X1229 hq at_280 rfl rfl (o_iload X1229 hq at_282 rfl (st1230 _ kt))))))))))))
     obtain rfl := kb87 u1239
     obtain rfl := kb114 u1240
     obtain rfl := kb105 u1241
     obtain rfl := kb116 u1242
     obtain rfl := kb101 u1243
     obtain ⟨_, T1258, L1258, X1258, hQ1258, st1258⟩ := own_cS X1230 hx hZ755 hown755 (ww76 hw) (ww77 hw) (ww1 hw) (ww78 hw) (rm16_61 l Z a0 hw b1236 a170 b1237 a7 a123 a128 a133 k172 a120 p11 a177 k179 87 114 105 116 101 k1238 a125 a183 k185 a130 a189 k191 a135 a195 k197 a199 T1230.heap n0 Ou1251 S_171 u1254 V173 E_174 F121 E_175 (own_n (own_t lt863 (Keep.of_wr W1229).1) u1246) u1252 S_12 hk13 F176 u1253 F178 V180 u1256 F126 E_181 (own_n (own_t lt864 (Keep.of_wr W1229).1) u1246) F182 F184 V186 F131 E_187 (own_n (own_t lt865 (Keep.of_wr W1229).1) u1246) F188 F190 V192 F136 E_193 (own_n (own_t lt866 (Keep.of_wr W1229).1) u1246) F194 F196 V198 S_200) rfl pd_21 hml (hb hby at_287) (Ls := (oL p1 p2 p3 p4 1 a123 b755 5 b760 1 3 116 5 1)) (W := 0) (argsL := [(.ref b1236)]) (rest := [])
     rcases hQ1258 with ⟨b1259, u1260, u1261, u1262, u1263, u1264, rfl, u1266, u1267, u1268, Ku1269, u1270, u1271⟩ | ⟨u1272, rfl, u1274, Ku1275⟩
     ·
      have Ou1269 := Ou1251.keep Ku1269 all0
      have N1258 := Fr.app N1230 u1266
      obtain ⟨T1276, L1276, X1276, u1276, e1276, st1276⟩ := own_tP hw X1258 hx hby hml hZ755 hown755 Ou1269 u1270 u1271 (oL p1 p2 p3 p4 1 a123 b755 5 b760 1 3 116 5 1) rfl
      have N1276 := Fr.app N1258 u1276
      refine fin (some (.int 1)) _ _ _ _ T755.vm _ X1276 hS755 (by rw [e1276]; exact (Nat.le_trans (Nat.le_trans (Nat.le_trans hz856 (Keep.of_wr W1229).1) Ku1251.1) Ku1269.1)) nofun (fun fs hr => pre1257 _ ?_) (own_atH e1276 ?_) (by decide) (by decide)
      ·
       refine st1258 _ (st1276 _ ?_)
       exact retN X1276 hx (t := .boolean) hret (by simp) (hb hby at_326) hr
      ·
       exact ⟨rfl, N1276⟩
     ·
      exact absurd ⟨kle87_87, kle114_114, kle105_105, kle116_116, kle101_101⟩ u1272
    ·
     obtain ⟨T1278, h1278, X1278, e1278, W1278, V1278, st1278⟩ := own_stC X854 hx hZ755 e854 V854 0 3 i870 i870 3 (own_nar255 hi870) (hb hby at_244) (oL p1 p2 p3 p4 1 a123 b755 5 b760 1 3 i870 5 0) [] (vs2 := [(.int 87), (.int 114), (.int 105), (.int i870), (.int 101), (.int 0), (.int 0), (.int 0)])
     have O1278 := O854.wr W1278 g_b760
     have N1278 := Fr.snoc X1278 N854 g_b760
     obtain ⟨_, T1279, L1279, X1279, hQ1279, st1279⟩ := own_cS X1278 hx hZ755 hown755 (ww52 hw) (ww53 hw) (ww27 hw) (ww54 hw) (rm9_55 l Z a0 hw b760 87 114 105 i870 101 0 0 0 k760 p11 h1278 n0 O1278 V1278 kll255_87 kll87_0 (own_t lt862 (Keep.of_wr W1278).1) kll255_114 kll114_0 kll255_105 kll105_0 (own_lt255 hi870) (own_nn hi870) kll255_101 kll101_0 S_12 hk13) e1278 pd_13 hml (hb hby at_284) (Ls := (oL p1 p2 p3 p4 1 a123 b755 5 b760 1 3 i870 5 0)) (W := 0) (argsL := [(.ref b760), (.int 5)]) (rest := [])
     obtain ⟨i1280, i1281, i1282, i1283, i1284, b1285, b1286, k1287, u1288, u1289, u1290, u1291, u1292, rfl, u1294, u1295, u1296, u1297, u1298, u1299, Ku1300, u1301, u1302, u1303, u1304, u1305⟩ := hQ1279
     have Ou1300 := O1278.keep Ku1300 all0
     have N1279 := Fr.app N1278 u1294
     have pre1306 : oS p e below EN T1279 (mkF m 287 (oL p1 p2 p3 p4 1 a123 b755 5 b760 1 3 i870 5 0) [(.ref b1285)]) := fun t kt => pre1226 t (o_icmpY X854 hq at_228 (pc := 228) (pc' := 235) (feq hc1227).2 (o_iconst X854 hq at_235 (x := 0) rfl (o_istore X854 hq at_236 rfl (o_aload X854 hq at_238 rfl rfl (o_iload X854 hq at_240 rfl (o_iload X854 hq at_242 rfl (st1278 _ (o_goto X1278 hq at_245 (pc := 245) (pc' := 280) (o_aload X1278 hq at_280 rfl rfl (o_iload X1278 hq at_282 rfl (st1279 _ kt)))))))))))
     obtain rfl := kb87 u1288
     obtain rfl := kb114 u1289
     obtain rfl := kb105 u1290
     obtain rfl := kb101 u1292
     obtain ⟨_, T1307, L1307, X1307, hQ1307, st1307⟩ := own_cS X1279 hx hZ755 hown755 (ww76 hw) (ww77 hw) (ww1 hw) (ww78 hw) (rm16_61 l Z a0 hw b1285 a170 b1286 a7 a123 a128 a133 k172 a120 p11 a177 k179 87 114 105 i1283 101 k1287 a125 a183 k185 a130 a189 k191 a135 a195 k197 a199 T1279.heap n0 Ou1300 S_171 u1303 V173 E_174 F121 E_175 (own_n (own_t lt863 (Keep.of_wr W1278).1) u1295) u1301 S_12 hk13 F176 u1302 F178 V180 u1305 F126 E_181 (own_n (own_t lt864 (Keep.of_wr W1278).1) u1295) F182 F184 V186 F131 E_187 (own_n (own_t lt865 (Keep.of_wr W1278).1) u1295) F188 F190 V192 F136 E_193 (own_n (own_t lt866 (Keep.of_wr W1278).1) u1295) F194 F196 V198 S_200) rfl pd_21 hml (hb hby at_287) (Ls := (oL p1 p2 p3 p4 1 a123 b755 5 b760 1 3 i870 5 0)) (W := 0) (argsL := [(.ref b1285)]) (rest := [])
     rcases hQ1307 with ⟨b1308, u1309, u1310, u1311, u1312, u1313, rfl, u1315, u1316, u1317, Ku1318, u1319, u1320⟩ | ⟨u1321, rfl, u1323, Ku1324⟩
     ·
      exact absurd u1312 (fun q => (own_bnl (c := (116 : Int32)) u1291 hi870 (by decide +kernel) hc1227 : ¬ i1283 = 116) q.symm)
     ·
      have Ou1324 := Ou1300.keep Ku1324 all0
      have N1307 := Fr.app N1279 u1323
      obtain ⟨T1325, L1325, X1325, u1325, e1325, st1325⟩ := own_tE hw X1307 hx hby hml hZ755 hown755 Ou1324 E_315 F316 (oL p1 p2 p3 p4 1 a123 b755 5 b760 1 3 i870 5 0) rfl
      have N1325 := Fr.app N1307 u1325
      refine fin (some (.int 1)) _ _ _ _ T755.vm _ X1325 hS755 (by rw [e1325]; exact (Nat.le_trans (Nat.le_trans (Nat.le_trans hz856 (Keep.of_wr W1278).1) Ku1300.1) Ku1324.1)) nofun (fun fs hr => pre1306 _ ?_) (own_atH e1325 ?_) (by decide) (by decide)
      ·
       refine st1307 _ (st1325 _ ?_)
       exact retN X1325 hx (t := .boolean) hret (by simp) (hb hby at_302) hr
      ·
       exact ⟨rfl, N1325⟩
   ·
    subst hq921
    have pre1327 : oS p e below EN T854 (mkF m 228 #[vI p1, vI p2, vI p3, vI p4, vI 1, vR a123, vR b755, vI 5, vR b760, vI 1, vI 4, vI i870, vI 5, .unset, .unset] [(.int 101), (.int i870)]) := fun t kt => pre920 t (o_caload X854 hq at_227 hZ755 e854 V854 (i := 4) (v := .int 101) (by decide +kernel) rfl kt)
    by_cases hc1328 : i870 = 101
    ·
     subst hc1328
     obtain ⟨T1330, h1330, X1330, e1330, W1330, V1330, st1330⟩ := own_stC X854 hx hZ755 e854 V854 0 4 101 101 4 knc101 (hb hby at_244) (oL p1 p2 p3 p4 1 a123 b755 5 b760 1 4 101 5 1) [] (vs2 := [(.int 87), (.int 114), (.int 105), (.int 116), (.int 101), (.int 0), (.int 0), (.int 0)])
     have O1330 := O854.wr W1330 g_b760
     have N1330 := Fr.snoc X1330 N854 g_b760
     obtain ⟨_, T1331, L1331, X1331, hQ1331, st1331⟩ := own_cS X1330 hx hZ755 hown755 (ww52 hw) (ww53 hw) (ww27 hw) (ww54 hw) (rm9_55 l Z a0 hw b760 87 114 105 116 101 0 0 0 k760 p11 h1330 n0 O1330 V1330 kll255_87 kll87_0 (own_t lt862 (Keep.of_wr W1330).1) kll255_114 kll114_0 kll255_105 kll105_0 kll255_116 kll116_0 kll255_101 kll101_0 S_12 hk13) e1330 pd_13 hml (hb hby at_284) (Ls := (oL p1 p2 p3 p4 1 a123 b755 5 b760 1 4 101 5 1)) (W := 0) (argsL := [(.ref b760), (.int 5)]) (rest := [])
     obtain ⟨i1332, i1333, i1334, i1335, i1336, b1337, b1338, k1339, u1340, u1341, u1342, u1343, u1344, rfl, u1346, u1347, u1348, u1349, u1350, u1351, Ku1352, u1353, u1354, u1355, u1356, u1357⟩ := hQ1331
     have Ou1352 := O1330.keep Ku1352 all0
     have N1331 := Fr.app N1330 u1346
     have pre1358 : oS p e below EN T1331 (mkF m 287 (oL p1 p2 p3 p4 1 a123 b755 5 b760 1 4 101 5 1) [(.ref b1337)]) := fun t kt => pre1327 t (o_icmpN X854 hq at_228 (by decide +kernel) (o_iconst X854 hq at_231 (x := 1) rfl (o_goto X854 hq at_232 (pc := 232) (pc' := 236) (o_istore X854 hq at_236 rfl (o_aload X854 hq at_238 rfl rfl (o_iload X854 hq at_240 rfl (o_iload X854 hq at_242 rfl (st1330 _ (o_goto X1330 hq at_245 (pc := 245) (pc' := 280) (o_aload X1330 hq at_280 rfl rfl (o_iload X1330 hq at_282 rfl (st1331 _ kt))))))))))))
     obtain rfl := kb87 u1340
     obtain rfl := kb114 u1341
     obtain rfl := kb105 u1342
     obtain rfl := kb116 u1343
     obtain rfl := kb101 u1344
     obtain ⟨_, T1359, L1359, X1359, hQ1359, st1359⟩ := own_cS X1331 hx hZ755 hown755 (ww76 hw) (ww77 hw) (ww1 hw) (ww78 hw) (rm16_61 l Z a0 hw b1337 a170 b1338 a7 a123 a128 a133 k172 a120 p11 a177 k179 87 114 105 116 101 k1339 a125 a183 k185 a130 a189 k191 a135 a195 k197 a199 T1331.heap n0 Ou1352 S_171 u1355 V173 E_174 F121 E_175 (own_n (own_t lt863 (Keep.of_wr W1330).1) u1347) u1353 S_12 hk13 F176 u1354 F178 V180 u1357 F126 E_181 (own_n (own_t lt864 (Keep.of_wr W1330).1) u1347) F182 F184 V186 F131 E_187 (own_n (own_t lt865 (Keep.of_wr W1330).1) u1347) F188 F190 V192 F136 E_193 (own_n (own_t lt866 (Keep.of_wr W1330).1) u1347) F194 F196 V198 S_200) rfl pd_21 hml (hb hby at_287) (Ls := (oL p1 p2 p3 p4 1 a123 b755 5 b760 1 4 101 5 1)) (W := 0) (argsL := [(.ref b1337)]) (rest := [])
     rcases hQ1359 with ⟨b1360, u1361, u1362, u1363, u1364, u1365, rfl, u1367, u1368, u1369, Ku1370, u1371, u1372⟩ | ⟨u1373, rfl, u1375, Ku1376⟩
     ·
      have Ou1370 := Ou1352.keep Ku1370 all0
      have N1359 := Fr.app N1331 u1367
      obtain ⟨T1377, L1377, X1377, u1377, e1377, st1377⟩ := own_tP hw X1359 hx hby hml hZ755 hown755 Ou1370 u1371 u1372 (oL p1 p2 p3 p4 1 a123 b755 5 b760 1 4 101 5 1) rfl
      have N1377 := Fr.app N1359 u1377
      refine fin (some (.int 1)) _ _ _ _ T755.vm _ X1377 hS755 (by rw [e1377]; exact (Nat.le_trans (Nat.le_trans (Nat.le_trans hz856 (Keep.of_wr W1330).1) Ku1352.1) Ku1370.1)) nofun (fun fs hr => pre1358 _ ?_) (own_atH e1377 ?_) (by decide) (by decide)
      ·
       refine st1359 _ (st1377 _ ?_)
       exact retN X1377 hx (t := .boolean) hret (by simp) (hb hby at_326) hr
      ·
       exact ⟨rfl, N1377⟩
     ·
      exact absurd ⟨kle87_87, kle114_114, kle105_105, kle116_116, kle101_101⟩ u1373
    ·
     obtain ⟨T1379, h1379, X1379, e1379, W1379, V1379, st1379⟩ := own_stC X854 hx hZ755 e854 V854 0 4 i870 i870 4 (own_nar255 hi870) (hb hby at_244) (oL p1 p2 p3 p4 1 a123 b755 5 b760 1 4 i870 5 0) [] (vs2 := [(.int 87), (.int 114), (.int 105), (.int 116), (.int i870), (.int 0), (.int 0), (.int 0)])
     have O1379 := O854.wr W1379 g_b760
     have N1379 := Fr.snoc X1379 N854 g_b760
     obtain ⟨_, T1380, L1380, X1380, hQ1380, st1380⟩ := own_cS X1379 hx hZ755 hown755 (ww52 hw) (ww53 hw) (ww27 hw) (ww54 hw) (rm9_55 l Z a0 hw b760 87 114 105 116 i870 0 0 0 k760 p11 h1379 n0 O1379 V1379 kll255_87 kll87_0 (own_t lt862 (Keep.of_wr W1379).1) kll255_114 kll114_0 kll255_105 kll105_0 kll255_116 kll116_0 (own_lt255 hi870) (own_nn hi870) S_12 hk13) e1379 pd_13 hml (hb hby at_284) (Ls := (oL p1 p2 p3 p4 1 a123 b755 5 b760 1 4 i870 5 0)) (W := 0) (argsL := [(.ref b760), (.int 5)]) (rest := [])
     obtain ⟨i1381, i1382, i1383, i1384, i1385, b1386, b1387, k1388, u1389, u1390, u1391, u1392, u1393, rfl, u1395, u1396, u1397, u1398, u1399, u1400, Ku1401, u1402, u1403, u1404, u1405, u1406⟩ := hQ1380
     have Ou1401 := O1379.keep Ku1401 all0
     have N1380 := Fr.app N1379 u1395
     have pre1407 : oS p e below EN T1380 (mkF m 287 (oL p1 p2 p3 p4 1 a123 b755 5 b760 1 4 i870 5 0) [(.ref b1386)]) := fun t kt => pre1327 t (o_icmpY X854 hq at_228 (pc := 228) (pc' := 235) (feq hc1328).2 (o_iconst X854 hq at_235 (x := 0) rfl (o_istore X854 hq at_236 rfl (o_aload X854 hq at_238 rfl rfl (o_iload X854 hq at_240 rfl (o_iload X854 hq at_242 rfl (st1379 _ (o_goto X1379 hq at_245 (pc := 245) (pc' := 280) (o_aload X1379 hq at_280 rfl rfl (o_iload X1379 hq at_282 rfl (st1380 _ kt)))))))))))
     obtain rfl := kb87 u1389
     obtain rfl := kb114 u1390
     obtain rfl := kb105 u1391
     obtain rfl := kb116 u1392
     obtain ⟨_, T1408, L1408, X1408, hQ1408, st1408⟩ := own_cS X1380 hx hZ755 hown755 (ww76 hw) (ww77 hw) (ww1 hw) (ww78 hw) (rm16_61 l Z a0 hw b1386 a170 b1387 a7 a123 a128 a133 k172 a120 p11 a177 k179 87 114 105 116 i1385 k1388 a125 a183 k185 a130 a189 k191 a135 a195 k197 a199 T1380.heap n0 Ou1401 S_171 u1404 V173 E_174 F121 E_175 (own_n (own_t lt863 (Keep.of_wr W1379).1) u1396) u1402 S_12 hk13 F176 u1403 F178 V180 u1406 F126 E_181 (own_n (own_t lt864 (Keep.of_wr W1379).1) u1396) F182 F184 V186 F131 E_187 (own_n (own_t lt865 (Keep.of_wr W1379).1) u1396) F188 F190 V192 F136 E_193 (own_n (own_t lt866 (Keep.of_wr W1379).1) u1396) F194 F196 V198 S_200) rfl pd_21 hml (hb hby at_287) (Ls := (oL p1 p2 p3 p4 1 a123 b755 5 b760 1 4 i870 5 0)) (W := 0) (argsL := [(.ref b1386)]) (rest := [])
     rcases hQ1408 with ⟨b1409, u1410, u1411, u1412, u1413, u1414, rfl, u1416, u1417, u1418, Ku1419, u1420, u1421⟩ | ⟨u1422, rfl, u1424, Ku1425⟩
     ·
      exact absurd u1414 (fun q => (own_bnl (c := (101 : Int32)) u1393 hi870 (by decide +kernel) hc1328 : ¬ i1385 = 101) q.symm)
     ·
      have Ou1425 := Ou1401.keep Ku1425 all0
      have N1408 := Fr.app N1380 u1424
      obtain ⟨T1426, L1426, X1426, u1426, e1426, st1426⟩ := own_tE hw X1408 hx hby hml hZ755 hown755 Ou1425 E_315 F316 (oL p1 p2 p3 p4 1 a123 b755 5 b760 1 4 i870 5 0) rfl
      have N1426 := Fr.app N1408 u1426
      refine fin (some (.int 1)) _ _ _ _ T755.vm _ X1426 hS755 (by rw [e1426]; exact (Nat.le_trans (Nat.le_trans (Nat.le_trans hz856 (Keep.of_wr W1379).1) Ku1401.1) Ku1425.1)) nofun (fun fs hr => pre1407 _ ?_) (own_atH e1426 ?_) (by decide) (by decide)
      ·
       refine st1408 _ (st1426 _ ?_)
       exact retN X1426 hx (t := .boolean) hret (by simp) (hb hby at_302) hr
      ·
       exact ⟨rfl, N1426⟩
  ·
   subst hq872
   have pre1427 : oS p e below EN T854 (mkF m 254 #[vI p1, vI p2, vI p3, vI p4, vI 1, vR a123, vR b755, vI 5, vR b760, vI 2, vI i869, vI i870, vI 5, .unset, .unset] []) := fun t kt => pre871 t (o_iload X854 hq at_204 rfl (o_ifY X854 hq at_206 (pc := 206) (pc' := 215) (by decide +kernel) (o_iload X854 hq at_215 rfl (o_iconst X854 hq at_217 (x := 1) rfl (o_icmpY X854 hq at_218 (pc := 218) (pc' := 248) (by decide +kernel) (o_iload X854 hq at_248 rfl (o_iconst X854 hq at_250 (x := 2) rfl (o_icmpN X854 hq at_251 (by decide +kernel) kt))))))))
   rcases (hi869 ▸ own_mod5 hi868 : i869 = 0 ∨ i869 = 1 ∨ i869 = 2 ∨ i869 = 3 ∨ i869 = 4) with hq1428 | hq1428 | hq1428 | hq1428 | hq1428
   ·
    subst hq1428
    obtain ⟨_, T1429, L1429, X1429, hS1429, hZ1429, hown1429, cg1429, hQ1429, st1429⟩ := own_cSH (s := s) (vm0 := T755.vm) X854 hx hZ755 hown755 hS755 hz856 (own_EW hw) CR854.1 (ww52 hw) (ww53 hw) (ww27 hw) (ww54 hw) (rm9_30 l Z a0 hw b760 h854 n0 O854) e854 pd_13 hml (hb hby at_284) (Ls := (oL p1 p2 p3 p4 1 a123 b755 5 b760 2 0 i870 0 0)) (W := 0) (argsL := [(.ref b760), (.int 0)]) (rest := [])
    obtain ⟨b1430, b1431, k1432, rfl, u1434, u1435, u1436, u1437, Ku1438, u1439, u1440, u1441, u1442⟩ := hQ1429
    have Ou1438 := O854.keep Ku1438 all0
    have N1429 := Fr.app N854 u1434
    obtain ⟨_, T1443, L1443, X1443, hQ1443, st1443⟩ := own_cS X1429 hx hZ1429 hown1429 (ww76 hw) (ww77 hw) (ww1 hw) (ww78 hw) (g16_33 b1430 b1431 _ 0 k1432 T1429.heap Ou1438 u1441 (own_n lt863 u1435) u1439 u1440 u1442 kle4_0 (own_n lt864 u1435) kle5_0 (own_n lt865 u1435) kle6_0 (own_n lt866 u1435) kle7_0) rfl pd_21 hml (hb hby at_287) (Ls := (oL p1 p2 p3 p4 1 a123 b755 5 b760 2 0 i870 0 0)) (W := 0) (argsL := [(.ref b1430)]) (rest := [])
    obtain ⟨rfl, u1445, Ku1446⟩ := hQ1443
    have Ou1446 := Ou1438.keep Ku1446 all0
    have N1443 := Fr.app N1429 u1445
    obtain ⟨T1447, L1447, X1447, u1447, e1447, st1447⟩ := own_tE hw X1443 hx hby hml hZ1429 hown1429 Ou1446 E_315 F316 (oL p1 p2 p3 p4 1 a123 b755 5 b760 2 0 i870 0 0) rfl
    have N1447 := Fr.app N1443 u1447
    refine fin (some (.int 1)) _ _ _ _ T1429.vm _ X1447 hS1429 (by rw [e1447]; exact (Nat.le_trans (Nat.le_refl _) Ku1446.1)) nofun (fun fs hr => pre1427 _ ?_) (own_atH e1447 ?_) (by decide) (by decide)
    ·
     refine o_iload X854 hq at_254 rfl (o_istore X854 hq at_256 rfl (o_iconst X854 hq at_258 (x := 0) rfl (o_istore X854 hq at_259 rfl (o_goto X854 hq at_261 (pc := 261) (pc' := 280) (o_aload X854 hq at_280 rfl rfl (o_iload X854 hq at_282 rfl (st1429 _ (st1443 _ (st1447 _ ?_)))))))))
     exact retN X1447 hx (t := .boolean) hret (by simp) (hb hby at_302) hr
    ·
     exact ⟨rfl, N1447⟩
   ·
    subst hq1428
    obtain ⟨_, T1448, L1448, X1448, hQ1448, st1448⟩ := own_cS X854 hx hZ755 hown755 (ww52 hw) (ww53 hw) (ww27 hw) (ww54 hw) (rm9_36 l Z a0 hw b760 87 114 105 116 101 0 0 0 k760 p11 h854 n0 O854 V854 kll255_87 kll87_0 S_12 hk13) e854 pd_13 hml (hb hby at_284) (Ls := (oL p1 p2 p3 p4 1 a123 b755 5 b760 2 1 i870 1 0)) (W := 0) (argsL := [(.ref b760), (.int 1)]) (rest := [])
    obtain ⟨i1449, b1450, b1451, k1452, u1453, rfl, u1455, u1456, u1457, u1458, u1459, u1460, Ku1461, u1462, u1463, u1464, u1465, u1466⟩ := hQ1448
    have Ou1461 := O854.keep Ku1461 all0
    have N1448 := Fr.app N854 u1455
    have pre1467 : oS p e below EN T1448 (mkF m 287 (oL p1 p2 p3 p4 1 a123 b755 5 b760 2 1 i870 1 0) [(.ref b1450)]) := fun t kt => pre1427 t (o_iload X854 hq at_254 rfl (o_istore X854 hq at_256 rfl (o_iconst X854 hq at_258 (x := 0) rfl (o_istore X854 hq at_259 rfl (o_goto X854 hq at_261 (pc := 261) (pc' := 280) (o_aload X854 hq at_280 rfl rfl (o_iload X854 hq at_282 rfl (st1448 _ kt))))))))
    obtain rfl := kb87 u1453
    obtain ⟨_, T1468, L1468, X1468, hQ1468, st1468⟩ := own_cS X1448 hx hZ755 hown755 (ww76 hw) (ww77 hw) (ww1 hw) (ww78 hw) (g16_42 b1450 b1451 _ 1 k1452 T1448.heap Ou1461 u1464 (own_n lt863 u1456) u1462 u1463 u1466 kle4_1 (own_n lt864 u1456) kle5_1 (own_n lt865 u1456) kle6_1 (own_n lt866 u1456) kle7_1) rfl pd_21 hml (hb hby at_287) (Ls := (oL p1 p2 p3 p4 1 a123 b755 5 b760 2 1 i870 1 0)) (W := 0) (argsL := [(.ref b1450)]) (rest := [])
    obtain ⟨rfl, u1470, Ku1471⟩ := hQ1468
    have Ou1471 := Ou1461.keep Ku1471 all0
    have N1468 := Fr.app N1448 u1470
    obtain ⟨T1472, L1472, X1472, u1472, e1472, st1472⟩ := own_tE hw X1468 hx hby hml hZ755 hown755 Ou1471 E_315 F316 (oL p1 p2 p3 p4 1 a123 b755 5 b760 2 1 i870 1 0) rfl
    have N1472 := Fr.app N1468 u1472
    refine fin (some (.int 1)) _ _ _ _ T755.vm _ X1472 hS755 (by rw [e1472]; exact (Nat.le_trans (Nat.le_trans hz856 Ku1461.1) Ku1471.1)) nofun (fun fs hr => pre1467 _ ?_) (own_atH e1472 ?_) (by decide) (by decide)
    ·
     refine st1468 _ (st1472 _ ?_)
     exact retN X1472 hx (t := .boolean) hret (by simp) (hb hby at_302) hr
    ·
     exact ⟨rfl, N1472⟩
   ·
    subst hq1428
    obtain ⟨_, T1473, L1473, X1473, hQ1473, st1473⟩ := own_cS X854 hx hZ755 hown755 (ww52 hw) (ww53 hw) (ww27 hw) (ww54 hw) (rm9_43 l Z a0 hw b760 87 114 105 116 101 0 0 0 k760 p11 h854 n0 O854 V854 kll255_87 kll87_0 lt862 kll255_114 kll114_0 S_12 hk13) e854 pd_13 hml (hb hby at_284) (Ls := (oL p1 p2 p3 p4 1 a123 b755 5 b760 2 2 i870 2 0)) (W := 0) (argsL := [(.ref b760), (.int 2)]) (rest := [])
    obtain ⟨i1474, i1475, b1476, b1477, k1478, u1479, u1480, rfl, u1482, u1483, u1484, u1485, u1486, u1487, Ku1488, u1489, u1490, u1491, u1492, u1493⟩ := hQ1473
    have Ou1488 := O854.keep Ku1488 all0
    have N1473 := Fr.app N854 u1482
    have pre1494 : oS p e below EN T1473 (mkF m 287 (oL p1 p2 p3 p4 1 a123 b755 5 b760 2 2 i870 2 0) [(.ref b1476)]) := fun t kt => pre1427 t (o_iload X854 hq at_254 rfl (o_istore X854 hq at_256 rfl (o_iconst X854 hq at_258 (x := 0) rfl (o_istore X854 hq at_259 rfl (o_goto X854 hq at_261 (pc := 261) (pc' := 280) (o_aload X854 hq at_280 rfl rfl (o_iload X854 hq at_282 rfl (st1473 _ kt))))))))
    obtain rfl := kb87 u1479
    obtain rfl := kb114 u1480
    obtain ⟨_, T1495, L1495, X1495, hQ1495, st1495⟩ := own_cS X1473 hx hZ755 hown755 (ww76 hw) (ww77 hw) (ww1 hw) (ww78 hw) (g16_42 b1476 b1477 _ 2 k1478 T1473.heap Ou1488 u1491 (own_n lt863 u1483) u1489 u1490 u1493 kle4_2 (own_n lt864 u1483) kle5_2 (own_n lt865 u1483) kle6_2 (own_n lt866 u1483) kle7_2) rfl pd_21 hml (hb hby at_287) (Ls := (oL p1 p2 p3 p4 1 a123 b755 5 b760 2 2 i870 2 0)) (W := 0) (argsL := [(.ref b1476)]) (rest := [])
    obtain ⟨rfl, u1497, Ku1498⟩ := hQ1495
    have Ou1498 := Ou1488.keep Ku1498 all0
    have N1495 := Fr.app N1473 u1497
    obtain ⟨T1499, L1499, X1499, u1499, e1499, st1499⟩ := own_tE hw X1495 hx hby hml hZ755 hown755 Ou1498 E_315 F316 (oL p1 p2 p3 p4 1 a123 b755 5 b760 2 2 i870 2 0) rfl
    have N1499 := Fr.app N1495 u1499
    refine fin (some (.int 1)) _ _ _ _ T755.vm _ X1499 hS755 (by rw [e1499]; exact (Nat.le_trans (Nat.le_trans hz856 Ku1488.1) Ku1498.1)) nofun (fun fs hr => pre1494 _ ?_) (own_atH e1499 ?_) (by decide) (by decide)
    ·
     refine st1495 _ (st1499 _ ?_)
     exact retN X1499 hx (t := .boolean) hret (by simp) (hb hby at_302) hr
    ·
     exact ⟨rfl, N1499⟩
   ·
    subst hq1428
    obtain ⟨_, T1500, L1500, X1500, hQ1500, st1500⟩ := own_cS X854 hx hZ755 hown755 (ww52 hw) (ww53 hw) (ww27 hw) (ww54 hw) (rm9_49 l Z a0 hw b760 87 114 105 116 101 0 0 0 k760 p11 h854 n0 O854 V854 kll255_87 kll87_0 lt862 kll255_114 kll114_0 kll255_105 kll105_0 S_12 hk13) e854 pd_13 hml (hb hby at_284) (Ls := (oL p1 p2 p3 p4 1 a123 b755 5 b760 2 3 i870 3 0)) (W := 0) (argsL := [(.ref b760), (.int 3)]) (rest := [])
    obtain ⟨i1501, i1502, i1503, b1504, b1505, k1506, u1507, u1508, u1509, rfl, u1511, u1512, u1513, u1514, u1515, u1516, Ku1517, u1518, u1519, u1520, u1521, u1522⟩ := hQ1500
    have Ou1517 := O854.keep Ku1517 all0
    have N1500 := Fr.app N854 u1511
    have pre1523 : oS p e below EN T1500 (mkF m 287 (oL p1 p2 p3 p4 1 a123 b755 5 b760 2 3 i870 3 0) [(.ref b1504)]) := fun t kt => pre1427 t (o_iload X854 hq at_254 rfl (o_istore X854 hq at_256 rfl (o_iconst X854 hq at_258 (x := 0) rfl (o_istore X854 hq at_259 rfl (o_goto X854 hq at_261 (pc := 261) (pc' := 280) (o_aload X854 hq at_280 rfl rfl (o_iload X854 hq at_282 rfl (st1500 _ kt))))))))
    obtain rfl := kb87 u1507
    obtain rfl := kb114 u1508
    obtain rfl := kb105 u1509
    obtain ⟨_, T1524, L1524, X1524, hQ1524, st1524⟩ := own_cS X1500 hx hZ755 hown755 (ww76 hw) (ww77 hw) (ww1 hw) (ww78 hw) (g16_42 b1504 b1505 _ 3 k1506 T1500.heap Ou1517 u1520 (own_n lt863 u1512) u1518 u1519 u1522 kle4_3 (own_n lt864 u1512) kle5_3 (own_n lt865 u1512) kle6_3 (own_n lt866 u1512) kle7_3) rfl pd_21 hml (hb hby at_287) (Ls := (oL p1 p2 p3 p4 1 a123 b755 5 b760 2 3 i870 3 0)) (W := 0) (argsL := [(.ref b1504)]) (rest := [])
    obtain ⟨rfl, u1526, Ku1527⟩ := hQ1524
    have Ou1527 := Ou1517.keep Ku1527 all0
    have N1524 := Fr.app N1500 u1526
    obtain ⟨T1528, L1528, X1528, u1528, e1528, st1528⟩ := own_tE hw X1524 hx hby hml hZ755 hown755 Ou1527 E_315 F316 (oL p1 p2 p3 p4 1 a123 b755 5 b760 2 3 i870 3 0) rfl
    have N1528 := Fr.app N1524 u1528
    refine fin (some (.int 1)) _ _ _ _ T755.vm _ X1528 hS755 (by rw [e1528]; exact (Nat.le_trans (Nat.le_trans hz856 Ku1517.1) Ku1527.1)) nofun (fun fs hr => pre1523 _ ?_) (own_atH e1528 ?_) (by decide) (by decide)
    ·
     refine st1524 _ (st1528 _ ?_)
     exact retN X1528 hx (t := .boolean) hret (by simp) (hb hby at_302) hr
    ·
     exact ⟨rfl, N1528⟩
   ·
    subst hq1428
    obtain ⟨_, T1529, L1529, X1529, hQ1529, st1529⟩ := own_cS X854 hx hZ755 hown755 (ww52 hw) (ww53 hw) (ww27 hw) (ww54 hw) (rm9_11 l Z a0 hw b760 87 114 105 116 101 0 0 0 k760 p11 h854 n0 O854 V854 kll255_87 kll87_0 lt862 kll255_114 kll114_0 kll255_105 kll105_0 kll255_116 kll116_0 S_12 hk13) e854 pd_13 hml (hb hby at_284) (Ls := (oL p1 p2 p3 p4 1 a123 b755 5 b760 2 4 i870 4 0)) (W := 0) (argsL := [(.ref b760), (.int 4)]) (rest := [])
    obtain ⟨i1530, i1531, i1532, i1533, b1534, b1535, k1536, u1537, u1538, u1539, u1540, rfl, u1542, u1543, u1544, u1545, u1546, u1547, Ku1548, u1549, u1550, u1551, u1552, u1553⟩ := hQ1529
    have Ou1548 := O854.keep Ku1548 all0
    have N1529 := Fr.app N854 u1542
    have pre1554 : oS p e below EN T1529 (mkF m 287 (oL p1 p2 p3 p4 1 a123 b755 5 b760 2 4 i870 4 0) [(.ref b1534)]) := fun t kt => pre1427 t (o_iload X854 hq at_254 rfl (o_istore X854 hq at_256 rfl (o_iconst X854 hq at_258 (x := 0) rfl (o_istore X854 hq at_259 rfl (o_goto X854 hq at_261 (pc := 261) (pc' := 280) (o_aload X854 hq at_280 rfl rfl (o_iload X854 hq at_282 rfl (st1529 _ kt))))))))
    obtain rfl := kb87 u1537
    obtain rfl := kb114 u1538
    obtain rfl := kb105 u1539
    obtain rfl := kb116 u1540
    obtain ⟨_, T1555, L1555, X1555, hQ1555, st1555⟩ := own_cS X1529 hx hZ755 hown755 (ww76 hw) (ww77 hw) (ww1 hw) (ww78 hw) (g16_17 b1534 b1535 87 114 105 116 k1536 T1529.heap Ou1548 u1551 (own_n lt863 u1543) u1549 u1550 u1553 (own_n lt864 u1543) (own_n lt865 u1543) (own_n lt866 u1543)) rfl pd_21 hml (hb hby at_287) (Ls := (oL p1 p2 p3 p4 1 a123 b755 5 b760 2 4 i870 4 0)) (W := 0) (argsL := [(.ref b1534)]) (rest := [])
    rcases hQ1555 with ⟨b1556, u1557, u1558, u1559, u1560, rfl, u1562, u1563, u1564, Ku1565, u1566, u1567⟩ | ⟨u1568, rfl, u1570, Ku1571⟩
    ·
     exact absurd u1557 (by decide +kernel)
    ·
     have Ou1571 := Ou1548.keep Ku1571 all0
     have N1555 := Fr.app N1529 u1570
     obtain ⟨T1572, L1572, X1572, u1572, e1572, st1572⟩ := own_tE hw X1555 hx hby hml hZ755 hown755 Ou1571 E_315 F316 (oL p1 p2 p3 p4 1 a123 b755 5 b760 2 4 i870 4 0) rfl
     have N1572 := Fr.app N1555 u1572
     refine fin (some (.int 1)) _ _ _ _ T755.vm _ X1572 hS755 (by rw [e1572]; exact (Nat.le_trans (Nat.le_trans hz856 Ku1548.1) Ku1571.1)) nofun (fun fs hr => pre1554 _ ?_) (own_atH e1572 ?_) (by decide) (by decide)
     ·
      refine st1555 _ (st1572 _ ?_)
      exact retN X1572 hx (t := .boolean) hret (by simp) (hb hby at_302) hr
     ·
      exact ⟨rfl, N1572⟩
  ·
   subst hq872
   obtain ⟨T1574, h1574, X1574, e1574, W1574, V1574, st1574⟩ := own_stC X854 hx hZ755 e854 V854 0 5 i870 i870 5 (own_nar255 hi870) (hb hby at_270) #[vI p1, vI p2, vI p3, vI p4, vI 1, vR a123, vR b755, vI 5, vR b760, vI 3, vI i869, vI i870, vI 5, .unset, .unset] [] (vs2 := [(.int 87), (.int 114), (.int 105), (.int 116), (.int 101), (.int i870), (.int 0), (.int 0)])
   have O1574 := O854.wr W1574 g_b760
   have N1574 := Fr.snoc X1574 N854 g_b760
   obtain ⟨_, T1575, L1575, X1575, hQ1575, st1575⟩ := own_cS X1574 hx hZ755 hown755 (ww52 hw) (ww53 hw) (ww27 hw) (ww54 hw) (rm9_64 l Z a0 hw b760 87 114 105 116 101 i870 0 0 k760 p11 h1574 n0 O1574 V1574 kll255_87 kll87_0 (own_t lt862 (Keep.of_wr W1574).1) kll255_114 kll114_0 kll255_105 kll105_0 kll255_116 kll116_0 kll255_101 kll101_0 (own_lt255 hi870) (own_nn hi870) S_12 hk13) e1574 pd_13 hml (hb hby at_284) (Ls := (oL p1 p2 p3 p4 1 a123 b755 5 b760 3 i869 i870 6 0)) (W := 0) (argsL := [(.ref b760), (.int 6)]) (rest := [])
   obtain ⟨i1576, i1577, i1578, i1579, i1580, i1581, b1582, b1583, k1584, u1585, u1586, u1587, u1588, u1589, u1590, rfl, u1592, u1593, u1594, u1595, u1596, u1597, Ku1598, u1599, u1600, u1601, u1602, u1603⟩ := hQ1575
   have Ou1598 := O1574.keep Ku1598 all0
   have N1575 := Fr.app N1574 u1592
   have pre1604 : oS p e below EN T1575 (mkF m 287 (oL p1 p2 p3 p4 1 a123 b755 5 b760 3 i869 i870 6 0) [(.ref b1582)]) := fun t kt => pre871 t (o_iload X854 hq at_204 rfl (o_ifY X854 hq at_206 (pc := 206) (pc' := 215) (by decide +kernel) (o_iload X854 hq at_215 rfl (o_iconst X854 hq at_217 (x := 1) rfl (o_icmpY X854 hq at_218 (pc := 218) (pc' := 248) (by decide +kernel) (o_iload X854 hq at_248 rfl (o_iconst X854 hq at_250 (x := 2) rfl (o_icmpY X854 hq at_251 (pc := 251) (pc' := 264) (by decide +kernel) (o_aload X854 hq at_264 rfl rfl (o_iload X854 hq at_266 rfl (o_iload X854 hq at_268 rfl (st1574 _ (o_iload X1574 hq at_271 rfl (o_iconst X1574 hq at_273 (x := 1) rfl (o_iadd X1574 hq at_274 (z := 6) (by decide +kernel) (o_istore X1574 hq at_275 rfl (o_iconst X1574 hq at_277 (x := 0) rfl (o_istore X1574 hq at_278 rfl (o_aload X1574 hq at_280 rfl rfl (o_iload X1574 hq at_282 rfl (st1575 _ kt)))))))))))))))))))))
   obtain rfl := kb87 u1585
   obtain rfl := kb114 u1586
   obtain rfl := kb105 u1587
   obtain rfl := kb116 u1588
   obtain rfl := kb101 u1589
   obtain ⟨_, T1605, L1605, X1605, hQ1605, st1605⟩ := own_cS X1575 hx hZ755 hown755 (ww76 hw) (ww77 hw) (ww1 hw) (ww78 hw) (rm16_70 l Z a0 hw b1582 a170 b1583 a7 a123 a128 a133 k172 a120 p11 a177 k179 87 114 105 116 101 i1581 k1584 a125 a183 k185 a130 a189 k191 a135 a195 k197 a199 T1575.heap n0 Ou1598 S_171 u1601 V173 E_174 F121 E_175 (own_n (own_t lt863 (Keep.of_wr W1574).1) u1593) u1599 S_12 hk13 F176 u1600 F178 V180 u1603 F126 E_181 (own_n (own_t lt864 (Keep.of_wr W1574).1) u1593) F182 F184 V186 F131 E_187 (own_n (own_t lt865 (Keep.of_wr W1574).1) u1593) F188 F190 V192 F136 E_193 (own_n (own_t lt866 (Keep.of_wr W1574).1) u1593) F194 F196 V198 S_200) rfl pd_21 hml (hb hby at_287) (Ls := (oL p1 p2 p3 p4 1 a123 b755 5 b760 3 i869 i870 6 0)) (W := 0) (argsL := [(.ref b1582)]) (rest := [])
   rcases hQ1605 with ⟨b1606, u1607, u1608, u1609, u1610, u1611, u1612, rfl, u1614, u1615, u1616, Ku1617, u1618, u1619⟩ | ⟨u1620, rfl, u1622, Ku1623⟩
   ·
    exact absurd u1607 (by decide +kernel)
   ·
    have Ou1623 := Ou1598.keep Ku1623 all0
    have N1605 := Fr.app N1575 u1622
    obtain ⟨T1624, L1624, X1624, u1624, e1624, st1624⟩ := own_tE hw X1605 hx hby hml hZ755 hown755 Ou1623 E_315 F316 (oL p1 p2 p3 p4 1 a123 b755 5 b760 3 i869 i870 6 0) rfl
    have N1624 := Fr.app N1605 u1624
    refine fin (some (.int 1)) _ _ _ _ T755.vm _ X1624 hS755 (by rw [e1624]; exact (Nat.le_trans (Nat.le_trans (Nat.le_trans hz856 (Keep.of_wr W1574).1) Ku1598.1) Ku1623.1)) nofun (fun fs hr => pre1604 _ ?_) (own_atH e1624 ?_) (by decide) (by decide)
    ·
     refine st1605 _ (st1624 _ ?_)
     exact retN X1624 hx (t := .boolean) hret (by simp) (hb hby at_302) hr
    ·
     exact ⟨rfl, N1624⟩
 ·
  obtain ⟨T1625, X1625, e1625, st1625⟩ := getS2 X0 hx hZ hown (host := "") (Or.inl (ww122 hw)) Via.refl e0 (Sta.ext O0.2 S_129) (g := (mkF m 34 #[vI p1, vI p2, vI p3, vI p4, vI 2, .unset, .unset, .unset, .unset, .unset, .unset, .unset, .unset, .unset, .unset] [])) rfl (hb hby at_34)
  obtain ⟨b1626, T1626, h1626, kk1626, bv1626, k1626, X1626, e1626, E1626, hS1626, hk1626, hZ1626, hown1626, A1626, Fc1626, Fv1626, V1626, lta1626, ltb1626, cg1626, Lt1626, ns1626, st1626⟩ := ldcCH (s := s) (vm0 := s.vm) (EL := own_EL) X1625 hx hZ hown (ww123 hw) (own_wS hw) e1625 hS0 Y0 (own_EW hw) (by decide) CR0.1 (vs := [(.int (65 : Int32)), (.int (112 : Int32)), (.int (112 : Int32)), (.int (101 : Int32)), (.int (110 : Int32)), (.int (100 : Int32))]) (z := 6) (by decide +kernel) (by decide +kernel) (by decide +kernel) (g := (mkF m 72 #[vI p1, vI p2, vI p3, vI p4, vI 2, vR a128, .unset, .unset, .unset, .unset, .unset, .unset, .unset, .unset, .unset] [])) rfl (hb hby at_72) (n := 24) (by decide +kernel) (by decide) (by decide) (by decide)
  have O1626 := O0.ext E1626
  have ch1626 := cg1626
  have CR1626 := CR0.trans ch1626
  obtain ⟨_, T1627, L1627, X1627, hQ1627, st1627⟩ := own_cV X1626 hx hZ1626 hown1626 (ww11 hw) (ww12 hw) (notFace_of_selects (args := #[]) (mvT hZ1626 (ww14 hw))) (ww14 hw) (ww13 hw) (ww4 hw) (ww15 hw) A1626 (rm1_2 l Z a0 hw b1626 bv1626 _ 6 k1626 p11 h1626 n0 O1626 Fv1626 V1626 A1626 S_12 hk13 Fc1626) e1626 pd_1 hml (hb hby at_83) (Ls := #[vI p1, vI p2, vI p3, vI p4, vI 2, vR a128, vR b1626, .unset, .unset, .unset, .unset, .unset, .unset, .unset, .unset]) (W := 0) (argsL := []) (rest := [])
  obtain ⟨rfl, u1629, u1630⟩ := hQ1627
  have N1627 := Fr.app N0 u1629
  obtain ⟨T1631, h1631, k1631, X1631, e1631, E1631, A1631, Ex1631, st1631⟩ := newPE (aty := .char) X1627 hx hZ1626 (ww24 hw) u1630 (g := (mkF m 90 #[vI p1, vI p2, vI p3, vI p4, vI 2, vR a128, vR b1626, vI 6, .unset, .unset, .unset, .unset, .unset, .unset, .unset] [(.int 8)])) rfl (hb hby at_90) rfl (by decide +kernel) (cap := 8) (by decide +kernel) (by decide) (by decide) (by decide) (ad := "[C") (by decide +kernel)
  obtain ⟨b1631, g1631⟩ : ∃ z, z = h1626.size := ⟨_, rfl⟩
  rw [← g1631] at A1631 Ex1631 st1631
  have O1631 := O1626.ext E1631
  have ch1631 := CHr.ext E1631 CR1626.1
  have CR1631 := CR1626.trans ch1631
  have bd_b1631 : h1626.size ≤ b1631 := Nat.le_of_eq g1631.symm
  have g_b1631 : n0 ≤ b1631 := Nat.le_trans (own_z O1626) bd_b1631
  have lt_b1631 : b1631 < h1631.size := A1631.lt
  have V1631 : Arv Z h1631 b1631 k1631 .char 8 [] (.int 0) := Arv.new A1631 (by decide +kernel)
  have f1632 := (Exa.ext E1631 A1626)
  have f1633 := (Fld.ext E1631 Fv1626)
  have f1634 := (V1626.ext E1631)
  have f1635 := (Fld.ext E1631 Fc1626)
  obtain ⟨_, T1636, L1636, X1636, hQ1636, st1636⟩ := own_cS X1631 hx hZ1626 hown1626 (ww25 hw) (ww26 hw) (ww27 hw) (ww28 hw) (rm3_4 l Z a0 hw b1626 0 bv1626 _ 6 k1626 p11 va19 65 h1631 n0 O1631 f1632 f1633 f1634 S_12 hk13 f1635 kll0_6 S_20 kll0_0 rfl ir_va19) e1631 pd_7 hml (hb hby at_100) (Ls := #[vI p1, vI p2, vI p3, vI p4, vI 2, vR a128, vR b1626, vI 6, vR b1631, .unset, .unset, .unset, .unset, .unset, .unset]) (W := 2) (argsL := [(.ref b1626), (.int 0)]) (rest := [(.int 0), (.ref b1631)])
  obtain ⟨i1637, u1638, rfl, u1640, u1641⟩ := hQ1636
  have N1636 := Fr.app N1627 u1640
  have pre1642 : oS p e below EN T1636 (mkF m 103 #[vI p1, vI p2, vI p3, vI p4, vI 2, vR a128, vR b1626, vI 6, vR b1631, .unset, .unset, .unset, .unset, .unset, .unset] [(.int i1637), (.int 0), (.ref b1631)]) := fun t kt => pre6 t (o_iand X0 hq at_2 (z := 2) hq5 (o_istore X0 hq at_3 rfl (o_iload X0 hq at_5 rfl (o_ifY X0 hq at_7 (pc := 7) (pc' := 16) (by decide +kernel) (o_iload X0 hq at_16 rfl (o_iconst X0 hq at_18 (x := 1) rfl (o_icmpY X0 hq at_19 (pc := 19) (pc' := 28) (by decide +kernel) (o_iload X0 hq at_28 rfl (o_iconst X0 hq at_30 (x := 2) rfl (o_icmpN X0 hq at_31 (by decide +kernel) (st1625 _ (o_goto X1625 hq at_37 (pc := 37) (pc' := 43) (o_astore X1625 hq at_43 rfl rfl (o_iload X1625 hq at_45 rfl (o_ifY X1625 hq at_47 (pc := 47) (pc' := 55) (by decide +kernel) (o_iload X1625 hq at_55 rfl (o_iconst X1625 hq at_57 (x := 1) rfl (o_icmpY X1625 hq at_58 (pc := 58) (pc' := 66) (by decide +kernel) (o_iload X1625 hq at_66 rfl (o_iconst X1625 hq at_68 (x := 2) rfl (o_icmpN X1625 hq at_69 (by decide +kernel) (st1626 _ (o_goto X1626 hq at_74 (pc := 74) (pc' := 79) (o_astore X1626 hq at_79 rfl rfl (o_aload X1626 hq at_81 rfl rfl (st1627 _ (o_istore X1627 hq at_86 rfl (o_bipush X1627 hq at_88 (x := 8) rfl (st1631 _ (o_astore X1631 hq at_92 rfl rfl (o_aload X1631 hq at_94 rfl rfl (o_iconst X1631 hq at_96 (x := 0) rfl (o_aload X1631 hq at_97 rfl rfl (o_iconst X1631 hq at_99 (x := 0) rfl (st1636 _ kt)))))))))))))))))))))))))))))))))))
  obtain rfl : 65 = i1637 := (u1638.trans (by decide +kernel : ((65 : Int32) &&& (255 : Int32)) = (65 : Int32))).symm
  obtain ⟨T1643, h1643, X1643, e1643, W1643, V1643, st1643⟩ := own_stC X1636 hx hZ1626 u1641 V1631 1 0 65 65 0 knc65 (hb hby at_103) #[vI p1, vI p2, vI p3, vI p4, vI 2, vR a128, vR b1626, vI 6, vR b1631, .unset, .unset, .unset, .unset, .unset, .unset] [] (vs2 := [(.int 65)])
  have O1643 := O1631.wr W1643 g_b1631
  have ch1643 := CHr.wr W1643 (Safe.exa hZ1626.alike Ex1631 (by decide) (by decide)) CR1631.1
  have CR1643 := CR1631.trans ch1643
  have N1643 := Fr.snoc X1643 N1636 g_b1631
  have f1644 := (Exa.wr W1643 f1632)
  have f1645 := (Fld.other W1643 f1633 (Or.inl (own_n lta1626 bd_b1631)))
  have f1646 := (f1634.other W1643 (own_n ltb1626 bd_b1631))
  have f1647 := (Fld.other W1643 f1635 (Or.inl (own_n lta1626 bd_b1631)))
  obtain ⟨_, T1648, L1648, X1648, hQ1648, st1648⟩ := own_cS X1643 hx hZ1626 hown1626 (ww25 hw) (ww26 hw) (ww27 hw) (ww28 hw) (rm3_4 l Z a0 hw b1626 1 bv1626 _ 6 k1626 p11 va19 112 h1643 n0 O1643 f1644 f1645 f1646 S_12 hk13 f1647 kll1_6 S_20 kll1_0 rfl ir_va19) e1643 pd_7 hml (hb hby at_110) (Ls := #[vI p1, vI p2, vI p3, vI p4, vI 2, vR a128, vR b1626, vI 6, vR b1631, .unset, .unset, .unset, .unset, .unset, .unset]) (W := 2) (argsL := [(.ref b1626), (.int 1)]) (rest := [(.int 1), (.ref b1631)])
  obtain ⟨i1649, u1650, rfl, u1652, u1653⟩ := hQ1648
  have N1648 := Fr.app N1643 u1652
  have pre1654 : oS p e below EN T1648 (mkF m 113 #[vI p1, vI p2, vI p3, vI p4, vI 2, vR a128, vR b1626, vI 6, vR b1631, .unset, .unset, .unset, .unset, .unset, .unset] [(.int i1649), (.int 1), (.ref b1631)]) := fun t kt => pre1642 t (st1643 _ (o_aload X1643 hq at_104 rfl rfl (o_iconst X1643 hq at_106 (x := 1) rfl (o_aload X1643 hq at_107 rfl rfl (o_iconst X1643 hq at_109 (x := 1) rfl (st1648 _ kt))))))
  obtain rfl : 112 = i1649 := (u1650.trans (by decide +kernel : ((112 : Int32) &&& (255 : Int32)) = (112 : Int32))).symm
  have f1655 := (Exa.wr W1643 Ex1631)
  obtain ⟨T1656, h1656, X1656, e1656, W1656, V1656, st1656⟩ := own_stC X1648 hx hZ1626 u1653 V1643 1 1 112 112 1 knc112 (hb hby at_113) #[vI p1, vI p2, vI p3, vI p4, vI 2, vR a128, vR b1626, vI 6, vR b1631, .unset, .unset, .unset, .unset, .unset, .unset] [] (vs2 := [(.int 65), (.int 112)])
  have O1656 := O1643.wr W1656 g_b1631
  have ch1656 := CHr.wr W1656 (Safe.exa hZ1626.alike f1655 (by decide) (by decide)) CR1643.1
  have CR1656 := CR1643.trans ch1656
  have N1656 := Fr.snoc X1656 N1648 g_b1631
  have f1657 := (Exa.wr W1656 f1644)
  have f1658 := (Fld.other W1656 f1645 (Or.inl (own_n lta1626 bd_b1631)))
  have f1659 := (f1646.other W1656 (own_n ltb1626 bd_b1631))
  have f1660 := (Fld.other W1656 f1647 (Or.inl (own_n lta1626 bd_b1631)))
  obtain ⟨_, T1661, L1661, X1661, hQ1661, st1661⟩ := own_cS X1656 hx hZ1626 hown1626 (ww25 hw) (ww26 hw) (ww27 hw) (ww28 hw) (rm3_4 l Z a0 hw b1626 2 bv1626 _ 6 k1626 p11 va19 112 h1656 n0 O1656 f1657 f1658 f1659 S_12 hk13 f1660 kll2_6 S_20 kll2_0 rfl ir_va19) e1656 pd_7 hml (hb hby at_120) (Ls := #[vI p1, vI p2, vI p3, vI p4, vI 2, vR a128, vR b1626, vI 6, vR b1631, .unset, .unset, .unset, .unset, .unset, .unset]) (W := 2) (argsL := [(.ref b1626), (.int 2)]) (rest := [(.int 2), (.ref b1631)])
  obtain ⟨i1662, u1663, rfl, u1665, u1666⟩ := hQ1661
  have N1661 := Fr.app N1656 u1665
  have pre1667 : oS p e below EN T1661 (mkF m 123 #[vI p1, vI p2, vI p3, vI p4, vI 2, vR a128, vR b1626, vI 6, vR b1631, .unset, .unset, .unset, .unset, .unset, .unset] [(.int i1662), (.int 2), (.ref b1631)]) := fun t kt => pre1654 t (st1656 _ (o_aload X1656 hq at_114 rfl rfl (o_iconst X1656 hq at_116 (x := 2) rfl (o_aload X1656 hq at_117 rfl rfl (o_iconst X1656 hq at_119 (x := 2) rfl (st1661 _ kt))))))
  obtain rfl : 112 = i1662 := (u1663.trans (by decide +kernel : ((112 : Int32) &&& (255 : Int32)) = (112 : Int32))).symm
  have f1668 := (Exa.wr W1656 f1655)
  obtain ⟨T1669, h1669, X1669, e1669, W1669, V1669, st1669⟩ := own_stC X1661 hx hZ1626 u1666 V1656 1 2 112 112 2 knc112 (hb hby at_123) #[vI p1, vI p2, vI p3, vI p4, vI 2, vR a128, vR b1626, vI 6, vR b1631, .unset, .unset, .unset, .unset, .unset, .unset] [] (vs2 := [(.int 65), (.int 112), (.int 112)])
  have O1669 := O1656.wr W1669 g_b1631
  have ch1669 := CHr.wr W1669 (Safe.exa hZ1626.alike f1668 (by decide) (by decide)) CR1656.1
  have CR1669 := CR1656.trans ch1669
  have N1669 := Fr.snoc X1669 N1661 g_b1631
  have f1670 := (Exa.wr W1669 f1657)
  have f1671 := (Fld.other W1669 f1658 (Or.inl (own_n lta1626 bd_b1631)))
  have f1672 := (f1659.other W1669 (own_n ltb1626 bd_b1631))
  have f1673 := (Fld.other W1669 f1660 (Or.inl (own_n lta1626 bd_b1631)))
  obtain ⟨_, T1674, L1674, X1674, hQ1674, st1674⟩ := own_cS X1669 hx hZ1626 hown1626 (ww25 hw) (ww26 hw) (ww27 hw) (ww28 hw) (rm3_4 l Z a0 hw b1626 3 bv1626 _ 6 k1626 p11 va19 101 h1669 n0 O1669 f1670 f1671 f1672 S_12 hk13 f1673 kll3_6 S_20 kll3_0 rfl ir_va19) e1669 pd_7 hml (hb hby at_130) (Ls := #[vI p1, vI p2, vI p3, vI p4, vI 2, vR a128, vR b1626, vI 6, vR b1631, .unset, .unset, .unset, .unset, .unset, .unset]) (W := 2) (argsL := [(.ref b1626), (.int 3)]) (rest := [(.int 3), (.ref b1631)])
  obtain ⟨i1675, u1676, rfl, u1678, u1679⟩ := hQ1674
  have N1674 := Fr.app N1669 u1678
  have pre1680 : oS p e below EN T1674 (mkF m 133 #[vI p1, vI p2, vI p3, vI p4, vI 2, vR a128, vR b1626, vI 6, vR b1631, .unset, .unset, .unset, .unset, .unset, .unset] [(.int i1675), (.int 3), (.ref b1631)]) := fun t kt => pre1667 t (st1669 _ (o_aload X1669 hq at_124 rfl rfl (o_iconst X1669 hq at_126 (x := 3) rfl (o_aload X1669 hq at_127 rfl rfl (o_iconst X1669 hq at_129 (x := 3) rfl (st1674 _ kt))))))
  obtain rfl : 101 = i1675 := (u1676.trans (by decide +kernel : ((101 : Int32) &&& (255 : Int32)) = (101 : Int32))).symm
  have f1681 := (Exa.wr W1669 f1668)
  obtain ⟨T1682, h1682, X1682, e1682, W1682, V1682, st1682⟩ := own_stC X1674 hx hZ1626 u1679 V1669 1 3 101 101 3 knc101 (hb hby at_133) #[vI p1, vI p2, vI p3, vI p4, vI 2, vR a128, vR b1626, vI 6, vR b1631, .unset, .unset, .unset, .unset, .unset, .unset] [] (vs2 := [(.int 65), (.int 112), (.int 112), (.int 101)])
  have O1682 := O1669.wr W1682 g_b1631
  have ch1682 := CHr.wr W1682 (Safe.exa hZ1626.alike f1681 (by decide) (by decide)) CR1669.1
  have CR1682 := CR1669.trans ch1682
  have N1682 := Fr.snoc X1682 N1674 g_b1631
  have f1683 := (Exa.wr W1682 f1670)
  have f1684 := (Fld.other W1682 f1671 (Or.inl (own_n lta1626 bd_b1631)))
  have f1685 := (f1672.other W1682 (own_n ltb1626 bd_b1631))
  have f1686 := (Fld.other W1682 f1673 (Or.inl (own_n lta1626 bd_b1631)))
  obtain ⟨_, T1687, L1687, X1687, hQ1687, st1687⟩ := own_cS X1682 hx hZ1626 hown1626 (ww25 hw) (ww26 hw) (ww27 hw) (ww28 hw) (rm3_4 l Z a0 hw b1626 4 bv1626 _ 6 k1626 p11 va19 110 h1682 n0 O1682 f1683 f1684 f1685 S_12 hk13 f1686 kll4_6 S_20 kll4_0 rfl ir_va19) e1682 pd_7 hml (hb hby at_140) (Ls := #[vI p1, vI p2, vI p3, vI p4, vI 2, vR a128, vR b1626, vI 6, vR b1631, .unset, .unset, .unset, .unset, .unset, .unset]) (W := 2) (argsL := [(.ref b1626), (.int 4)]) (rest := [(.int 4), (.ref b1631)])
  obtain ⟨i1688, u1689, rfl, u1691, u1692⟩ := hQ1687
  have N1687 := Fr.app N1682 u1691
  have pre1693 : oS p e below EN T1687 (mkF m 143 #[vI p1, vI p2, vI p3, vI p4, vI 2, vR a128, vR b1626, vI 6, vR b1631, .unset, .unset, .unset, .unset, .unset, .unset] [(.int i1688), (.int 4), (.ref b1631)]) := fun t kt => pre1680 t (st1682 _ (o_aload X1682 hq at_134 rfl rfl (o_iconst X1682 hq at_136 (x := 4) rfl (o_aload X1682 hq at_137 rfl rfl (o_iconst X1682 hq at_139 (x := 4) rfl (st1687 _ kt))))))
  obtain rfl : 110 = i1688 := (u1689.trans (by decide +kernel : ((110 : Int32) &&& (255 : Int32)) = (110 : Int32))).symm
  have f1694 := (Exa.wr W1682 f1681)
  obtain ⟨T1695, h1695, X1695, e1695, W1695, V1695, st1695⟩ := own_stC X1687 hx hZ1626 u1692 V1682 1 4 110 110 4 knc110 (hb hby at_143) #[vI p1, vI p2, vI p3, vI p4, vI 2, vR a128, vR b1626, vI 6, vR b1631, .unset, .unset, .unset, .unset, .unset, .unset] [] (vs2 := [(.int 65), (.int 112), (.int 112), (.int 101), (.int 110)])
  have O1695 := O1682.wr W1695 g_b1631
  have ch1695 := CHr.wr W1695 (Safe.exa hZ1626.alike f1694 (by decide) (by decide)) CR1682.1
  have CR1695 := CR1682.trans ch1695
  have N1695 := Fr.snoc X1695 N1687 g_b1631
  have f1696 := (Exa.wr W1695 f1683)
  have f1697 := (Fld.other W1695 f1684 (Or.inl (own_n lta1626 bd_b1631)))
  have f1698 := (f1685.other W1695 (own_n ltb1626 bd_b1631))
  have f1699 := (Fld.other W1695 f1686 (Or.inl (own_n lta1626 bd_b1631)))
  obtain ⟨_, T1700, L1700, X1700, hQ1700, st1700⟩ := own_cS X1695 hx hZ1626 hown1626 (ww25 hw) (ww26 hw) (ww27 hw) (ww28 hw) (rm3_4 l Z a0 hw b1626 5 bv1626 _ 6 k1626 p11 va19 100 h1695 n0 O1695 f1696 f1697 f1698 S_12 hk13 f1699 kll5_6 S_20 kll5_0 rfl ir_va19) e1695 pd_7 hml (hb hby at_150) (Ls := #[vI p1, vI p2, vI p3, vI p4, vI 2, vR a128, vR b1626, vI 6, vR b1631, .unset, .unset, .unset, .unset, .unset, .unset]) (W := 2) (argsL := [(.ref b1626), (.int 5)]) (rest := [(.int 5), (.ref b1631)])
  obtain ⟨i1701, u1702, rfl, u1704, u1705⟩ := hQ1700
  have N1700 := Fr.app N1695 u1704
  have pre1706 : oS p e below EN T1700 (mkF m 153 #[vI p1, vI p2, vI p3, vI p4, vI 2, vR a128, vR b1626, vI 6, vR b1631, .unset, .unset, .unset, .unset, .unset, .unset] [(.int i1701), (.int 5), (.ref b1631)]) := fun t kt => pre1693 t (st1695 _ (o_aload X1695 hq at_144 rfl rfl (o_iconst X1695 hq at_146 (x := 5) rfl (o_aload X1695 hq at_147 rfl rfl (o_iconst X1695 hq at_149 (x := 5) rfl (st1700 _ kt))))))
  obtain rfl : 100 = i1701 := (u1702.trans (by decide +kernel : ((100 : Int32) &&& (255 : Int32)) = (100 : Int32))).symm
  have f1707 := (Exa.wr W1695 f1694)
  obtain ⟨T1708, h1708, X1708, e1708, W1708, V1708, st1708⟩ := own_stC X1700 hx hZ1626 u1705 V1695 1 5 100 100 5 knc100 (hb hby at_153) #[vI p1, vI p2, vI p3, vI p4, vI 2, vR a128, vR b1626, vI 6, vR b1631, .unset, .unset, .unset, .unset, .unset, .unset] [] (vs2 := [(.int 65), (.int 112), (.int 112), (.int 101), (.int 110), (.int 100)])
  have O1708 := O1695.wr W1708 g_b1631
  have ch1708 := CHr.wr W1708 (Safe.exa hZ1626.alike f1707 (by decide) (by decide)) CR1695.1
  have CR1708 := CR1695.trans ch1708
  have N1708 := Fr.snoc X1708 N1700 g_b1631
  have f1709 := (Exa.wr W1708 f1696)
  have f1710 := (Fld.other W1708 f1697 (Or.inl (own_n lta1626 bd_b1631)))
  have f1711 := (f1698.other W1708 (own_n ltb1626 bd_b1631))
  have f1712 := (Fld.other W1708 f1699 (Or.inl (own_n lta1626 bd_b1631)))
  obtain ⟨_, T1713, L1713, X1713, hQ1713, st1713⟩ := own_cS X1708 hx hZ1626 hown1626 (ww25 hw) (ww26 hw) (ww27 hw) (ww28 hw) (rm3_10 l Z a0 hw b1626 6 bv1626 _ 6 k1626 p11 h1708 n0 O1708 f1709 f1710 f1711 S_12 hk13 f1712 kll6_6) e1708 pd_7 hml (hb hby at_162) (Ls := #[vI p1, vI p2, vI p3, vI p4, vI 2, vR a128, vR b1626, vI 6, vR b1631, .unset, .unset, .unset, .unset, .unset, .unset]) (W := 2) (argsL := [(.ref b1626), (.int 6)]) (rest := [(.int 6), (.ref b1631)])
  obtain ⟨rfl, u1715, u1716⟩ := hQ1713
  have N1713 := Fr.app N1708 u1715
  have f1717 := (Exa.wr W1708 f1707)
  obtain ⟨T1718, h1718, X1718, e1718, W1718, V1718, st1718⟩ := own_stC X1713 hx hZ1626 u1716 V1708 1 6 0 0 6 knc0 (hb hby at_165) #[vI p1, vI p2, vI p3, vI p4, vI 2, vR a128, vR b1626, vI 6, vR b1631, .unset, .unset, .unset, .unset, .unset, .unset] [] (vs2 := [(.int 65), (.int 112), (.int 112), (.int 101), (.int 110), (.int 100), (.int 0)])
  have O1718 := O1708.wr W1718 g_b1631
  have ch1718 := CHr.wr W1718 (Safe.exa hZ1626.alike f1717 (by decide) (by decide)) CR1708.1
  have CR1718 := CR1708.trans ch1718
  have N1718 := Fr.snoc X1718 N1713 g_b1631
  have f1719 := (Exa.wr W1718 f1709)
  have f1720 := (Fld.other W1718 f1710 (Or.inl (own_n lta1626 bd_b1631)))
  have f1721 := (f1711.other W1718 (own_n ltb1626 bd_b1631))
  have f1722 := (Fld.other W1718 f1712 (Or.inl (own_n lta1626 bd_b1631)))
  obtain ⟨_, T1723, L1723, X1723, hQ1723, st1723⟩ := own_cS X1718 hx hZ1626 hown1626 (ww25 hw) (ww26 hw) (ww27 hw) (ww28 hw) (rm3_10 l Z a0 hw b1626 7 bv1626 _ 6 k1626 p11 h1718 n0 O1718 f1719 f1720 f1721 S_12 hk13 f1722 kll7_6) e1718 pd_7 hml (hb hby at_174) (Ls := #[vI p1, vI p2, vI p3, vI p4, vI 2, vR a128, vR b1626, vI 6, vR b1631, .unset, .unset, .unset, .unset, .unset, .unset]) (W := 2) (argsL := [(.ref b1626), (.int 7)]) (rest := [(.int 7), (.ref b1631)])
  obtain ⟨rfl, u1725, u1726⟩ := hQ1723
  have N1723 := Fr.app N1718 u1725
  have f1727 := (Exa.wr W1718 f1717)
  obtain ⟨T1728, h1728, X1728, e1728, W1728, V1728, st1728⟩ := own_stC X1723 hx hZ1626 u1726 V1718 1 7 0 0 7 knc0 (hb hby at_177) #[vI p1, vI p2, vI p3, vI p4, vI 2, vR a128, vR b1626, vI 6, vR b1631, .unset, .unset, .unset, .unset, .unset, .unset] [] (vs2 := [(.int 65), (.int 112), (.int 112), (.int 101), (.int 110), (.int 100), (.int 0), (.int 0)])
  have O1728 := O1718.wr W1728 g_b1631
  have ch1728 := CHr.wr W1728 (Safe.exa hZ1626.alike f1727 (by decide) (by decide)) CR1718.1
  have CR1728 := CR1718.trans ch1728
  have N1728 := Fr.snoc X1728 N1723 g_b1631
  have pre1729 : oS p e below EN T1728 (mkF m 178 #[vI p1, vI p2, vI p3, vI p4, vI 2, vR a128, vR b1626, vI 6, vR b1631, .unset, .unset, .unset, .unset, .unset, .unset] []) := fun t kt => pre1706 t (st1708 _ (o_aload X1708 hq at_154 rfl rfl (o_bipush X1708 hq at_156 (x := 6) rfl (o_aload X1708 hq at_158 rfl rfl (o_bipush X1708 hq at_160 (x := 6) rfl (st1713 _ (st1718 _ (o_aload X1718 hq at_166 rfl rfl (o_bipush X1718 hq at_168 (x := 7) rfl (o_aload X1718 hq at_170 rfl rfl (o_bipush X1718 hq at_172 (x := 7) rfl (st1723 _ (st1728 _ kt)))))))))))))
  have hz1730 := (Nat.le_trans (Nat.le_trans (Nat.le_trans (Nat.le_trans (Nat.le_trans (Nat.le_trans (Nat.le_trans (Nat.le_trans (Nat.le_trans hk1626 E1631.1) (Keep.of_wr W1643).1) (Keep.of_wr W1656).1) (Keep.of_wr W1669).1) (Keep.of_wr W1682).1) (Keep.of_wr W1695).1) (Keep.of_wr W1708).1) (Keep.of_wr W1718).1) (Keep.of_wr W1728).1)
  have lt1736 : b1631 < h1728.size := (own_t (own_t (own_t (own_t (own_t (own_t (own_t (own_t lt_b1631 (Keep.of_wr W1643).1) (Keep.of_wr W1656).1) (Keep.of_wr W1669).1) (Keep.of_wr W1682).1) (Keep.of_wr W1695).1) (Keep.of_wr W1708).1) (Keep.of_wr W1718).1) (Keep.of_wr W1728).1)
  have lt1737 : a120 < h1728.size := (own_t (own_t (own_t (own_t (own_t (own_t (own_t (own_t (own_t (own_t lt_a120 E1626.1) E1631.1) (Keep.of_wr W1643).1) (Keep.of_wr W1656).1) (Keep.of_wr W1669).1) (Keep.of_wr W1682).1) (Keep.of_wr W1695).1) (Keep.of_wr W1708).1) (Keep.of_wr W1718).1) (Keep.of_wr W1728).1)
  have lt1738 : a125 < h1728.size := (own_t (own_t (own_t (own_t (own_t (own_t (own_t (own_t (own_t (own_t lt_a125 E1626.1) E1631.1) (Keep.of_wr W1643).1) (Keep.of_wr W1656).1) (Keep.of_wr W1669).1) (Keep.of_wr W1682).1) (Keep.of_wr W1695).1) (Keep.of_wr W1708).1) (Keep.of_wr W1718).1) (Keep.of_wr W1728).1)
  have lt1739 : a130 < h1728.size := (own_t (own_t (own_t (own_t (own_t (own_t (own_t (own_t (own_t (own_t lt_a130 E1626.1) E1631.1) (Keep.of_wr W1643).1) (Keep.of_wr W1656).1) (Keep.of_wr W1669).1) (Keep.of_wr W1682).1) (Keep.of_wr W1695).1) (Keep.of_wr W1708).1) (Keep.of_wr W1718).1) (Keep.of_wr W1728).1)
  have lt1740 : a135 < h1728.size := (own_t (own_t (own_t (own_t (own_t (own_t (own_t (own_t (own_t (own_t lt_a135 E1626.1) E1631.1) (Keep.of_wr W1643).1) (Keep.of_wr W1656).1) (Keep.of_wr W1669).1) (Keep.of_wr W1682).1) (Keep.of_wr W1695).1) (Keep.of_wr W1708).1) (Keep.of_wr W1718).1) (Keep.of_wr W1728).1)
  obtain ⟨i1741, hi1741⟩ : ∃ z, z = (p2 &&& (3 : Int32)) := ⟨_, rfl⟩
  obtain ⟨i1742, hi1742⟩ : ∃ z, z = (p3 &&& (2147483647 : Int32)) := ⟨_, rfl⟩
  obtain ⟨i1743, hi1743⟩ : ∃ z, z = (i1742 % (6 : Int32)) := ⟨_, rfl⟩
  obtain ⟨i1744, hi1744⟩ : ∃ z, z = (p4 &&& (255 : Int32)) := ⟨_, rfl⟩
  have pre1745 : oS p e below EN T1728 (mkF m 204 #[vI p1, vI p2, vI p3, vI p4, vI 2, vR a128, vR b1626, vI 6, vR b1631, vI i1741, vI i1743, vI i1744, vI 6, .unset, .unset] []) := fun t kt => pre1729 t (o_iloadN X1728 hq at_178 rfl (o_iconst X1728 hq at_179 (x := 3) rfl (o_iand X1728 hq at_180 (z := i1741) hi1741.symm (o_istore X1728 hq at_181 rfl (o_iloadN X1728 hq at_183 rfl (X1728.ldcInt hx hown1626 (mvT hZ1626 (ww51 hw)) (g := (mkF m 184 #[vI p1, vI p2, vI p3, vI p4, vI 2, vR a128, vR b1626, vI 6, vR b1631, vI i1741, .unset, .unset, .unset, .unset, .unset] [(.int p3)])) rfl (hb hby at_184) _ (o_iand X1728 hq at_186 (z := i1742) hi1742.symm (o_iload X1728 hq at_187 rfl (o_irem X1728 hq at_189 kle6_0 (z := i1743) hi1743.symm (o_istore X1728 hq at_190 rfl (o_iloadN X1728 hq at_192 rfl (o_sipush X1728 hq at_193 (x := 255) rfl (o_iand X1728 hq at_196 (z := i1744) hi1744.symm (o_i2c X1728 hq at_197 (z := i1744) (own_i2c255 hi1744) (o_istore X1728 hq at_198 rfl (o_iload X1728 hq at_200 rfl (o_istore X1728 hq at_202 rfl kt)))))))))))))))))
  rcases (hi1741 ▸ own_and3 p2 : i1741 = 0 ∨ i1741 = 1 ∨ i1741 = 2 ∨ i1741 = 3) with hq1746 | hq1746 | hq1746 | hq1746
  ·
   subst hq1746
   obtain ⟨_, T1747, L1747, X1747, hQ1747, st1747⟩ := own_cS X1728 hx hZ1626 hown1626 (ww52 hw) (ww53 hw) (ww27 hw) (ww54 hw) (rm9_64 l Z a0 hw b1631 65 112 112 101 110 100 0 0 k1631 p11 h1728 n0 O1728 V1728 kll255_65 kll65_0 lt1736 kll255_112 kll112_0 kll255_112 kll112_0 kll255_101 kll101_0 kll255_110 kll110_0 kll255_100 kll100_0 S_12 hk13) e1728 pd_13 hml (hb hby at_284) (Ls := (oL p1 p2 p3 p4 2 a128 b1626 6 b1631 0 i1743 i1744 6 1)) (W := 0) (argsL := [(.ref b1631), (.int 6)]) (rest := [])
   obtain ⟨i1748, i1749, i1750, i1751, i1752, i1753, b1754, b1755, k1756, u1757, u1758, u1759, u1760, u1761, u1762, rfl, u1764, u1765, u1766, u1767, u1768, u1769, Ku1770, u1771, u1772, u1773, u1774, u1775⟩ := hQ1747
   have Ou1770 := O1728.keep Ku1770 all0
   have N1747 := Fr.app N1728 u1764
   have pre1776 : oS p e below EN T1747 (mkF m 287 (oL p1 p2 p3 p4 2 a128 b1626 6 b1631 0 i1743 i1744 6 1) [(.ref b1754)]) := fun t kt => pre1745 t (o_iload X1728 hq at_204 rfl (o_ifN X1728 hq at_206 (by decide +kernel) (o_iconst X1728 hq at_209 (x := 1) rfl (o_istore X1728 hq at_210 rfl (o_goto X1728 hq at_212 (pc := 212) (pc' := 280) (o_aload X1728 hq at_280 rfl rfl (o_iload X1728 hq at_282 rfl (st1747 _ kt))))))))
   obtain rfl := kb65 u1757
   obtain rfl := kb112 u1758
   obtain rfl := kb112 u1759
   obtain rfl := kb101 u1760
   obtain rfl := kb110 u1761
   obtain rfl := kb100 u1762
   obtain ⟨_, T1777, L1777, X1777, hQ1777, st1777⟩ := own_cS X1747 hx hZ1626 hown1626 (ww76 hw) (ww77 hw) (ww1 hw) (ww78 hw) (g16_70 b1754 b1755 65 112 112 101 110 100 k1756 T1747.heap Ou1770 u1773 (own_n lt1737 u1765) u1771 u1772 u1775 (own_n lt1738 u1765) (own_n lt1739 u1765) (own_n lt1740 u1765)) rfl pd_21 hml (hb hby at_287) (Ls := (oL p1 p2 p3 p4 2 a128 b1626 6 b1631 0 i1743 i1744 6 1)) (W := 0) (argsL := [(.ref b1754)]) (rest := [])
   rcases hQ1777 with ⟨b1778, u1779, u1780, u1781, u1782, u1783, u1784, rfl, u1786, u1787, u1788, Ku1789, u1790, u1791⟩ | ⟨u1792, rfl, u1794, Ku1795⟩
   ·
    have Ou1789 := Ou1770.keep Ku1789 all0
    have N1777 := Fr.app N1747 u1786
    obtain ⟨T1796, L1796, X1796, u1796, e1796, st1796⟩ := own_tP hw X1777 hx hby hml hZ1626 hown1626 Ou1789 u1790 u1791 (oL p1 p2 p3 p4 2 a128 b1626 6 b1631 0 i1743 i1744 6 1) rfl
    have N1796 := Fr.app N1777 u1796
    refine fin (some (.int 1)) _ _ _ _ T1626.vm _ X1796 hS1626 (by rw [e1796]; exact (Nat.le_trans (Nat.le_trans hz1730 Ku1770.1) Ku1789.1)) nofun (fun fs hr => pre1776 _ ?_) (own_atH e1796 ?_) (by decide) (by decide)
    ·
     refine st1777 _ (st1796 _ ?_)
     exact retN X1796 hx (t := .boolean) hret (by simp) (hb hby at_326) hr
    ·
     exact ⟨rfl, N1796⟩
   ·
    exact absurd ⟨kle65_65, kle112_112, kle112_112, kle101_101, kle110_110, kle100_100⟩ u1792
  ·
   subst hq1746
   have pre1797 : oS p e below EN T1728 (mkF m 227 #[vI p1, vI p2, vI p3, vI p4, vI 2, vR a128, vR b1626, vI 6, vR b1631, vI 1, vI i1743, vI i1744, vI 6, .unset, .unset] [(.int i1743), (.ref b1631), (.int i1744)]) := fun t kt => pre1745 t (o_iload X1728 hq at_204 rfl (o_ifY X1728 hq at_206 (pc := 206) (pc' := 215) (by decide +kernel) (o_iload X1728 hq at_215 rfl (o_iconst X1728 hq at_217 (x := 1) rfl (o_icmpN X1728 hq at_218 (by decide +kernel) (o_iload X1728 hq at_221 rfl (o_aload X1728 hq at_223 rfl rfl (o_iload X1728 hq at_225 rfl kt))))))))
   rcases (hi1743 ▸ own_mod6 hi1742 : i1743 = 0 ∨ i1743 = 1 ∨ i1743 = 2 ∨ i1743 = 3 ∨ i1743 = 4 ∨ i1743 = 5) with hq1798 | hq1798 | hq1798 | hq1798 | hq1798 | hq1798
   ·
    subst hq1798
    have pre1800 : oS p e below EN T1728 (mkF m 228 #[vI p1, vI p2, vI p3, vI p4, vI 2, vR a128, vR b1626, vI 6, vR b1631, vI 1, vI 0, vI i1744, vI 6, .unset, .unset] [(.int 65), (.int i1744)]) := fun t kt => pre1797 t (o_caload X1728 hq at_227 hZ1626 e1728 V1728 (i := 0) (v := .int 65) (by decide +kernel) rfl kt)
    by_cases hc1801 : i1744 = 65
    ·
     subst hc1801
     obtain ⟨T1803, h1803, X1803, e1803, W1803, V1803, st1803⟩ := own_stC X1728 hx hZ1626 e1728 V1728 0 0 65 65 0 knc65 (hb hby at_244) (oL p1 p2 p3 p4 2 a128 b1626 6 b1631 1 0 65 6 1) [] (vs2 := [(.int 65), (.int 112), (.int 112), (.int 101), (.int 110), (.int 100), (.int 0), (.int 0)])
     have O1803 := O1728.wr W1803 g_b1631
     have N1803 := Fr.snoc X1803 N1728 g_b1631
     obtain ⟨_, T1804, L1804, X1804, hQ1804, st1804⟩ := own_cS X1803 hx hZ1626 hown1626 (ww52 hw) (ww53 hw) (ww27 hw) (ww54 hw) (rm9_64 l Z a0 hw b1631 65 112 112 101 110 100 0 0 k1631 p11 h1803 n0 O1803 V1803 kll255_65 kll65_0 (own_t lt1736 (Keep.of_wr W1803).1) kll255_112 kll112_0 kll255_112 kll112_0 kll255_101 kll101_0 kll255_110 kll110_0 kll255_100 kll100_0 S_12 hk13) e1803 pd_13 hml (hb hby at_284) (Ls := (oL p1 p2 p3 p4 2 a128 b1626 6 b1631 1 0 65 6 1)) (W := 0) (argsL := [(.ref b1631), (.int 6)]) (rest := [])
     obtain ⟨i1805, i1806, i1807, i1808, i1809, i1810, b1811, b1812, k1813, u1814, u1815, u1816, u1817, u1818, u1819, rfl, u1821, u1822, u1823, u1824, u1825, u1826, Ku1827, u1828, u1829, u1830, u1831, u1832⟩ := hQ1804
     have Ou1827 := O1803.keep Ku1827 all0
     have N1804 := Fr.app N1803 u1821
     have pre1833 : oS p e below EN T1804 (mkF m 287 (oL p1 p2 p3 p4 2 a128 b1626 6 b1631 1 0 65 6 1) [(.ref b1811)]) := fun t kt => pre1800 t (o_icmpN X1728 hq at_228 (by decide +kernel) (o_iconst X1728 hq at_231 (x := 1) rfl (o_goto X1728 hq at_232 (pc := 232) (pc' := 236) (o_istore X1728 hq at_236 rfl (o_aload X1728 hq at_238 rfl rfl (o_iload X1728 hq at_240 rfl (o_iload X1728 hq at_242 rfl (st1803 _ (o_goto X1803 hq at_245 (pc := 245) (pc' := 280) (o_aload X1803 hq at_280 rfl rfl (o_iload X1803 hq at_282 rfl (st1804 _ kt))))))))))))
     obtain rfl := kb65 u1814
     obtain rfl := kb112 u1815
     obtain rfl := kb112 u1816
     obtain rfl := kb101 u1817
     obtain rfl := kb110 u1818
     obtain rfl := kb100 u1819
     obtain ⟨_, T1834, L1834, X1834, hQ1834, st1834⟩ := own_cS X1804 hx hZ1626 hown1626 (ww76 hw) (ww77 hw) (ww1 hw) (ww78 hw) (rm16_70 l Z a0 hw b1811 a170 b1812 a7 a123 a128 a133 k172 a120 p11 a177 k179 65 112 112 101 110 100 k1813 a125 a183 k185 a130 a189 k191 a135 a195 k197 a199 T1804.heap n0 Ou1827 S_171 u1830 V173 E_174 F121 E_175 (own_n (own_t lt1737 (Keep.of_wr W1803).1) u1822) u1828 S_12 hk13 F176 u1829 F178 V180 u1832 F126 E_181 (own_n (own_t lt1738 (Keep.of_wr W1803).1) u1822) F182 F184 V186 F131 E_187 (own_n (own_t lt1739 (Keep.of_wr W1803).1) u1822) F188 F190 V192 F136 E_193 (own_n (own_t lt1740 (Keep.of_wr W1803).1) u1822) F194 F196 V198 S_200) rfl pd_21 hml (hb hby at_287) (Ls := (oL p1 p2 p3 p4 2 a128 b1626 6 b1631 1 0 65 6 1)) (W := 0) (argsL := [(.ref b1811)]) (rest := [])
     rcases hQ1834 with ⟨b1835, u1836, u1837, u1838, u1839, u1840, u1841, rfl, u1843, u1844, u1845, Ku1846, u1847, u1848⟩ | ⟨u1849, rfl, u1851, Ku1852⟩
     ·
      have Ou1846 := Ou1827.keep Ku1846 all0
      have N1834 := Fr.app N1804 u1843
      obtain ⟨T1853, L1853, X1853, u1853, e1853, st1853⟩ := own_tP hw X1834 hx hby hml hZ1626 hown1626 Ou1846 u1847 u1848 (oL p1 p2 p3 p4 2 a128 b1626 6 b1631 1 0 65 6 1) rfl
      have N1853 := Fr.app N1834 u1853
      refine fin (some (.int 1)) _ _ _ _ T1626.vm _ X1853 hS1626 (by rw [e1853]; exact (Nat.le_trans (Nat.le_trans (Nat.le_trans hz1730 (Keep.of_wr W1803).1) Ku1827.1) Ku1846.1)) nofun (fun fs hr => pre1833 _ ?_) (own_atH e1853 ?_) (by decide) (by decide)
      ·
       refine st1834 _ (st1853 _ ?_)
       exact retN X1853 hx (t := .boolean) hret (by simp) (hb hby at_326) hr
      ·
       exact ⟨rfl, N1853⟩
     ·
      exact absurd ⟨kle65_65, kle112_112, kle112_112, kle101_101, kle110_110, kle100_100⟩ u1849
    ·
     obtain ⟨T1855, h1855, X1855, e1855, W1855, V1855, st1855⟩ := own_stC X1728 hx hZ1626 e1728 V1728 0 0 i1744 i1744 0 (own_nar255 hi1744) (hb hby at_244) (oL p1 p2 p3 p4 2 a128 b1626 6 b1631 1 0 i1744 6 0) [] (vs2 := [(.int i1744), (.int 112), (.int 112), (.int 101), (.int 110), (.int 100), (.int 0), (.int 0)])
     have O1855 := O1728.wr W1855 g_b1631
     have N1855 := Fr.snoc X1855 N1728 g_b1631
     obtain ⟨_, T1856, L1856, X1856, hQ1856, st1856⟩ := own_cS X1855 hx hZ1626 hown1626 (ww52 hw) (ww53 hw) (ww27 hw) (ww54 hw) (rm9_64 l Z a0 hw b1631 i1744 112 112 101 110 100 0 0 k1631 p11 h1855 n0 O1855 V1855 (own_lt255 hi1744) (own_nn hi1744) (own_t lt1736 (Keep.of_wr W1855).1) kll255_112 kll112_0 kll255_112 kll112_0 kll255_101 kll101_0 kll255_110 kll110_0 kll255_100 kll100_0 S_12 hk13) e1855 pd_13 hml (hb hby at_284) (Ls := (oL p1 p2 p3 p4 2 a128 b1626 6 b1631 1 0 i1744 6 0)) (W := 0) (argsL := [(.ref b1631), (.int 6)]) (rest := [])
     obtain ⟨i1857, i1858, i1859, i1860, i1861, i1862, b1863, b1864, k1865, u1866, u1867, u1868, u1869, u1870, u1871, rfl, u1873, u1874, u1875, u1876, u1877, u1878, Ku1879, u1880, u1881, u1882, u1883, u1884⟩ := hQ1856
     have Ou1879 := O1855.keep Ku1879 all0
     have N1856 := Fr.app N1855 u1873
     have pre1885 : oS p e below EN T1856 (mkF m 287 (oL p1 p2 p3 p4 2 a128 b1626 6 b1631 1 0 i1744 6 0) [(.ref b1863)]) := fun t kt => pre1800 t (o_icmpY X1728 hq at_228 (pc := 228) (pc' := 235) (feq hc1801).2 (o_iconst X1728 hq at_235 (x := 0) rfl (o_istore X1728 hq at_236 rfl (o_aload X1728 hq at_238 rfl rfl (o_iload X1728 hq at_240 rfl (o_iload X1728 hq at_242 rfl (st1855 _ (o_goto X1855 hq at_245 (pc := 245) (pc' := 280) (o_aload X1855 hq at_280 rfl rfl (o_iload X1855 hq at_282 rfl (st1856 _ kt)))))))))))
     obtain rfl := kb112 u1867
     obtain rfl := kb112 u1868
     obtain rfl := kb101 u1869
     obtain rfl := kb110 u1870
     obtain rfl := kb100 u1871
     obtain ⟨_, T1886, L1886, X1886, hQ1886, st1886⟩ := own_cS X1856 hx hZ1626 hown1626 (ww76 hw) (ww77 hw) (ww1 hw) (ww78 hw) (rm16_70 l Z a0 hw b1863 a170 b1864 a7 a123 a128 a133 k172 a120 p11 a177 k179 i1857 112 112 101 110 100 k1865 a125 a183 k185 a130 a189 k191 a135 a195 k197 a199 T1856.heap n0 Ou1879 S_171 u1882 V173 E_174 F121 E_175 (own_n (own_t lt1737 (Keep.of_wr W1855).1) u1874) u1880 S_12 hk13 F176 u1881 F178 V180 u1884 F126 E_181 (own_n (own_t lt1738 (Keep.of_wr W1855).1) u1874) F182 F184 V186 F131 E_187 (own_n (own_t lt1739 (Keep.of_wr W1855).1) u1874) F188 F190 V192 F136 E_193 (own_n (own_t lt1740 (Keep.of_wr W1855).1) u1874) F194 F196 V198 S_200) rfl pd_21 hml (hb hby at_287) (Ls := (oL p1 p2 p3 p4 2 a128 b1626 6 b1631 1 0 i1744 6 0)) (W := 0) (argsL := [(.ref b1863)]) (rest := [])
     rcases hQ1886 with ⟨b1887, u1888, u1889, u1890, u1891, u1892, u1893, rfl, u1895, u1896, u1897, Ku1898, u1899, u1900⟩ | ⟨u1901, rfl, u1903, Ku1904⟩
     ·
      exact absurd u1888 (fun q => (own_bnl (c := (65 : Int32)) u1866 hi1744 (by decide +kernel) hc1801 : ¬ i1857 = 65) q.symm)
     ·
      have Ou1904 := Ou1879.keep Ku1904 all0
      have N1886 := Fr.app N1856 u1903
      obtain ⟨T1905, L1905, X1905, u1905, e1905, st1905⟩ := own_tE hw X1886 hx hby hml hZ1626 hown1626 Ou1904 E_315 F316 (oL p1 p2 p3 p4 2 a128 b1626 6 b1631 1 0 i1744 6 0) rfl
      have N1905 := Fr.app N1886 u1905
      refine fin (some (.int 1)) _ _ _ _ T1626.vm _ X1905 hS1626 (by rw [e1905]; exact (Nat.le_trans (Nat.le_trans (Nat.le_trans hz1730 (Keep.of_wr W1855).1) Ku1879.1) Ku1904.1)) nofun (fun fs hr => pre1885 _ ?_) (own_atH e1905 ?_) (by decide) (by decide)
      ·
       refine st1886 _ (st1905 _ ?_)
       exact retN X1905 hx (t := .boolean) hret (by simp) (hb hby at_302) hr
      ·
       exact ⟨rfl, N1905⟩
   ·
    subst hq1798
    have pre1907 : oS p e below EN T1728 (mkF m 228 #[vI p1, vI p2, vI p3, vI p4, vI 2, vR a128, vR b1626, vI 6, vR b1631, vI 1, vI 1, vI i1744, vI 6, .unset, .unset] [(.int 112), (.int i1744)]) := fun t kt => pre1797 t (o_caload X1728 hq at_227 hZ1626 e1728 V1728 (i := 1) (v := .int 112) (by decide +kernel) rfl kt)
    by_cases hc1908 : i1744 = 112
    ·
     subst hc1908
     obtain ⟨T1910, h1910, X1910, e1910, W1910, V1910, st1910⟩ := own_stC X1728 hx hZ1626 e1728 V1728 0 1 112 112 1 knc112 (hb hby at_244) (oL p1 p2 p3 p4 2 a128 b1626 6 b1631 1 1 112 6 1) [] (vs2 := [(.int 65), (.int 112), (.int 112), (.int 101), (.int 110), (.int 100), (.int 0), (.int 0)])
     have O1910 := O1728.wr W1910 g_b1631
     have N1910 := Fr.snoc X1910 N1728 g_b1631
     obtain ⟨_, T1911, L1911, X1911, hQ1911, st1911⟩ := own_cS X1910 hx hZ1626 hown1626 (ww52 hw) (ww53 hw) (ww27 hw) (ww54 hw) (rm9_64 l Z a0 hw b1631 65 112 112 101 110 100 0 0 k1631 p11 h1910 n0 O1910 V1910 kll255_65 kll65_0 (own_t lt1736 (Keep.of_wr W1910).1) kll255_112 kll112_0 kll255_112 kll112_0 kll255_101 kll101_0 kll255_110 kll110_0 kll255_100 kll100_0 S_12 hk13) e1910 pd_13 hml (hb hby at_284) (Ls := (oL p1 p2 p3 p4 2 a128 b1626 6 b1631 1 1 112 6 1)) (W := 0) (argsL := [(.ref b1631), (.int 6)]) (rest := [])
     obtain ⟨i1912, i1913, i1914, i1915, i1916, i1917, b1918, b1919, k1920, u1921, u1922, u1923, u1924, u1925, u1926, rfl, u1928, u1929, u1930, u1931, u1932, u1933, Ku1934, u1935, u1936, u1937, u1938, u1939⟩ := hQ1911
     have Ou1934 := O1910.keep Ku1934 all0
     have N1911 := Fr.app N1910 u1928
     have pre1940 : oS p e below EN T1911 (mkF m 287 (oL p1 p2 p3 p4 2 a128 b1626 6 b1631 1 1 112 6 1) [(.ref b1918)]) := fun t kt => pre1907 t (o_icmpN X1728 hq at_228 (by decide +kernel) (o_iconst X1728 hq at_231 (x := 1) rfl (o_goto X1728 hq at_232 (pc := 232) (pc' := 236) (o_istore X1728 hq at_236 rfl (o_aload X1728 hq at_238 rfl rfl (o_iload X1728 hq at_240 rfl (o_iload X1728 hq at_242 rfl (st1910 _ (o_goto X1910 hq at_245 (pc := 245) (pc' := 280) (o_aload X1910 hq at_280 rfl rfl (o_iload X1910 hq at_282 rfl (st1911 _ kt))))))))))))
     obtain rfl := kb65 u1921
     obtain rfl := kb112 u1922
     obtain rfl := kb112 u1923
     obtain rfl := kb101 u1924
     obtain rfl := kb110 u1925
     obtain rfl := kb100 u1926
     obtain ⟨_, T1941, L1941, X1941, hQ1941, st1941⟩ := own_cS X1911 hx hZ1626 hown1626 (ww76 hw) (ww77 hw) (ww1 hw) (ww78 hw) (rm16_70 l Z a0 hw b1918 a170 b1919 a7 a123 a128 a133 k172 a120 p11 a177 k179 65 112 112 101 110 100 k1920 a125 a183 k185 a130 a189 k191 a135 a195 k197 a199 T1911.heap n0 Ou1934 S_171 u1937 V173 E_174 F121 E_175 (own_n (own_t lt1737 (Keep.of_wr W1910).1) u1929) u1935 S_12 hk13 F176 u1936 F178 V180 u1939 F126 E_181 (own_n (own_t lt1738 (Keep.of_wr W1910).1) u1929) F182 F184 V186 F131 E_187 (own_n (own_t lt1739 (Keep.of_wr W1910).1) u1929) F188 F190 V192 F136 E_193 (own_n (own_t lt1740 (Keep.of_wr W1910).1) u1929) F194 F196 V198 S_200) rfl pd_21 hml (hb hby at_287) (Ls := (oL p1 p2 p3 p4 2 a128 b1626 6 b1631 1 1 112 6 1)) (W := 0) (argsL := [(.ref b1918)]) (rest := [])
     rcases hQ1941 with ⟨b1942, u1943, u1944, u1945, u1946, u1947, u1948, rfl, u1950, u1951, u1952, Ku1953, u1954, u1955⟩ | ⟨u1956, rfl, u1958, Ku1959⟩
     ·
      have Ou1953 := Ou1934.keep Ku1953 all0
      have N1941 := Fr.app N1911 u1950
      obtain ⟨T1960, L1960, X1960, u1960, e1960, st1960⟩ := own_tP hw X1941 hx hby hml hZ1626 hown1626 Ou1953 u1954 u1955 (oL p1 p2 p3 p4 2 a128 b1626 6 b1631 1 1 112 6 1) rfl
      have N1960 := Fr.app N1941 u1960
      refine fin (some (.int 1)) _ _ _ _ T1626.vm _ X1960 hS1626 (by rw [e1960]; exact (Nat.le_trans (Nat.le_trans (Nat.le_trans hz1730 (Keep.of_wr W1910).1) Ku1934.1) Ku1953.1)) nofun (fun fs hr => pre1940 _ ?_) (own_atH e1960 ?_) (by decide) (by decide)
      ·
       refine st1941 _ (st1960 _ ?_)
       exact retN X1960 hx (t := .boolean) hret (by simp) (hb hby at_326) hr
      ·
       exact ⟨rfl, N1960⟩
     ·
      exact absurd ⟨kle65_65, kle112_112, kle112_112, kle101_101, kle110_110, kle100_100⟩ u1956
    ·
     obtain ⟨T1962, h1962, X1962, e1962, W1962, V1962, st1962⟩ := own_stC X1728 hx hZ1626 e1728 V1728 0 1 i1744 i1744 1 (own_nar255 hi1744) (hb hby at_244) (oL p1 p2 p3 p4 2 a128 b1626 6 b1631 1 1 i1744 6 0) [] (vs2 := [(.int 65), (.int i1744), (.int 112), (.int 101), (.int 110), (.int 100), (.int 0), (.int 0)])
     have O1962 := O1728.wr W1962 g_b1631
     have N1962 := Fr.snoc X1962 N1728 g_b1631
     obtain ⟨_, T1963, L1963, X1963, hQ1963, st1963⟩ := own_cS X1962 hx hZ1626 hown1626 (ww52 hw) (ww53 hw) (ww27 hw) (ww54 hw) (rm9_64 l Z a0 hw b1631 65 i1744 112 101 110 100 0 0 k1631 p11 h1962 n0 O1962 V1962 kll255_65 kll65_0 (own_t lt1736 (Keep.of_wr W1962).1) (own_lt255 hi1744) (own_nn hi1744) kll255_112 kll112_0 kll255_101 kll101_0 kll255_110 kll110_0 kll255_100 kll100_0 S_12 hk13) e1962 pd_13 hml (hb hby at_284) (Ls := (oL p1 p2 p3 p4 2 a128 b1626 6 b1631 1 1 i1744 6 0)) (W := 0) (argsL := [(.ref b1631), (.int 6)]) (rest := [])
     obtain ⟨i1964, i1965, i1966, i1967, i1968, i1969, b1970, b1971, k1972, u1973, u1974, u1975, u1976, u1977, u1978, rfl, u1980, u1981, u1982, u1983, u1984, u1985, Ku1986, u1987, u1988, u1989, u1990, u1991⟩ := hQ1963
     have Ou1986 := O1962.keep Ku1986 all0
     have N1963 := Fr.app N1962 u1980
     have pre1992 : oS p e below EN T1963 (mkF m 287 (oL p1 p2 p3 p4 2 a128 b1626 6 b1631 1 1 i1744 6 0) [(.ref b1970)]) := fun t kt => pre1907 t (o_icmpY X1728 hq at_228 (pc := 228) (pc' := 235) (feq hc1908).2 (o_iconst X1728 hq at_235 (x := 0) rfl (o_istore X1728 hq at_236 rfl (o_aload X1728 hq at_238 rfl rfl (o_iload X1728 hq at_240 rfl (o_iload X1728 hq at_242 rfl (st1962 _ (o_goto X1962 hq at_245 (pc := 245) (pc' := 280) (o_aload X1962 hq at_280 rfl rfl (o_iload X1962 hq at_282 rfl (st1963 _ kt)))))))))))
     obtain rfl := kb65 u1973
     obtain rfl := kb112 u1975
     obtain rfl := kb101 u1976
     obtain rfl := kb110 u1977
     obtain rfl := kb100 u1978
     obtain ⟨_, T1993, L1993, X1993, hQ1993, st1993⟩ := own_cS X1963 hx hZ1626 hown1626 (ww76 hw) (ww77 hw) (ww1 hw) (ww78 hw) (rm16_70 l Z a0 hw b1970 a170 b1971 a7 a123 a128 a133 k172 a120 p11 a177 k179 65 i1965 112 101 110 100 k1972 a125 a183 k185 a130 a189 k191 a135 a195 k197 a199 T1963.heap n0 Ou1986 S_171 u1989 V173 E_174 F121 E_175 (own_n (own_t lt1737 (Keep.of_wr W1962).1) u1981) u1987 S_12 hk13 F176 u1988 F178 V180 u1991 F126 E_181 (own_n (own_t lt1738 (Keep.of_wr W1962).1) u1981) F182 F184 V186 F131 E_187 (own_n (own_t lt1739 (Keep.of_wr W1962).1) u1981) F188 F190 V192 F136 E_193 (own_n (own_t lt1740 (Keep.of_wr W1962).1) u1981) F194 F196 V198 S_200) rfl pd_21 hml (hb hby at_287) (Ls := (oL p1 p2 p3 p4 2 a128 b1626 6 b1631 1 1 i1744 6 0)) (W := 0) (argsL := [(.ref b1970)]) (rest := [])
     rcases hQ1993 with ⟨b1994, u1995, u1996, u1997, u1998, u1999, u2000, rfl, u2002, u2003, u2004, Ku2005, u2006, u2007⟩ | ⟨u2008, rfl, u2010, Ku2011⟩
     ·
      exact absurd u1996 (fun q => (own_bnl (c := (112 : Int32)) u1974 hi1744 (by decide +kernel) hc1908 : ¬ i1965 = 112) q.symm)
     ·
      have Ou2011 := Ou1986.keep Ku2011 all0
      have N1993 := Fr.app N1963 u2010
      obtain ⟨T2012, L2012, X2012, u2012, e2012, st2012⟩ := own_tE hw X1993 hx hby hml hZ1626 hown1626 Ou2011 E_315 F316 (oL p1 p2 p3 p4 2 a128 b1626 6 b1631 1 1 i1744 6 0) rfl
      have N2012 := Fr.app N1993 u2012
      refine fin (some (.int 1)) _ _ _ _ T1626.vm _ X2012 hS1626 (by rw [e2012]; exact (Nat.le_trans (Nat.le_trans (Nat.le_trans hz1730 (Keep.of_wr W1962).1) Ku1986.1) Ku2011.1)) nofun (fun fs hr => pre1992 _ ?_) (own_atH e2012 ?_) (by decide) (by decide)
      ·
       refine st1993 _ (st2012 _ ?_)
       exact retN X2012 hx (t := .boolean) hret (by simp) (hb hby at_302) hr
      ·
       exact ⟨rfl, N2012⟩
   ·
    subst hq1798
    have pre2014 : oS p e below EN T1728 (mkF m 228 #[vI p1, vI p2, vI p3, vI p4, vI 2, vR a128, vR b1626, vI 6, vR b1631, vI 1, vI 2, vI i1744, vI 6, .unset, .unset] [(.int 112), (.int i1744)]) := fun t kt => pre1797 t (o_caload X1728 hq at_227 hZ1626 e1728 V1728 (i := 2) (v := .int 112) (by decide +kernel) rfl kt)
    by_cases hc2015 : i1744 = 112
    ·
     subst hc2015
     obtain ⟨T2017, h2017, X2017, e2017, W2017, V2017, st2017⟩ := own_stC X1728 hx hZ1626 e1728 V1728 0 2 112 112 2 knc112 (hb hby at_244) (oL p1 p2 p3 p4 2 a128 b1626 6 b1631 1 2 112 6 1) [] (vs2 := [(.int 65), (.int 112), (.int 112), (.int 101), (.int 110), (.int 100), (.int 0), (.int 0)])
     have O2017 := O1728.wr W2017 g_b1631
     have N2017 := Fr.snoc X2017 N1728 g_b1631
     obtain ⟨_, T2018, L2018, X2018, hQ2018, st2018⟩ := own_cS X2017 hx hZ1626 hown1626 (ww52 hw) (ww53 hw) (ww27 hw) (ww54 hw) (rm9_64 l Z a0 hw b1631 65 112 112 101 110 100 0 0 k1631 p11 h2017 n0 O2017 V2017 kll255_65 kll65_0 (own_t lt1736 (Keep.of_wr W2017).1) kll255_112 kll112_0 kll255_112 kll112_0 kll255_101 kll101_0 kll255_110 kll110_0 kll255_100 kll100_0 S_12 hk13) e2017 pd_13 hml (hb hby at_284) (Ls := (oL p1 p2 p3 p4 2 a128 b1626 6 b1631 1 2 112 6 1)) (W := 0) (argsL := [(.ref b1631), (.int 6)]) (rest := [])
     obtain ⟨i2019, i2020, i2021, i2022, i2023, i2024, b2025, b2026, k2027, u2028, u2029, u2030, u2031, u2032, u2033, rfl, u2035, u2036, u2037, u2038, u2039, u2040, Ku2041, u2042, u2043, u2044, u2045, u2046⟩ := hQ2018
     have Ou2041 := O2017.keep Ku2041 all0
     have N2018 := Fr.app N2017 u2035
     have pre2047 : oS p e below EN T2018 (mkF m 287 (oL p1 p2 p3 p4 2 a128 b1626 6 b1631 1 2 112 6 1) [(.ref b2025)]) := fun t kt => pre2014 t (o_icmpN X1728 hq at_228 (by decide +kernel) (o_iconst X1728 hq at_231 (x := 1) rfl (o_goto X1728 hq at_232 (pc := 232) (pc' := 236) (o_istore X1728 hq at_236 rfl (o_aload X1728 hq at_238 rfl rfl (o_iload X1728 hq at_240 rfl (o_iload X1728 hq at_242 rfl (st2017 _ (o_goto X2017 hq at_245 (pc := 245) (pc' := 280) (o_aload X2017 hq at_280 rfl rfl (o_iload X2017 hq at_282 rfl (st2018 _ kt))))))))))))
     obtain rfl := kb65 u2028
     obtain rfl := kb112 u2029
     obtain rfl := kb112 u2030
     obtain rfl := kb101 u2031
     obtain rfl := kb110 u2032
     obtain rfl := kb100 u2033
     obtain ⟨_, T2048, L2048, X2048, hQ2048, st2048⟩ := own_cS X2018 hx hZ1626 hown1626 (ww76 hw) (ww77 hw) (ww1 hw) (ww78 hw) (rm16_70 l Z a0 hw b2025 a170 b2026 a7 a123 a128 a133 k172 a120 p11 a177 k179 65 112 112 101 110 100 k2027 a125 a183 k185 a130 a189 k191 a135 a195 k197 a199 T2018.heap n0 Ou2041 S_171 u2044 V173 E_174 F121 E_175 (own_n (own_t lt1737 (Keep.of_wr W2017).1) u2036) u2042 S_12 hk13 F176 u2043 F178 V180 u2046 F126 E_181 (own_n (own_t lt1738 (Keep.of_wr W2017).1) u2036) F182 F184 V186 F131 E_187 (own_n (own_t lt1739 (Keep.of_wr W2017).1) u2036) F188 F190 V192 F136 E_193 (own_n (own_t lt1740 (Keep.of_wr W2017).1) u2036) F194 F196 V198 S_200) rfl pd_21 hml (hb hby at_287) (Ls := (oL p1 p2 p3 p4 2 a128 b1626 6 b1631 1 2 112 6 1)) (W := 0) (argsL := [(.ref b2025)]) (rest := [])
     rcases hQ2048 with ⟨b2049, u2050, u2051, u2052, u2053, u2054, u2055, rfl, u2057, u2058, u2059, Ku2060, u2061, u2062⟩ | ⟨u2063, rfl, u2065, Ku2066⟩
     ·
      have Ou2060 := Ou2041.keep Ku2060 all0
      have N2048 := Fr.app N2018 u2057
      obtain ⟨T2067, L2067, X2067, u2067, e2067, st2067⟩ := own_tP hw X2048 hx hby hml hZ1626 hown1626 Ou2060 u2061 u2062 (oL p1 p2 p3 p4 2 a128 b1626 6 b1631 1 2 112 6 1) rfl
      have N2067 := Fr.app N2048 u2067
      refine fin (some (.int 1)) _ _ _ _ T1626.vm _ X2067 hS1626 (by rw [e2067]; exact (Nat.le_trans (Nat.le_trans (Nat.le_trans hz1730 (Keep.of_wr W2017).1) Ku2041.1) Ku2060.1)) nofun (fun fs hr => pre2047 _ ?_) (own_atH e2067 ?_) (by decide) (by decide)
      ·
       refine st2048 _ (st2067 _ ?_)
       exact retN X2067 hx (t := .boolean) hret (by simp) (hb hby at_326) hr
      ·
       exact ⟨rfl, N2067⟩
     ·
      exact absurd ⟨kle65_65, kle112_112, kle112_112, kle101_101, kle110_110, kle100_100⟩ u2063
    ·
     obtain ⟨T2069, h2069, X2069, e2069, W2069, V2069, st2069⟩ := own_stC X1728 hx hZ1626 e1728 V1728 0 2 i1744 i1744 2 (own_nar255 hi1744) (hb hby at_244) (oL p1 p2 p3 p4 2 a128 b1626 6 b1631 1 2 i1744 6 0) [] (vs2 := [(.int 65), (.int 112), (.int i1744), (.int 101), (.int 110), (.int 100), (.int 0), (.int 0)])
     have O2069 := O1728.wr W2069 g_b1631
     have N2069 := Fr.snoc X2069 N1728 g_b1631
     obtain ⟨_, T2070, L2070, X2070, hQ2070, st2070⟩ := own_cS X2069 hx hZ1626 hown1626 (ww52 hw) (ww53 hw) (ww27 hw) (ww54 hw) (rm9_64 l Z a0 hw b1631 65 112 i1744 101 110 100 0 0 k1631 p11 h2069 n0 O2069 V2069 kll255_65 kll65_0 (own_t lt1736 (Keep.of_wr W2069).1) kll255_112 kll112_0 (own_lt255 hi1744) (own_nn hi1744) kll255_101 kll101_0 kll255_110 kll110_0 kll255_100 kll100_0 S_12 hk13) e2069 pd_13 hml (hb hby at_284) (Ls := (oL p1 p2 p3 p4 2 a128 b1626 6 b1631 1 2 i1744 6 0)) (W := 0) (argsL := [(.ref b1631), (.int 6)]) (rest := [])
     obtain ⟨i2071, i2072, i2073, i2074, i2075, i2076, b2077, b2078, k2079, u2080, u2081, u2082, u2083, u2084, u2085, rfl, u2087, u2088, u2089, u2090, u2091, u2092, Ku2093, u2094, u2095, u2096, u2097, u2098⟩ := hQ2070
     have Ou2093 := O2069.keep Ku2093 all0
     have N2070 := Fr.app N2069 u2087
     have pre2099 : oS p e below EN T2070 (mkF m 287 (oL p1 p2 p3 p4 2 a128 b1626 6 b1631 1 2 i1744 6 0) [(.ref b2077)]) := fun t kt => pre2014 t (o_icmpY X1728 hq at_228 (pc := 228) (pc' := 235) (feq hc2015).2 (o_iconst X1728 hq at_235 (x := 0) rfl (o_istore X1728 hq at_236 rfl (o_aload X1728 hq at_238 rfl rfl (o_iload X1728 hq at_240 rfl (o_iload X1728 hq at_242 rfl (st2069 _ (o_goto X2069 hq at_245 (pc := 245) (pc' := 280) (o_aload X2069 hq at_280 rfl rfl (o_iload X2069 hq at_282 rfl (st2070 _ kt)))))))))))
     obtain rfl := kb65 u2080
     obtain rfl := kb112 u2081
     obtain rfl := kb101 u2083
     obtain rfl := kb110 u2084
     obtain rfl := kb100 u2085
     obtain ⟨_, T2100, L2100, X2100, hQ2100, st2100⟩ := own_cS X2070 hx hZ1626 hown1626 (ww76 hw) (ww77 hw) (ww1 hw) (ww78 hw) (rm16_70 l Z a0 hw b2077 a170 b2078 a7 a123 a128 a133 k172 a120 p11 a177 k179 65 112 i2073 101 110 100 k2079 a125 a183 k185 a130 a189 k191 a135 a195 k197 a199 T2070.heap n0 Ou2093 S_171 u2096 V173 E_174 F121 E_175 (own_n (own_t lt1737 (Keep.of_wr W2069).1) u2088) u2094 S_12 hk13 F176 u2095 F178 V180 u2098 F126 E_181 (own_n (own_t lt1738 (Keep.of_wr W2069).1) u2088) F182 F184 V186 F131 E_187 (own_n (own_t lt1739 (Keep.of_wr W2069).1) u2088) F188 F190 V192 F136 E_193 (own_n (own_t lt1740 (Keep.of_wr W2069).1) u2088) F194 F196 V198 S_200) rfl pd_21 hml (hb hby at_287) (Ls := (oL p1 p2 p3 p4 2 a128 b1626 6 b1631 1 2 i1744 6 0)) (W := 0) (argsL := [(.ref b2077)]) (rest := [])
     rcases hQ2100 with ⟨b2101, u2102, u2103, u2104, u2105, u2106, u2107, rfl, u2109, u2110, u2111, Ku2112, u2113, u2114⟩ | ⟨u2115, rfl, u2117, Ku2118⟩
     ·
      exact absurd u2104 (fun q => (own_bnl (c := (112 : Int32)) u2082 hi1744 (by decide +kernel) hc2015 : ¬ i2073 = 112) q.symm)
     ·
      have Ou2118 := Ou2093.keep Ku2118 all0
      have N2100 := Fr.app N2070 u2117
      obtain ⟨T2119, L2119, X2119, u2119, e2119, st2119⟩ := own_tE hw X2100 hx hby hml hZ1626 hown1626 Ou2118 E_315 F316 (oL p1 p2 p3 p4 2 a128 b1626 6 b1631 1 2 i1744 6 0) rfl
      have N2119 := Fr.app N2100 u2119
      refine fin (some (.int 1)) _ _ _ _ T1626.vm _ X2119 hS1626 (by rw [e2119]; exact (Nat.le_trans (Nat.le_trans (Nat.le_trans hz1730 (Keep.of_wr W2069).1) Ku2093.1) Ku2118.1)) nofun (fun fs hr => pre2099 _ ?_) (own_atH e2119 ?_) (by decide) (by decide)
      ·
       refine st2100 _ (st2119 _ ?_)
       exact retN X2119 hx (t := .boolean) hret (by simp) (hb hby at_302) hr
      ·
       exact ⟨rfl, N2119⟩
   ·
    subst hq1798
    have pre2121 : oS p e below EN T1728 (mkF m 228 #[vI p1, vI p2, vI p3, vI p4, vI 2, vR a128, vR b1626, vI 6, vR b1631, vI 1, vI 3, vI i1744, vI 6, .unset, .unset] [(.int 101), (.int i1744)]) := fun t kt => pre1797 t (o_caload X1728 hq at_227 hZ1626 e1728 V1728 (i := 3) (v := .int 101) (by decide +kernel) rfl kt)
    by_cases hc2122 : i1744 = 101
    ·
     subst hc2122
     obtain ⟨T2124, h2124, X2124, e2124, W2124, V2124, st2124⟩ := own_stC X1728 hx hZ1626 e1728 V1728 0 3 101 101 3 knc101 (hb hby at_244) (oL p1 p2 p3 p4 2 a128 b1626 6 b1631 1 3 101 6 1) [] (vs2 := [(.int 65), (.int 112), (.int 112), (.int 101), (.int 110), (.int 100), (.int 0), (.int 0)])
     have O2124 := O1728.wr W2124 g_b1631
     have N2124 := Fr.snoc X2124 N1728 g_b1631
     obtain ⟨_, T2125, L2125, X2125, hQ2125, st2125⟩ := own_cS X2124 hx hZ1626 hown1626 (ww52 hw) (ww53 hw) (ww27 hw) (ww54 hw) (rm9_64 l Z a0 hw b1631 65 112 112 101 110 100 0 0 k1631 p11 h2124 n0 O2124 V2124 kll255_65 kll65_0 (own_t lt1736 (Keep.of_wr W2124).1) kll255_112 kll112_0 kll255_112 kll112_0 kll255_101 kll101_0 kll255_110 kll110_0 kll255_100 kll100_0 S_12 hk13) e2124 pd_13 hml (hb hby at_284) (Ls := (oL p1 p2 p3 p4 2 a128 b1626 6 b1631 1 3 101 6 1)) (W := 0) (argsL := [(.ref b1631), (.int 6)]) (rest := [])
     obtain ⟨i2126, i2127, i2128, i2129, i2130, i2131, b2132, b2133, k2134, u2135, u2136, u2137, u2138, u2139, u2140, rfl, u2142, u2143, u2144, u2145, u2146, u2147, Ku2148, u2149, u2150, u2151, u2152, u2153⟩ := hQ2125
     have Ou2148 := O2124.keep Ku2148 all0
     have N2125 := Fr.app N2124 u2142
     have pre2154 : oS p e below EN T2125 (mkF m 287 (oL p1 p2 p3 p4 2 a128 b1626 6 b1631 1 3 101 6 1) [(.ref b2132)]) := fun t kt => pre2121 t (o_icmpN X1728 hq at_228 (by decide +kernel) (o_iconst X1728 hq at_231 (x := 1) rfl (o_goto X1728 hq at_232 (pc := 232) (pc' := 236) (o_istore X1728 hq at_236 rfl (o_aload X1728 hq at_238 rfl rfl (o_iload X1728 hq at_240 rfl (o_iload X1728 hq at_242 rfl (st2124 _ (o_goto X2124 hq at_245 (pc := 245) (pc' := 280) (o_aload X2124 hq at_280 rfl rfl (o_iload X2124 hq at_282 rfl (st2125 _ kt))))))))))))
     obtain rfl := kb65 u2135
     obtain rfl := kb112 u2136
     obtain rfl := kb112 u2137
     obtain rfl := kb101 u2138
     obtain rfl := kb110 u2139
     obtain rfl := kb100 u2140
     obtain ⟨_, T2155, L2155, X2155, hQ2155, st2155⟩ := own_cS X2125 hx hZ1626 hown1626 (ww76 hw) (ww77 hw) (ww1 hw) (ww78 hw) (rm16_70 l Z a0 hw b2132 a170 b2133 a7 a123 a128 a133 k172 a120 p11 a177 k179 65 112 112 101 110 100 k2134 a125 a183 k185 a130 a189 k191 a135 a195 k197 a199 T2125.heap n0 Ou2148 S_171 u2151 V173 E_174 F121 E_175 (own_n (own_t lt1737 (Keep.of_wr W2124).1) u2143) u2149 S_12 hk13 F176 u2150 F178 V180 u2153 F126 E_181 (own_n (own_t lt1738 (Keep.of_wr W2124).1) u2143) F182 F184 V186 F131 E_187 (own_n (own_t lt1739 (Keep.of_wr W2124).1) u2143) F188 F190 V192 F136 E_193 (own_n (own_t lt1740 (Keep.of_wr W2124).1) u2143) F194 F196 V198 S_200) rfl pd_21 hml (hb hby at_287) (Ls := (oL p1 p2 p3 p4 2 a128 b1626 6 b1631 1 3 101 6 1)) (W := 0) (argsL := [(.ref b2132)]) (rest := [])
     rcases hQ2155 with ⟨b2156, u2157, u2158, u2159, u2160, u2161, u2162, rfl, u2164, u2165, u2166, Ku2167, u2168, u2169⟩ | ⟨u2170, rfl, u2172, Ku2173⟩
     ·
      have Ou2167 := Ou2148.keep Ku2167 all0
      have N2155 := Fr.app N2125 u2164
      obtain ⟨T2174, L2174, X2174, u2174, e2174, st2174⟩ := own_tP hw X2155 hx hby hml hZ1626 hown1626 Ou2167 u2168 u2169 (oL p1 p2 p3 p4 2 a128 b1626 6 b1631 1 3 101 6 1) rfl
      have N2174 := Fr.app N2155 u2174
      refine fin (some (.int 1)) _ _ _ _ T1626.vm _ X2174 hS1626 (by rw [e2174]; exact (Nat.le_trans (Nat.le_trans (Nat.le_trans hz1730 (Keep.of_wr W2124).1) Ku2148.1) Ku2167.1)) nofun (fun fs hr => pre2154 _ ?_) (own_atH e2174 ?_) (by decide) (by decide)
      ·
       refine st2155 _ (st2174 _ ?_)
       exact retN X2174 hx (t := .boolean) hret (by simp) (hb hby at_326) hr
      ·
       exact ⟨rfl, N2174⟩
     ·
      exact absurd ⟨kle65_65, kle112_112, kle112_112, kle101_101, kle110_110, kle100_100⟩ u2170
    ·
     obtain ⟨T2176, h2176, X2176, e2176, W2176, V2176, st2176⟩ := own_stC X1728 hx hZ1626 e1728 V1728 0 3 i1744 i1744 3 (own_nar255 hi1744) (hb hby at_244) (oL p1 p2 p3 p4 2 a128 b1626 6 b1631 1 3 i1744 6 0) [] (vs2 := [(.int 65), (.int 112), (.int 112), (.int i1744), (.int 110), (.int 100), (.int 0), (.int 0)])
     have O2176 := O1728.wr W2176 g_b1631
     have N2176 := Fr.snoc X2176 N1728 g_b1631
     obtain ⟨_, T2177, L2177, X2177, hQ2177, st2177⟩ := own_cS X2176 hx hZ1626 hown1626 (ww52 hw) (ww53 hw) (ww27 hw) (ww54 hw) (rm9_64 l Z a0 hw b1631 65 112 112 i1744 110 100 0 0 k1631 p11 h2176 n0 O2176 V2176 kll255_65 kll65_0 (own_t lt1736 (Keep.of_wr W2176).1) kll255_112 kll112_0 kll255_112 kll112_0 (own_lt255 hi1744) (own_nn hi1744) kll255_110 kll110_0 kll255_100 kll100_0 S_12 hk13) e2176 pd_13 hml (hb hby at_284) (Ls := (oL p1 p2 p3 p4 2 a128 b1626 6 b1631 1 3 i1744 6 0)) (W := 0) (argsL := [(.ref b1631), (.int 6)]) (rest := [])
     obtain ⟨i2178, i2179, i2180, i2181, i2182, i2183, b2184, b2185, k2186, u2187, u2188, u2189, u2190, u2191, u2192, rfl, u2194, u2195, u2196, u2197, u2198, u2199, Ku2200, u2201, u2202, u2203, u2204, u2205⟩ := hQ2177
     have Ou2200 := O2176.keep Ku2200 all0
     have N2177 := Fr.app N2176 u2194
     have pre2206 : oS p e below EN T2177 (mkF m 287 (oL p1 p2 p3 p4 2 a128 b1626 6 b1631 1 3 i1744 6 0) [(.ref b2184)]) := fun t kt => pre2121 t (o_icmpY X1728 hq at_228 (pc := 228) (pc' := 235) (feq hc2122).2 (o_iconst X1728 hq at_235 (x := 0) rfl (o_istore X1728 hq at_236 rfl (o_aload X1728 hq at_238 rfl rfl (o_iload X1728 hq at_240 rfl (o_iload X1728 hq at_242 rfl (st2176 _ (o_goto X2176 hq at_245 (pc := 245) (pc' := 280) (o_aload X2176 hq at_280 rfl rfl (o_iload X2176 hq at_282 rfl (st2177 _ kt)))))))))))
     obtain rfl := kb65 u2187
     obtain rfl := kb112 u2188
     obtain rfl := kb112 u2189
     obtain rfl := kb110 u2191
     obtain rfl := kb100 u2192
     obtain ⟨_, T2207, L2207, X2207, hQ2207, st2207⟩ := own_cS X2177 hx hZ1626 hown1626 (ww76 hw) (ww77 hw) (ww1 hw) (ww78 hw) (rm16_70 l Z a0 hw b2184 a170 b2185 a7 a123 a128 a133 k172 a120 p11 a177 k179 65 112 112 i2181 110 100 k2186 a125 a183 k185 a130 a189 k191 a135 a195 k197 a199 T2177.heap n0 Ou2200 S_171 u2203 V173 E_174 F121 E_175 (own_n (own_t lt1737 (Keep.of_wr W2176).1) u2195) u2201 S_12 hk13 F176 u2202 F178 V180 u2205 F126 E_181 (own_n (own_t lt1738 (Keep.of_wr W2176).1) u2195) F182 F184 V186 F131 E_187 (own_n (own_t lt1739 (Keep.of_wr W2176).1) u2195) F188 F190 V192 F136 E_193 (own_n (own_t lt1740 (Keep.of_wr W2176).1) u2195) F194 F196 V198 S_200) rfl pd_21 hml (hb hby at_287) (Ls := (oL p1 p2 p3 p4 2 a128 b1626 6 b1631 1 3 i1744 6 0)) (W := 0) (argsL := [(.ref b2184)]) (rest := [])
     rcases hQ2207 with ⟨b2208, u2209, u2210, u2211, u2212, u2213, u2214, rfl, u2216, u2217, u2218, Ku2219, u2220, u2221⟩ | ⟨u2222, rfl, u2224, Ku2225⟩
     ·
      exact absurd u2212 (fun q => (own_bnl (c := (101 : Int32)) u2190 hi1744 (by decide +kernel) hc2122 : ¬ i2181 = 101) q.symm)
     ·
      have Ou2225 := Ou2200.keep Ku2225 all0
      have N2207 := Fr.app N2177 u2224
      obtain ⟨T2226, L2226, X2226, u2226, e2226, st2226⟩ := own_tE hw X2207 hx hby hml hZ1626 hown1626 Ou2225 E_315 F316 (oL p1 p2 p3 p4 2 a128 b1626 6 b1631 1 3 i1744 6 0) rfl
      have N2226 := Fr.app N2207 u2226
      refine fin (some (.int 1)) _ _ _ _ T1626.vm _ X2226 hS1626 (by rw [e2226]; exact (Nat.le_trans (Nat.le_trans (Nat.le_trans hz1730 (Keep.of_wr W2176).1) Ku2200.1) Ku2225.1)) nofun (fun fs hr => pre2206 _ ?_) (own_atH e2226 ?_) (by decide) (by decide)
      ·
       refine st2207 _ (st2226 _ ?_)
       exact retN X2226 hx (t := .boolean) hret (by simp) (hb hby at_302) hr
      ·
       exact ⟨rfl, N2226⟩
   ·
    subst hq1798
    have pre2228 : oS p e below EN T1728 (mkF m 228 #[vI p1, vI p2, vI p3, vI p4, vI 2, vR a128, vR b1626, vI 6, vR b1631, vI 1, vI 4, vI i1744, vI 6, .unset, .unset] [(.int 110), (.int i1744)]) := fun t kt => pre1797 t (o_caload X1728 hq at_227 hZ1626 e1728 V1728 (i := 4) (v := .int 110) (by decide +kernel) rfl kt)
    by_cases hc2229 : i1744 = 110
    ·
     subst hc2229
     obtain ⟨T2231, h2231, X2231, e2231, W2231, V2231, st2231⟩ := own_stC X1728 hx hZ1626 e1728 V1728 0 4 110 110 4 knc110 (hb hby at_244) (oL p1 p2 p3 p4 2 a128 b1626 6 b1631 1 4 110 6 1) [] (vs2 := [(.int 65), (.int 112), (.int 112), (.int 101), (.int 110), (.int 100), (.int 0), (.int 0)])
     have O2231 := O1728.wr W2231 g_b1631
     have N2231 := Fr.snoc X2231 N1728 g_b1631
     obtain ⟨_, T2232, L2232, X2232, hQ2232, st2232⟩ := own_cS X2231 hx hZ1626 hown1626 (ww52 hw) (ww53 hw) (ww27 hw) (ww54 hw) (rm9_64 l Z a0 hw b1631 65 112 112 101 110 100 0 0 k1631 p11 h2231 n0 O2231 V2231 kll255_65 kll65_0 (own_t lt1736 (Keep.of_wr W2231).1) kll255_112 kll112_0 kll255_112 kll112_0 kll255_101 kll101_0 kll255_110 kll110_0 kll255_100 kll100_0 S_12 hk13) e2231 pd_13 hml (hb hby at_284) (Ls := (oL p1 p2 p3 p4 2 a128 b1626 6 b1631 1 4 110 6 1)) (W := 0) (argsL := [(.ref b1631), (.int 6)]) (rest := [])
     obtain ⟨i2233, i2234, i2235, i2236, i2237, i2238, b2239, b2240, k2241, u2242, u2243, u2244, u2245, u2246, u2247, rfl, u2249, u2250, u2251, u2252, u2253, u2254, Ku2255, u2256, u2257, u2258, u2259, u2260⟩ := hQ2232
     have Ou2255 := O2231.keep Ku2255 all0
     have N2232 := Fr.app N2231 u2249
     have pre2261 : oS p e below EN T2232 (mkF m 287 (oL p1 p2 p3 p4 2 a128 b1626 6 b1631 1 4 110 6 1) [(.ref b2239)]) := fun t kt => pre2228 t (o_icmpN X1728 hq at_228 (by decide +kernel) (o_iconst X1728 hq at_231 (x := 1) rfl (o_goto X1728 hq at_232 (pc := 232) (pc' := 236) (o_istore X1728 hq at_236 rfl (o_aload X1728 hq at_238 rfl rfl (o_iload X1728 hq at_240 rfl (o_iload X1728 hq at_242 rfl (st2231 _ (o_goto X2231 hq at_245 (pc := 245) (pc' := 280) (o_aload X2231 hq at_280 rfl rfl (o_iload X2231 hq at_282 rfl (st2232 _ kt))))))))))))
     obtain rfl := kb65 u2242
     obtain rfl := kb112 u2243
     obtain rfl := kb112 u2244
     obtain rfl := kb101 u2245
     obtain rfl := kb110 u2246
     obtain rfl := kb100 u2247
     obtain ⟨_, T2262, L2262, X2262, hQ2262, st2262⟩ := own_cS X2232 hx hZ1626 hown1626 (ww76 hw) (ww77 hw) (ww1 hw) (ww78 hw) (rm16_70 l Z a0 hw b2239 a170 b2240 a7 a123 a128 a133 k172 a120 p11 a177 k179 65 112 112 101 110 100 k2241 a125 a183 k185 a130 a189 k191 a135 a195 k197 a199 T2232.heap n0 Ou2255 S_171 u2258 V173 E_174 F121 E_175 (own_n (own_t lt1737 (Keep.of_wr W2231).1) u2250) u2256 S_12 hk13 F176 u2257 F178 V180 u2260 F126 E_181 (own_n (own_t lt1738 (Keep.of_wr W2231).1) u2250) F182 F184 V186 F131 E_187 (own_n (own_t lt1739 (Keep.of_wr W2231).1) u2250) F188 F190 V192 F136 E_193 (own_n (own_t lt1740 (Keep.of_wr W2231).1) u2250) F194 F196 V198 S_200) rfl pd_21 hml (hb hby at_287) (Ls := (oL p1 p2 p3 p4 2 a128 b1626 6 b1631 1 4 110 6 1)) (W := 0) (argsL := [(.ref b2239)]) (rest := [])
     rcases hQ2262 with ⟨b2263, u2264, u2265, u2266, u2267, u2268, u2269, rfl, u2271, u2272, u2273, Ku2274, u2275, u2276⟩ | ⟨u2277, rfl, u2279, Ku2280⟩
     ·
      have Ou2274 := Ou2255.keep Ku2274 all0
      have N2262 := Fr.app N2232 u2271
      obtain ⟨T2281, L2281, X2281, u2281, e2281, st2281⟩ := own_tP hw X2262 hx hby hml hZ1626 hown1626 Ou2274 u2275 u2276 (oL p1 p2 p3 p4 2 a128 b1626 6 b1631 1 4 110 6 1) rfl
      have N2281 := Fr.app N2262 u2281
      refine fin (some (.int 1)) _ _ _ _ T1626.vm _ X2281 hS1626 (by rw [e2281]; exact (Nat.le_trans (Nat.le_trans (Nat.le_trans hz1730 (Keep.of_wr W2231).1) Ku2255.1) Ku2274.1)) nofun (fun fs hr => pre2261 _ ?_) (own_atH e2281 ?_) (by decide) (by decide)
      ·
       refine st2262 _ (st2281 _ ?_)
       exact retN X2281 hx (t := .boolean) hret (by simp) (hb hby at_326) hr
      ·
       exact ⟨rfl, N2281⟩
     ·
      exact absurd ⟨kle65_65, kle112_112, kle112_112, kle101_101, kle110_110, kle100_100⟩ u2277
    ·
     obtain ⟨T2283, h2283, X2283, e2283, W2283, V2283, st2283⟩ := own_stC X1728 hx hZ1626 e1728 V1728 0 4 i1744 i1744 4 (own_nar255 hi1744) (hb hby at_244) (oL p1 p2 p3 p4 2 a128 b1626 6 b1631 1 4 i1744 6 0) [] (vs2 := [(.int 65), (.int 112), (.int 112), (.int 101), (.int i1744), (.int 100), (.int 0), (.int 0)])
     have O2283 := O1728.wr W2283 g_b1631
     have N2283 := Fr.snoc X2283 N1728 g_b1631
     obtain ⟨_, T2284, L2284, X2284, hQ2284, st2284⟩ := own_cS X2283 hx hZ1626 hown1626 (ww52 hw) (ww53 hw) (ww27 hw) (ww54 hw) (rm9_64 l Z a0 hw b1631 65 112 112 101 i1744 100 0 0 k1631 p11 h2283 n0 O2283 V2283 kll255_65 kll65_0 (own_t lt1736 (Keep.of_wr W2283).1) kll255_112 kll112_0 kll255_112 kll112_0 kll255_101 kll101_0 (own_lt255 hi1744) (own_nn hi1744) kll255_100 kll100_0 S_12 hk13) e2283 pd_13 hml (hb hby at_284) (Ls := (oL p1 p2 p3 p4 2 a128 b1626 6 b1631 1 4 i1744 6 0)) (W := 0) (argsL := [(.ref b1631), (.int 6)]) (rest := [])
     obtain ⟨i2285, i2286, i2287, i2288, i2289, i2290, b2291, b2292, k2293, u2294, u2295, u2296, u2297, u2298, u2299, rfl, u2301, u2302, u2303, u2304, u2305, u2306, Ku2307, u2308, u2309, u2310, u2311, u2312⟩ := hQ2284
     have Ou2307 := O2283.keep Ku2307 all0
     have N2284 := Fr.app N2283 u2301
     have pre2313 : oS p e below EN T2284 (mkF m 287 (oL p1 p2 p3 p4 2 a128 b1626 6 b1631 1 4 i1744 6 0) [(.ref b2291)]) := fun t kt => pre2228 t (o_icmpY X1728 hq at_228 (pc := 228) (pc' := 235) (feq hc2229).2 (o_iconst X1728 hq at_235 (x := 0) rfl (o_istore X1728 hq at_236 rfl (o_aload X1728 hq at_238 rfl rfl (o_iload X1728 hq at_240 rfl (o_iload X1728 hq at_242 rfl (st2283 _ (o_goto X2283 hq at_245 (pc := 245) (pc' := 280) (o_aload X2283 hq at_280 rfl rfl (o_iload X2283 hq at_282 rfl (st2284 _ kt)))))))))))
     obtain rfl := kb65 u2294
     obtain rfl := kb112 u2295
     obtain rfl := kb112 u2296
     obtain rfl := kb101 u2297
     obtain rfl := kb100 u2299
     obtain ⟨_, T2314, L2314, X2314, hQ2314, st2314⟩ := own_cS X2284 hx hZ1626 hown1626 (ww76 hw) (ww77 hw) (ww1 hw) (ww78 hw) (rm16_70 l Z a0 hw b2291 a170 b2292 a7 a123 a128 a133 k172 a120 p11 a177 k179 65 112 112 101 i2289 100 k2293 a125 a183 k185 a130 a189 k191 a135 a195 k197 a199 T2284.heap n0 Ou2307 S_171 u2310 V173 E_174 F121 E_175 (own_n (own_t lt1737 (Keep.of_wr W2283).1) u2302) u2308 S_12 hk13 F176 u2309 F178 V180 u2312 F126 E_181 (own_n (own_t lt1738 (Keep.of_wr W2283).1) u2302) F182 F184 V186 F131 E_187 (own_n (own_t lt1739 (Keep.of_wr W2283).1) u2302) F188 F190 V192 F136 E_193 (own_n (own_t lt1740 (Keep.of_wr W2283).1) u2302) F194 F196 V198 S_200) rfl pd_21 hml (hb hby at_287) (Ls := (oL p1 p2 p3 p4 2 a128 b1626 6 b1631 1 4 i1744 6 0)) (W := 0) (argsL := [(.ref b2291)]) (rest := [])
     rcases hQ2314 with ⟨b2315, u2316, u2317, u2318, u2319, u2320, u2321, rfl, u2323, u2324, u2325, Ku2326, u2327, u2328⟩ | ⟨u2329, rfl, u2331, Ku2332⟩
     ·
      exact absurd u2320 (fun q => (own_bnl (c := (110 : Int32)) u2298 hi1744 (by decide +kernel) hc2229 : ¬ i2289 = 110) q.symm)
     ·
      have Ou2332 := Ou2307.keep Ku2332 all0
      have N2314 := Fr.app N2284 u2331
      obtain ⟨T2333, L2333, X2333, u2333, e2333, st2333⟩ := own_tE hw X2314 hx hby hml hZ1626 hown1626 Ou2332 E_315 F316 (oL p1 p2 p3 p4 2 a128 b1626 6 b1631 1 4 i1744 6 0) rfl
      have N2333 := Fr.app N2314 u2333
      refine fin (some (.int 1)) _ _ _ _ T1626.vm _ X2333 hS1626 (by rw [e2333]; exact (Nat.le_trans (Nat.le_trans (Nat.le_trans hz1730 (Keep.of_wr W2283).1) Ku2307.1) Ku2332.1)) nofun (fun fs hr => pre2313 _ ?_) (own_atH e2333 ?_) (by decide) (by decide)
      ·
       refine st2314 _ (st2333 _ ?_)
       exact retN X2333 hx (t := .boolean) hret (by simp) (hb hby at_302) hr
      ·
       exact ⟨rfl, N2333⟩
   ·
    subst hq1798
    have pre2335 : oS p e below EN T1728 (mkF m 228 #[vI p1, vI p2, vI p3, vI p4, vI 2, vR a128, vR b1626, vI 6, vR b1631, vI 1, vI 5, vI i1744, vI 6, .unset, .unset] [(.int 100), (.int i1744)]) := fun t kt => pre1797 t (o_caload X1728 hq at_227 hZ1626 e1728 V1728 (i := 5) (v := .int 100) (by decide +kernel) rfl kt)
    by_cases hc2336 : i1744 = 100
    ·
     subst hc2336
     obtain ⟨T2338, h2338, X2338, e2338, W2338, V2338, st2338⟩ := own_stC X1728 hx hZ1626 e1728 V1728 0 5 100 100 5 knc100 (hb hby at_244) (oL p1 p2 p3 p4 2 a128 b1626 6 b1631 1 5 100 6 1) [] (vs2 := [(.int 65), (.int 112), (.int 112), (.int 101), (.int 110), (.int 100), (.int 0), (.int 0)])
     have O2338 := O1728.wr W2338 g_b1631
     have N2338 := Fr.snoc X2338 N1728 g_b1631
     obtain ⟨_, T2339, L2339, X2339, hQ2339, st2339⟩ := own_cS X2338 hx hZ1626 hown1626 (ww52 hw) (ww53 hw) (ww27 hw) (ww54 hw) (rm9_64 l Z a0 hw b1631 65 112 112 101 110 100 0 0 k1631 p11 h2338 n0 O2338 V2338 kll255_65 kll65_0 (own_t lt1736 (Keep.of_wr W2338).1) kll255_112 kll112_0 kll255_112 kll112_0 kll255_101 kll101_0 kll255_110 kll110_0 kll255_100 kll100_0 S_12 hk13) e2338 pd_13 hml (hb hby at_284) (Ls := (oL p1 p2 p3 p4 2 a128 b1626 6 b1631 1 5 100 6 1)) (W := 0) (argsL := [(.ref b1631), (.int 6)]) (rest := [])
     obtain ⟨i2340, i2341, i2342, i2343, i2344, i2345, b2346, b2347, k2348, u2349, u2350, u2351, u2352, u2353, u2354, rfl, u2356, u2357, u2358, u2359, u2360, u2361, Ku2362, u2363, u2364, u2365, u2366, u2367⟩ := hQ2339
     have Ou2362 := O2338.keep Ku2362 all0
     have N2339 := Fr.app N2338 u2356
     have pre2368 : oS p e below EN T2339 (mkF m 287 (oL p1 p2 p3 p4 2 a128 b1626 6 b1631 1 5 100 6 1) [(.ref b2346)]) := fun t kt => pre2335 t (o_icmpN X1728 hq at_228 (by decide +kernel) (o_iconst X1728 hq at_231 (x := 1) rfl (o_goto X1728 hq at_232 (pc := 232) (pc' := 236) (o_istore X1728 hq at_236 rfl (o_aload X1728 hq at_238 rfl rfl (o_iload X1728 hq at_240 rfl (o_iload X1728 hq at_242 rfl (st2338 _ (o_goto X2338 hq at_245 (pc := 245) (pc' := 280) (o_aload X2338 hq at_280 rfl rfl (o_iload X2338 hq at_282 rfl (st2339 _ kt))))))))))))
     obtain rfl := kb65 u2349
     obtain rfl := kb112 u2350
     obtain rfl := kb112 u2351
     obtain rfl := kb101 u2352
     obtain rfl := kb110 u2353
     obtain rfl := kb100 u2354
     obtain ⟨_, T2369, L2369, X2369, hQ2369, st2369⟩ := own_cS X2339 hx hZ1626 hown1626 (ww76 hw) (ww77 hw) (ww1 hw) (ww78 hw) (rm16_70 l Z a0 hw b2346 a170 b2347 a7 a123 a128 a133 k172 a120 p11 a177 k179 65 112 112 101 110 100 k2348 a125 a183 k185 a130 a189 k191 a135 a195 k197 a199 T2339.heap n0 Ou2362 S_171 u2365 V173 E_174 F121 E_175 (own_n (own_t lt1737 (Keep.of_wr W2338).1) u2357) u2363 S_12 hk13 F176 u2364 F178 V180 u2367 F126 E_181 (own_n (own_t lt1738 (Keep.of_wr W2338).1) u2357) F182 F184 V186 F131 E_187 (own_n (own_t lt1739 (Keep.of_wr W2338).1) u2357) F188 F190 V192 F136 E_193 (own_n (own_t lt1740 (Keep.of_wr W2338).1) u2357) F194 F196 V198 S_200) rfl pd_21 hml (hb hby at_287) (Ls := (oL p1 p2 p3 p4 2 a128 b1626 6 b1631 1 5 100 6 1)) (W := 0) (argsL := [(.ref b2346)]) (rest := [])
     rcases hQ2369 with ⟨b2370, u2371, u2372, u2373, u2374, u2375, u2376, rfl, u2378, u2379, u2380, Ku2381, u2382, u2383⟩ | ⟨u2384, rfl, u2386, Ku2387⟩
     ·
      have Ou2381 := Ou2362.keep Ku2381 all0
      have N2369 := Fr.app N2339 u2378
      obtain ⟨T2388, L2388, X2388, u2388, e2388, st2388⟩ := own_tP hw X2369 hx hby hml hZ1626 hown1626 Ou2381 u2382 u2383 (oL p1 p2 p3 p4 2 a128 b1626 6 b1631 1 5 100 6 1) rfl
      have N2388 := Fr.app N2369 u2388
      refine fin (some (.int 1)) _ _ _ _ T1626.vm _ X2388 hS1626 (by rw [e2388]; exact (Nat.le_trans (Nat.le_trans (Nat.le_trans hz1730 (Keep.of_wr W2338).1) Ku2362.1) Ku2381.1)) nofun (fun fs hr => pre2368 _ ?_) (own_atH e2388 ?_) (by decide) (by decide)
      ·
       refine st2369 _ (st2388 _ ?_)
       exact retN X2388 hx (t := .boolean) hret (by simp) (hb hby at_326) hr
      ·
       exact ⟨rfl, N2388⟩
     ·
      exact absurd ⟨kle65_65, kle112_112, kle112_112, kle101_101, kle110_110, kle100_100⟩ u2384
    ·
     obtain ⟨T2390, h2390, X2390, e2390, W2390, V2390, st2390⟩ := own_stC X1728 hx hZ1626 e1728 V1728 0 5 i1744 i1744 5 (own_nar255 hi1744) (hb hby at_244) (oL p1 p2 p3 p4 2 a128 b1626 6 b1631 1 5 i1744 6 0) [] (vs2 := [(.int 65), (.int 112), (.int 112), (.int 101), (.int 110), (.int i1744), (.int 0), (.int 0)])
     have O2390 := O1728.wr W2390 g_b1631
     have N2390 := Fr.snoc X2390 N1728 g_b1631
     obtain ⟨_, T2391, L2391, X2391, hQ2391, st2391⟩ := own_cS X2390 hx hZ1626 hown1626 (ww52 hw) (ww53 hw) (ww27 hw) (ww54 hw) (rm9_64 l Z a0 hw b1631 65 112 112 101 110 i1744 0 0 k1631 p11 h2390 n0 O2390 V2390 kll255_65 kll65_0 (own_t lt1736 (Keep.of_wr W2390).1) kll255_112 kll112_0 kll255_112 kll112_0 kll255_101 kll101_0 kll255_110 kll110_0 (own_lt255 hi1744) (own_nn hi1744) S_12 hk13) e2390 pd_13 hml (hb hby at_284) (Ls := (oL p1 p2 p3 p4 2 a128 b1626 6 b1631 1 5 i1744 6 0)) (W := 0) (argsL := [(.ref b1631), (.int 6)]) (rest := [])
     obtain ⟨i2392, i2393, i2394, i2395, i2396, i2397, b2398, b2399, k2400, u2401, u2402, u2403, u2404, u2405, u2406, rfl, u2408, u2409, u2410, u2411, u2412, u2413, Ku2414, u2415, u2416, u2417, u2418, u2419⟩ := hQ2391
     have Ou2414 := O2390.keep Ku2414 all0
     have N2391 := Fr.app N2390 u2408
     have pre2420 : oS p e below EN T2391 (mkF m 287 (oL p1 p2 p3 p4 2 a128 b1626 6 b1631 1 5 i1744 6 0) [(.ref b2398)]) := fun t kt => pre2335 t (o_icmpY X1728 hq at_228 (pc := 228) (pc' := 235) (feq hc2336).2 (o_iconst X1728 hq at_235 (x := 0) rfl (o_istore X1728 hq at_236 rfl (o_aload X1728 hq at_238 rfl rfl (o_iload X1728 hq at_240 rfl (o_iload X1728 hq at_242 rfl (st2390 _ (o_goto X2390 hq at_245 (pc := 245) (pc' := 280) (o_aload X2390 hq at_280 rfl rfl (o_iload X2390 hq at_282 rfl (st2391 _ kt)))))))))))
     obtain rfl := kb65 u2401
     obtain rfl := kb112 u2402
     obtain rfl := kb112 u2403
     obtain rfl := kb101 u2404
     obtain rfl := kb110 u2405
     obtain ⟨_, T2421, L2421, X2421, hQ2421, st2421⟩ := own_cS X2391 hx hZ1626 hown1626 (ww76 hw) (ww77 hw) (ww1 hw) (ww78 hw) (rm16_70 l Z a0 hw b2398 a170 b2399 a7 a123 a128 a133 k172 a120 p11 a177 k179 65 112 112 101 110 i2397 k2400 a125 a183 k185 a130 a189 k191 a135 a195 k197 a199 T2391.heap n0 Ou2414 S_171 u2417 V173 E_174 F121 E_175 (own_n (own_t lt1737 (Keep.of_wr W2390).1) u2409) u2415 S_12 hk13 F176 u2416 F178 V180 u2419 F126 E_181 (own_n (own_t lt1738 (Keep.of_wr W2390).1) u2409) F182 F184 V186 F131 E_187 (own_n (own_t lt1739 (Keep.of_wr W2390).1) u2409) F188 F190 V192 F136 E_193 (own_n (own_t lt1740 (Keep.of_wr W2390).1) u2409) F194 F196 V198 S_200) rfl pd_21 hml (hb hby at_287) (Ls := (oL p1 p2 p3 p4 2 a128 b1626 6 b1631 1 5 i1744 6 0)) (W := 0) (argsL := [(.ref b2398)]) (rest := [])
     rcases hQ2421 with ⟨b2422, u2423, u2424, u2425, u2426, u2427, u2428, rfl, u2430, u2431, u2432, Ku2433, u2434, u2435⟩ | ⟨u2436, rfl, u2438, Ku2439⟩
     ·
      exact absurd u2428 (fun q => (own_bnl (c := (100 : Int32)) u2406 hi1744 (by decide +kernel) hc2336 : ¬ i2397 = 100) q.symm)
     ·
      have Ou2439 := Ou2414.keep Ku2439 all0
      have N2421 := Fr.app N2391 u2438
      obtain ⟨T2440, L2440, X2440, u2440, e2440, st2440⟩ := own_tE hw X2421 hx hby hml hZ1626 hown1626 Ou2439 E_315 F316 (oL p1 p2 p3 p4 2 a128 b1626 6 b1631 1 5 i1744 6 0) rfl
      have N2440 := Fr.app N2421 u2440
      refine fin (some (.int 1)) _ _ _ _ T1626.vm _ X2440 hS1626 (by rw [e2440]; exact (Nat.le_trans (Nat.le_trans (Nat.le_trans hz1730 (Keep.of_wr W2390).1) Ku2414.1) Ku2439.1)) nofun (fun fs hr => pre2420 _ ?_) (own_atH e2440 ?_) (by decide) (by decide)
      ·
       refine st2421 _ (st2440 _ ?_)
       exact retN X2440 hx (t := .boolean) hret (by simp) (hb hby at_302) hr
      ·
       exact ⟨rfl, N2440⟩
  ·
   subst hq1746
   have pre2441 : oS p e below EN T1728 (mkF m 254 #[vI p1, vI p2, vI p3, vI p4, vI 2, vR a128, vR b1626, vI 6, vR b1631, vI 2, vI i1743, vI i1744, vI 6, .unset, .unset] []) := fun t kt => pre1745 t (o_iload X1728 hq at_204 rfl (o_ifY X1728 hq at_206 (pc := 206) (pc' := 215) (by decide +kernel) (o_iload X1728 hq at_215 rfl (o_iconst X1728 hq at_217 (x := 1) rfl (o_icmpY X1728 hq at_218 (pc := 218) (pc' := 248) (by decide +kernel) (o_iload X1728 hq at_248 rfl (o_iconst X1728 hq at_250 (x := 2) rfl (o_icmpN X1728 hq at_251 (by decide +kernel) kt))))))))
   rcases (hi1743 ▸ own_mod6 hi1742 : i1743 = 0 ∨ i1743 = 1 ∨ i1743 = 2 ∨ i1743 = 3 ∨ i1743 = 4 ∨ i1743 = 5) with hq2442 | hq2442 | hq2442 | hq2442 | hq2442 | hq2442
   ·
    subst hq2442
    obtain ⟨_, T2443, L2443, X2443, hS2443, hZ2443, hown2443, cg2443, hQ2443, st2443⟩ := own_cSH (s := s) (vm0 := T1626.vm) X1728 hx hZ1626 hown1626 hS1626 hz1730 (own_EW hw) CR1728.1 (ww52 hw) (ww53 hw) (ww27 hw) (ww54 hw) (rm9_30 l Z a0 hw b1631 h1728 n0 O1728) e1728 pd_13 hml (hb hby at_284) (Ls := (oL p1 p2 p3 p4 2 a128 b1626 6 b1631 2 0 i1744 0 0)) (W := 0) (argsL := [(.ref b1631), (.int 0)]) (rest := [])
    obtain ⟨b2444, b2445, k2446, rfl, u2448, u2449, u2450, u2451, Ku2452, u2453, u2454, u2455, u2456⟩ := hQ2443
    have Ou2452 := O1728.keep Ku2452 all0
    have N2443 := Fr.app N1728 u2448
    obtain ⟨_, T2457, L2457, X2457, hQ2457, st2457⟩ := own_cS X2443 hx hZ2443 hown2443 (ww76 hw) (ww77 hw) (ww1 hw) (ww78 hw) (g16_33 b2444 b2445 _ 0 k2446 T2443.heap Ou2452 u2455 (own_n lt1737 u2449) u2453 u2454 u2456 kle4_0 (own_n lt1738 u2449) kle5_0 (own_n lt1739 u2449) kle6_0 (own_n lt1740 u2449) kle7_0) rfl pd_21 hml (hb hby at_287) (Ls := (oL p1 p2 p3 p4 2 a128 b1626 6 b1631 2 0 i1744 0 0)) (W := 0) (argsL := [(.ref b2444)]) (rest := [])
    obtain ⟨rfl, u2459, Ku2460⟩ := hQ2457
    have Ou2460 := Ou2452.keep Ku2460 all0
    have N2457 := Fr.app N2443 u2459
    obtain ⟨T2461, L2461, X2461, u2461, e2461, st2461⟩ := own_tE hw X2457 hx hby hml hZ2443 hown2443 Ou2460 E_315 F316 (oL p1 p2 p3 p4 2 a128 b1626 6 b1631 2 0 i1744 0 0) rfl
    have N2461 := Fr.app N2457 u2461
    refine fin (some (.int 1)) _ _ _ _ T2443.vm _ X2461 hS2443 (by rw [e2461]; exact (Nat.le_trans (Nat.le_refl _) Ku2460.1)) nofun (fun fs hr => pre2441 _ ?_) (own_atH e2461 ?_) (by decide) (by decide)
    ·
     refine o_iload X1728 hq at_254 rfl (o_istore X1728 hq at_256 rfl (o_iconst X1728 hq at_258 (x := 0) rfl (o_istore X1728 hq at_259 rfl (o_goto X1728 hq at_261 (pc := 261) (pc' := 280) (o_aload X1728 hq at_280 rfl rfl (o_iload X1728 hq at_282 rfl (st2443 _ (st2457 _ (st2461 _ ?_)))))))))
     exact retN X2461 hx (t := .boolean) hret (by simp) (hb hby at_302) hr
    ·
     exact ⟨rfl, N2461⟩
   ·
    subst hq2442
    obtain ⟨_, T2462, L2462, X2462, hQ2462, st2462⟩ := own_cS X1728 hx hZ1626 hown1626 (ww52 hw) (ww53 hw) (ww27 hw) (ww54 hw) (rm9_36 l Z a0 hw b1631 65 112 112 101 110 100 0 0 k1631 p11 h1728 n0 O1728 V1728 kll255_65 kll65_0 S_12 hk13) e1728 pd_13 hml (hb hby at_284) (Ls := (oL p1 p2 p3 p4 2 a128 b1626 6 b1631 2 1 i1744 1 0)) (W := 0) (argsL := [(.ref b1631), (.int 1)]) (rest := [])
    obtain ⟨i2463, b2464, b2465, k2466, u2467, rfl, u2469, u2470, u2471, u2472, u2473, u2474, Ku2475, u2476, u2477, u2478, u2479, u2480⟩ := hQ2462
    have Ou2475 := O1728.keep Ku2475 all0
    have N2462 := Fr.app N1728 u2469
    have pre2481 : oS p e below EN T2462 (mkF m 287 (oL p1 p2 p3 p4 2 a128 b1626 6 b1631 2 1 i1744 1 0) [(.ref b2464)]) := fun t kt => pre2441 t (o_iload X1728 hq at_254 rfl (o_istore X1728 hq at_256 rfl (o_iconst X1728 hq at_258 (x := 0) rfl (o_istore X1728 hq at_259 rfl (o_goto X1728 hq at_261 (pc := 261) (pc' := 280) (o_aload X1728 hq at_280 rfl rfl (o_iload X1728 hq at_282 rfl (st2462 _ kt))))))))
    obtain rfl := kb65 u2467
    obtain ⟨_, T2482, L2482, X2482, hQ2482, st2482⟩ := own_cS X2462 hx hZ1626 hown1626 (ww76 hw) (ww77 hw) (ww1 hw) (ww78 hw) (g16_42 b2464 b2465 _ 1 k2466 T2462.heap Ou2475 u2478 (own_n lt1737 u2470) u2476 u2477 u2480 kle4_1 (own_n lt1738 u2470) kle5_1 (own_n lt1739 u2470) kle6_1 (own_n lt1740 u2470) kle7_1) rfl pd_21 hml (hb hby at_287) (Ls := (oL p1 p2 p3 p4 2 a128 b1626 6 b1631 2 1 i1744 1 0)) (W := 0) (argsL := [(.ref b2464)]) (rest := [])
    obtain ⟨rfl, u2484, Ku2485⟩ := hQ2482
    have Ou2485 := Ou2475.keep Ku2485 all0
    have N2482 := Fr.app N2462 u2484
    obtain ⟨T2486, L2486, X2486, u2486, e2486, st2486⟩ := own_tE hw X2482 hx hby hml hZ1626 hown1626 Ou2485 E_315 F316 (oL p1 p2 p3 p4 2 a128 b1626 6 b1631 2 1 i1744 1 0) rfl
    have N2486 := Fr.app N2482 u2486
    refine fin (some (.int 1)) _ _ _ _ T1626.vm _ X2486 hS1626 (by rw [e2486]; exact (Nat.le_trans (Nat.le_trans hz1730 Ku2475.1) Ku2485.1)) nofun (fun fs hr => pre2481 _ ?_) (own_atH e2486 ?_) (by decide) (by decide)
    ·
     refine st2482 _ (st2486 _ ?_)
     exact retN X2486 hx (t := .boolean) hret (by simp) (hb hby at_302) hr
    ·
     exact ⟨rfl, N2486⟩
   ·
    subst hq2442
    obtain ⟨_, T2487, L2487, X2487, hQ2487, st2487⟩ := own_cS X1728 hx hZ1626 hown1626 (ww52 hw) (ww53 hw) (ww27 hw) (ww54 hw) (rm9_43 l Z a0 hw b1631 65 112 112 101 110 100 0 0 k1631 p11 h1728 n0 O1728 V1728 kll255_65 kll65_0 lt1736 kll255_112 kll112_0 S_12 hk13) e1728 pd_13 hml (hb hby at_284) (Ls := (oL p1 p2 p3 p4 2 a128 b1626 6 b1631 2 2 i1744 2 0)) (W := 0) (argsL := [(.ref b1631), (.int 2)]) (rest := [])
    obtain ⟨i2488, i2489, b2490, b2491, k2492, u2493, u2494, rfl, u2496, u2497, u2498, u2499, u2500, u2501, Ku2502, u2503, u2504, u2505, u2506, u2507⟩ := hQ2487
    have Ou2502 := O1728.keep Ku2502 all0
    have N2487 := Fr.app N1728 u2496
    have pre2508 : oS p e below EN T2487 (mkF m 287 (oL p1 p2 p3 p4 2 a128 b1626 6 b1631 2 2 i1744 2 0) [(.ref b2490)]) := fun t kt => pre2441 t (o_iload X1728 hq at_254 rfl (o_istore X1728 hq at_256 rfl (o_iconst X1728 hq at_258 (x := 0) rfl (o_istore X1728 hq at_259 rfl (o_goto X1728 hq at_261 (pc := 261) (pc' := 280) (o_aload X1728 hq at_280 rfl rfl (o_iload X1728 hq at_282 rfl (st2487 _ kt))))))))
    obtain rfl := kb65 u2493
    obtain rfl := kb112 u2494
    obtain ⟨_, T2509, L2509, X2509, hQ2509, st2509⟩ := own_cS X2487 hx hZ1626 hown1626 (ww76 hw) (ww77 hw) (ww1 hw) (ww78 hw) (g16_42 b2490 b2491 _ 2 k2492 T2487.heap Ou2502 u2505 (own_n lt1737 u2497) u2503 u2504 u2507 kle4_2 (own_n lt1738 u2497) kle5_2 (own_n lt1739 u2497) kle6_2 (own_n lt1740 u2497) kle7_2) rfl pd_21 hml (hb hby at_287) (Ls := (oL p1 p2 p3 p4 2 a128 b1626 6 b1631 2 2 i1744 2 0)) (W := 0) (argsL := [(.ref b2490)]) (rest := [])
    obtain ⟨rfl, u2511, Ku2512⟩ := hQ2509
    have Ou2512 := Ou2502.keep Ku2512 all0
    have N2509 := Fr.app N2487 u2511
    obtain ⟨T2513, L2513, X2513, u2513, e2513, st2513⟩ := own_tE hw X2509 hx hby hml hZ1626 hown1626 Ou2512 E_315 F316 (oL p1 p2 p3 p4 2 a128 b1626 6 b1631 2 2 i1744 2 0) rfl
    have N2513 := Fr.app N2509 u2513
    refine fin (some (.int 1)) _ _ _ _ T1626.vm _ X2513 hS1626 (by rw [e2513]; exact (Nat.le_trans (Nat.le_trans hz1730 Ku2502.1) Ku2512.1)) nofun (fun fs hr => pre2508 _ ?_) (own_atH e2513 ?_) (by decide) (by decide)
    ·
     refine st2509 _ (st2513 _ ?_)
     exact retN X2513 hx (t := .boolean) hret (by simp) (hb hby at_302) hr
    ·
     exact ⟨rfl, N2513⟩
   ·
    subst hq2442
    obtain ⟨_, T2514, L2514, X2514, hQ2514, st2514⟩ := own_cS X1728 hx hZ1626 hown1626 (ww52 hw) (ww53 hw) (ww27 hw) (ww54 hw) (rm9_49 l Z a0 hw b1631 65 112 112 101 110 100 0 0 k1631 p11 h1728 n0 O1728 V1728 kll255_65 kll65_0 lt1736 kll255_112 kll112_0 kll255_112 kll112_0 S_12 hk13) e1728 pd_13 hml (hb hby at_284) (Ls := (oL p1 p2 p3 p4 2 a128 b1626 6 b1631 2 3 i1744 3 0)) (W := 0) (argsL := [(.ref b1631), (.int 3)]) (rest := [])
    obtain ⟨i2515, i2516, i2517, b2518, b2519, k2520, u2521, u2522, u2523, rfl, u2525, u2526, u2527, u2528, u2529, u2530, Ku2531, u2532, u2533, u2534, u2535, u2536⟩ := hQ2514
    have Ou2531 := O1728.keep Ku2531 all0
    have N2514 := Fr.app N1728 u2525
    have pre2537 : oS p e below EN T2514 (mkF m 287 (oL p1 p2 p3 p4 2 a128 b1626 6 b1631 2 3 i1744 3 0) [(.ref b2518)]) := fun t kt => pre2441 t (o_iload X1728 hq at_254 rfl (o_istore X1728 hq at_256 rfl (o_iconst X1728 hq at_258 (x := 0) rfl (o_istore X1728 hq at_259 rfl (o_goto X1728 hq at_261 (pc := 261) (pc' := 280) (o_aload X1728 hq at_280 rfl rfl (o_iload X1728 hq at_282 rfl (st2514 _ kt))))))))
    obtain rfl := kb65 u2521
    obtain rfl := kb112 u2522
    obtain rfl := kb112 u2523
    obtain ⟨_, T2538, L2538, X2538, hQ2538, st2538⟩ := own_cS X2514 hx hZ1626 hown1626 (ww76 hw) (ww77 hw) (ww1 hw) (ww78 hw) (g16_42 b2518 b2519 _ 3 k2520 T2514.heap Ou2531 u2534 (own_n lt1737 u2526) u2532 u2533 u2536 kle4_3 (own_n lt1738 u2526) kle5_3 (own_n lt1739 u2526) kle6_3 (own_n lt1740 u2526) kle7_3) rfl pd_21 hml (hb hby at_287) (Ls := (oL p1 p2 p3 p4 2 a128 b1626 6 b1631 2 3 i1744 3 0)) (W := 0) (argsL := [(.ref b2518)]) (rest := [])
    obtain ⟨rfl, u2540, Ku2541⟩ := hQ2538
    have Ou2541 := Ou2531.keep Ku2541 all0
    have N2538 := Fr.app N2514 u2540
    obtain ⟨T2542, L2542, X2542, u2542, e2542, st2542⟩ := own_tE hw X2538 hx hby hml hZ1626 hown1626 Ou2541 E_315 F316 (oL p1 p2 p3 p4 2 a128 b1626 6 b1631 2 3 i1744 3 0) rfl
    have N2542 := Fr.app N2538 u2542
    refine fin (some (.int 1)) _ _ _ _ T1626.vm _ X2542 hS1626 (by rw [e2542]; exact (Nat.le_trans (Nat.le_trans hz1730 Ku2531.1) Ku2541.1)) nofun (fun fs hr => pre2537 _ ?_) (own_atH e2542 ?_) (by decide) (by decide)
    ·
     refine st2538 _ (st2542 _ ?_)
     exact retN X2542 hx (t := .boolean) hret (by simp) (hb hby at_302) hr
    ·
     exact ⟨rfl, N2542⟩
   ·
    subst hq2442
    obtain ⟨_, T2543, L2543, X2543, hQ2543, st2543⟩ := own_cS X1728 hx hZ1626 hown1626 (ww52 hw) (ww53 hw) (ww27 hw) (ww54 hw) (rm9_11 l Z a0 hw b1631 65 112 112 101 110 100 0 0 k1631 p11 h1728 n0 O1728 V1728 kll255_65 kll65_0 lt1736 kll255_112 kll112_0 kll255_112 kll112_0 kll255_101 kll101_0 S_12 hk13) e1728 pd_13 hml (hb hby at_284) (Ls := (oL p1 p2 p3 p4 2 a128 b1626 6 b1631 2 4 i1744 4 0)) (W := 0) (argsL := [(.ref b1631), (.int 4)]) (rest := [])
    obtain ⟨i2544, i2545, i2546, i2547, b2548, b2549, k2550, u2551, u2552, u2553, u2554, rfl, u2556, u2557, u2558, u2559, u2560, u2561, Ku2562, u2563, u2564, u2565, u2566, u2567⟩ := hQ2543
    have Ou2562 := O1728.keep Ku2562 all0
    have N2543 := Fr.app N1728 u2556
    have pre2568 : oS p e below EN T2543 (mkF m 287 (oL p1 p2 p3 p4 2 a128 b1626 6 b1631 2 4 i1744 4 0) [(.ref b2548)]) := fun t kt => pre2441 t (o_iload X1728 hq at_254 rfl (o_istore X1728 hq at_256 rfl (o_iconst X1728 hq at_258 (x := 0) rfl (o_istore X1728 hq at_259 rfl (o_goto X1728 hq at_261 (pc := 261) (pc' := 280) (o_aload X1728 hq at_280 rfl rfl (o_iload X1728 hq at_282 rfl (st2543 _ kt))))))))
    obtain rfl := kb65 u2551
    obtain rfl := kb112 u2552
    obtain rfl := kb112 u2553
    obtain rfl := kb101 u2554
    obtain ⟨_, T2569, L2569, X2569, hQ2569, st2569⟩ := own_cS X2543 hx hZ1626 hown1626 (ww76 hw) (ww77 hw) (ww1 hw) (ww78 hw) (g16_17 b2548 b2549 65 112 112 101 k2550 T2543.heap Ou2562 u2565 (own_n lt1737 u2557) u2563 u2564 u2567 (own_n lt1738 u2557) (own_n lt1739 u2557) (own_n lt1740 u2557)) rfl pd_21 hml (hb hby at_287) (Ls := (oL p1 p2 p3 p4 2 a128 b1626 6 b1631 2 4 i1744 4 0)) (W := 0) (argsL := [(.ref b2548)]) (rest := [])
    rcases hQ2569 with ⟨b2570, u2571, u2572, u2573, u2574, rfl, u2576, u2577, u2578, Ku2579, u2580, u2581⟩ | ⟨u2582, rfl, u2584, Ku2585⟩
    ·
     exact absurd u2571 (by decide +kernel)
    ·
     have Ou2585 := Ou2562.keep Ku2585 all0
     have N2569 := Fr.app N2543 u2584
     obtain ⟨T2586, L2586, X2586, u2586, e2586, st2586⟩ := own_tE hw X2569 hx hby hml hZ1626 hown1626 Ou2585 E_315 F316 (oL p1 p2 p3 p4 2 a128 b1626 6 b1631 2 4 i1744 4 0) rfl
     have N2586 := Fr.app N2569 u2586
     refine fin (some (.int 1)) _ _ _ _ T1626.vm _ X2586 hS1626 (by rw [e2586]; exact (Nat.le_trans (Nat.le_trans hz1730 Ku2562.1) Ku2585.1)) nofun (fun fs hr => pre2568 _ ?_) (own_atH e2586 ?_) (by decide) (by decide)
     ·
      refine st2569 _ (st2586 _ ?_)
      exact retN X2586 hx (t := .boolean) hret (by simp) (hb hby at_302) hr
     ·
      exact ⟨rfl, N2586⟩
   ·
    subst hq2442
    obtain ⟨_, T2587, L2587, X2587, hQ2587, st2587⟩ := own_cS X1728 hx hZ1626 hown1626 (ww52 hw) (ww53 hw) (ww27 hw) (ww54 hw) (rm9_55 l Z a0 hw b1631 65 112 112 101 110 100 0 0 k1631 p11 h1728 n0 O1728 V1728 kll255_65 kll65_0 lt1736 kll255_112 kll112_0 kll255_112 kll112_0 kll255_101 kll101_0 kll255_110 kll110_0 S_12 hk13) e1728 pd_13 hml (hb hby at_284) (Ls := (oL p1 p2 p3 p4 2 a128 b1626 6 b1631 2 5 i1744 5 0)) (W := 0) (argsL := [(.ref b1631), (.int 5)]) (rest := [])
    obtain ⟨i2588, i2589, i2590, i2591, i2592, b2593, b2594, k2595, u2596, u2597, u2598, u2599, u2600, rfl, u2602, u2603, u2604, u2605, u2606, u2607, Ku2608, u2609, u2610, u2611, u2612, u2613⟩ := hQ2587
    have Ou2608 := O1728.keep Ku2608 all0
    have N2587 := Fr.app N1728 u2602
    have pre2614 : oS p e below EN T2587 (mkF m 287 (oL p1 p2 p3 p4 2 a128 b1626 6 b1631 2 5 i1744 5 0) [(.ref b2593)]) := fun t kt => pre2441 t (o_iload X1728 hq at_254 rfl (o_istore X1728 hq at_256 rfl (o_iconst X1728 hq at_258 (x := 0) rfl (o_istore X1728 hq at_259 rfl (o_goto X1728 hq at_261 (pc := 261) (pc' := 280) (o_aload X1728 hq at_280 rfl rfl (o_iload X1728 hq at_282 rfl (st2587 _ kt))))))))
    obtain rfl := kb65 u2596
    obtain rfl := kb112 u2597
    obtain rfl := kb112 u2598
    obtain rfl := kb101 u2599
    obtain rfl := kb110 u2600
    obtain ⟨_, T2615, L2615, X2615, hQ2615, st2615⟩ := own_cS X2587 hx hZ1626 hown1626 (ww76 hw) (ww77 hw) (ww1 hw) (ww78 hw) (g16_61 b2593 b2594 65 112 112 101 110 k2595 T2587.heap Ou2608 u2611 (own_n lt1737 u2603) u2609 u2610 u2613 (own_n lt1738 u2603) (own_n lt1739 u2603) (own_n lt1740 u2603)) rfl pd_21 hml (hb hby at_287) (Ls := (oL p1 p2 p3 p4 2 a128 b1626 6 b1631 2 5 i1744 5 0)) (W := 0) (argsL := [(.ref b2593)]) (rest := [])
    rcases hQ2615 with ⟨b2616, u2617, u2618, u2619, u2620, u2621, rfl, u2623, u2624, u2625, Ku2626, u2627, u2628⟩ | ⟨u2629, rfl, u2631, Ku2632⟩
    ·
     exact absurd u2617 (by decide +kernel)
    ·
     have Ou2632 := Ou2608.keep Ku2632 all0
     have N2615 := Fr.app N2587 u2631
     obtain ⟨T2633, L2633, X2633, u2633, e2633, st2633⟩ := own_tE hw X2615 hx hby hml hZ1626 hown1626 Ou2632 E_315 F316 (oL p1 p2 p3 p4 2 a128 b1626 6 b1631 2 5 i1744 5 0) rfl
     have N2633 := Fr.app N2615 u2633
     refine fin (some (.int 1)) _ _ _ _ T1626.vm _ X2633 hS1626 (by rw [e2633]; exact (Nat.le_trans (Nat.le_trans hz1730 Ku2608.1) Ku2632.1)) nofun (fun fs hr => pre2614 _ ?_) (own_atH e2633 ?_) (by decide) (by decide)
     ·
      refine st2615 _ (st2633 _ ?_)
      exact retN X2633 hx (t := .boolean) hret (by simp) (hb hby at_302) hr
     ·
      exact ⟨rfl, N2633⟩
  ·
   subst hq1746
   obtain ⟨T2635, h2635, X2635, e2635, W2635, V2635, st2635⟩ := own_stC X1728 hx hZ1626 e1728 V1728 0 6 i1744 i1744 6 (own_nar255 hi1744) (hb hby at_270) #[vI p1, vI p2, vI p3, vI p4, vI 2, vR a128, vR b1626, vI 6, vR b1631, vI 3, vI i1743, vI i1744, vI 6, .unset, .unset] [] (vs2 := [(.int 65), (.int 112), (.int 112), (.int 101), (.int 110), (.int 100), (.int i1744), (.int 0)])
   have O2635 := O1728.wr W2635 g_b1631
   have N2635 := Fr.snoc X2635 N1728 g_b1631
   obtain ⟨_, T2636, L2636, X2636, hQ2636, st2636⟩ := own_cS X2635 hx hZ1626 hown1626 (ww52 hw) (ww53 hw) (ww27 hw) (ww54 hw) (rm9_73 l Z a0 hw b1631 65 112 112 101 110 100 i1744 0 k1631 p11 h2635 n0 O2635 V2635 kll255_65 kll65_0 (own_t lt1736 (Keep.of_wr W2635).1) kll255_112 kll112_0 kll255_112 kll112_0 kll255_101 kll101_0 kll255_110 kll110_0 kll255_100 kll100_0 (own_lt255 hi1744) (own_nn hi1744) S_12 hk13) e2635 pd_13 hml (hb hby at_284) (Ls := (oL p1 p2 p3 p4 2 a128 b1626 6 b1631 3 i1743 i1744 7 0)) (W := 0) (argsL := [(.ref b1631), (.int 7)]) (rest := [])
   obtain ⟨i2637, i2638, i2639, i2640, i2641, i2642, i2643, b2644, b2645, k2646, u2647, u2648, u2649, u2650, u2651, u2652, u2653, rfl, u2655, u2656, u2657, u2658, u2659, u2660, Ku2661, u2662, u2663, u2664, u2665, u2666⟩ := hQ2636
   have Ou2661 := O2635.keep Ku2661 all0
   have N2636 := Fr.app N2635 u2655
   have pre2667 : oS p e below EN T2636 (mkF m 287 (oL p1 p2 p3 p4 2 a128 b1626 6 b1631 3 i1743 i1744 7 0) [(.ref b2644)]) := fun t kt => pre1745 t (o_iload X1728 hq at_204 rfl (o_ifY X1728 hq at_206 (pc := 206) (pc' := 215) (by decide +kernel) (o_iload X1728 hq at_215 rfl (o_iconst X1728 hq at_217 (x := 1) rfl (o_icmpY X1728 hq at_218 (pc := 218) (pc' := 248) (by decide +kernel) (o_iload X1728 hq at_248 rfl (o_iconst X1728 hq at_250 (x := 2) rfl (o_icmpY X1728 hq at_251 (pc := 251) (pc' := 264) (by decide +kernel) (o_aload X1728 hq at_264 rfl rfl (o_iload X1728 hq at_266 rfl (o_iload X1728 hq at_268 rfl (st2635 _ (o_iload X2635 hq at_271 rfl (o_iconst X2635 hq at_273 (x := 1) rfl (o_iadd X2635 hq at_274 (z := 7) (by decide +kernel) (o_istore X2635 hq at_275 rfl (o_iconst X2635 hq at_277 (x := 0) rfl (o_istore X2635 hq at_278 rfl (o_aload X2635 hq at_280 rfl rfl (o_iload X2635 hq at_282 rfl (st2636 _ kt)))))))))))))))))))))
   obtain rfl := kb65 u2647
   obtain rfl := kb112 u2648
   obtain rfl := kb112 u2649
   obtain rfl := kb101 u2650
   obtain rfl := kb110 u2651
   obtain rfl := kb100 u2652
   obtain ⟨_, T2668, L2668, X2668, hQ2668, st2668⟩ := own_cS X2636 hx hZ1626 hown1626 (ww76 hw) (ww77 hw) (ww1 hw) (ww78 hw) (rm16_79 l Z a0 hw b2644 a170 b2645 a7 a123 a128 a133 k172 a120 p11 a177 k179 65 112 112 101 110 100 i2643 k2646 a125 a183 k185 a130 a189 k191 a135 a195 k197 a199 T2636.heap n0 Ou2661 S_171 u2664 V173 E_174 F121 E_175 (own_n (own_t lt1737 (Keep.of_wr W2635).1) u2656) u2662 S_12 hk13 F176 u2663 F178 V180 u2666 F126 E_181 (own_n (own_t lt1738 (Keep.of_wr W2635).1) u2656) F182 F184 V186 F131 E_187 (own_n (own_t lt1739 (Keep.of_wr W2635).1) u2656) F188 F190 V192 F136 E_193 (own_n (own_t lt1740 (Keep.of_wr W2635).1) u2656) F194 F196 V198 S_200) rfl pd_21 hml (hb hby at_287) (Ls := (oL p1 p2 p3 p4 2 a128 b1626 6 b1631 3 i1743 i1744 7 0)) (W := 0) (argsL := [(.ref b2644)]) (rest := [])
   rcases hQ2668 with ⟨b2669, u2670, u2671, u2672, u2673, u2674, u2675, u2676, rfl, u2678, u2679, u2680, Ku2681, u2682, u2683⟩ | ⟨u2684, rfl, u2686, Ku2687⟩
   ·
    exact absurd u2670 (by decide +kernel)
   ·
    have Ou2687 := Ou2661.keep Ku2687 all0
    have N2668 := Fr.app N2636 u2686
    obtain ⟨T2688, L2688, X2688, u2688, e2688, st2688⟩ := own_tE hw X2668 hx hby hml hZ1626 hown1626 Ou2687 E_315 F316 (oL p1 p2 p3 p4 2 a128 b1626 6 b1631 3 i1743 i1744 7 0) rfl
    have N2688 := Fr.app N2668 u2688
    refine fin (some (.int 1)) _ _ _ _ T1626.vm _ X2688 hS1626 (by rw [e2688]; exact (Nat.le_trans (Nat.le_trans (Nat.le_trans hz1730 (Keep.of_wr W2635).1) Ku2661.1) Ku2687.1)) nofun (fun fs hr => pre2667 _ ?_) (own_atH e2688 ?_) (by decide) (by decide)
    ·
     refine st2668 _ (st2688 _ ?_)
     exact retN X2688 hx (t := .boolean) hret (by simp) (hb hby at_302) hr
    ·
     exact ⟨rfl, N2688⟩
 ·
  obtain ⟨T2689, X2689, e2689, st2689⟩ := getS2 X0 hx hZ hown (host := "") (Or.inl (ww120 hw)) Via.refl e0 (Sta.ext O0.2 S_134) (g := (mkF m 40 #[vI p1, vI p2, vI p3, vI p4, vI 3, .unset, .unset, .unset, .unset, .unset, .unset, .unset, .unset, .unset, .unset] [])) rfl (hb hby at_40)
  obtain ⟨b2690, T2690, h2690, kk2690, bv2690, k2690, X2690, e2690, E2690, hS2690, hk2690, hZ2690, hown2690, A2690, Fc2690, Fv2690, V2690, lta2690, ltb2690, cg2690, Lt2690, ns2690, st2690⟩ := ldcCH (s := s) (vm0 := s.vm) (EL := own_EL) X2689 hx hZ hown (ww121 hw) (own_wS hw) e2689 hS0 Y0 (own_EW hw) (by decide) CR0.1 (vs := [(.int (67 : Int32)), (.int (111 : Int32)), (.int (110 : Int32)), (.int (116 : Int32)), (.int (114 : Int32)), (.int (111 : Int32)), (.int (108 : Int32))]) (z := 7) (by decide +kernel) (by decide +kernel) (by decide +kernel) (g := (mkF m 77 #[vI p1, vI p2, vI p3, vI p4, vI 3, vR a133, .unset, .unset, .unset, .unset, .unset, .unset, .unset, .unset, .unset] [])) rfl (hb hby at_77) (n := 28) (by decide +kernel) (by decide) (by decide) (by decide)
  have O2690 := O0.ext E2690
  have ch2690 := cg2690
  have CR2690 := CR0.trans ch2690
  obtain ⟨_, T2691, L2691, X2691, hQ2691, st2691⟩ := own_cV X2690 hx hZ2690 hown2690 (ww11 hw) (ww12 hw) (notFace_of_selects (args := #[]) (mvT hZ2690 (ww14 hw))) (ww14 hw) (ww13 hw) (ww4 hw) (ww15 hw) A2690 (rm1_2 l Z a0 hw b2690 bv2690 _ 7 k2690 p11 h2690 n0 O2690 Fv2690 V2690 A2690 S_12 hk13 Fc2690) e2690 pd_1 hml (hb hby at_83) (Ls := #[vI p1, vI p2, vI p3, vI p4, vI 3, vR a133, vR b2690, .unset, .unset, .unset, .unset, .unset, .unset, .unset, .unset]) (W := 0) (argsL := []) (rest := [])
  obtain ⟨rfl, u2693, u2694⟩ := hQ2691
  have N2691 := Fr.app N0 u2693
  obtain ⟨T2695, h2695, k2695, X2695, e2695, E2695, A2695, Ex2695, st2695⟩ := newPE (aty := .char) X2691 hx hZ2690 (ww24 hw) u2694 (g := (mkF m 90 #[vI p1, vI p2, vI p3, vI p4, vI 3, vR a133, vR b2690, vI 7, .unset, .unset, .unset, .unset, .unset, .unset, .unset] [(.int 8)])) rfl (hb hby at_90) rfl (by decide +kernel) (cap := 8) (by decide +kernel) (by decide) (by decide) (by decide) (ad := "[C") (by decide +kernel)
  obtain ⟨b2695, g2695⟩ : ∃ z, z = h2690.size := ⟨_, rfl⟩
  rw [← g2695] at A2695 Ex2695 st2695
  have O2695 := O2690.ext E2695
  have ch2695 := CHr.ext E2695 CR2690.1
  have CR2695 := CR2690.trans ch2695
  have bd_b2695 : h2690.size ≤ b2695 := Nat.le_of_eq g2695.symm
  have g_b2695 : n0 ≤ b2695 := Nat.le_trans (own_z O2690) bd_b2695
  have lt_b2695 : b2695 < h2695.size := A2695.lt
  have V2695 : Arv Z h2695 b2695 k2695 .char 8 [] (.int 0) := Arv.new A2695 (by decide +kernel)
  have f2696 := (Exa.ext E2695 A2690)
  have f2697 := (Fld.ext E2695 Fv2690)
  have f2698 := (V2690.ext E2695)
  have f2699 := (Fld.ext E2695 Fc2690)
  obtain ⟨_, T2700, L2700, X2700, hQ2700, st2700⟩ := own_cS X2695 hx hZ2690 hown2690 (ww25 hw) (ww26 hw) (ww27 hw) (ww28 hw) (rm3_4 l Z a0 hw b2690 0 bv2690 _ 7 k2690 p11 va19 67 h2695 n0 O2695 f2696 f2697 f2698 S_12 hk13 f2699 kll0_7 S_20 kll0_0 rfl ir_va19) e2695 pd_7 hml (hb hby at_100) (Ls := #[vI p1, vI p2, vI p3, vI p4, vI 3, vR a133, vR b2690, vI 7, vR b2695, .unset, .unset, .unset, .unset, .unset, .unset]) (W := 2) (argsL := [(.ref b2690), (.int 0)]) (rest := [(.int 0), (.ref b2695)])
  obtain ⟨i2701, u2702, rfl, u2704, u2705⟩ := hQ2700
  have N2700 := Fr.app N2691 u2704
  have pre2706 : oS p e below EN T2700 (mkF m 103 #[vI p1, vI p2, vI p3, vI p4, vI 3, vR a133, vR b2690, vI 7, vR b2695, .unset, .unset, .unset, .unset, .unset, .unset] [(.int i2701), (.int 0), (.ref b2695)]) := fun t kt => pre6 t (o_iand X0 hq at_2 (z := 3) hq5 (o_istore X0 hq at_3 rfl (o_iload X0 hq at_5 rfl (o_ifY X0 hq at_7 (pc := 7) (pc' := 16) (by decide +kernel) (o_iload X0 hq at_16 rfl (o_iconst X0 hq at_18 (x := 1) rfl (o_icmpY X0 hq at_19 (pc := 19) (pc' := 28) (by decide +kernel) (o_iload X0 hq at_28 rfl (o_iconst X0 hq at_30 (x := 2) rfl (o_icmpY X0 hq at_31 (pc := 31) (pc' := 40) (by decide +kernel) (st2689 _ (o_astore X2689 hq at_43 rfl rfl (o_iload X2689 hq at_45 rfl (o_ifY X2689 hq at_47 (pc := 47) (pc' := 55) (by decide +kernel) (o_iload X2689 hq at_55 rfl (o_iconst X2689 hq at_57 (x := 1) rfl (o_icmpY X2689 hq at_58 (pc := 58) (pc' := 66) (by decide +kernel) (o_iload X2689 hq at_66 rfl (o_iconst X2689 hq at_68 (x := 2) rfl (o_icmpY X2689 hq at_69 (pc := 69) (pc' := 77) (by decide +kernel) (st2690 _ (o_astore X2690 hq at_79 rfl rfl (o_aload X2690 hq at_81 rfl rfl (st2691 _ (o_istore X2691 hq at_86 rfl (o_bipush X2691 hq at_88 (x := 8) rfl (st2695 _ (o_astore X2695 hq at_92 rfl rfl (o_aload X2695 hq at_94 rfl rfl (o_iconst X2695 hq at_96 (x := 0) rfl (o_aload X2695 hq at_97 rfl rfl (o_iconst X2695 hq at_99 (x := 0) rfl (st2700 _ kt)))))))))))))))))))))))))))))))))
  obtain rfl : 67 = i2701 := (u2702.trans (by decide +kernel : ((67 : Int32) &&& (255 : Int32)) = (67 : Int32))).symm
  obtain ⟨T2707, h2707, X2707, e2707, W2707, V2707, st2707⟩ := own_stC X2700 hx hZ2690 u2705 V2695 1 0 67 67 0 knc67 (hb hby at_103) #[vI p1, vI p2, vI p3, vI p4, vI 3, vR a133, vR b2690, vI 7, vR b2695, .unset, .unset, .unset, .unset, .unset, .unset] [] (vs2 := [(.int 67)])
  have O2707 := O2695.wr W2707 g_b2695
  have ch2707 := CHr.wr W2707 (Safe.exa hZ2690.alike Ex2695 (by decide) (by decide)) CR2695.1
  have CR2707 := CR2695.trans ch2707
  have N2707 := Fr.snoc X2707 N2700 g_b2695
  have f2708 := (Exa.wr W2707 f2696)
  have f2709 := (Fld.other W2707 f2697 (Or.inl (own_n lta2690 bd_b2695)))
  have f2710 := (f2698.other W2707 (own_n ltb2690 bd_b2695))
  have f2711 := (Fld.other W2707 f2699 (Or.inl (own_n lta2690 bd_b2695)))
  obtain ⟨_, T2712, L2712, X2712, hQ2712, st2712⟩ := own_cS X2707 hx hZ2690 hown2690 (ww25 hw) (ww26 hw) (ww27 hw) (ww28 hw) (rm3_4 l Z a0 hw b2690 1 bv2690 _ 7 k2690 p11 va19 111 h2707 n0 O2707 f2708 f2709 f2710 S_12 hk13 f2711 kll1_7 S_20 kll1_0 rfl ir_va19) e2707 pd_7 hml (hb hby at_110) (Ls := #[vI p1, vI p2, vI p3, vI p4, vI 3, vR a133, vR b2690, vI 7, vR b2695, .unset, .unset, .unset, .unset, .unset, .unset]) (W := 2) (argsL := [(.ref b2690), (.int 1)]) (rest := [(.int 1), (.ref b2695)])
  obtain ⟨i2713, u2714, rfl, u2716, u2717⟩ := hQ2712
  have N2712 := Fr.app N2707 u2716
  have pre2718 : oS p e below EN T2712 (mkF m 113 #[vI p1, vI p2, vI p3, vI p4, vI 3, vR a133, vR b2690, vI 7, vR b2695, .unset, .unset, .unset, .unset, .unset, .unset] [(.int i2713), (.int 1), (.ref b2695)]) := fun t kt => pre2706 t (st2707 _ (o_aload X2707 hq at_104 rfl rfl (o_iconst X2707 hq at_106 (x := 1) rfl (o_aload X2707 hq at_107 rfl rfl (o_iconst X2707 hq at_109 (x := 1) rfl (st2712 _ kt))))))
  obtain rfl : 111 = i2713 := (u2714.trans (by decide +kernel : ((111 : Int32) &&& (255 : Int32)) = (111 : Int32))).symm
  have f2719 := (Exa.wr W2707 Ex2695)
  obtain ⟨T2720, h2720, X2720, e2720, W2720, V2720, st2720⟩ := own_stC X2712 hx hZ2690 u2717 V2707 1 1 111 111 1 knc111 (hb hby at_113) #[vI p1, vI p2, vI p3, vI p4, vI 3, vR a133, vR b2690, vI 7, vR b2695, .unset, .unset, .unset, .unset, .unset, .unset] [] (vs2 := [(.int 67), (.int 111)])
  have O2720 := O2707.wr W2720 g_b2695
  have ch2720 := CHr.wr W2720 (Safe.exa hZ2690.alike f2719 (by decide) (by decide)) CR2707.1
  have CR2720 := CR2707.trans ch2720
  have N2720 := Fr.snoc X2720 N2712 g_b2695
  have f2721 := (Exa.wr W2720 f2708)
  have f2722 := (Fld.other W2720 f2709 (Or.inl (own_n lta2690 bd_b2695)))
  have f2723 := (f2710.other W2720 (own_n ltb2690 bd_b2695))
  have f2724 := (Fld.other W2720 f2711 (Or.inl (own_n lta2690 bd_b2695)))
  obtain ⟨_, T2725, L2725, X2725, hQ2725, st2725⟩ := own_cS X2720 hx hZ2690 hown2690 (ww25 hw) (ww26 hw) (ww27 hw) (ww28 hw) (rm3_4 l Z a0 hw b2690 2 bv2690 _ 7 k2690 p11 va19 110 h2720 n0 O2720 f2721 f2722 f2723 S_12 hk13 f2724 kll2_7 S_20 kll2_0 rfl ir_va19) e2720 pd_7 hml (hb hby at_120) (Ls := #[vI p1, vI p2, vI p3, vI p4, vI 3, vR a133, vR b2690, vI 7, vR b2695, .unset, .unset, .unset, .unset, .unset, .unset]) (W := 2) (argsL := [(.ref b2690), (.int 2)]) (rest := [(.int 2), (.ref b2695)])
  obtain ⟨i2726, u2727, rfl, u2729, u2730⟩ := hQ2725
  have N2725 := Fr.app N2720 u2729
  have pre2731 : oS p e below EN T2725 (mkF m 123 #[vI p1, vI p2, vI p3, vI p4, vI 3, vR a133, vR b2690, vI 7, vR b2695, .unset, .unset, .unset, .unset, .unset, .unset] [(.int i2726), (.int 2), (.ref b2695)]) := fun t kt => pre2718 t (st2720 _ (o_aload X2720 hq at_114 rfl rfl (o_iconst X2720 hq at_116 (x := 2) rfl (o_aload X2720 hq at_117 rfl rfl (o_iconst X2720 hq at_119 (x := 2) rfl (st2725 _ kt))))))
  obtain rfl : 110 = i2726 := (u2727.trans (by decide +kernel : ((110 : Int32) &&& (255 : Int32)) = (110 : Int32))).symm
  have f2732 := (Exa.wr W2720 f2719)
  obtain ⟨T2733, h2733, X2733, e2733, W2733, V2733, st2733⟩ := own_stC X2725 hx hZ2690 u2730 V2720 1 2 110 110 2 knc110 (hb hby at_123) #[vI p1, vI p2, vI p3, vI p4, vI 3, vR a133, vR b2690, vI 7, vR b2695, .unset, .unset, .unset, .unset, .unset, .unset] [] (vs2 := [(.int 67), (.int 111), (.int 110)])
  have O2733 := O2720.wr W2733 g_b2695
  have ch2733 := CHr.wr W2733 (Safe.exa hZ2690.alike f2732 (by decide) (by decide)) CR2720.1
  have CR2733 := CR2720.trans ch2733
  have N2733 := Fr.snoc X2733 N2725 g_b2695
  have f2734 := (Exa.wr W2733 f2721)
  have f2735 := (Fld.other W2733 f2722 (Or.inl (own_n lta2690 bd_b2695)))
  have f2736 := (f2723.other W2733 (own_n ltb2690 bd_b2695))
  have f2737 := (Fld.other W2733 f2724 (Or.inl (own_n lta2690 bd_b2695)))
  obtain ⟨_, T2738, L2738, X2738, hQ2738, st2738⟩ := own_cS X2733 hx hZ2690 hown2690 (ww25 hw) (ww26 hw) (ww27 hw) (ww28 hw) (rm3_4 l Z a0 hw b2690 3 bv2690 _ 7 k2690 p11 va19 116 h2733 n0 O2733 f2734 f2735 f2736 S_12 hk13 f2737 kll3_7 S_20 kll3_0 rfl ir_va19) e2733 pd_7 hml (hb hby at_130) (Ls := #[vI p1, vI p2, vI p3, vI p4, vI 3, vR a133, vR b2690, vI 7, vR b2695, .unset, .unset, .unset, .unset, .unset, .unset]) (W := 2) (argsL := [(.ref b2690), (.int 3)]) (rest := [(.int 3), (.ref b2695)])
  obtain ⟨i2739, u2740, rfl, u2742, u2743⟩ := hQ2738
  have N2738 := Fr.app N2733 u2742
  have pre2744 : oS p e below EN T2738 (mkF m 133 #[vI p1, vI p2, vI p3, vI p4, vI 3, vR a133, vR b2690, vI 7, vR b2695, .unset, .unset, .unset, .unset, .unset, .unset] [(.int i2739), (.int 3), (.ref b2695)]) := fun t kt => pre2731 t (st2733 _ (o_aload X2733 hq at_124 rfl rfl (o_iconst X2733 hq at_126 (x := 3) rfl (o_aload X2733 hq at_127 rfl rfl (o_iconst X2733 hq at_129 (x := 3) rfl (st2738 _ kt))))))
  obtain rfl : 116 = i2739 := (u2740.trans (by decide +kernel : ((116 : Int32) &&& (255 : Int32)) = (116 : Int32))).symm
  have f2745 := (Exa.wr W2733 f2732)
  obtain ⟨T2746, h2746, X2746, e2746, W2746, V2746, st2746⟩ := own_stC X2738 hx hZ2690 u2743 V2733 1 3 116 116 3 knc116 (hb hby at_133) #[vI p1, vI p2, vI p3, vI p4, vI 3, vR a133, vR b2690, vI 7, vR b2695, .unset, .unset, .unset, .unset, .unset, .unset] [] (vs2 := [(.int 67), (.int 111), (.int 110), (.int 116)])
  have O2746 := O2733.wr W2746 g_b2695
  have ch2746 := CHr.wr W2746 (Safe.exa hZ2690.alike f2745 (by decide) (by decide)) CR2733.1
  have CR2746 := CR2733.trans ch2746
  have N2746 := Fr.snoc X2746 N2738 g_b2695
  have f2747 := (Exa.wr W2746 f2734)
  have f2748 := (Fld.other W2746 f2735 (Or.inl (own_n lta2690 bd_b2695)))
  have f2749 := (f2736.other W2746 (own_n ltb2690 bd_b2695))
  have f2750 := (Fld.other W2746 f2737 (Or.inl (own_n lta2690 bd_b2695)))
  obtain ⟨_, T2751, L2751, X2751, hQ2751, st2751⟩ := own_cS X2746 hx hZ2690 hown2690 (ww25 hw) (ww26 hw) (ww27 hw) (ww28 hw) (rm3_4 l Z a0 hw b2690 4 bv2690 _ 7 k2690 p11 va19 114 h2746 n0 O2746 f2747 f2748 f2749 S_12 hk13 f2750 kll4_7 S_20 kll4_0 rfl ir_va19) e2746 pd_7 hml (hb hby at_140) (Ls := #[vI p1, vI p2, vI p3, vI p4, vI 3, vR a133, vR b2690, vI 7, vR b2695, .unset, .unset, .unset, .unset, .unset, .unset]) (W := 2) (argsL := [(.ref b2690), (.int 4)]) (rest := [(.int 4), (.ref b2695)])
  obtain ⟨i2752, u2753, rfl, u2755, u2756⟩ := hQ2751
  have N2751 := Fr.app N2746 u2755
  have pre2757 : oS p e below EN T2751 (mkF m 143 #[vI p1, vI p2, vI p3, vI p4, vI 3, vR a133, vR b2690, vI 7, vR b2695, .unset, .unset, .unset, .unset, .unset, .unset] [(.int i2752), (.int 4), (.ref b2695)]) := fun t kt => pre2744 t (st2746 _ (o_aload X2746 hq at_134 rfl rfl (o_iconst X2746 hq at_136 (x := 4) rfl (o_aload X2746 hq at_137 rfl rfl (o_iconst X2746 hq at_139 (x := 4) rfl (st2751 _ kt))))))
  obtain rfl : 114 = i2752 := (u2753.trans (by decide +kernel : ((114 : Int32) &&& (255 : Int32)) = (114 : Int32))).symm
  have f2758 := (Exa.wr W2746 f2745)
  obtain ⟨T2759, h2759, X2759, e2759, W2759, V2759, st2759⟩ := own_stC X2751 hx hZ2690 u2756 V2746 1 4 114 114 4 knc114 (hb hby at_143) #[vI p1, vI p2, vI p3, vI p4, vI 3, vR a133, vR b2690, vI 7, vR b2695, .unset, .unset, .unset, .unset, .unset, .unset] [] (vs2 := [(.int 67), (.int 111), (.int 110), (.int 116), (.int 114)])
  have O2759 := O2746.wr W2759 g_b2695
  have ch2759 := CHr.wr W2759 (Safe.exa hZ2690.alike f2758 (by decide) (by decide)) CR2746.1
  have CR2759 := CR2746.trans ch2759
  have N2759 := Fr.snoc X2759 N2751 g_b2695
  have f2760 := (Exa.wr W2759 f2747)
  have f2761 := (Fld.other W2759 f2748 (Or.inl (own_n lta2690 bd_b2695)))
  have f2762 := (f2749.other W2759 (own_n ltb2690 bd_b2695))
  have f2763 := (Fld.other W2759 f2750 (Or.inl (own_n lta2690 bd_b2695)))
  obtain ⟨_, T2764, L2764, X2764, hQ2764, st2764⟩ := own_cS X2759 hx hZ2690 hown2690 (ww25 hw) (ww26 hw) (ww27 hw) (ww28 hw) (rm3_4 l Z a0 hw b2690 5 bv2690 _ 7 k2690 p11 va19 111 h2759 n0 O2759 f2760 f2761 f2762 S_12 hk13 f2763 kll5_7 S_20 kll5_0 rfl ir_va19) e2759 pd_7 hml (hb hby at_150) (Ls := #[vI p1, vI p2, vI p3, vI p4, vI 3, vR a133, vR b2690, vI 7, vR b2695, .unset, .unset, .unset, .unset, .unset, .unset]) (W := 2) (argsL := [(.ref b2690), (.int 5)]) (rest := [(.int 5), (.ref b2695)])
  obtain ⟨i2765, u2766, rfl, u2768, u2769⟩ := hQ2764
  have N2764 := Fr.app N2759 u2768
  have pre2770 : oS p e below EN T2764 (mkF m 153 #[vI p1, vI p2, vI p3, vI p4, vI 3, vR a133, vR b2690, vI 7, vR b2695, .unset, .unset, .unset, .unset, .unset, .unset] [(.int i2765), (.int 5), (.ref b2695)]) := fun t kt => pre2757 t (st2759 _ (o_aload X2759 hq at_144 rfl rfl (o_iconst X2759 hq at_146 (x := 5) rfl (o_aload X2759 hq at_147 rfl rfl (o_iconst X2759 hq at_149 (x := 5) rfl (st2764 _ kt))))))
  obtain rfl : 111 = i2765 := (u2766.trans (by decide +kernel : ((111 : Int32) &&& (255 : Int32)) = (111 : Int32))).symm
  have f2771 := (Exa.wr W2759 f2758)
  obtain ⟨T2772, h2772, X2772, e2772, W2772, V2772, st2772⟩ := own_stC X2764 hx hZ2690 u2769 V2759 1 5 111 111 5 knc111 (hb hby at_153) #[vI p1, vI p2, vI p3, vI p4, vI 3, vR a133, vR b2690, vI 7, vR b2695, .unset, .unset, .unset, .unset, .unset, .unset] [] (vs2 := [(.int 67), (.int 111), (.int 110), (.int 116), (.int 114), (.int 111)])
  have O2772 := O2759.wr W2772 g_b2695
  have ch2772 := CHr.wr W2772 (Safe.exa hZ2690.alike f2771 (by decide) (by decide)) CR2759.1
  have CR2772 := CR2759.trans ch2772
  have N2772 := Fr.snoc X2772 N2764 g_b2695
  have f2773 := (Exa.wr W2772 f2760)
  have f2774 := (Fld.other W2772 f2761 (Or.inl (own_n lta2690 bd_b2695)))
  have f2775 := (f2762.other W2772 (own_n ltb2690 bd_b2695))
  have f2776 := (Fld.other W2772 f2763 (Or.inl (own_n lta2690 bd_b2695)))
  obtain ⟨_, T2777, L2777, X2777, hQ2777, st2777⟩ := own_cS X2772 hx hZ2690 hown2690 (ww25 hw) (ww26 hw) (ww27 hw) (ww28 hw) (rm3_4 l Z a0 hw b2690 6 bv2690 _ 7 k2690 p11 va19 108 h2772 n0 O2772 f2773 f2774 f2775 S_12 hk13 f2776 kll6_7 S_20 kll6_0 rfl ir_va19) e2772 pd_7 hml (hb hby at_162) (Ls := #[vI p1, vI p2, vI p3, vI p4, vI 3, vR a133, vR b2690, vI 7, vR b2695, .unset, .unset, .unset, .unset, .unset, .unset]) (W := 2) (argsL := [(.ref b2690), (.int 6)]) (rest := [(.int 6), (.ref b2695)])
  obtain ⟨i2778, u2779, rfl, u2781, u2782⟩ := hQ2777
  have N2777 := Fr.app N2772 u2781
  have pre2783 : oS p e below EN T2777 (mkF m 165 #[vI p1, vI p2, vI p3, vI p4, vI 3, vR a133, vR b2690, vI 7, vR b2695, .unset, .unset, .unset, .unset, .unset, .unset] [(.int i2778), (.int 6), (.ref b2695)]) := fun t kt => pre2770 t (st2772 _ (o_aload X2772 hq at_154 rfl rfl (o_bipush X2772 hq at_156 (x := 6) rfl (o_aload X2772 hq at_158 rfl rfl (o_bipush X2772 hq at_160 (x := 6) rfl (st2777 _ kt))))))
  obtain rfl : 108 = i2778 := (u2779.trans (by decide +kernel : ((108 : Int32) &&& (255 : Int32)) = (108 : Int32))).symm
  have f2784 := (Exa.wr W2772 f2771)
  obtain ⟨T2785, h2785, X2785, e2785, W2785, V2785, st2785⟩ := own_stC X2777 hx hZ2690 u2782 V2772 1 6 108 108 6 knc108 (hb hby at_165) #[vI p1, vI p2, vI p3, vI p4, vI 3, vR a133, vR b2690, vI 7, vR b2695, .unset, .unset, .unset, .unset, .unset, .unset] [] (vs2 := [(.int 67), (.int 111), (.int 110), (.int 116), (.int 114), (.int 111), (.int 108)])
  have O2785 := O2772.wr W2785 g_b2695
  have ch2785 := CHr.wr W2785 (Safe.exa hZ2690.alike f2784 (by decide) (by decide)) CR2772.1
  have CR2785 := CR2772.trans ch2785
  have N2785 := Fr.snoc X2785 N2777 g_b2695
  have f2786 := (Exa.wr W2785 f2773)
  have f2787 := (Fld.other W2785 f2774 (Or.inl (own_n lta2690 bd_b2695)))
  have f2788 := (f2775.other W2785 (own_n ltb2690 bd_b2695))
  have f2789 := (Fld.other W2785 f2776 (Or.inl (own_n lta2690 bd_b2695)))
  obtain ⟨_, T2790, L2790, X2790, hQ2790, st2790⟩ := own_cS X2785 hx hZ2690 hown2690 (ww25 hw) (ww26 hw) (ww27 hw) (ww28 hw) (rm3_10 l Z a0 hw b2690 7 bv2690 _ 7 k2690 p11 h2785 n0 O2785 f2786 f2787 f2788 S_12 hk13 f2789 kll7_7) e2785 pd_7 hml (hb hby at_174) (Ls := #[vI p1, vI p2, vI p3, vI p4, vI 3, vR a133, vR b2690, vI 7, vR b2695, .unset, .unset, .unset, .unset, .unset, .unset]) (W := 2) (argsL := [(.ref b2690), (.int 7)]) (rest := [(.int 7), (.ref b2695)])
  obtain ⟨rfl, u2792, u2793⟩ := hQ2790
  have N2790 := Fr.app N2785 u2792
  have f2794 := (Exa.wr W2785 f2784)
  obtain ⟨T2795, h2795, X2795, e2795, W2795, V2795, st2795⟩ := own_stC X2790 hx hZ2690 u2793 V2785 1 7 0 0 7 knc0 (hb hby at_177) #[vI p1, vI p2, vI p3, vI p4, vI 3, vR a133, vR b2690, vI 7, vR b2695, .unset, .unset, .unset, .unset, .unset, .unset] [] (vs2 := [(.int 67), (.int 111), (.int 110), (.int 116), (.int 114), (.int 111), (.int 108), (.int 0)])
  have O2795 := O2785.wr W2795 g_b2695
  have ch2795 := CHr.wr W2795 (Safe.exa hZ2690.alike f2794 (by decide) (by decide)) CR2785.1
  have CR2795 := CR2785.trans ch2795
  have N2795 := Fr.snoc X2795 N2790 g_b2695
  have pre2796 : oS p e below EN T2795 (mkF m 178 #[vI p1, vI p2, vI p3, vI p4, vI 3, vR a133, vR b2690, vI 7, vR b2695, .unset, .unset, .unset, .unset, .unset, .unset] []) := fun t kt => pre2783 t (st2785 _ (o_aload X2785 hq at_166 rfl rfl (o_bipush X2785 hq at_168 (x := 7) rfl (o_aload X2785 hq at_170 rfl rfl (o_bipush X2785 hq at_172 (x := 7) rfl (st2790 _ (st2795 _ kt)))))))
  have hz2797 := (Nat.le_trans (Nat.le_trans (Nat.le_trans (Nat.le_trans (Nat.le_trans (Nat.le_trans (Nat.le_trans (Nat.le_trans (Nat.le_trans hk2690 E2695.1) (Keep.of_wr W2707).1) (Keep.of_wr W2720).1) (Keep.of_wr W2733).1) (Keep.of_wr W2746).1) (Keep.of_wr W2759).1) (Keep.of_wr W2772).1) (Keep.of_wr W2785).1) (Keep.of_wr W2795).1)
  have lt2803 : b2695 < h2795.size := (own_t (own_t (own_t (own_t (own_t (own_t (own_t (own_t lt_b2695 (Keep.of_wr W2707).1) (Keep.of_wr W2720).1) (Keep.of_wr W2733).1) (Keep.of_wr W2746).1) (Keep.of_wr W2759).1) (Keep.of_wr W2772).1) (Keep.of_wr W2785).1) (Keep.of_wr W2795).1)
  have lt2804 : a120 < h2795.size := (own_t (own_t (own_t (own_t (own_t (own_t (own_t (own_t (own_t (own_t lt_a120 E2690.1) E2695.1) (Keep.of_wr W2707).1) (Keep.of_wr W2720).1) (Keep.of_wr W2733).1) (Keep.of_wr W2746).1) (Keep.of_wr W2759).1) (Keep.of_wr W2772).1) (Keep.of_wr W2785).1) (Keep.of_wr W2795).1)
  have lt2805 : a125 < h2795.size := (own_t (own_t (own_t (own_t (own_t (own_t (own_t (own_t (own_t (own_t lt_a125 E2690.1) E2695.1) (Keep.of_wr W2707).1) (Keep.of_wr W2720).1) (Keep.of_wr W2733).1) (Keep.of_wr W2746).1) (Keep.of_wr W2759).1) (Keep.of_wr W2772).1) (Keep.of_wr W2785).1) (Keep.of_wr W2795).1)
  have lt2806 : a130 < h2795.size := (own_t (own_t (own_t (own_t (own_t (own_t (own_t (own_t (own_t (own_t lt_a130 E2690.1) E2695.1) (Keep.of_wr W2707).1) (Keep.of_wr W2720).1) (Keep.of_wr W2733).1) (Keep.of_wr W2746).1) (Keep.of_wr W2759).1) (Keep.of_wr W2772).1) (Keep.of_wr W2785).1) (Keep.of_wr W2795).1)
  have lt2807 : a135 < h2795.size := (own_t (own_t (own_t (own_t (own_t (own_t (own_t (own_t (own_t (own_t lt_a135 E2690.1) E2695.1) (Keep.of_wr W2707).1) (Keep.of_wr W2720).1) (Keep.of_wr W2733).1) (Keep.of_wr W2746).1) (Keep.of_wr W2759).1) (Keep.of_wr W2772).1) (Keep.of_wr W2785).1) (Keep.of_wr W2795).1)
  obtain ⟨i2808, hi2808⟩ : ∃ z, z = (p2 &&& (3 : Int32)) := ⟨_, rfl⟩
  obtain ⟨i2809, hi2809⟩ : ∃ z, z = (p3 &&& (2147483647 : Int32)) := ⟨_, rfl⟩
  obtain ⟨i2810, hi2810⟩ : ∃ z, z = (i2809 % (7 : Int32)) := ⟨_, rfl⟩
  obtain ⟨i2811, hi2811⟩ : ∃ z, z = (p4 &&& (255 : Int32)) := ⟨_, rfl⟩
  have pre2812 : oS p e below EN T2795 (mkF m 204 #[vI p1, vI p2, vI p3, vI p4, vI 3, vR a133, vR b2690, vI 7, vR b2695, vI i2808, vI i2810, vI i2811, vI 7, .unset, .unset] []) := fun t kt => pre2796 t (o_iloadN X2795 hq at_178 rfl (o_iconst X2795 hq at_179 (x := 3) rfl (o_iand X2795 hq at_180 (z := i2808) hi2808.symm (o_istore X2795 hq at_181 rfl (o_iloadN X2795 hq at_183 rfl (X2795.ldcInt hx hown2690 (mvT hZ2690 (ww51 hw)) (g := (mkF m 184 #[vI p1, vI p2, vI p3, vI p4, vI 3, vR a133, vR b2690, vI 7, vR b2695, vI i2808, .unset, .unset, .unset, .unset, .unset] [(.int p3)])) rfl (hb hby at_184) _ (o_iand X2795 hq at_186 (z := i2809) hi2809.symm (o_iload X2795 hq at_187 rfl (o_irem X2795 hq at_189 kle7_0 (z := i2810) hi2810.symm (o_istore X2795 hq at_190 rfl (o_iloadN X2795 hq at_192 rfl (o_sipush X2795 hq at_193 (x := 255) rfl (o_iand X2795 hq at_196 (z := i2811) hi2811.symm (o_i2c X2795 hq at_197 (z := i2811) (own_i2c255 hi2811) (o_istore X2795 hq at_198 rfl (o_iload X2795 hq at_200 rfl (o_istore X2795 hq at_202 rfl kt)))))))))))))))))
  rcases (hi2808 ▸ own_and3 p2 : i2808 = 0 ∨ i2808 = 1 ∨ i2808 = 2 ∨ i2808 = 3) with hq2813 | hq2813 | hq2813 | hq2813
  ·
   subst hq2813
   obtain ⟨_, T2814, L2814, X2814, hQ2814, st2814⟩ := own_cS X2795 hx hZ2690 hown2690 (ww52 hw) (ww53 hw) (ww27 hw) (ww54 hw) (rm9_73 l Z a0 hw b2695 67 111 110 116 114 111 108 0 k2695 p11 h2795 n0 O2795 V2795 kll255_67 kll67_0 lt2803 kll255_111 kll111_0 kll255_110 kll110_0 kll255_116 kll116_0 kll255_114 kll114_0 kll255_111 kll111_0 kll255_108 kll108_0 S_12 hk13) e2795 pd_13 hml (hb hby at_284) (Ls := (oL p1 p2 p3 p4 3 a133 b2690 7 b2695 0 i2810 i2811 7 1)) (W := 0) (argsL := [(.ref b2695), (.int 7)]) (rest := [])
   obtain ⟨i2815, i2816, i2817, i2818, i2819, i2820, i2821, b2822, b2823, k2824, u2825, u2826, u2827, u2828, u2829, u2830, u2831, rfl, u2833, u2834, u2835, u2836, u2837, u2838, Ku2839, u2840, u2841, u2842, u2843, u2844⟩ := hQ2814
   have Ou2839 := O2795.keep Ku2839 all0
   have N2814 := Fr.app N2795 u2833
   have pre2845 : oS p e below EN T2814 (mkF m 287 (oL p1 p2 p3 p4 3 a133 b2690 7 b2695 0 i2810 i2811 7 1) [(.ref b2822)]) := fun t kt => pre2812 t (o_iload X2795 hq at_204 rfl (o_ifN X2795 hq at_206 (by decide +kernel) (o_iconst X2795 hq at_209 (x := 1) rfl (o_istore X2795 hq at_210 rfl (o_goto X2795 hq at_212 (pc := 212) (pc' := 280) (o_aload X2795 hq at_280 rfl rfl (o_iload X2795 hq at_282 rfl (st2814 _ kt))))))))
   obtain rfl := kb67 u2825
   obtain rfl := kb111 u2826
   obtain rfl := kb110 u2827
   obtain rfl := kb116 u2828
   obtain rfl := kb114 u2829
   obtain rfl := kb111 u2830
   obtain rfl := kb108 u2831
   obtain ⟨_, T2846, L2846, X2846, hQ2846, st2846⟩ := own_cS X2814 hx hZ2690 hown2690 (ww76 hw) (ww77 hw) (ww1 hw) (ww78 hw) (rm16_79 l Z a0 hw b2822 a170 b2823 a7 a123 a128 a133 k172 a120 p11 a177 k179 67 111 110 116 114 111 108 k2824 a125 a183 k185 a130 a189 k191 a135 a195 k197 a199 T2814.heap n0 Ou2839 S_171 u2842 V173 E_174 F121 E_175 (own_n lt2804 u2834) u2840 S_12 hk13 F176 u2841 F178 V180 u2844 F126 E_181 (own_n lt2805 u2834) F182 F184 V186 F131 E_187 (own_n lt2806 u2834) F188 F190 V192 F136 E_193 (own_n lt2807 u2834) F194 F196 V198 S_200) rfl pd_21 hml (hb hby at_287) (Ls := (oL p1 p2 p3 p4 3 a133 b2690 7 b2695 0 i2810 i2811 7 1)) (W := 0) (argsL := [(.ref b2822)]) (rest := [])
   rcases hQ2846 with ⟨b2847, u2848, u2849, u2850, u2851, u2852, u2853, u2854, rfl, u2856, u2857, u2858, Ku2859, u2860, u2861⟩ | ⟨u2862, rfl, u2864, Ku2865⟩
   ·
    have Ou2859 := Ou2839.keep Ku2859 all0
    have N2846 := Fr.app N2814 u2856
    obtain ⟨T2866, L2866, X2866, u2866, e2866, st2866⟩ := own_tP hw X2846 hx hby hml hZ2690 hown2690 Ou2859 u2860 u2861 (oL p1 p2 p3 p4 3 a133 b2690 7 b2695 0 i2810 i2811 7 1) rfl
    have N2866 := Fr.app N2846 u2866
    refine fin (some (.int 1)) _ _ _ _ T2690.vm _ X2866 hS2690 (by rw [e2866]; exact (Nat.le_trans (Nat.le_trans hz2797 Ku2839.1) Ku2859.1)) nofun (fun fs hr => pre2845 _ ?_) (own_atH e2866 ?_) (by decide) (by decide)
    ·
     refine st2846 _ (st2866 _ ?_)
     exact retN X2866 hx (t := .boolean) hret (by simp) (hb hby at_326) hr
    ·
     exact ⟨rfl, N2866⟩
   ·
    exact absurd ⟨kle67_67, kle111_111, kle110_110, kle116_116, kle114_114, kle111_111, kle108_108⟩ u2862
  ·
   subst hq2813
   have pre2867 : oS p e below EN T2795 (mkF m 227 #[vI p1, vI p2, vI p3, vI p4, vI 3, vR a133, vR b2690, vI 7, vR b2695, vI 1, vI i2810, vI i2811, vI 7, .unset, .unset] [(.int i2810), (.ref b2695), (.int i2811)]) := fun t kt => pre2812 t (o_iload X2795 hq at_204 rfl (o_ifY X2795 hq at_206 (pc := 206) (pc' := 215) (by decide +kernel) (o_iload X2795 hq at_215 rfl (o_iconst X2795 hq at_217 (x := 1) rfl (o_icmpN X2795 hq at_218 (by decide +kernel) (o_iload X2795 hq at_221 rfl (o_aload X2795 hq at_223 rfl rfl (o_iload X2795 hq at_225 rfl kt))))))))
   rcases (hi2810 ▸ own_mod7 hi2809 : i2810 = 0 ∨ i2810 = 1 ∨ i2810 = 2 ∨ i2810 = 3 ∨ i2810 = 4 ∨ i2810 = 5 ∨ i2810 = 6) with hq2868 | hq2868 | hq2868 | hq2868 | hq2868 | hq2868 | hq2868
   ·
    subst hq2868
    have pre2870 : oS p e below EN T2795 (mkF m 228 #[vI p1, vI p2, vI p3, vI p4, vI 3, vR a133, vR b2690, vI 7, vR b2695, vI 1, vI 0, vI i2811, vI 7, .unset, .unset] [(.int 67), (.int i2811)]) := fun t kt => pre2867 t (o_caload X2795 hq at_227 hZ2690 e2795 V2795 (i := 0) (v := .int 67) (by decide +kernel) rfl kt)
    by_cases hc2871 : i2811 = 67
    ·
     subst hc2871
     obtain ⟨T2873, h2873, X2873, e2873, W2873, V2873, st2873⟩ := own_stC X2795 hx hZ2690 e2795 V2795 0 0 67 67 0 knc67 (hb hby at_244) (oL p1 p2 p3 p4 3 a133 b2690 7 b2695 1 0 67 7 1) [] (vs2 := [(.int 67), (.int 111), (.int 110), (.int 116), (.int 114), (.int 111), (.int 108), (.int 0)])
     have O2873 := O2795.wr W2873 g_b2695
     have N2873 := Fr.snoc X2873 N2795 g_b2695
     obtain ⟨_, T2874, L2874, X2874, hQ2874, st2874⟩ := own_cS X2873 hx hZ2690 hown2690 (ww52 hw) (ww53 hw) (ww27 hw) (ww54 hw) (rm9_73 l Z a0 hw b2695 67 111 110 116 114 111 108 0 k2695 p11 h2873 n0 O2873 V2873 kll255_67 kll67_0 (own_t lt2803 (Keep.of_wr W2873).1) kll255_111 kll111_0 kll255_110 kll110_0 kll255_116 kll116_0 kll255_114 kll114_0 kll255_111 kll111_0 kll255_108 kll108_0 S_12 hk13) e2873 pd_13 hml (hb hby at_284) (Ls := (oL p1 p2 p3 p4 3 a133 b2690 7 b2695 1 0 67 7 1)) (W := 0) (argsL := [(.ref b2695), (.int 7)]) (rest := [])
     obtain ⟨i2875, i2876, i2877, i2878, i2879, i2880, i2881, b2882, b2883, k2884, u2885, u2886, u2887, u2888, u2889, u2890, u2891, rfl, u2893, u2894, u2895, u2896, u2897, u2898, Ku2899, u2900, u2901, u2902, u2903, u2904⟩ := hQ2874
     have Ou2899 := O2873.keep Ku2899 all0
     have N2874 := Fr.app N2873 u2893
     have pre2905 : oS p e below EN T2874 (mkF m 287 (oL p1 p2 p3 p4 3 a133 b2690 7 b2695 1 0 67 7 1) [(.ref b2882)]) := fun t kt => pre2870 t (o_icmpN X2795 hq at_228 (by decide +kernel) (o_iconst X2795 hq at_231 (x := 1) rfl (o_goto X2795 hq at_232 (pc := 232) (pc' := 236) (o_istore X2795 hq at_236 rfl (o_aload X2795 hq at_238 rfl rfl (o_iload X2795 hq at_240 rfl (o_iload X2795 hq at_242 rfl (st2873 _ (o_goto X2873 hq at_245 (pc := 245) (pc' := 280) (o_aload X2873 hq at_280 rfl rfl (o_iload X2873 hq at_282 rfl (st2874 _ kt))))))))))))
     obtain rfl := kb67 u2885
     obtain rfl := kb111 u2886
     obtain rfl := kb110 u2887
     obtain rfl := kb116 u2888
     obtain rfl := kb114 u2889
     obtain rfl := kb111 u2890
     obtain rfl := kb108 u2891
     obtain ⟨_, T2906, L2906, X2906, hQ2906, st2906⟩ := own_cS X2874 hx hZ2690 hown2690 (ww76 hw) (ww77 hw) (ww1 hw) (ww78 hw) (rm16_79 l Z a0 hw b2882 a170 b2883 a7 a123 a128 a133 k172 a120 p11 a177 k179 67 111 110 116 114 111 108 k2884 a125 a183 k185 a130 a189 k191 a135 a195 k197 a199 T2874.heap n0 Ou2899 S_171 u2902 V173 E_174 F121 E_175 (own_n (own_t lt2804 (Keep.of_wr W2873).1) u2894) u2900 S_12 hk13 F176 u2901 F178 V180 u2904 F126 E_181 (own_n (own_t lt2805 (Keep.of_wr W2873).1) u2894) F182 F184 V186 F131 E_187 (own_n (own_t lt2806 (Keep.of_wr W2873).1) u2894) F188 F190 V192 F136 E_193 (own_n (own_t lt2807 (Keep.of_wr W2873).1) u2894) F194 F196 V198 S_200) rfl pd_21 hml (hb hby at_287) (Ls := (oL p1 p2 p3 p4 3 a133 b2690 7 b2695 1 0 67 7 1)) (W := 0) (argsL := [(.ref b2882)]) (rest := [])
     rcases hQ2906 with ⟨b2907, u2908, u2909, u2910, u2911, u2912, u2913, u2914, rfl, u2916, u2917, u2918, Ku2919, u2920, u2921⟩ | ⟨u2922, rfl, u2924, Ku2925⟩
     ·
      have Ou2919 := Ou2899.keep Ku2919 all0
      have N2906 := Fr.app N2874 u2916
      obtain ⟨T2926, L2926, X2926, u2926, e2926, st2926⟩ := own_tP hw X2906 hx hby hml hZ2690 hown2690 Ou2919 u2920 u2921 (oL p1 p2 p3 p4 3 a133 b2690 7 b2695 1 0 67 7 1) rfl
      have N2926 := Fr.app N2906 u2926
      refine fin (some (.int 1)) _ _ _ _ T2690.vm _ X2926 hS2690 (by rw [e2926]; exact (Nat.le_trans (Nat.le_trans (Nat.le_trans hz2797 (Keep.of_wr W2873).1) Ku2899.1) Ku2919.1)) nofun (fun fs hr => pre2905 _ ?_) (own_atH e2926 ?_) (by decide) (by decide)
      ·
       refine st2906 _ (st2926 _ ?_)
       exact retN X2926 hx (t := .boolean) hret (by simp) (hb hby at_326) hr
      ·
       exact ⟨rfl, N2926⟩
     ·
      exact absurd ⟨kle67_67, kle111_111, kle110_110, kle116_116, kle114_114, kle111_111, kle108_108⟩ u2922
    ·
     obtain ⟨T2928, h2928, X2928, e2928, W2928, V2928, st2928⟩ := own_stC X2795 hx hZ2690 e2795 V2795 0 0 i2811 i2811 0 (own_nar255 hi2811) (hb hby at_244) (oL p1 p2 p3 p4 3 a133 b2690 7 b2695 1 0 i2811 7 0) [] (vs2 := [(.int i2811), (.int 111), (.int 110), (.int 116), (.int 114), (.int 111), (.int 108), (.int 0)])
     have O2928 := O2795.wr W2928 g_b2695
     have N2928 := Fr.snoc X2928 N2795 g_b2695
     obtain ⟨_, T2929, L2929, X2929, hQ2929, st2929⟩ := own_cS X2928 hx hZ2690 hown2690 (ww52 hw) (ww53 hw) (ww27 hw) (ww54 hw) (rm9_73 l Z a0 hw b2695 i2811 111 110 116 114 111 108 0 k2695 p11 h2928 n0 O2928 V2928 (own_lt255 hi2811) (own_nn hi2811) (own_t lt2803 (Keep.of_wr W2928).1) kll255_111 kll111_0 kll255_110 kll110_0 kll255_116 kll116_0 kll255_114 kll114_0 kll255_111 kll111_0 kll255_108 kll108_0 S_12 hk13) e2928 pd_13 hml (hb hby at_284) (Ls := (oL p1 p2 p3 p4 3 a133 b2690 7 b2695 1 0 i2811 7 0)) (W := 0) (argsL := [(.ref b2695), (.int 7)]) (rest := [])
     obtain ⟨i2930, i2931, i2932, i2933, i2934, i2935, i2936, b2937, b2938, k2939, u2940, u2941, u2942, u2943, u2944, u2945, u2946, rfl, u2948, u2949, u2950, u2951, u2952, u2953, Ku2954, u2955, u2956, u2957, u2958, u2959⟩ := hQ2929
     have Ou2954 := O2928.keep Ku2954 all0
     have N2929 := Fr.app N2928 u2948
     have pre2960 : oS p e below EN T2929 (mkF m 287 (oL p1 p2 p3 p4 3 a133 b2690 7 b2695 1 0 i2811 7 0) [(.ref b2937)]) := fun t kt => pre2870 t (o_icmpY X2795 hq at_228 (pc := 228) (pc' := 235) (feq hc2871).2 (o_iconst X2795 hq at_235 (x := 0) rfl (o_istore X2795 hq at_236 rfl (o_aload X2795 hq at_238 rfl rfl (o_iload X2795 hq at_240 rfl (o_iload X2795 hq at_242 rfl (st2928 _ (o_goto X2928 hq at_245 (pc := 245) (pc' := 280) (o_aload X2928 hq at_280 rfl rfl (o_iload X2928 hq at_282 rfl (st2929 _ kt)))))))))))
     obtain rfl := kb111 u2941
     obtain rfl := kb110 u2942
     obtain rfl := kb116 u2943
     obtain rfl := kb114 u2944
     obtain rfl := kb111 u2945
     obtain rfl := kb108 u2946
     obtain ⟨_, T2961, L2961, X2961, hQ2961, st2961⟩ := own_cS X2929 hx hZ2690 hown2690 (ww76 hw) (ww77 hw) (ww1 hw) (ww78 hw) (rm16_79 l Z a0 hw b2937 a170 b2938 a7 a123 a128 a133 k172 a120 p11 a177 k179 i2930 111 110 116 114 111 108 k2939 a125 a183 k185 a130 a189 k191 a135 a195 k197 a199 T2929.heap n0 Ou2954 S_171 u2957 V173 E_174 F121 E_175 (own_n (own_t lt2804 (Keep.of_wr W2928).1) u2949) u2955 S_12 hk13 F176 u2956 F178 V180 u2959 F126 E_181 (own_n (own_t lt2805 (Keep.of_wr W2928).1) u2949) F182 F184 V186 F131 E_187 (own_n (own_t lt2806 (Keep.of_wr W2928).1) u2949) F188 F190 V192 F136 E_193 (own_n (own_t lt2807 (Keep.of_wr W2928).1) u2949) F194 F196 V198 S_200) rfl pd_21 hml (hb hby at_287) (Ls := (oL p1 p2 p3 p4 3 a133 b2690 7 b2695 1 0 i2811 7 0)) (W := 0) (argsL := [(.ref b2937)]) (rest := [])
     rcases hQ2961 with ⟨b2962, u2963, u2964, u2965, u2966, u2967, u2968, u2969, rfl, u2971, u2972, u2973, Ku2974, u2975, u2976⟩ | ⟨u2977, rfl, u2979, Ku2980⟩
     ·
      exact absurd u2963 (fun q => (own_bnl (c := (67 : Int32)) u2940 hi2811 (by decide +kernel) hc2871 : ¬ i2930 = 67) q.symm)
     ·
      have Ou2980 := Ou2954.keep Ku2980 all0
      have N2961 := Fr.app N2929 u2979
      obtain ⟨T2981, L2981, X2981, u2981, e2981, st2981⟩ := own_tE hw X2961 hx hby hml hZ2690 hown2690 Ou2980 E_315 F316 (oL p1 p2 p3 p4 3 a133 b2690 7 b2695 1 0 i2811 7 0) rfl
      have N2981 := Fr.app N2961 u2981
      refine fin (some (.int 1)) _ _ _ _ T2690.vm _ X2981 hS2690 (by rw [e2981]; exact (Nat.le_trans (Nat.le_trans (Nat.le_trans hz2797 (Keep.of_wr W2928).1) Ku2954.1) Ku2980.1)) nofun (fun fs hr => pre2960 _ ?_) (own_atH e2981 ?_) (by decide) (by decide)
      ·
       refine st2961 _ (st2981 _ ?_)
       exact retN X2981 hx (t := .boolean) hret (by simp) (hb hby at_302) hr
      ·
       exact ⟨rfl, N2981⟩
   ·
    subst hq2868
    have pre2983 : oS p e below EN T2795 (mkF m 228 #[vI p1, vI p2, vI p3, vI p4, vI 3, vR a133, vR b2690, vI 7, vR b2695, vI 1, vI 1, vI i2811, vI 7, .unset, .unset] [(.int 111), (.int i2811)]) := fun t kt => pre2867 t (o_caload X2795 hq at_227 hZ2690 e2795 V2795 (i := 1) (v := .int 111) (by decide +kernel) rfl kt)
    by_cases hc2984 : i2811 = 111
    ·
     subst hc2984
     obtain ⟨T2986, h2986, X2986, e2986, W2986, V2986, st2986⟩ := own_stC X2795 hx hZ2690 e2795 V2795 0 1 111 111 1 knc111 (hb hby at_244) (oL p1 p2 p3 p4 3 a133 b2690 7 b2695 1 1 111 7 1) [] (vs2 := [(.int 67), (.int 111), (.int 110), (.int 116), (.int 114), (.int 111), (.int 108), (.int 0)])
     have O2986 := O2795.wr W2986 g_b2695
     have N2986 := Fr.snoc X2986 N2795 g_b2695
     obtain ⟨_, T2987, L2987, X2987, hQ2987, st2987⟩ := own_cS X2986 hx hZ2690 hown2690 (ww52 hw) (ww53 hw) (ww27 hw) (ww54 hw) (rm9_73 l Z a0 hw b2695 67 111 110 116 114 111 108 0 k2695 p11 h2986 n0 O2986 V2986 kll255_67 kll67_0 (own_t lt2803 (Keep.of_wr W2986).1) kll255_111 kll111_0 kll255_110 kll110_0 kll255_116 kll116_0 kll255_114 kll114_0 kll255_111 kll111_0 kll255_108 kll108_0 S_12 hk13) e2986 pd_13 hml (hb hby at_284) (Ls := (oL p1 p2 p3 p4 3 a133 b2690 7 b2695 1 1 111 7 1)) (W := 0) (argsL := [(.ref b2695), (.int 7)]) (rest := [])
     obtain ⟨i2988, i2989, i2990, i2991, i2992, i2993, i2994, b2995, b2996, k2997, u2998, u2999, u3000, u3001, u3002, u3003, u3004, rfl, u3006, u3007, u3008, u3009, u3010, u3011, Ku3012, u3013, u3014, u3015, u3016, u3017⟩ := hQ2987
     have Ou3012 := O2986.keep Ku3012 all0
     have N2987 := Fr.app N2986 u3006
     have pre3018 : oS p e below EN T2987 (mkF m 287 (oL p1 p2 p3 p4 3 a133 b2690 7 b2695 1 1 111 7 1) [(.ref b2995)]) := fun t kt => pre2983 t (o_icmpN X2795 hq at_228 (by decide +kernel) (o_iconst X2795 hq at_231 (x := 1) rfl (o_goto X2795 hq at_232 (pc := 232) (pc' := 236) (o_istore X2795 hq at_236 rfl (o_aload X2795 hq at_238 rfl rfl (o_iload X2795 hq at_240 rfl (o_iload X2795 hq at_242 rfl (st2986 _ (o_goto X2986 hq at_245 (pc := 245) (pc' := 280) (o_aload X2986 hq at_280 rfl rfl (o_iload X2986 hq at_282 rfl (st2987 _ kt))))))))))))
     obtain rfl := kb67 u2998
     obtain rfl := kb111 u2999
     obtain rfl := kb110 u3000
     obtain rfl := kb116 u3001
     obtain rfl := kb114 u3002
     obtain rfl := kb111 u3003
     obtain rfl := kb108 u3004
     obtain ⟨_, T3019, L3019, X3019, hQ3019, st3019⟩ := own_cS X2987 hx hZ2690 hown2690 (ww76 hw) (ww77 hw) (ww1 hw) (ww78 hw) (rm16_79 l Z a0 hw b2995 a170 b2996 a7 a123 a128 a133 k172 a120 p11 a177 k179 67 111 110 116 114 111 108 k2997 a125 a183 k185 a130 a189 k191 a135 a195 k197 a199 T2987.heap n0 Ou3012 S_171 u3015 V173 E_174 F121 E_175 (own_n (own_t lt2804 (Keep.of_wr W2986).1) u3007) u3013 S_12 hk13 F176 u3014 F178 V180 u3017 F126 E_181 (own_n (own_t lt2805 (Keep.of_wr W2986).1) u3007) F182 F184 V186 F131 E_187 (own_n (own_t lt2806 (Keep.of_wr W2986).1) u3007) F188 F190 V192 F136 E_193 (own_n (own_t lt2807 (Keep.of_wr W2986).1) u3007) F194 F196 V198 S_200) rfl pd_21 hml (hb hby at_287) (Ls := (oL p1 p2 p3 p4 3 a133 b2690 7 b2695 1 1 111 7 1)) (W := 0) (argsL := [(.ref b2995)]) (rest := [])
     rcases hQ3019 with ⟨b3020, u3021, u3022, u3023, u3024, u3025, u3026, u3027, rfl, u3029, u3030, u3031, Ku3032, u3033, u3034⟩ | ⟨u3035, rfl, u3037, Ku3038⟩
     ·
      have Ou3032 := Ou3012.keep Ku3032 all0
      have N3019 := Fr.app N2987 u3029
      obtain ⟨T3039, L3039, X3039, u3039, e3039, st3039⟩ := own_tP hw X3019 hx hby hml hZ2690 hown2690 Ou3032 u3033 u3034 (oL p1 p2 p3 p4 3 a133 b2690 7 b2695 1 1 111 7 1) rfl
      have N3039 := Fr.app N3019 u3039
      refine fin (some (.int 1)) _ _ _ _ T2690.vm _ X3039 hS2690 (by rw [e3039]; exact (Nat.le_trans (Nat.le_trans (Nat.le_trans hz2797 (Keep.of_wr W2986).1) Ku3012.1) Ku3032.1)) nofun (fun fs hr => pre3018 _ ?_) (own_atH e3039 ?_) (by decide) (by decide)
      ·
       refine st3019 _ (st3039 _ ?_)
       exact retN X3039 hx (t := .boolean) hret (by simp) (hb hby at_326) hr
      ·
       exact ⟨rfl, N3039⟩
     ·
      exact absurd ⟨kle67_67, kle111_111, kle110_110, kle116_116, kle114_114, kle111_111, kle108_108⟩ u3035
    ·
     obtain ⟨T3041, h3041, X3041, e3041, W3041, V3041, st3041⟩ := own_stC X2795 hx hZ2690 e2795 V2795 0 1 i2811 i2811 1 (own_nar255 hi2811) (hb hby at_244) (oL p1 p2 p3 p4 3 a133 b2690 7 b2695 1 1 i2811 7 0) [] (vs2 := [(.int 67), (.int i2811), (.int 110), (.int 116), (.int 114), (.int 111), (.int 108), (.int 0)])
     have O3041 := O2795.wr W3041 g_b2695
     have N3041 := Fr.snoc X3041 N2795 g_b2695
     obtain ⟨_, T3042, L3042, X3042, hQ3042, st3042⟩ := own_cS X3041 hx hZ2690 hown2690 (ww52 hw) (ww53 hw) (ww27 hw) (ww54 hw) (rm9_73 l Z a0 hw b2695 67 i2811 110 116 114 111 108 0 k2695 p11 h3041 n0 O3041 V3041 kll255_67 kll67_0 (own_t lt2803 (Keep.of_wr W3041).1) (own_lt255 hi2811) (own_nn hi2811) kll255_110 kll110_0 kll255_116 kll116_0 kll255_114 kll114_0 kll255_111 kll111_0 kll255_108 kll108_0 S_12 hk13) e3041 pd_13 hml (hb hby at_284) (Ls := (oL p1 p2 p3 p4 3 a133 b2690 7 b2695 1 1 i2811 7 0)) (W := 0) (argsL := [(.ref b2695), (.int 7)]) (rest := [])
     obtain ⟨i3043, i3044, i3045, i3046, i3047, i3048, i3049, b3050, b3051, k3052, u3053, u3054, u3055, u3056, u3057, u3058, u3059, rfl, u3061, u3062, u3063, u3064, u3065, u3066, Ku3067, u3068, u3069, u3070, u3071, u3072⟩ := hQ3042
     have Ou3067 := O3041.keep Ku3067 all0
     have N3042 := Fr.app N3041 u3061
     have pre3073 : oS p e below EN T3042 (mkF m 287 (oL p1 p2 p3 p4 3 a133 b2690 7 b2695 1 1 i2811 7 0) [(.ref b3050)]) := fun t kt => pre2983 t (o_icmpY X2795 hq at_228 (pc := 228) (pc' := 235) (feq hc2984).2 (o_iconst X2795 hq at_235 (x := 0) rfl (o_istore X2795 hq at_236 rfl (o_aload X2795 hq at_238 rfl rfl (o_iload X2795 hq at_240 rfl (o_iload X2795 hq at_242 rfl (st3041 _ (o_goto X3041 hq at_245 (pc := 245) (pc' := 280) (o_aload X3041 hq at_280 rfl rfl (o_iload X3041 hq at_282 rfl (st3042 _ kt)))))))))))
     obtain rfl := kb67 u3053
     obtain rfl := kb110 u3055
     obtain rfl := kb116 u3056
     obtain rfl := kb114 u3057
     obtain rfl := kb111 u3058
     obtain rfl := kb108 u3059
     obtain ⟨_, T3074, L3074, X3074, hQ3074, st3074⟩ := own_cS X3042 hx hZ2690 hown2690 (ww76 hw) (ww77 hw) (ww1 hw) (ww78 hw) (rm16_79 l Z a0 hw b3050 a170 b3051 a7 a123 a128 a133 k172 a120 p11 a177 k179 67 i3044 110 116 114 111 108 k3052 a125 a183 k185 a130 a189 k191 a135 a195 k197 a199 T3042.heap n0 Ou3067 S_171 u3070 V173 E_174 F121 E_175 (own_n (own_t lt2804 (Keep.of_wr W3041).1) u3062) u3068 S_12 hk13 F176 u3069 F178 V180 u3072 F126 E_181 (own_n (own_t lt2805 (Keep.of_wr W3041).1) u3062) F182 F184 V186 F131 E_187 (own_n (own_t lt2806 (Keep.of_wr W3041).1) u3062) F188 F190 V192 F136 E_193 (own_n (own_t lt2807 (Keep.of_wr W3041).1) u3062) F194 F196 V198 S_200) rfl pd_21 hml (hb hby at_287) (Ls := (oL p1 p2 p3 p4 3 a133 b2690 7 b2695 1 1 i2811 7 0)) (W := 0) (argsL := [(.ref b3050)]) (rest := [])
     rcases hQ3074 with ⟨b3075, u3076, u3077, u3078, u3079, u3080, u3081, u3082, rfl, u3084, u3085, u3086, Ku3087, u3088, u3089⟩ | ⟨u3090, rfl, u3092, Ku3093⟩
     ·
      exact absurd u3077 (fun q => (own_bnl (c := (111 : Int32)) u3054 hi2811 (by decide +kernel) hc2984 : ¬ i3044 = 111) q.symm)
     ·
      have Ou3093 := Ou3067.keep Ku3093 all0
      have N3074 := Fr.app N3042 u3092
      obtain ⟨T3094, L3094, X3094, u3094, e3094, st3094⟩ := own_tE hw X3074 hx hby hml hZ2690 hown2690 Ou3093 E_315 F316 (oL p1 p2 p3 p4 3 a133 b2690 7 b2695 1 1 i2811 7 0) rfl
      have N3094 := Fr.app N3074 u3094
      refine fin (some (.int 1)) _ _ _ _ T2690.vm _ X3094 hS2690 (by rw [e3094]; exact (Nat.le_trans (Nat.le_trans (Nat.le_trans hz2797 (Keep.of_wr W3041).1) Ku3067.1) Ku3093.1)) nofun (fun fs hr => pre3073 _ ?_) (own_atH e3094 ?_) (by decide) (by decide)
      ·
       refine st3074 _ (st3094 _ ?_)
       exact retN X3094 hx (t := .boolean) hret (by simp) (hb hby at_302) hr
      ·
       exact ⟨rfl, N3094⟩
   ·
    subst hq2868
    have pre3096 : oS p e below EN T2795 (mkF m 228 #[vI p1, vI p2, vI p3, vI p4, vI 3, vR a133, vR b2690, vI 7, vR b2695, vI 1, vI 2, vI i2811, vI 7, .unset, .unset] [(.int 110), (.int i2811)]) := fun t kt => pre2867 t (o_caload X2795 hq at_227 hZ2690 e2795 V2795 (i := 2) (v := .int 110) (by decide +kernel) rfl kt)
    by_cases hc3097 : i2811 = 110
    ·
     subst hc3097
     obtain ⟨T3099, h3099, X3099, e3099, W3099, V3099, st3099⟩ := own_stC X2795 hx hZ2690 e2795 V2795 0 2 110 110 2 knc110 (hb hby at_244) (oL p1 p2 p3 p4 3 a133 b2690 7 b2695 1 2 110 7 1) [] (vs2 := [(.int 67), (.int 111), (.int 110), (.int 116), (.int 114), (.int 111), (.int 108), (.int 0)])
     have O3099 := O2795.wr W3099 g_b2695
     have N3099 := Fr.snoc X3099 N2795 g_b2695
     obtain ⟨_, T3100, L3100, X3100, hQ3100, st3100⟩ := own_cS X3099 hx hZ2690 hown2690 (ww52 hw) (ww53 hw) (ww27 hw) (ww54 hw) (rm9_73 l Z a0 hw b2695 67 111 110 116 114 111 108 0 k2695 p11 h3099 n0 O3099 V3099 kll255_67 kll67_0 (own_t lt2803 (Keep.of_wr W3099).1) kll255_111 kll111_0 kll255_110 kll110_0 kll255_116 kll116_0 kll255_114 kll114_0 kll255_111 kll111_0 kll255_108 kll108_0 S_12 hk13) e3099 pd_13 hml (hb hby at_284) (Ls := (oL p1 p2 p3 p4 3 a133 b2690 7 b2695 1 2 110 7 1)) (W := 0) (argsL := [(.ref b2695), (.int 7)]) (rest := [])
     obtain ⟨i3101, i3102, i3103, i3104, i3105, i3106, i3107, b3108, b3109, k3110, u3111, u3112, u3113, u3114, u3115, u3116, u3117, rfl, u3119, u3120, u3121, u3122, u3123, u3124, Ku3125, u3126, u3127, u3128, u3129, u3130⟩ := hQ3100
     have Ou3125 := O3099.keep Ku3125 all0
     have N3100 := Fr.app N3099 u3119
     have pre3131 : oS p e below EN T3100 (mkF m 287 (oL p1 p2 p3 p4 3 a133 b2690 7 b2695 1 2 110 7 1) [(.ref b3108)]) := fun t kt => pre3096 t (o_icmpN X2795 hq at_228 (by decide +kernel) (o_iconst X2795 hq at_231 (x := 1) rfl (o_goto X2795 hq at_232 (pc := 232) (pc' := 236) (o_istore X2795 hq at_236 rfl (o_aload X2795 hq at_238 rfl rfl (o_iload X2795 hq at_240 rfl (o_iload X2795 hq at_242 rfl (st3099 _ (o_goto X3099 hq at_245 (pc := 245) (pc' := 280) (o_aload X3099 hq at_280 rfl rfl (o_iload X3099 hq at_282 rfl (st3100 _ kt))))))))))))
     obtain rfl := kb67 u3111
     obtain rfl := kb111 u3112
     obtain rfl := kb110 u3113
     obtain rfl := kb116 u3114
     obtain rfl := kb114 u3115
     obtain rfl := kb111 u3116
     obtain rfl := kb108 u3117
     obtain ⟨_, T3132, L3132, X3132, hQ3132, st3132⟩ := own_cS X3100 hx hZ2690 hown2690 (ww76 hw) (ww77 hw) (ww1 hw) (ww78 hw) (rm16_79 l Z a0 hw b3108 a170 b3109 a7 a123 a128 a133 k172 a120 p11 a177 k179 67 111 110 116 114 111 108 k3110 a125 a183 k185 a130 a189 k191 a135 a195 k197 a199 T3100.heap n0 Ou3125 S_171 u3128 V173 E_174 F121 E_175 (own_n (own_t lt2804 (Keep.of_wr W3099).1) u3120) u3126 S_12 hk13 F176 u3127 F178 V180 u3130 F126 E_181 (own_n (own_t lt2805 (Keep.of_wr W3099).1) u3120) F182 F184 V186 F131 E_187 (own_n (own_t lt2806 (Keep.of_wr W3099).1) u3120) F188 F190 V192 F136 E_193 (own_n (own_t lt2807 (Keep.of_wr W3099).1) u3120) F194 F196 V198 S_200) rfl pd_21 hml (hb hby at_287) (Ls := (oL p1 p2 p3 p4 3 a133 b2690 7 b2695 1 2 110 7 1)) (W := 0) (argsL := [(.ref b3108)]) (rest := [])
     rcases hQ3132 with ⟨b3133, u3134, u3135, u3136, u3137, u3138, u3139, u3140, rfl, u3142, u3143, u3144, Ku3145, u3146, u3147⟩ | ⟨u3148, rfl, u3150, Ku3151⟩
     ·
      have Ou3145 := Ou3125.keep Ku3145 all0
      have N3132 := Fr.app N3100 u3142
      obtain ⟨T3152, L3152, X3152, u3152, e3152, st3152⟩ := own_tP hw X3132 hx hby hml hZ2690 hown2690 Ou3145 u3146 u3147 (oL p1 p2 p3 p4 3 a133 b2690 7 b2695 1 2 110 7 1) rfl
      have N3152 := Fr.app N3132 u3152
      refine fin (some (.int 1)) _ _ _ _ T2690.vm _ X3152 hS2690 (by rw [e3152]; exact (Nat.le_trans (Nat.le_trans (Nat.le_trans hz2797 (Keep.of_wr W3099).1) Ku3125.1) Ku3145.1)) nofun (fun fs hr => pre3131 _ ?_) (own_atH e3152 ?_) (by decide) (by decide)
      ·
       refine st3132 _ (st3152 _ ?_)
       exact retN X3152 hx (t := .boolean) hret (by simp) (hb hby at_326) hr
      ·
       exact ⟨rfl, N3152⟩
     ·
      exact absurd ⟨kle67_67, kle111_111, kle110_110, kle116_116, kle114_114, kle111_111, kle108_108⟩ u3148
    ·
     obtain ⟨T3154, h3154, X3154, e3154, W3154, V3154, st3154⟩ := own_stC X2795 hx hZ2690 e2795 V2795 0 2 i2811 i2811 2 (own_nar255 hi2811) (hb hby at_244) (oL p1 p2 p3 p4 3 a133 b2690 7 b2695 1 2 i2811 7 0) [] (vs2 := [(.int 67), (.int 111), (.int i2811), (.int 116), (.int 114), (.int 111), (.int 108), (.int 0)])
     have O3154 := O2795.wr W3154 g_b2695
     have N3154 := Fr.snoc X3154 N2795 g_b2695
     obtain ⟨_, T3155, L3155, X3155, hQ3155, st3155⟩ := own_cS X3154 hx hZ2690 hown2690 (ww52 hw) (ww53 hw) (ww27 hw) (ww54 hw) (rm9_73 l Z a0 hw b2695 67 111 i2811 116 114 111 108 0 k2695 p11 h3154 n0 O3154 V3154 kll255_67 kll67_0 (own_t lt2803 (Keep.of_wr W3154).1) kll255_111 kll111_0 (own_lt255 hi2811) (own_nn hi2811) kll255_116 kll116_0 kll255_114 kll114_0 kll255_111 kll111_0 kll255_108 kll108_0 S_12 hk13) e3154 pd_13 hml (hb hby at_284) (Ls := (oL p1 p2 p3 p4 3 a133 b2690 7 b2695 1 2 i2811 7 0)) (W := 0) (argsL := [(.ref b2695), (.int 7)]) (rest := [])
     obtain ⟨i3156, i3157, i3158, i3159, i3160, i3161, i3162, b3163, b3164, k3165, u3166, u3167, u3168, u3169, u3170, u3171, u3172, rfl, u3174, u3175, u3176, u3177, u3178, u3179, Ku3180, u3181, u3182, u3183, u3184, u3185⟩ := hQ3155
     have Ou3180 := O3154.keep Ku3180 all0
     have N3155 := Fr.app N3154 u3174
     have pre3186 : oS p e below EN T3155 (mkF m 287 (oL p1 p2 p3 p4 3 a133 b2690 7 b2695 1 2 i2811 7 0) [(.ref b3163)]) := fun t kt => pre3096 t (o_icmpY X2795 hq at_228 (pc := 228) (pc' := 235) (feq hc3097).2 (o_iconst X2795 hq at_235 (x := 0) rfl (o_istore X2795 hq at_236 rfl (o_aload X2795 hq at_238 rfl rfl (o_iload X2795 hq at_240 rfl (o_iload X2795 hq at_242 rfl (st3154 _ (o_goto X3154 hq at_245 (pc := 245) (pc' := 280) (o_aload X3154 hq at_280 rfl rfl (o_iload X3154 hq at_282 rfl (st3155 _ kt)))))))))))
     obtain rfl := kb67 u3166
     obtain rfl := kb111 u3167
     obtain rfl := kb116 u3169
     obtain rfl := kb114 u3170
     obtain rfl := kb111 u3171
     obtain rfl := kb108 u3172
     obtain ⟨_, T3187, L3187, X3187, hQ3187, st3187⟩ := own_cS X3155 hx hZ2690 hown2690 (ww76 hw) (ww77 hw) (ww1 hw) (ww78 hw) (rm16_79 l Z a0 hw b3163 a170 b3164 a7 a123 a128 a133 k172 a120 p11 a177 k179 67 111 i3158 116 114 111 108 k3165 a125 a183 k185 a130 a189 k191 a135 a195 k197 a199 T3155.heap n0 Ou3180 S_171 u3183 V173 E_174 F121 E_175 (own_n (own_t lt2804 (Keep.of_wr W3154).1) u3175) u3181 S_12 hk13 F176 u3182 F178 V180 u3185 F126 E_181 (own_n (own_t lt2805 (Keep.of_wr W3154).1) u3175) F182 F184 V186 F131 E_187 (own_n (own_t lt2806 (Keep.of_wr W3154).1) u3175) F188 F190 V192 F136 E_193 (own_n (own_t lt2807 (Keep.of_wr W3154).1) u3175) F194 F196 V198 S_200) rfl pd_21 hml (hb hby at_287) (Ls := (oL p1 p2 p3 p4 3 a133 b2690 7 b2695 1 2 i2811 7 0)) (W := 0) (argsL := [(.ref b3163)]) (rest := [])
     rcases hQ3187 with ⟨b3188, u3189, u3190, u3191, u3192, u3193, u3194, u3195, rfl, u3197, u3198, u3199, Ku3200, u3201, u3202⟩ | ⟨u3203, rfl, u3205, Ku3206⟩
     ·
      exact absurd u3191 (fun q => (own_bnl (c := (110 : Int32)) u3168 hi2811 (by decide +kernel) hc3097 : ¬ i3158 = 110) q.symm)
     ·
      have Ou3206 := Ou3180.keep Ku3206 all0
      have N3187 := Fr.app N3155 u3205
      obtain ⟨T3207, L3207, X3207, u3207, e3207, st3207⟩ := own_tE hw X3187 hx hby hml hZ2690 hown2690 Ou3206 E_315 F316 (oL p1 p2 p3 p4 3 a133 b2690 7 b2695 1 2 i2811 7 0) rfl
      have N3207 := Fr.app N3187 u3207
      refine fin (some (.int 1)) _ _ _ _ T2690.vm _ X3207 hS2690 (by rw [e3207]; exact (Nat.le_trans (Nat.le_trans (Nat.le_trans hz2797 (Keep.of_wr W3154).1) Ku3180.1) Ku3206.1)) nofun (fun fs hr => pre3186 _ ?_) (own_atH e3207 ?_) (by decide) (by decide)
      ·
       refine st3187 _ (st3207 _ ?_)
       exact retN X3207 hx (t := .boolean) hret (by simp) (hb hby at_302) hr
      ·
       exact ⟨rfl, N3207⟩
   ·
    subst hq2868
    have pre3209 : oS p e below EN T2795 (mkF m 228 #[vI p1, vI p2, vI p3, vI p4, vI 3, vR a133, vR b2690, vI 7, vR b2695, vI 1, vI 3, vI i2811, vI 7, .unset, .unset] [(.int 116), (.int i2811)]) := fun t kt => pre2867 t (o_caload X2795 hq at_227 hZ2690 e2795 V2795 (i := 3) (v := .int 116) (by decide +kernel) rfl kt)
    by_cases hc3210 : i2811 = 116
    ·
     subst hc3210
     obtain ⟨T3212, h3212, X3212, e3212, W3212, V3212, st3212⟩ := own_stC X2795 hx hZ2690 e2795 V2795 0 3 116 116 3 knc116 (hb hby at_244) (oL p1 p2 p3 p4 3 a133 b2690 7 b2695 1 3 116 7 1) [] (vs2 := [(.int 67), (.int 111), (.int 110), (.int 116), (.int 114), (.int 111), (.int 108), (.int 0)])
     have O3212 := O2795.wr W3212 g_b2695
     have N3212 := Fr.snoc X3212 N2795 g_b2695
     obtain ⟨_, T3213, L3213, X3213, hQ3213, st3213⟩ := own_cS X3212 hx hZ2690 hown2690 (ww52 hw) (ww53 hw) (ww27 hw) (ww54 hw) (rm9_73 l Z a0 hw b2695 67 111 110 116 114 111 108 0 k2695 p11 h3212 n0 O3212 V3212 kll255_67 kll67_0 (own_t lt2803 (Keep.of_wr W3212).1) kll255_111 kll111_0 kll255_110 kll110_0 kll255_116 kll116_0 kll255_114 kll114_0 kll255_111 kll111_0 kll255_108 kll108_0 S_12 hk13) e3212 pd_13 hml (hb hby at_284) (Ls := (oL p1 p2 p3 p4 3 a133 b2690 7 b2695 1 3 116 7 1)) (W := 0) (argsL := [(.ref b2695), (.int 7)]) (rest := [])
     obtain ⟨i3214, i3215, i3216, i3217, i3218, i3219, i3220, b3221, b3222, k3223, u3224, u3225, u3226, u3227, u3228, u3229, u3230, rfl, u3232, u3233, u3234, u3235, u3236, u3237, Ku3238, u3239, u3240, u3241, u3242, u3243⟩ := hQ3213
     have Ou3238 := O3212.keep Ku3238 all0
     have N3213 := Fr.app N3212 u3232
     have pre3244 : oS p e below EN T3213 (mkF m 287 (oL p1 p2 p3 p4 3 a133 b2690 7 b2695 1 3 116 7 1) [(.ref b3221)]) := fun t kt => pre3209 t (o_icmpN X2795 hq at_228 (by decide +kernel) (o_iconst X2795 hq at_231 (x := 1) rfl (o_goto X2795 hq at_232 (pc := 232) (pc' := 236) (o_istore X2795 hq at_236 rfl (o_aload X2795 hq at_238 rfl rfl (o_iload X2795 hq at_240 rfl (o_iload X2795 hq at_242 rfl (st3212 _ (o_goto X3212 hq at_245 (pc := 245) (pc' := 280) (o_aload X3212 hq at_280 rfl rfl (o_iload X3212 hq at_282 rfl (st3213 _ kt))))))))))))
     obtain rfl := kb67 u3224
     obtain rfl := kb111 u3225
     obtain rfl := kb110 u3226
     obtain rfl := kb116 u3227
     obtain rfl := kb114 u3228
     obtain rfl := kb111 u3229
     obtain rfl := kb108 u3230
     obtain ⟨_, T3245, L3245, X3245, hQ3245, st3245⟩ := own_cS X3213 hx hZ2690 hown2690 (ww76 hw) (ww77 hw) (ww1 hw) (ww78 hw) (rm16_79 l Z a0 hw b3221 a170 b3222 a7 a123 a128 a133 k172 a120 p11 a177 k179 67 111 110 116 114 111 108 k3223 a125 a183 k185 a130 a189 k191 a135 a195 k197 a199 T3213.heap n0 Ou3238 S_171 u3241 V173 E_174 F121 E_175 (own_n (own_t lt2804 (Keep.of_wr W3212).1) u3233) u3239 S_12 hk13 F176 u3240 F178 V180 u3243 F126 E_181 (own_n (own_t lt2805 (Keep.of_wr W3212).1) u3233) F182 F184 V186 F131 E_187 (own_n (own_t lt2806 (Keep.of_wr W3212).1) u3233) F188 F190 V192 F136 E_193 (own_n (own_t lt2807 (Keep.of_wr W3212).1) u3233) F194 F196 V198 S_200) rfl pd_21 hml (hb hby at_287) (Ls := (oL p1 p2 p3 p4 3 a133 b2690 7 b2695 1 3 116 7 1)) (W := 0) (argsL := [(.ref b3221)]) (rest := [])
     rcases hQ3245 with ⟨b3246, u3247, u3248, u3249, u3250, u3251, u3252, u3253, rfl, u3255, u3256, u3257, Ku3258, u3259, u3260⟩ | ⟨u3261, rfl, u3263, Ku3264⟩
     ·
      have Ou3258 := Ou3238.keep Ku3258 all0
      have N3245 := Fr.app N3213 u3255
      obtain ⟨T3265, L3265, X3265, u3265, e3265, st3265⟩ := own_tP hw X3245 hx hby hml hZ2690 hown2690 Ou3258 u3259 u3260 (oL p1 p2 p3 p4 3 a133 b2690 7 b2695 1 3 116 7 1) rfl
      have N3265 := Fr.app N3245 u3265
      refine fin (some (.int 1)) _ _ _ _ T2690.vm _ X3265 hS2690 (by rw [e3265]; exact (Nat.le_trans (Nat.le_trans (Nat.le_trans hz2797 (Keep.of_wr W3212).1) Ku3238.1) Ku3258.1)) nofun (fun fs hr => pre3244 _ ?_) (own_atH e3265 ?_) (by decide) (by decide)
      ·
       refine st3245 _ (st3265 _ ?_)
       exact retN X3265 hx (t := .boolean) hret (by simp) (hb hby at_326) hr
      ·
       exact ⟨rfl, N3265⟩
     ·
      exact absurd ⟨kle67_67, kle111_111, kle110_110, kle116_116, kle114_114, kle111_111, kle108_108⟩ u3261
    ·
     obtain ⟨T3267, h3267, X3267, e3267, W3267, V3267, st3267⟩ := own_stC X2795 hx hZ2690 e2795 V2795 0 3 i2811 i2811 3 (own_nar255 hi2811) (hb hby at_244) (oL p1 p2 p3 p4 3 a133 b2690 7 b2695 1 3 i2811 7 0) [] (vs2 := [(.int 67), (.int 111), (.int 110), (.int i2811), (.int 114), (.int 111), (.int 108), (.int 0)])
     have O3267 := O2795.wr W3267 g_b2695
     have N3267 := Fr.snoc X3267 N2795 g_b2695
     obtain ⟨_, T3268, L3268, X3268, hQ3268, st3268⟩ := own_cS X3267 hx hZ2690 hown2690 (ww52 hw) (ww53 hw) (ww27 hw) (ww54 hw) (rm9_73 l Z a0 hw b2695 67 111 110 i2811 114 111 108 0 k2695 p11 h3267 n0 O3267 V3267 kll255_67 kll67_0 (own_t lt2803 (Keep.of_wr W3267).1) kll255_111 kll111_0 kll255_110 kll110_0 (own_lt255 hi2811) (own_nn hi2811) kll255_114 kll114_0 kll255_111 kll111_0 kll255_108 kll108_0 S_12 hk13) e3267 pd_13 hml (hb hby at_284) (Ls := (oL p1 p2 p3 p4 3 a133 b2690 7 b2695 1 3 i2811 7 0)) (W := 0) (argsL := [(.ref b2695), (.int 7)]) (rest := [])
     obtain ⟨i3269, i3270, i3271, i3272, i3273, i3274, i3275, b3276, b3277, k3278, u3279, u3280, u3281, u3282, u3283, u3284, u3285, rfl, u3287, u3288, u3289, u3290, u3291, u3292, Ku3293, u3294, u3295, u3296, u3297, u3298⟩ := hQ3268
     have Ou3293 := O3267.keep Ku3293 all0
     have N3268 := Fr.app N3267 u3287
     have pre3299 : oS p e below EN T3268 (mkF m 287 (oL p1 p2 p3 p4 3 a133 b2690 7 b2695 1 3 i2811 7 0) [(.ref b3276)]) := fun t kt => pre3209 t (o_icmpY X2795 hq at_228 (pc := 228) (pc' := 235) (feq hc3210).2 (o_iconst X2795 hq at_235 (x := 0) rfl (o_istore X2795 hq at_236 rfl (o_aload X2795 hq at_238 rfl rfl (o_iload X2795 hq at_240 rfl (o_iload X2795 hq at_242 rfl (st3267 _ (o_goto X3267 hq at_245 (pc := 245) (pc' := 280) (o_aload X3267 hq at_280 rfl rfl (o_iload X3267 hq at_282 rfl (st3268 _ kt)))))))))))
     obtain rfl := kb67 u3279
     obtain rfl := kb111 u3280
     obtain rfl := kb110 u3281
     obtain rfl := kb114 u3283
     obtain rfl := kb111 u3284
     obtain rfl := kb108 u3285
     obtain ⟨_, T3300, L3300, X3300, hQ3300, st3300⟩ := own_cS X3268 hx hZ2690 hown2690 (ww76 hw) (ww77 hw) (ww1 hw) (ww78 hw) (rm16_79 l Z a0 hw b3276 a170 b3277 a7 a123 a128 a133 k172 a120 p11 a177 k179 67 111 110 i3272 114 111 108 k3278 a125 a183 k185 a130 a189 k191 a135 a195 k197 a199 T3268.heap n0 Ou3293 S_171 u3296 V173 E_174 F121 E_175 (own_n (own_t lt2804 (Keep.of_wr W3267).1) u3288) u3294 S_12 hk13 F176 u3295 F178 V180 u3298 F126 E_181 (own_n (own_t lt2805 (Keep.of_wr W3267).1) u3288) F182 F184 V186 F131 E_187 (own_n (own_t lt2806 (Keep.of_wr W3267).1) u3288) F188 F190 V192 F136 E_193 (own_n (own_t lt2807 (Keep.of_wr W3267).1) u3288) F194 F196 V198 S_200) rfl pd_21 hml (hb hby at_287) (Ls := (oL p1 p2 p3 p4 3 a133 b2690 7 b2695 1 3 i2811 7 0)) (W := 0) (argsL := [(.ref b3276)]) (rest := [])
     rcases hQ3300 with ⟨b3301, u3302, u3303, u3304, u3305, u3306, u3307, u3308, rfl, u3310, u3311, u3312, Ku3313, u3314, u3315⟩ | ⟨u3316, rfl, u3318, Ku3319⟩
     ·
      exact absurd u3305 (fun q => (own_bnl (c := (116 : Int32)) u3282 hi2811 (by decide +kernel) hc3210 : ¬ i3272 = 116) q.symm)
     ·
      have Ou3319 := Ou3293.keep Ku3319 all0
      have N3300 := Fr.app N3268 u3318
      obtain ⟨T3320, L3320, X3320, u3320, e3320, st3320⟩ := own_tE hw X3300 hx hby hml hZ2690 hown2690 Ou3319 E_315 F316 (oL p1 p2 p3 p4 3 a133 b2690 7 b2695 1 3 i2811 7 0) rfl
      have N3320 := Fr.app N3300 u3320
      refine fin (some (.int 1)) _ _ _ _ T2690.vm _ X3320 hS2690 (by rw [e3320]; exact (Nat.le_trans (Nat.le_trans (Nat.le_trans hz2797 (Keep.of_wr W3267).1) Ku3293.1) Ku3319.1)) nofun (fun fs hr => pre3299 _ ?_) (own_atH e3320 ?_) (by decide) (by decide)
      ·
       refine st3300 _ (st3320 _ ?_)
       exact retN X3320 hx (t := .boolean) hret (by simp) (hb hby at_302) hr
      ·
       exact ⟨rfl, N3320⟩
   ·
    subst hq2868
    have pre3322 : oS p e below EN T2795 (mkF m 228 #[vI p1, vI p2, vI p3, vI p4, vI 3, vR a133, vR b2690, vI 7, vR b2695, vI 1, vI 4, vI i2811, vI 7, .unset, .unset] [(.int 114), (.int i2811)]) := fun t kt => pre2867 t (o_caload X2795 hq at_227 hZ2690 e2795 V2795 (i := 4) (v := .int 114) (by decide +kernel) rfl kt)
    by_cases hc3323 : i2811 = 114
    ·
     subst hc3323
     obtain ⟨T3325, h3325, X3325, e3325, W3325, V3325, st3325⟩ := own_stC X2795 hx hZ2690 e2795 V2795 0 4 114 114 4 knc114 (hb hby at_244) (oL p1 p2 p3 p4 3 a133 b2690 7 b2695 1 4 114 7 1) [] (vs2 := [(.int 67), (.int 111), (.int 110), (.int 116), (.int 114), (.int 111), (.int 108), (.int 0)])
     have O3325 := O2795.wr W3325 g_b2695
     have N3325 := Fr.snoc X3325 N2795 g_b2695
     obtain ⟨_, T3326, L3326, X3326, hQ3326, st3326⟩ := own_cS X3325 hx hZ2690 hown2690 (ww52 hw) (ww53 hw) (ww27 hw) (ww54 hw) (rm9_73 l Z a0 hw b2695 67 111 110 116 114 111 108 0 k2695 p11 h3325 n0 O3325 V3325 kll255_67 kll67_0 (own_t lt2803 (Keep.of_wr W3325).1) kll255_111 kll111_0 kll255_110 kll110_0 kll255_116 kll116_0 kll255_114 kll114_0 kll255_111 kll111_0 kll255_108 kll108_0 S_12 hk13) e3325 pd_13 hml (hb hby at_284) (Ls := (oL p1 p2 p3 p4 3 a133 b2690 7 b2695 1 4 114 7 1)) (W := 0) (argsL := [(.ref b2695), (.int 7)]) (rest := [])
     obtain ⟨i3327, i3328, i3329, i3330, i3331, i3332, i3333, b3334, b3335, k3336, u3337, u3338, u3339, u3340, u3341, u3342, u3343, rfl, u3345, u3346, u3347, u3348, u3349, u3350, Ku3351, u3352, u3353, u3354, u3355, u3356⟩ := hQ3326
     have Ou3351 := O3325.keep Ku3351 all0
     have N3326 := Fr.app N3325 u3345
     have pre3357 : oS p e below EN T3326 (mkF m 287 (oL p1 p2 p3 p4 3 a133 b2690 7 b2695 1 4 114 7 1) [(.ref b3334)]) := fun t kt => pre3322 t (o_icmpN X2795 hq at_228 (by decide +kernel) (o_iconst X2795 hq at_231 (x := 1) rfl (o_goto X2795 hq at_232 (pc := 232) (pc' := 236) (o_istore X2795 hq at_236 rfl (o_aload X2795 hq at_238 rfl rfl (o_iload X2795 hq at_240 rfl (o_iload X2795 hq at_242 rfl (st3325 _ (o_goto X3325 hq at_245 (pc := 245) (pc' := 280) (o_aload X3325 hq at_280 rfl rfl (o_iload X3325 hq at_282 rfl (st3326 _ kt))))))))))))
     obtain rfl := kb67 u3337
     obtain rfl := kb111 u3338
     obtain rfl := kb110 u3339
     obtain rfl := kb116 u3340
     obtain rfl := kb114 u3341
     obtain rfl := kb111 u3342
     obtain rfl := kb108 u3343
     obtain ⟨_, T3358, L3358, X3358, hQ3358, st3358⟩ := own_cS X3326 hx hZ2690 hown2690 (ww76 hw) (ww77 hw) (ww1 hw) (ww78 hw) (rm16_79 l Z a0 hw b3334 a170 b3335 a7 a123 a128 a133 k172 a120 p11 a177 k179 67 111 110 116 114 111 108 k3336 a125 a183 k185 a130 a189 k191 a135 a195 k197 a199 T3326.heap n0 Ou3351 S_171 u3354 V173 E_174 F121 E_175 (own_n (own_t lt2804 (Keep.of_wr W3325).1) u3346) u3352 S_12 hk13 F176 u3353 F178 V180 u3356 F126 E_181 (own_n (own_t lt2805 (Keep.of_wr W3325).1) u3346) F182 F184 V186 F131 E_187 (own_n (own_t lt2806 (Keep.of_wr W3325).1) u3346) F188 F190 V192 F136 E_193 (own_n (own_t lt2807 (Keep.of_wr W3325).1) u3346) F194 F196 V198 S_200) rfl pd_21 hml (hb hby at_287) (Ls := (oL p1 p2 p3 p4 3 a133 b2690 7 b2695 1 4 114 7 1)) (W := 0) (argsL := [(.ref b3334)]) (rest := [])
     rcases hQ3358 with ⟨b3359, u3360, u3361, u3362, u3363, u3364, u3365, u3366, rfl, u3368, u3369, u3370, Ku3371, u3372, u3373⟩ | ⟨u3374, rfl, u3376, Ku3377⟩
     ·
      have Ou3371 := Ou3351.keep Ku3371 all0
      have N3358 := Fr.app N3326 u3368
      obtain ⟨T3378, L3378, X3378, u3378, e3378, st3378⟩ := own_tP hw X3358 hx hby hml hZ2690 hown2690 Ou3371 u3372 u3373 (oL p1 p2 p3 p4 3 a133 b2690 7 b2695 1 4 114 7 1) rfl
      have N3378 := Fr.app N3358 u3378
      refine fin (some (.int 1)) _ _ _ _ T2690.vm _ X3378 hS2690 (by rw [e3378]; exact (Nat.le_trans (Nat.le_trans (Nat.le_trans hz2797 (Keep.of_wr W3325).1) Ku3351.1) Ku3371.1)) nofun (fun fs hr => pre3357 _ ?_) (own_atH e3378 ?_) (by decide) (by decide)
      ·
       refine st3358 _ (st3378 _ ?_)
       exact retN X3378 hx (t := .boolean) hret (by simp) (hb hby at_326) hr
      ·
       exact ⟨rfl, N3378⟩
     ·
      exact absurd ⟨kle67_67, kle111_111, kle110_110, kle116_116, kle114_114, kle111_111, kle108_108⟩ u3374
    ·
     obtain ⟨T3380, h3380, X3380, e3380, W3380, V3380, st3380⟩ := own_stC X2795 hx hZ2690 e2795 V2795 0 4 i2811 i2811 4 (own_nar255 hi2811) (hb hby at_244) (oL p1 p2 p3 p4 3 a133 b2690 7 b2695 1 4 i2811 7 0) [] (vs2 := [(.int 67), (.int 111), (.int 110), (.int 116), (.int i2811), (.int 111), (.int 108), (.int 0)])
     have O3380 := O2795.wr W3380 g_b2695
     have N3380 := Fr.snoc X3380 N2795 g_b2695
     obtain ⟨_, T3381, L3381, X3381, hQ3381, st3381⟩ := own_cS X3380 hx hZ2690 hown2690 (ww52 hw) (ww53 hw) (ww27 hw) (ww54 hw) (rm9_73 l Z a0 hw b2695 67 111 110 116 i2811 111 108 0 k2695 p11 h3380 n0 O3380 V3380 kll255_67 kll67_0 (own_t lt2803 (Keep.of_wr W3380).1) kll255_111 kll111_0 kll255_110 kll110_0 kll255_116 kll116_0 (own_lt255 hi2811) (own_nn hi2811) kll255_111 kll111_0 kll255_108 kll108_0 S_12 hk13) e3380 pd_13 hml (hb hby at_284) (Ls := (oL p1 p2 p3 p4 3 a133 b2690 7 b2695 1 4 i2811 7 0)) (W := 0) (argsL := [(.ref b2695), (.int 7)]) (rest := [])
     obtain ⟨i3382, i3383, i3384, i3385, i3386, i3387, i3388, b3389, b3390, k3391, u3392, u3393, u3394, u3395, u3396, u3397, u3398, rfl, u3400, u3401, u3402, u3403, u3404, u3405, Ku3406, u3407, u3408, u3409, u3410, u3411⟩ := hQ3381
     have Ou3406 := O3380.keep Ku3406 all0
     have N3381 := Fr.app N3380 u3400
     have pre3412 : oS p e below EN T3381 (mkF m 287 (oL p1 p2 p3 p4 3 a133 b2690 7 b2695 1 4 i2811 7 0) [(.ref b3389)]) := fun t kt => pre3322 t (o_icmpY X2795 hq at_228 (pc := 228) (pc' := 235) (feq hc3323).2 (o_iconst X2795 hq at_235 (x := 0) rfl (o_istore X2795 hq at_236 rfl (o_aload X2795 hq at_238 rfl rfl (o_iload X2795 hq at_240 rfl (o_iload X2795 hq at_242 rfl (st3380 _ (o_goto X3380 hq at_245 (pc := 245) (pc' := 280) (o_aload X3380 hq at_280 rfl rfl (o_iload X3380 hq at_282 rfl (st3381 _ kt)))))))))))
     obtain rfl := kb67 u3392
     obtain rfl := kb111 u3393
     obtain rfl := kb110 u3394
     obtain rfl := kb116 u3395
     obtain rfl := kb111 u3397
     obtain rfl := kb108 u3398
     obtain ⟨_, T3413, L3413, X3413, hQ3413, st3413⟩ := own_cS X3381 hx hZ2690 hown2690 (ww76 hw) (ww77 hw) (ww1 hw) (ww78 hw) (rm16_79 l Z a0 hw b3389 a170 b3390 a7 a123 a128 a133 k172 a120 p11 a177 k179 67 111 110 116 i3386 111 108 k3391 a125 a183 k185 a130 a189 k191 a135 a195 k197 a199 T3381.heap n0 Ou3406 S_171 u3409 V173 E_174 F121 E_175 (own_n (own_t lt2804 (Keep.of_wr W3380).1) u3401) u3407 S_12 hk13 F176 u3408 F178 V180 u3411 F126 E_181 (own_n (own_t lt2805 (Keep.of_wr W3380).1) u3401) F182 F184 V186 F131 E_187 (own_n (own_t lt2806 (Keep.of_wr W3380).1) u3401) F188 F190 V192 F136 E_193 (own_n (own_t lt2807 (Keep.of_wr W3380).1) u3401) F194 F196 V198 S_200) rfl pd_21 hml (hb hby at_287) (Ls := (oL p1 p2 p3 p4 3 a133 b2690 7 b2695 1 4 i2811 7 0)) (W := 0) (argsL := [(.ref b3389)]) (rest := [])
     rcases hQ3413 with ⟨b3414, u3415, u3416, u3417, u3418, u3419, u3420, u3421, rfl, u3423, u3424, u3425, Ku3426, u3427, u3428⟩ | ⟨u3429, rfl, u3431, Ku3432⟩
     ·
      exact absurd u3419 (fun q => (own_bnl (c := (114 : Int32)) u3396 hi2811 (by decide +kernel) hc3323 : ¬ i3386 = 114) q.symm)
     ·
      have Ou3432 := Ou3406.keep Ku3432 all0
      have N3413 := Fr.app N3381 u3431
      obtain ⟨T3433, L3433, X3433, u3433, e3433, st3433⟩ := own_tE hw X3413 hx hby hml hZ2690 hown2690 Ou3432 E_315 F316 (oL p1 p2 p3 p4 3 a133 b2690 7 b2695 1 4 i2811 7 0) rfl
      have N3433 := Fr.app N3413 u3433
      refine fin (some (.int 1)) _ _ _ _ T2690.vm _ X3433 hS2690 (by rw [e3433]; exact (Nat.le_trans (Nat.le_trans (Nat.le_trans hz2797 (Keep.of_wr W3380).1) Ku3406.1) Ku3432.1)) nofun (fun fs hr => pre3412 _ ?_) (own_atH e3433 ?_) (by decide) (by decide)
      ·
       refine st3413 _ (st3433 _ ?_)
       exact retN X3433 hx (t := .boolean) hret (by simp) (hb hby at_302) hr
      ·
       exact ⟨rfl, N3433⟩
   ·
    subst hq2868
    have pre3435 : oS p e below EN T2795 (mkF m 228 #[vI p1, vI p2, vI p3, vI p4, vI 3, vR a133, vR b2690, vI 7, vR b2695, vI 1, vI 5, vI i2811, vI 7, .unset, .unset] [(.int 111), (.int i2811)]) := fun t kt => pre2867 t (o_caload X2795 hq at_227 hZ2690 e2795 V2795 (i := 5) (v := .int 111) (by decide +kernel) rfl kt)
    by_cases hc3436 : i2811 = 111
    ·
     subst hc3436
     obtain ⟨T3438, h3438, X3438, e3438, W3438, V3438, st3438⟩ := own_stC X2795 hx hZ2690 e2795 V2795 0 5 111 111 5 knc111 (hb hby at_244) (oL p1 p2 p3 p4 3 a133 b2690 7 b2695 1 5 111 7 1) [] (vs2 := [(.int 67), (.int 111), (.int 110), (.int 116), (.int 114), (.int 111), (.int 108), (.int 0)])
     have O3438 := O2795.wr W3438 g_b2695
     have N3438 := Fr.snoc X3438 N2795 g_b2695
     obtain ⟨_, T3439, L3439, X3439, hQ3439, st3439⟩ := own_cS X3438 hx hZ2690 hown2690 (ww52 hw) (ww53 hw) (ww27 hw) (ww54 hw) (rm9_73 l Z a0 hw b2695 67 111 110 116 114 111 108 0 k2695 p11 h3438 n0 O3438 V3438 kll255_67 kll67_0 (own_t lt2803 (Keep.of_wr W3438).1) kll255_111 kll111_0 kll255_110 kll110_0 kll255_116 kll116_0 kll255_114 kll114_0 kll255_111 kll111_0 kll255_108 kll108_0 S_12 hk13) e3438 pd_13 hml (hb hby at_284) (Ls := (oL p1 p2 p3 p4 3 a133 b2690 7 b2695 1 5 111 7 1)) (W := 0) (argsL := [(.ref b2695), (.int 7)]) (rest := [])
     obtain ⟨i3440, i3441, i3442, i3443, i3444, i3445, i3446, b3447, b3448, k3449, u3450, u3451, u3452, u3453, u3454, u3455, u3456, rfl, u3458, u3459, u3460, u3461, u3462, u3463, Ku3464, u3465, u3466, u3467, u3468, u3469⟩ := hQ3439
     have Ou3464 := O3438.keep Ku3464 all0
     have N3439 := Fr.app N3438 u3458
     have pre3470 : oS p e below EN T3439 (mkF m 287 (oL p1 p2 p3 p4 3 a133 b2690 7 b2695 1 5 111 7 1) [(.ref b3447)]) := fun t kt => pre3435 t (o_icmpN X2795 hq at_228 (by decide +kernel) (o_iconst X2795 hq at_231 (x := 1) rfl (o_goto X2795 hq at_232 (pc := 232) (pc' := 236) (o_istore X2795 hq at_236 rfl (o_aload X2795 hq at_238 rfl rfl (o_iload X2795 hq at_240 rfl (o_iload X2795 hq at_242 rfl (st3438 _ (o_goto X3438 hq at_245 (pc := 245) (pc' := 280) (o_aload X3438 hq at_280 rfl rfl (o_iload X3438 hq at_282 rfl (st3439 _ kt))))))))))))
     obtain rfl := kb67 u3450
     obtain rfl := kb111 u3451
     obtain rfl := kb110 u3452
     obtain rfl := kb116 u3453
     obtain rfl := kb114 u3454
     obtain rfl := kb111 u3455
     obtain rfl := kb108 u3456
     obtain ⟨_, T3471, L3471, X3471, hQ3471, st3471⟩ := own_cS X3439 hx hZ2690 hown2690 (ww76 hw) (ww77 hw) (ww1 hw) (ww78 hw) (rm16_79 l Z a0 hw b3447 a170 b3448 a7 a123 a128 a133 k172 a120 p11 a177 k179 67 111 110 116 114 111 108 k3449 a125 a183 k185 a130 a189 k191 a135 a195 k197 a199 T3439.heap n0 Ou3464 S_171 u3467 V173 E_174 F121 E_175 (own_n (own_t lt2804 (Keep.of_wr W3438).1) u3459) u3465 S_12 hk13 F176 u3466 F178 V180 u3469 F126 E_181 (own_n (own_t lt2805 (Keep.of_wr W3438).1) u3459) F182 F184 V186 F131 E_187 (own_n (own_t lt2806 (Keep.of_wr W3438).1) u3459) F188 F190 V192 F136 E_193 (own_n (own_t lt2807 (Keep.of_wr W3438).1) u3459) F194 F196 V198 S_200) rfl pd_21 hml (hb hby at_287) (Ls := (oL p1 p2 p3 p4 3 a133 b2690 7 b2695 1 5 111 7 1)) (W := 0) (argsL := [(.ref b3447)]) (rest := [])
     rcases hQ3471 with ⟨b3472, u3473, u3474, u3475, u3476, u3477, u3478, u3479, rfl, u3481, u3482, u3483, Ku3484, u3485, u3486⟩ | ⟨u3487, rfl, u3489, Ku3490⟩
     ·
      have Ou3484 := Ou3464.keep Ku3484 all0
      have N3471 := Fr.app N3439 u3481
      obtain ⟨T3491, L3491, X3491, u3491, e3491, st3491⟩ := own_tP hw X3471 hx hby hml hZ2690 hown2690 Ou3484 u3485 u3486 (oL p1 p2 p3 p4 3 a133 b2690 7 b2695 1 5 111 7 1) rfl
      have N3491 := Fr.app N3471 u3491
      refine fin (some (.int 1)) _ _ _ _ T2690.vm _ X3491 hS2690 (by rw [e3491]; exact (Nat.le_trans (Nat.le_trans (Nat.le_trans hz2797 (Keep.of_wr W3438).1) Ku3464.1) Ku3484.1)) nofun (fun fs hr => pre3470 _ ?_) (own_atH e3491 ?_) (by decide) (by decide)
      ·
       refine st3471 _ (st3491 _ ?_)
       exact retN X3491 hx (t := .boolean) hret (by simp) (hb hby at_326) hr
      ·
       exact ⟨rfl, N3491⟩
     ·
      exact absurd ⟨kle67_67, kle111_111, kle110_110, kle116_116, kle114_114, kle111_111, kle108_108⟩ u3487
    ·
     obtain ⟨T3493, h3493, X3493, e3493, W3493, V3493, st3493⟩ := own_stC X2795 hx hZ2690 e2795 V2795 0 5 i2811 i2811 5 (own_nar255 hi2811) (hb hby at_244) (oL p1 p2 p3 p4 3 a133 b2690 7 b2695 1 5 i2811 7 0) [] (vs2 := [(.int 67), (.int 111), (.int 110), (.int 116), (.int 114), (.int i2811), (.int 108), (.int 0)])
     have O3493 := O2795.wr W3493 g_b2695
     have N3493 := Fr.snoc X3493 N2795 g_b2695
     obtain ⟨_, T3494, L3494, X3494, hQ3494, st3494⟩ := own_cS X3493 hx hZ2690 hown2690 (ww52 hw) (ww53 hw) (ww27 hw) (ww54 hw) (rm9_73 l Z a0 hw b2695 67 111 110 116 114 i2811 108 0 k2695 p11 h3493 n0 O3493 V3493 kll255_67 kll67_0 (own_t lt2803 (Keep.of_wr W3493).1) kll255_111 kll111_0 kll255_110 kll110_0 kll255_116 kll116_0 kll255_114 kll114_0 (own_lt255 hi2811) (own_nn hi2811) kll255_108 kll108_0 S_12 hk13) e3493 pd_13 hml (hb hby at_284) (Ls := (oL p1 p2 p3 p4 3 a133 b2690 7 b2695 1 5 i2811 7 0)) (W := 0) (argsL := [(.ref b2695), (.int 7)]) (rest := [])
     obtain ⟨i3495, i3496, i3497, i3498, i3499, i3500, i3501, b3502, b3503, k3504, u3505, u3506, u3507, u3508, u3509, u3510, u3511, rfl, u3513, u3514, u3515, u3516, u3517, u3518, Ku3519, u3520, u3521, u3522, u3523, u3524⟩ := hQ3494
     have Ou3519 := O3493.keep Ku3519 all0
     have N3494 := Fr.app N3493 u3513
     have pre3525 : oS p e below EN T3494 (mkF m 287 (oL p1 p2 p3 p4 3 a133 b2690 7 b2695 1 5 i2811 7 0) [(.ref b3502)]) := fun t kt => pre3435 t (o_icmpY X2795 hq at_228 (pc := 228) (pc' := 235) (feq hc3436).2 (o_iconst X2795 hq at_235 (x := 0) rfl (o_istore X2795 hq at_236 rfl (o_aload X2795 hq at_238 rfl rfl (o_iload X2795 hq at_240 rfl (o_iload X2795 hq at_242 rfl (st3493 _ (o_goto X3493 hq at_245 (pc := 245) (pc' := 280) (o_aload X3493 hq at_280 rfl rfl (o_iload X3493 hq at_282 rfl (st3494 _ kt)))))))))))
     obtain rfl := kb67 u3505
     obtain rfl := kb111 u3506
     obtain rfl := kb110 u3507
     obtain rfl := kb116 u3508
     obtain rfl := kb114 u3509
     obtain rfl := kb108 u3511
     obtain ⟨_, T3526, L3526, X3526, hQ3526, st3526⟩ := own_cS X3494 hx hZ2690 hown2690 (ww76 hw) (ww77 hw) (ww1 hw) (ww78 hw) (rm16_79 l Z a0 hw b3502 a170 b3503 a7 a123 a128 a133 k172 a120 p11 a177 k179 67 111 110 116 114 i3500 108 k3504 a125 a183 k185 a130 a189 k191 a135 a195 k197 a199 T3494.heap n0 Ou3519 S_171 u3522 V173 E_174 F121 E_175 (own_n (own_t lt2804 (Keep.of_wr W3493).1) u3514) u3520 S_12 hk13 F176 u3521 F178 V180 u3524 F126 E_181 (own_n (own_t lt2805 (Keep.of_wr W3493).1) u3514) F182 F184 V186 F131 E_187 (own_n (own_t lt2806 (Keep.of_wr W3493).1) u3514) F188 F190 V192 F136 E_193 (own_n (own_t lt2807 (Keep.of_wr W3493).1) u3514) F194 F196 V198 S_200) rfl pd_21 hml (hb hby at_287) (Ls := (oL p1 p2 p3 p4 3 a133 b2690 7 b2695 1 5 i2811 7 0)) (W := 0) (argsL := [(.ref b3502)]) (rest := [])
     rcases hQ3526 with ⟨b3527, u3528, u3529, u3530, u3531, u3532, u3533, u3534, rfl, u3536, u3537, u3538, Ku3539, u3540, u3541⟩ | ⟨u3542, rfl, u3544, Ku3545⟩
     ·
      exact absurd u3533 (fun q => (own_bnl (c := (111 : Int32)) u3510 hi2811 (by decide +kernel) hc3436 : ¬ i3500 = 111) q.symm)
     ·
      have Ou3545 := Ou3519.keep Ku3545 all0
      have N3526 := Fr.app N3494 u3544
      obtain ⟨T3546, L3546, X3546, u3546, e3546, st3546⟩ := own_tE hw X3526 hx hby hml hZ2690 hown2690 Ou3545 E_315 F316 (oL p1 p2 p3 p4 3 a133 b2690 7 b2695 1 5 i2811 7 0) rfl
      have N3546 := Fr.app N3526 u3546
      refine fin (some (.int 1)) _ _ _ _ T2690.vm _ X3546 hS2690 (by rw [e3546]; exact (Nat.le_trans (Nat.le_trans (Nat.le_trans hz2797 (Keep.of_wr W3493).1) Ku3519.1) Ku3545.1)) nofun (fun fs hr => pre3525 _ ?_) (own_atH e3546 ?_) (by decide) (by decide)
      ·
       refine st3526 _ (st3546 _ ?_)
       exact retN X3546 hx (t := .boolean) hret (by simp) (hb hby at_302) hr
      ·
       exact ⟨rfl, N3546⟩
   ·
    subst hq2868
    have pre3548 : oS p e below EN T2795 (mkF m 228 #[vI p1, vI p2, vI p3, vI p4, vI 3, vR a133, vR b2690, vI 7, vR b2695, vI 1, vI 6, vI i2811, vI 7, .unset, .unset] [(.int 108), (.int i2811)]) := fun t kt => pre2867 t (o_caload X2795 hq at_227 hZ2690 e2795 V2795 (i := 6) (v := .int 108) (by decide +kernel) rfl kt)
    by_cases hc3549 : i2811 = 108
    ·
     subst hc3549
     obtain ⟨T3551, h3551, X3551, e3551, W3551, V3551, st3551⟩ := own_stC X2795 hx hZ2690 e2795 V2795 0 6 108 108 6 knc108 (hb hby at_244) (oL p1 p2 p3 p4 3 a133 b2690 7 b2695 1 6 108 7 1) [] (vs2 := [(.int 67), (.int 111), (.int 110), (.int 116), (.int 114), (.int 111), (.int 108), (.int 0)])
     have O3551 := O2795.wr W3551 g_b2695
     have N3551 := Fr.snoc X3551 N2795 g_b2695
     obtain ⟨_, T3552, L3552, X3552, hQ3552, st3552⟩ := own_cS X3551 hx hZ2690 hown2690 (ww52 hw) (ww53 hw) (ww27 hw) (ww54 hw) (rm9_73 l Z a0 hw b2695 67 111 110 116 114 111 108 0 k2695 p11 h3551 n0 O3551 V3551 kll255_67 kll67_0 (own_t lt2803 (Keep.of_wr W3551).1) kll255_111 kll111_0 kll255_110 kll110_0 kll255_116 kll116_0 kll255_114 kll114_0 kll255_111 kll111_0 kll255_108 kll108_0 S_12 hk13) e3551 pd_13 hml (hb hby at_284) (Ls := (oL p1 p2 p3 p4 3 a133 b2690 7 b2695 1 6 108 7 1)) (W := 0) (argsL := [(.ref b2695), (.int 7)]) (rest := [])
     obtain ⟨i3553, i3554, i3555, i3556, i3557, i3558, i3559, b3560, b3561, k3562, u3563, u3564, u3565, u3566, u3567, u3568, u3569, rfl, u3571, u3572, u3573, u3574, u3575, u3576, Ku3577, u3578, u3579, u3580, u3581, u3582⟩ := hQ3552
     have Ou3577 := O3551.keep Ku3577 all0
     have N3552 := Fr.app N3551 u3571
     have pre3583 : oS p e below EN T3552 (mkF m 287 (oL p1 p2 p3 p4 3 a133 b2690 7 b2695 1 6 108 7 1) [(.ref b3560)]) := fun t kt => pre3548 t (o_icmpN X2795 hq at_228 (by decide +kernel) (o_iconst X2795 hq at_231 (x := 1) rfl (o_goto X2795 hq at_232 (pc := 232) (pc' := 236) (o_istore X2795 hq at_236 rfl (o_aload X2795 hq at_238 rfl rfl (o_iload X2795 hq at_240 rfl (o_iload X2795 hq at_242 rfl (st3551 _ (o_goto X3551 hq at_245 (pc := 245) (pc' := 280) (o_aload X3551 hq at_280 rfl rfl (o_iload X3551 hq at_282 rfl (st3552 _ kt))))))))))))
     obtain rfl := kb67 u3563
     obtain rfl := kb111 u3564
     obtain rfl := kb110 u3565
     obtain rfl := kb116 u3566
     obtain rfl := kb114 u3567
     obtain rfl := kb111 u3568
     obtain rfl := kb108 u3569
     obtain ⟨_, T3584, L3584, X3584, hQ3584, st3584⟩ := own_cS X3552 hx hZ2690 hown2690 (ww76 hw) (ww77 hw) (ww1 hw) (ww78 hw) (rm16_79 l Z a0 hw b3560 a170 b3561 a7 a123 a128 a133 k172 a120 p11 a177 k179 67 111 110 116 114 111 108 k3562 a125 a183 k185 a130 a189 k191 a135 a195 k197 a199 T3552.heap n0 Ou3577 S_171 u3580 V173 E_174 F121 E_175 (own_n (own_t lt2804 (Keep.of_wr W3551).1) u3572) u3578 S_12 hk13 F176 u3579 F178 V180 u3582 F126 E_181 (own_n (own_t lt2805 (Keep.of_wr W3551).1) u3572) F182 F184 V186 F131 E_187 (own_n (own_t lt2806 (Keep.of_wr W3551).1) u3572) F188 F190 V192 F136 E_193 (own_n (own_t lt2807 (Keep.of_wr W3551).1) u3572) F194 F196 V198 S_200) rfl pd_21 hml (hb hby at_287) (Ls := (oL p1 p2 p3 p4 3 a133 b2690 7 b2695 1 6 108 7 1)) (W := 0) (argsL := [(.ref b3560)]) (rest := [])
     rcases hQ3584 with ⟨b3585, u3586, u3587, u3588, u3589, u3590, u3591, u3592, rfl, u3594, u3595, u3596, Ku3597, u3598, u3599⟩ | ⟨u3600, rfl, u3602, Ku3603⟩
     ·
      have Ou3597 := Ou3577.keep Ku3597 all0
      have N3584 := Fr.app N3552 u3594
      obtain ⟨T3604, L3604, X3604, u3604, e3604, st3604⟩ := own_tP hw X3584 hx hby hml hZ2690 hown2690 Ou3597 u3598 u3599 (oL p1 p2 p3 p4 3 a133 b2690 7 b2695 1 6 108 7 1) rfl
      have N3604 := Fr.app N3584 u3604
      refine fin (some (.int 1)) _ _ _ _ T2690.vm _ X3604 hS2690 (by rw [e3604]; exact (Nat.le_trans (Nat.le_trans (Nat.le_trans hz2797 (Keep.of_wr W3551).1) Ku3577.1) Ku3597.1)) nofun (fun fs hr => pre3583 _ ?_) (own_atH e3604 ?_) (by decide) (by decide)
      ·
       refine st3584 _ (st3604 _ ?_)
       exact retN X3604 hx (t := .boolean) hret (by simp) (hb hby at_326) hr
      ·
       exact ⟨rfl, N3604⟩
     ·
      exact absurd ⟨kle67_67, kle111_111, kle110_110, kle116_116, kle114_114, kle111_111, kle108_108⟩ u3600
    ·
     obtain ⟨T3606, h3606, X3606, e3606, W3606, V3606, st3606⟩ := own_stC X2795 hx hZ2690 e2795 V2795 0 6 i2811 i2811 6 (own_nar255 hi2811) (hb hby at_244) (oL p1 p2 p3 p4 3 a133 b2690 7 b2695 1 6 i2811 7 0) [] (vs2 := [(.int 67), (.int 111), (.int 110), (.int 116), (.int 114), (.int 111), (.int i2811), (.int 0)])
     have O3606 := O2795.wr W3606 g_b2695
     have N3606 := Fr.snoc X3606 N2795 g_b2695
     obtain ⟨_, T3607, L3607, X3607, hQ3607, st3607⟩ := own_cS X3606 hx hZ2690 hown2690 (ww52 hw) (ww53 hw) (ww27 hw) (ww54 hw) (rm9_73 l Z a0 hw b2695 67 111 110 116 114 111 i2811 0 k2695 p11 h3606 n0 O3606 V3606 kll255_67 kll67_0 (own_t lt2803 (Keep.of_wr W3606).1) kll255_111 kll111_0 kll255_110 kll110_0 kll255_116 kll116_0 kll255_114 kll114_0 kll255_111 kll111_0 (own_lt255 hi2811) (own_nn hi2811) S_12 hk13) e3606 pd_13 hml (hb hby at_284) (Ls := (oL p1 p2 p3 p4 3 a133 b2690 7 b2695 1 6 i2811 7 0)) (W := 0) (argsL := [(.ref b2695), (.int 7)]) (rest := [])
     obtain ⟨i3608, i3609, i3610, i3611, i3612, i3613, i3614, b3615, b3616, k3617, u3618, u3619, u3620, u3621, u3622, u3623, u3624, rfl, u3626, u3627, u3628, u3629, u3630, u3631, Ku3632, u3633, u3634, u3635, u3636, u3637⟩ := hQ3607
     have Ou3632 := O3606.keep Ku3632 all0
     have N3607 := Fr.app N3606 u3626
     have pre3638 : oS p e below EN T3607 (mkF m 287 (oL p1 p2 p3 p4 3 a133 b2690 7 b2695 1 6 i2811 7 0) [(.ref b3615)]) := fun t kt => pre3548 t (o_icmpY X2795 hq at_228 (pc := 228) (pc' := 235) (feq hc3549).2 (o_iconst X2795 hq at_235 (x := 0) rfl (o_istore X2795 hq at_236 rfl (o_aload X2795 hq at_238 rfl rfl (o_iload X2795 hq at_240 rfl (o_iload X2795 hq at_242 rfl (st3606 _ (o_goto X3606 hq at_245 (pc := 245) (pc' := 280) (o_aload X3606 hq at_280 rfl rfl (o_iload X3606 hq at_282 rfl (st3607 _ kt)))))))))))
     obtain rfl := kb67 u3618
     obtain rfl := kb111 u3619
     obtain rfl := kb110 u3620
     obtain rfl := kb116 u3621
     obtain rfl := kb114 u3622
     obtain rfl := kb111 u3623
     obtain ⟨_, T3639, L3639, X3639, hQ3639, st3639⟩ := own_cS X3607 hx hZ2690 hown2690 (ww76 hw) (ww77 hw) (ww1 hw) (ww78 hw) (rm16_79 l Z a0 hw b3615 a170 b3616 a7 a123 a128 a133 k172 a120 p11 a177 k179 67 111 110 116 114 111 i3614 k3617 a125 a183 k185 a130 a189 k191 a135 a195 k197 a199 T3607.heap n0 Ou3632 S_171 u3635 V173 E_174 F121 E_175 (own_n (own_t lt2804 (Keep.of_wr W3606).1) u3627) u3633 S_12 hk13 F176 u3634 F178 V180 u3637 F126 E_181 (own_n (own_t lt2805 (Keep.of_wr W3606).1) u3627) F182 F184 V186 F131 E_187 (own_n (own_t lt2806 (Keep.of_wr W3606).1) u3627) F188 F190 V192 F136 E_193 (own_n (own_t lt2807 (Keep.of_wr W3606).1) u3627) F194 F196 V198 S_200) rfl pd_21 hml (hb hby at_287) (Ls := (oL p1 p2 p3 p4 3 a133 b2690 7 b2695 1 6 i2811 7 0)) (W := 0) (argsL := [(.ref b3615)]) (rest := [])
     rcases hQ3639 with ⟨b3640, u3641, u3642, u3643, u3644, u3645, u3646, u3647, rfl, u3649, u3650, u3651, Ku3652, u3653, u3654⟩ | ⟨u3655, rfl, u3657, Ku3658⟩
     ·
      exact absurd u3647 (fun q => (own_bnl (c := (108 : Int32)) u3624 hi2811 (by decide +kernel) hc3549 : ¬ i3614 = 108) q.symm)
     ·
      have Ou3658 := Ou3632.keep Ku3658 all0
      have N3639 := Fr.app N3607 u3657
      obtain ⟨T3659, L3659, X3659, u3659, e3659, st3659⟩ := own_tE hw X3639 hx hby hml hZ2690 hown2690 Ou3658 E_315 F316 (oL p1 p2 p3 p4 3 a133 b2690 7 b2695 1 6 i2811 7 0) rfl
      have N3659 := Fr.app N3639 u3659
      refine fin (some (.int 1)) _ _ _ _ T2690.vm _ X3659 hS2690 (by rw [e3659]; exact (Nat.le_trans (Nat.le_trans (Nat.le_trans hz2797 (Keep.of_wr W3606).1) Ku3632.1) Ku3658.1)) nofun (fun fs hr => pre3638 _ ?_) (own_atH e3659 ?_) (by decide) (by decide)
      ·
       refine st3639 _ (st3659 _ ?_)
       exact retN X3659 hx (t := .boolean) hret (by simp) (hb hby at_302) hr
      ·
       exact ⟨rfl, N3659⟩
  ·
   subst hq2813
   have pre3660 : oS p e below EN T2795 (mkF m 254 #[vI p1, vI p2, vI p3, vI p4, vI 3, vR a133, vR b2690, vI 7, vR b2695, vI 2, vI i2810, vI i2811, vI 7, .unset, .unset] []) := fun t kt => pre2812 t (o_iload X2795 hq at_204 rfl (o_ifY X2795 hq at_206 (pc := 206) (pc' := 215) (by decide +kernel) (o_iload X2795 hq at_215 rfl (o_iconst X2795 hq at_217 (x := 1) rfl (o_icmpY X2795 hq at_218 (pc := 218) (pc' := 248) (by decide +kernel) (o_iload X2795 hq at_248 rfl (o_iconst X2795 hq at_250 (x := 2) rfl (o_icmpN X2795 hq at_251 (by decide +kernel) kt))))))))
   rcases (hi2810 ▸ own_mod7 hi2809 : i2810 = 0 ∨ i2810 = 1 ∨ i2810 = 2 ∨ i2810 = 3 ∨ i2810 = 4 ∨ i2810 = 5 ∨ i2810 = 6) with hq3661 | hq3661 | hq3661 | hq3661 | hq3661 | hq3661 | hq3661
   ·
    subst hq3661
    obtain ⟨_, T3662, L3662, X3662, hS3662, hZ3662, hown3662, cg3662, hQ3662, st3662⟩ := own_cSH (s := s) (vm0 := T2690.vm) X2795 hx hZ2690 hown2690 hS2690 hz2797 (own_EW hw) CR2795.1 (ww52 hw) (ww53 hw) (ww27 hw) (ww54 hw) (rm9_30 l Z a0 hw b2695 h2795 n0 O2795) e2795 pd_13 hml (hb hby at_284) (Ls := (oL p1 p2 p3 p4 3 a133 b2690 7 b2695 2 0 i2811 0 0)) (W := 0) (argsL := [(.ref b2695), (.int 0)]) (rest := [])
    obtain ⟨b3663, b3664, k3665, rfl, u3667, u3668, u3669, u3670, Ku3671, u3672, u3673, u3674, u3675⟩ := hQ3662
    have Ou3671 := O2795.keep Ku3671 all0
    have N3662 := Fr.app N2795 u3667
    obtain ⟨_, T3676, L3676, X3676, hQ3676, st3676⟩ := own_cS X3662 hx hZ3662 hown3662 (ww76 hw) (ww77 hw) (ww1 hw) (ww78 hw) (g16_33 b3663 b3664 _ 0 k3665 T3662.heap Ou3671 u3674 (own_n lt2804 u3668) u3672 u3673 u3675 kle4_0 (own_n lt2805 u3668) kle5_0 (own_n lt2806 u3668) kle6_0 (own_n lt2807 u3668) kle7_0) rfl pd_21 hml (hb hby at_287) (Ls := (oL p1 p2 p3 p4 3 a133 b2690 7 b2695 2 0 i2811 0 0)) (W := 0) (argsL := [(.ref b3663)]) (rest := [])
    obtain ⟨rfl, u3678, Ku3679⟩ := hQ3676
    have Ou3679 := Ou3671.keep Ku3679 all0
    have N3676 := Fr.app N3662 u3678
    obtain ⟨T3680, L3680, X3680, u3680, e3680, st3680⟩ := own_tE hw X3676 hx hby hml hZ3662 hown3662 Ou3679 E_315 F316 (oL p1 p2 p3 p4 3 a133 b2690 7 b2695 2 0 i2811 0 0) rfl
    have N3680 := Fr.app N3676 u3680
    refine fin (some (.int 1)) _ _ _ _ T3662.vm _ X3680 hS3662 (by rw [e3680]; exact (Nat.le_trans (Nat.le_refl _) Ku3679.1)) nofun (fun fs hr => pre3660 _ ?_) (own_atH e3680 ?_) (by decide) (by decide)
    ·
     refine o_iload X2795 hq at_254 rfl (o_istore X2795 hq at_256 rfl (o_iconst X2795 hq at_258 (x := 0) rfl (o_istore X2795 hq at_259 rfl (o_goto X2795 hq at_261 (pc := 261) (pc' := 280) (o_aload X2795 hq at_280 rfl rfl (o_iload X2795 hq at_282 rfl (st3662 _ (st3676 _ (st3680 _ ?_)))))))))
     exact retN X3680 hx (t := .boolean) hret (by simp) (hb hby at_302) hr
    ·
     exact ⟨rfl, N3680⟩
   ·
    subst hq3661
    obtain ⟨_, T3681, L3681, X3681, hQ3681, st3681⟩ := own_cS X2795 hx hZ2690 hown2690 (ww52 hw) (ww53 hw) (ww27 hw) (ww54 hw) (rm9_36 l Z a0 hw b2695 67 111 110 116 114 111 108 0 k2695 p11 h2795 n0 O2795 V2795 kll255_67 kll67_0 S_12 hk13) e2795 pd_13 hml (hb hby at_284) (Ls := (oL p1 p2 p3 p4 3 a133 b2690 7 b2695 2 1 i2811 1 0)) (W := 0) (argsL := [(.ref b2695), (.int 1)]) (rest := [])
    obtain ⟨i3682, b3683, b3684, k3685, u3686, rfl, u3688, u3689, u3690, u3691, u3692, u3693, Ku3694, u3695, u3696, u3697, u3698, u3699⟩ := hQ3681
    have Ou3694 := O2795.keep Ku3694 all0
    have N3681 := Fr.app N2795 u3688
    have pre3700 : oS p e below EN T3681 (mkF m 287 (oL p1 p2 p3 p4 3 a133 b2690 7 b2695 2 1 i2811 1 0) [(.ref b3683)]) := fun t kt => pre3660 t (o_iload X2795 hq at_254 rfl (o_istore X2795 hq at_256 rfl (o_iconst X2795 hq at_258 (x := 0) rfl (o_istore X2795 hq at_259 rfl (o_goto X2795 hq at_261 (pc := 261) (pc' := 280) (o_aload X2795 hq at_280 rfl rfl (o_iload X2795 hq at_282 rfl (st3681 _ kt))))))))
    obtain rfl := kb67 u3686
    obtain ⟨_, T3701, L3701, X3701, hQ3701, st3701⟩ := own_cS X3681 hx hZ2690 hown2690 (ww76 hw) (ww77 hw) (ww1 hw) (ww78 hw) (g16_42 b3683 b3684 _ 1 k3685 T3681.heap Ou3694 u3697 (own_n lt2804 u3689) u3695 u3696 u3699 kle4_1 (own_n lt2805 u3689) kle5_1 (own_n lt2806 u3689) kle6_1 (own_n lt2807 u3689) kle7_1) rfl pd_21 hml (hb hby at_287) (Ls := (oL p1 p2 p3 p4 3 a133 b2690 7 b2695 2 1 i2811 1 0)) (W := 0) (argsL := [(.ref b3683)]) (rest := [])
    obtain ⟨rfl, u3703, Ku3704⟩ := hQ3701
    have Ou3704 := Ou3694.keep Ku3704 all0
    have N3701 := Fr.app N3681 u3703
    obtain ⟨T3705, L3705, X3705, u3705, e3705, st3705⟩ := own_tE hw X3701 hx hby hml hZ2690 hown2690 Ou3704 E_315 F316 (oL p1 p2 p3 p4 3 a133 b2690 7 b2695 2 1 i2811 1 0) rfl
    have N3705 := Fr.app N3701 u3705
    refine fin (some (.int 1)) _ _ _ _ T2690.vm _ X3705 hS2690 (by rw [e3705]; exact (Nat.le_trans (Nat.le_trans hz2797 Ku3694.1) Ku3704.1)) nofun (fun fs hr => pre3700 _ ?_) (own_atH e3705 ?_) (by decide) (by decide)
    ·
     refine st3701 _ (st3705 _ ?_)
     exact retN X3705 hx (t := .boolean) hret (by simp) (hb hby at_302) hr
    ·
     exact ⟨rfl, N3705⟩
   ·
    subst hq3661
    obtain ⟨_, T3706, L3706, X3706, hQ3706, st3706⟩ := own_cS X2795 hx hZ2690 hown2690 (ww52 hw) (ww53 hw) (ww27 hw) (ww54 hw) (rm9_43 l Z a0 hw b2695 67 111 110 116 114 111 108 0 k2695 p11 h2795 n0 O2795 V2795 kll255_67 kll67_0 lt2803 kll255_111 kll111_0 S_12 hk13) e2795 pd_13 hml (hb hby at_284) (Ls := (oL p1 p2 p3 p4 3 a133 b2690 7 b2695 2 2 i2811 2 0)) (W := 0) (argsL := [(.ref b2695), (.int 2)]) (rest := [])
    obtain ⟨i3707, i3708, b3709, b3710, k3711, u3712, u3713, rfl, u3715, u3716, u3717, u3718, u3719, u3720, Ku3721, u3722, u3723, u3724, u3725, u3726⟩ := hQ3706
    have Ou3721 := O2795.keep Ku3721 all0
    have N3706 := Fr.app N2795 u3715
    have pre3727 : oS p e below EN T3706 (mkF m 287 (oL p1 p2 p3 p4 3 a133 b2690 7 b2695 2 2 i2811 2 0) [(.ref b3709)]) := fun t kt => pre3660 t (o_iload X2795 hq at_254 rfl (o_istore X2795 hq at_256 rfl (o_iconst X2795 hq at_258 (x := 0) rfl (o_istore X2795 hq at_259 rfl (o_goto X2795 hq at_261 (pc := 261) (pc' := 280) (o_aload X2795 hq at_280 rfl rfl (o_iload X2795 hq at_282 rfl (st3706 _ kt))))))))
    obtain rfl := kb67 u3712
    obtain rfl := kb111 u3713
    obtain ⟨_, T3728, L3728, X3728, hQ3728, st3728⟩ := own_cS X3706 hx hZ2690 hown2690 (ww76 hw) (ww77 hw) (ww1 hw) (ww78 hw) (g16_42 b3709 b3710 _ 2 k3711 T3706.heap Ou3721 u3724 (own_n lt2804 u3716) u3722 u3723 u3726 kle4_2 (own_n lt2805 u3716) kle5_2 (own_n lt2806 u3716) kle6_2 (own_n lt2807 u3716) kle7_2) rfl pd_21 hml (hb hby at_287) (Ls := (oL p1 p2 p3 p4 3 a133 b2690 7 b2695 2 2 i2811 2 0)) (W := 0) (argsL := [(.ref b3709)]) (rest := [])
    obtain ⟨rfl, u3730, Ku3731⟩ := hQ3728
    have Ou3731 := Ou3721.keep Ku3731 all0
    have N3728 := Fr.app N3706 u3730
    obtain ⟨T3732, L3732, X3732, u3732, e3732, st3732⟩ := own_tE hw X3728 hx hby hml hZ2690 hown2690 Ou3731 E_315 F316 (oL p1 p2 p3 p4 3 a133 b2690 7 b2695 2 2 i2811 2 0) rfl
    have N3732 := Fr.app N3728 u3732
    refine fin (some (.int 1)) _ _ _ _ T2690.vm _ X3732 hS2690 (by rw [e3732]; exact (Nat.le_trans (Nat.le_trans hz2797 Ku3721.1) Ku3731.1)) nofun (fun fs hr => pre3727 _ ?_) (own_atH e3732 ?_) (by decide) (by decide)
    ·
     refine st3728 _ (st3732 _ ?_)
     exact retN X3732 hx (t := .boolean) hret (by simp) (hb hby at_302) hr
    ·
     exact ⟨rfl, N3732⟩
   ·
    subst hq3661
    obtain ⟨_, T3733, L3733, X3733, hQ3733, st3733⟩ := own_cS X2795 hx hZ2690 hown2690 (ww52 hw) (ww53 hw) (ww27 hw) (ww54 hw) (rm9_49 l Z a0 hw b2695 67 111 110 116 114 111 108 0 k2695 p11 h2795 n0 O2795 V2795 kll255_67 kll67_0 lt2803 kll255_111 kll111_0 kll255_110 kll110_0 S_12 hk13) e2795 pd_13 hml (hb hby at_284) (Ls := (oL p1 p2 p3 p4 3 a133 b2690 7 b2695 2 3 i2811 3 0)) (W := 0) (argsL := [(.ref b2695), (.int 3)]) (rest := [])
    obtain ⟨i3734, i3735, i3736, b3737, b3738, k3739, u3740, u3741, u3742, rfl, u3744, u3745, u3746, u3747, u3748, u3749, Ku3750, u3751, u3752, u3753, u3754, u3755⟩ := hQ3733
    have Ou3750 := O2795.keep Ku3750 all0
    have N3733 := Fr.app N2795 u3744
    have pre3756 : oS p e below EN T3733 (mkF m 287 (oL p1 p2 p3 p4 3 a133 b2690 7 b2695 2 3 i2811 3 0) [(.ref b3737)]) := fun t kt => pre3660 t (o_iload X2795 hq at_254 rfl (o_istore X2795 hq at_256 rfl (o_iconst X2795 hq at_258 (x := 0) rfl (o_istore X2795 hq at_259 rfl (o_goto X2795 hq at_261 (pc := 261) (pc' := 280) (o_aload X2795 hq at_280 rfl rfl (o_iload X2795 hq at_282 rfl (st3733 _ kt))))))))
    obtain rfl := kb67 u3740
    obtain rfl := kb111 u3741
    obtain rfl := kb110 u3742
    obtain ⟨_, T3757, L3757, X3757, hQ3757, st3757⟩ := own_cS X3733 hx hZ2690 hown2690 (ww76 hw) (ww77 hw) (ww1 hw) (ww78 hw) (g16_42 b3737 b3738 _ 3 k3739 T3733.heap Ou3750 u3753 (own_n lt2804 u3745) u3751 u3752 u3755 kle4_3 (own_n lt2805 u3745) kle5_3 (own_n lt2806 u3745) kle6_3 (own_n lt2807 u3745) kle7_3) rfl pd_21 hml (hb hby at_287) (Ls := (oL p1 p2 p3 p4 3 a133 b2690 7 b2695 2 3 i2811 3 0)) (W := 0) (argsL := [(.ref b3737)]) (rest := [])
    obtain ⟨rfl, u3759, Ku3760⟩ := hQ3757
    have Ou3760 := Ou3750.keep Ku3760 all0
    have N3757 := Fr.app N3733 u3759
    obtain ⟨T3761, L3761, X3761, u3761, e3761, st3761⟩ := own_tE hw X3757 hx hby hml hZ2690 hown2690 Ou3760 E_315 F316 (oL p1 p2 p3 p4 3 a133 b2690 7 b2695 2 3 i2811 3 0) rfl
    have N3761 := Fr.app N3757 u3761
    refine fin (some (.int 1)) _ _ _ _ T2690.vm _ X3761 hS2690 (by rw [e3761]; exact (Nat.le_trans (Nat.le_trans hz2797 Ku3750.1) Ku3760.1)) nofun (fun fs hr => pre3756 _ ?_) (own_atH e3761 ?_) (by decide) (by decide)
    ·
     refine st3757 _ (st3761 _ ?_)
     exact retN X3761 hx (t := .boolean) hret (by simp) (hb hby at_302) hr
    ·
     exact ⟨rfl, N3761⟩
   ·
    subst hq3661
    obtain ⟨_, T3762, L3762, X3762, hQ3762, st3762⟩ := own_cS X2795 hx hZ2690 hown2690 (ww52 hw) (ww53 hw) (ww27 hw) (ww54 hw) (rm9_11 l Z a0 hw b2695 67 111 110 116 114 111 108 0 k2695 p11 h2795 n0 O2795 V2795 kll255_67 kll67_0 lt2803 kll255_111 kll111_0 kll255_110 kll110_0 kll255_116 kll116_0 S_12 hk13) e2795 pd_13 hml (hb hby at_284) (Ls := (oL p1 p2 p3 p4 3 a133 b2690 7 b2695 2 4 i2811 4 0)) (W := 0) (argsL := [(.ref b2695), (.int 4)]) (rest := [])
    obtain ⟨i3763, i3764, i3765, i3766, b3767, b3768, k3769, u3770, u3771, u3772, u3773, rfl, u3775, u3776, u3777, u3778, u3779, u3780, Ku3781, u3782, u3783, u3784, u3785, u3786⟩ := hQ3762
    have Ou3781 := O2795.keep Ku3781 all0
    have N3762 := Fr.app N2795 u3775
    have pre3787 : oS p e below EN T3762 (mkF m 287 (oL p1 p2 p3 p4 3 a133 b2690 7 b2695 2 4 i2811 4 0) [(.ref b3767)]) := fun t kt => pre3660 t (o_iload X2795 hq at_254 rfl (o_istore X2795 hq at_256 rfl (o_iconst X2795 hq at_258 (x := 0) rfl (o_istore X2795 hq at_259 rfl (o_goto X2795 hq at_261 (pc := 261) (pc' := 280) (o_aload X2795 hq at_280 rfl rfl (o_iload X2795 hq at_282 rfl (st3762 _ kt))))))))
    obtain rfl := kb67 u3770
    obtain rfl := kb111 u3771
    obtain rfl := kb110 u3772
    obtain rfl := kb116 u3773
    obtain ⟨_, T3788, L3788, X3788, hQ3788, st3788⟩ := own_cS X3762 hx hZ2690 hown2690 (ww76 hw) (ww77 hw) (ww1 hw) (ww78 hw) (g16_17 b3767 b3768 67 111 110 116 k3769 T3762.heap Ou3781 u3784 (own_n lt2804 u3776) u3782 u3783 u3786 (own_n lt2805 u3776) (own_n lt2806 u3776) (own_n lt2807 u3776)) rfl pd_21 hml (hb hby at_287) (Ls := (oL p1 p2 p3 p4 3 a133 b2690 7 b2695 2 4 i2811 4 0)) (W := 0) (argsL := [(.ref b3767)]) (rest := [])
    rcases hQ3788 with ⟨b3789, u3790, u3791, u3792, u3793, rfl, u3795, u3796, u3797, Ku3798, u3799, u3800⟩ | ⟨u3801, rfl, u3803, Ku3804⟩
    ·
     exact absurd u3790 (by decide +kernel)
    ·
     have Ou3804 := Ou3781.keep Ku3804 all0
     have N3788 := Fr.app N3762 u3803
     obtain ⟨T3805, L3805, X3805, u3805, e3805, st3805⟩ := own_tE hw X3788 hx hby hml hZ2690 hown2690 Ou3804 E_315 F316 (oL p1 p2 p3 p4 3 a133 b2690 7 b2695 2 4 i2811 4 0) rfl
     have N3805 := Fr.app N3788 u3805
     refine fin (some (.int 1)) _ _ _ _ T2690.vm _ X3805 hS2690 (by rw [e3805]; exact (Nat.le_trans (Nat.le_trans hz2797 Ku3781.1) Ku3804.1)) nofun (fun fs hr => pre3787 _ ?_) (own_atH e3805 ?_) (by decide) (by decide)
     ·
      refine st3788 _ (st3805 _ ?_)
      exact retN X3805 hx (t := .boolean) hret (by simp) (hb hby at_302) hr
     ·
      exact ⟨rfl, N3805⟩
   ·
    subst hq3661
    obtain ⟨_, T3806, L3806, X3806, hQ3806, st3806⟩ := own_cS X2795 hx hZ2690 hown2690 (ww52 hw) (ww53 hw) (ww27 hw) (ww54 hw) (rm9_55 l Z a0 hw b2695 67 111 110 116 114 111 108 0 k2695 p11 h2795 n0 O2795 V2795 kll255_67 kll67_0 lt2803 kll255_111 kll111_0 kll255_110 kll110_0 kll255_116 kll116_0 kll255_114 kll114_0 S_12 hk13) e2795 pd_13 hml (hb hby at_284) (Ls := (oL p1 p2 p3 p4 3 a133 b2690 7 b2695 2 5 i2811 5 0)) (W := 0) (argsL := [(.ref b2695), (.int 5)]) (rest := [])
    obtain ⟨i3807, i3808, i3809, i3810, i3811, b3812, b3813, k3814, u3815, u3816, u3817, u3818, u3819, rfl, u3821, u3822, u3823, u3824, u3825, u3826, Ku3827, u3828, u3829, u3830, u3831, u3832⟩ := hQ3806
    have Ou3827 := O2795.keep Ku3827 all0
    have N3806 := Fr.app N2795 u3821
    have pre3833 : oS p e below EN T3806 (mkF m 287 (oL p1 p2 p3 p4 3 a133 b2690 7 b2695 2 5 i2811 5 0) [(.ref b3812)]) := fun t kt => pre3660 t (o_iload X2795 hq at_254 rfl (o_istore X2795 hq at_256 rfl (o_iconst X2795 hq at_258 (x := 0) rfl (o_istore X2795 hq at_259 rfl (o_goto X2795 hq at_261 (pc := 261) (pc' := 280) (o_aload X2795 hq at_280 rfl rfl (o_iload X2795 hq at_282 rfl (st3806 _ kt))))))))
    obtain rfl := kb67 u3815
    obtain rfl := kb111 u3816
    obtain rfl := kb110 u3817
    obtain rfl := kb116 u3818
    obtain rfl := kb114 u3819
    obtain ⟨_, T3834, L3834, X3834, hQ3834, st3834⟩ := own_cS X3806 hx hZ2690 hown2690 (ww76 hw) (ww77 hw) (ww1 hw) (ww78 hw) (g16_61 b3812 b3813 67 111 110 116 114 k3814 T3806.heap Ou3827 u3830 (own_n lt2804 u3822) u3828 u3829 u3832 (own_n lt2805 u3822) (own_n lt2806 u3822) (own_n lt2807 u3822)) rfl pd_21 hml (hb hby at_287) (Ls := (oL p1 p2 p3 p4 3 a133 b2690 7 b2695 2 5 i2811 5 0)) (W := 0) (argsL := [(.ref b3812)]) (rest := [])
    rcases hQ3834 with ⟨b3835, u3836, u3837, u3838, u3839, u3840, rfl, u3842, u3843, u3844, Ku3845, u3846, u3847⟩ | ⟨u3848, rfl, u3850, Ku3851⟩
    ·
     exact absurd u3836 (by decide +kernel)
    ·
     have Ou3851 := Ou3827.keep Ku3851 all0
     have N3834 := Fr.app N3806 u3850
     obtain ⟨T3852, L3852, X3852, u3852, e3852, st3852⟩ := own_tE hw X3834 hx hby hml hZ2690 hown2690 Ou3851 E_315 F316 (oL p1 p2 p3 p4 3 a133 b2690 7 b2695 2 5 i2811 5 0) rfl
     have N3852 := Fr.app N3834 u3852
     refine fin (some (.int 1)) _ _ _ _ T2690.vm _ X3852 hS2690 (by rw [e3852]; exact (Nat.le_trans (Nat.le_trans hz2797 Ku3827.1) Ku3851.1)) nofun (fun fs hr => pre3833 _ ?_) (own_atH e3852 ?_) (by decide) (by decide)
     ·
      refine st3834 _ (st3852 _ ?_)
      exact retN X3852 hx (t := .boolean) hret (by simp) (hb hby at_302) hr
     ·
      exact ⟨rfl, N3852⟩
   ·
    subst hq3661
    obtain ⟨_, T3853, L3853, X3853, hQ3853, st3853⟩ := own_cS X2795 hx hZ2690 hown2690 (ww52 hw) (ww53 hw) (ww27 hw) (ww54 hw) (rm9_64 l Z a0 hw b2695 67 111 110 116 114 111 108 0 k2695 p11 h2795 n0 O2795 V2795 kll255_67 kll67_0 lt2803 kll255_111 kll111_0 kll255_110 kll110_0 kll255_116 kll116_0 kll255_114 kll114_0 kll255_111 kll111_0 S_12 hk13) e2795 pd_13 hml (hb hby at_284) (Ls := (oL p1 p2 p3 p4 3 a133 b2690 7 b2695 2 6 i2811 6 0)) (W := 0) (argsL := [(.ref b2695), (.int 6)]) (rest := [])
    obtain ⟨i3854, i3855, i3856, i3857, i3858, i3859, b3860, b3861, k3862, u3863, u3864, u3865, u3866, u3867, u3868, rfl, u3870, u3871, u3872, u3873, u3874, u3875, Ku3876, u3877, u3878, u3879, u3880, u3881⟩ := hQ3853
    have Ou3876 := O2795.keep Ku3876 all0
    have N3853 := Fr.app N2795 u3870
    have pre3882 : oS p e below EN T3853 (mkF m 287 (oL p1 p2 p3 p4 3 a133 b2690 7 b2695 2 6 i2811 6 0) [(.ref b3860)]) := fun t kt => pre3660 t (o_iload X2795 hq at_254 rfl (o_istore X2795 hq at_256 rfl (o_iconst X2795 hq at_258 (x := 0) rfl (o_istore X2795 hq at_259 rfl (o_goto X2795 hq at_261 (pc := 261) (pc' := 280) (o_aload X2795 hq at_280 rfl rfl (o_iload X2795 hq at_282 rfl (st3853 _ kt))))))))
    obtain rfl := kb67 u3863
    obtain rfl := kb111 u3864
    obtain rfl := kb110 u3865
    obtain rfl := kb116 u3866
    obtain rfl := kb114 u3867
    obtain rfl := kb111 u3868
    obtain ⟨_, T3883, L3883, X3883, hQ3883, st3883⟩ := own_cS X3853 hx hZ2690 hown2690 (ww76 hw) (ww77 hw) (ww1 hw) (ww78 hw) (g16_70 b3860 b3861 67 111 110 116 114 111 k3862 T3853.heap Ou3876 u3879 (own_n lt2804 u3871) u3877 u3878 u3881 (own_n lt2805 u3871) (own_n lt2806 u3871) (own_n lt2807 u3871)) rfl pd_21 hml (hb hby at_287) (Ls := (oL p1 p2 p3 p4 3 a133 b2690 7 b2695 2 6 i2811 6 0)) (W := 0) (argsL := [(.ref b3860)]) (rest := [])
    rcases hQ3883 with ⟨b3884, u3885, u3886, u3887, u3888, u3889, u3890, rfl, u3892, u3893, u3894, Ku3895, u3896, u3897⟩ | ⟨u3898, rfl, u3900, Ku3901⟩
    ·
     exact absurd u3885 (by decide +kernel)
    ·
     have Ou3901 := Ou3876.keep Ku3901 all0
     have N3883 := Fr.app N3853 u3900
     obtain ⟨T3902, L3902, X3902, u3902, e3902, st3902⟩ := own_tE hw X3883 hx hby hml hZ2690 hown2690 Ou3901 E_315 F316 (oL p1 p2 p3 p4 3 a133 b2690 7 b2695 2 6 i2811 6 0) rfl
     have N3902 := Fr.app N3883 u3902
     refine fin (some (.int 1)) _ _ _ _ T2690.vm _ X3902 hS2690 (by rw [e3902]; exact (Nat.le_trans (Nat.le_trans hz2797 Ku3876.1) Ku3901.1)) nofun (fun fs hr => pre3882 _ ?_) (own_atH e3902 ?_) (by decide) (by decide)
     ·
      refine st3883 _ (st3902 _ ?_)
      exact retN X3902 hx (t := .boolean) hret (by simp) (hb hby at_302) hr
     ·
      exact ⟨rfl, N3902⟩
  ·
   subst hq2813
   obtain ⟨T3904, h3904, X3904, e3904, W3904, V3904, st3904⟩ := own_stC X2795 hx hZ2690 e2795 V2795 0 7 i2811 i2811 7 (own_nar255 hi2811) (hb hby at_270) #[vI p1, vI p2, vI p3, vI p4, vI 3, vR a133, vR b2690, vI 7, vR b2695, vI 3, vI i2810, vI i2811, vI 7, .unset, .unset] [] (vs2 := [(.int 67), (.int 111), (.int 110), (.int 116), (.int 114), (.int 111), (.int 108), (.int i2811)])
   have O3904 := O2795.wr W3904 g_b2695
   have N3904 := Fr.snoc X3904 N2795 g_b2695
   obtain ⟨_, T3905, L3905, X3905, hQ3905, st3905⟩ := own_cS X3904 hx hZ2690 hown2690 (ww52 hw) (ww53 hw) (ww27 hw) (ww54 hw) (rm9_82 l Z a0 hw b2695 67 111 110 116 114 111 108 i2811 k2695 p11 h3904 n0 O3904 V3904 kll255_67 kll67_0 (own_t lt2803 (Keep.of_wr W3904).1) kll255_111 kll111_0 kll255_110 kll110_0 kll255_116 kll116_0 kll255_114 kll114_0 kll255_111 kll111_0 kll255_108 kll108_0 (own_lt255 hi2811) (own_nn hi2811) S_12 hk13) e3904 pd_13 hml (hb hby at_284) (Ls := (oL p1 p2 p3 p4 3 a133 b2690 7 b2695 3 i2810 i2811 8 0)) (W := 0) (argsL := [(.ref b2695), (.int 8)]) (rest := [])
   obtain ⟨i3906, i3907, i3908, i3909, i3910, i3911, i3912, i3913, b3914, b3915, k3916, u3917, u3918, u3919, u3920, u3921, u3922, u3923, u3924, rfl, u3926, u3927, u3928, u3929, u3930, u3931, Ku3932, u3933, u3934, u3935, u3936, u3937⟩ := hQ3905
   have Ou3932 := O3904.keep Ku3932 all0
   have N3905 := Fr.app N3904 u3926
   have pre3938 : oS p e below EN T3905 (mkF m 287 (oL p1 p2 p3 p4 3 a133 b2690 7 b2695 3 i2810 i2811 8 0) [(.ref b3914)]) := fun t kt => pre2812 t (o_iload X2795 hq at_204 rfl (o_ifY X2795 hq at_206 (pc := 206) (pc' := 215) (by decide +kernel) (o_iload X2795 hq at_215 rfl (o_iconst X2795 hq at_217 (x := 1) rfl (o_icmpY X2795 hq at_218 (pc := 218) (pc' := 248) (by decide +kernel) (o_iload X2795 hq at_248 rfl (o_iconst X2795 hq at_250 (x := 2) rfl (o_icmpY X2795 hq at_251 (pc := 251) (pc' := 264) (by decide +kernel) (o_aload X2795 hq at_264 rfl rfl (o_iload X2795 hq at_266 rfl (o_iload X2795 hq at_268 rfl (st3904 _ (o_iload X3904 hq at_271 rfl (o_iconst X3904 hq at_273 (x := 1) rfl (o_iadd X3904 hq at_274 (z := 8) (by decide +kernel) (o_istore X3904 hq at_275 rfl (o_iconst X3904 hq at_277 (x := 0) rfl (o_istore X3904 hq at_278 rfl (o_aload X3904 hq at_280 rfl rfl (o_iload X3904 hq at_282 rfl (st3905 _ kt)))))))))))))))))))))
   obtain rfl := kb67 u3917
   obtain rfl := kb111 u3918
   obtain rfl := kb110 u3919
   obtain rfl := kb116 u3920
   obtain rfl := kb114 u3921
   obtain rfl := kb111 u3922
   obtain rfl := kb108 u3923
   obtain ⟨_, T3939, L3939, X3939, hQ3939, st3939⟩ := own_cS X3905 hx hZ2690 hown2690 (ww76 hw) (ww77 hw) (ww1 hw) (ww78 hw) (rm16_42 l Z a0 hw b3914 a170 b3915 a7 a123 a128 a133 k172 a120 p11 a177 k179 _ 8 k3916 a125 a183 k185 a130 a189 k191 a135 a195 k197 a199 T3905.heap n0 Ou3932 S_171 u3935 V173 E_174 F121 E_175 (own_n (own_t lt2804 (Keep.of_wr W3904).1) u3927) u3933 S_12 hk13 F176 u3934 F178 V180 u3937 kle4_8 F126 E_181 (own_n (own_t lt2805 (Keep.of_wr W3904).1) u3927) F182 F184 V186 kle5_8 F131 E_187 (own_n (own_t lt2806 (Keep.of_wr W3904).1) u3927) F188 F190 V192 kle6_8 F136 E_193 (own_n (own_t lt2807 (Keep.of_wr W3904).1) u3927) F194 F196 V198 kle7_8 S_200) rfl pd_21 hml (hb hby at_287) (Ls := (oL p1 p2 p3 p4 3 a133 b2690 7 b2695 3 i2810 i2811 8 0)) (W := 0) (argsL := [(.ref b3914)]) (rest := [])
   obtain ⟨rfl, u3941, Ku3942⟩ := hQ3939
   have Ou3942 := Ou3932.keep Ku3942 all0
   have N3939 := Fr.app N3905 u3941
   obtain ⟨T3943, L3943, X3943, u3943, e3943, st3943⟩ := own_tE hw X3939 hx hby hml hZ2690 hown2690 Ou3942 E_315 F316 (oL p1 p2 p3 p4 3 a133 b2690 7 b2695 3 i2810 i2811 8 0) rfl
   have N3943 := Fr.app N3939 u3943
   refine fin (some (.int 1)) _ _ _ _ T2690.vm _ X3943 hS2690 (by rw [e3943]; exact (Nat.le_trans (Nat.le_trans (Nat.le_trans hz2797 (Keep.of_wr W3904).1) Ku3932.1) Ku3942.1)) nofun (fun fs hr => pre3938 _ ?_) (own_atH e3943 ?_) (by decide) (by decide)
   ·
    refine st3939 _ (st3943 _ ?_)
    exact retN X3943 hx (t := .boolean) hret (by simp) (hb hby at_302) hr
   ·
    exact ⟨rfl, N3943⟩
set_option maxRecDepth 65536 in
set_option maxHeartbeats 40000000 in
theorem comes_1 {Post : Tables → Env → Array Value → State → Outcome → State → Prop} (hpost : ∀ tb e args s v u, (limb_1_1.after args s (.returned v) u = true ∧ limb_1_2.after args s (.returned v) u = true ∧ True) → ReturnedEndW s (.returned v) u (Jvm.fieldLocs frame_1_writes args s ++ Jvm.arrayLocs frame_1_arrays args s ++ Jvm.staticLocs frame_1_statics s) 32 5312 → Post tb e args s (.returned v) u) :
    ArmFor flags0 classFile x code maxLocals ret World_1 tables_1 room_1 Calls_1 rest_1 Pre_1 Post := by
  intro l hfl _ _ p e ha hc hk s m args below hf hA hF happ hP
  obtain ⟨hcalls, hrest, hpre⟩ := hP
  obtain ⟨-, -, -, hnamed, -, -, -, hat⟩ := (Spec.applies_iff hf).mp happ
  obtain ⟨hg, hn⟩ := and_e (Cond.before_iff.mp (show (Jvm.Cond.and given_1 narrow_1).before args s = true from hpre))
  obtain ⟨h1, hr0⟩ := and_e hg
  obtain ⟨ha0, hr1⟩ := and_e hr0
  obtain ⟨ha1, hr2⟩ := and_e hr1
  obtain ⟨ha2, hr3⟩ := and_e hr2
  obtain ⟨w0, w1, w2, w3, rfl⟩ : ∃ w0 w1 w2 w3 : Value, args = #[w0, w1, w2, w3] := by
    have hs : args.size = 4 := by simpa [Cond.value, given_1] using h1
    obtain ⟨L⟩ := args
    match L, hs with
    | [w0, w1, w2, w3], _ => exact ⟨w0, w1, w2, w3, rfl⟩
  have hwt := fun d (hd : d ∈ tables_1) => atoms_spec (ws := Jvm.Cond.code x code maxLocals ret :: tables_1) hat d (List.mem_cons_of_mem _ hd)
  obtain ⟨hsets, hown0⟩ := atoms_of _ (rest_1_c_eq ▸ (show rest_1_c.before _ s = true from hrest))
  have hw : ∀ d ∈ own_ws, d.before _ s = true := fun d hd => (List.mem_append.mp hd).elim (hwt d) (hsets d)
  have hfit : Fit s := fun {y c} hc i hi => by
    obtain ⟨ha, rfl⟩ := Array.getElem?_eq_some_iff.mp hc
    have q := List.all_eq_true.mp ((Array.all_eq_true_iff_forall_mem.mp hF) _ (Array.getElem_mem ha)) i (List.mem_range.mpr hi)
    simpa [Array.getElem?_eq_getElem hi] using q
  obtain ⟨i0, ei0⟩ := is_v ha0
  obtain rfl : w0 = (.int i0) := Option.some.inj ei0
  obtain ⟨i1, ei1⟩ := is_v ha1
  obtain rfl : w1 = (.int i1) := Option.some.inj ei1
  obtain ⟨i2, ei2⟩ := is_v ha2
  obtain rfl : w2 = (.int i2) := Option.some.inj ei2
  obtain ⟨i3, ei3⟩ := is_v hr3
  obtain rfl : w3 = (.int i3) := Option.some.inj ei3
  have hheld : ∀ p ∈ own_EL, Jvm.Lit.constHeld s p.1 p.2 := own_held hcalls
  obtain ⟨c1, c2⟩ := and_e hn
  obtain ⟨c3, c4⟩ := and_e c2
  obtain ⟨c5, c6⟩ := and_e c4
  obtain ⟨c7, c8⟩ := and_e c6
  obtain ⟨c9, c10⟩ := and_e c8
  obtain ⟨c11, c12⟩ := and_e c10
  obtain ⟨c13, c14⟩ := and_e c12
  obtain ⟨c15, c16⟩ := and_e c14
  obtain ⟨c17, c18⟩ := and_e c16
  obtain ⟨c19, c20⟩ := and_e c18
  obtain ⟨c21, c22⟩ := and_e c20
  obtain ⟨c23, c24⟩ := and_e c22
  obtain ⟨c25, c26⟩ := and_e c24
  obtain ⟨c27, c28⟩ := and_e c26
  obtain ⟨c29, c30⟩ := and_e c28
  obtain ⟨c31, c32⟩ := and_e c30
  obtain ⟨c33, c34⟩ := and_e c32
  obtain ⟨c35, c36⟩ := and_e c34
  obtain ⟨c37, c38⟩ := and_e c36
  obtain ⟨c39, c40⟩ := and_e c38
  obtain ⟨c41, c42⟩ := and_e c40
  obtain ⟨c43, c44⟩ := and_e c42
  obtain ⟨c45, c46⟩ := and_e c44
  obtain ⟨c47, c48⟩ := and_e c46
  obtain ⟨c49, c50⟩ := and_e c48
  obtain ⟨c51, c52⟩ := and_e c50
  obtain ⟨c53, c54⟩ := and_e c52
  obtain ⟨c55, c56⟩ := and_e c54
  obtain ⟨c57, c58⟩ := and_e c56
  obtain ⟨c59, c60⟩ := and_e c58
  obtain ⟨c61, c62⟩ := and_e c60
  obtain ⟨c63, c64⟩ := and_e c62
  obtain ⟨c65, c66⟩ := and_e c64
  obtain ⟨c67, c68⟩ := and_e c66
  obtain ⟨c69, c70⟩ := and_e c68
  obtain ⟨c71, c72⟩ := and_e c70
  obtain ⟨c73, c74⟩ := and_e c72
  obtain ⟨c75, c76⟩ := and_e c74
  obtain ⟨c77, c78⟩ := and_e c76
  obtain ⟨c79, c80⟩ := and_e c78
  obtain ⟨c81, c82⟩ := and_e c80
  obtain ⟨c83, c84⟩ := and_e c82
  obtain ⟨c85, c86⟩ := and_e c84
  obtain ⟨c87, c88⟩ := and_e c86
  obtain ⟨c89, c90⟩ := and_e c88
  obtain ⟨c91, c92⟩ := and_e c90
  obtain ⟨c93, c94⟩ := and_e c92
  obtain ⟨c95, c96⟩ := and_e c94
  have hs1 := Cond.before_iff.mp (hsets _ (List.mem_of_getElem? (i := 1) rfl))
  have hs2 := Cond.before_iff.mp (hsets _ (List.mem_of_getElem? (i := 2) rfl))
  have hs8 := Cond.before_iff.mp (hsets _ (List.mem_of_getElem? (i := 8) rfl))
  have hs11 := Cond.before_iff.mp (hsets _ (List.mem_of_getElem? (i := 11) rfl))
  have hs12 := Cond.before_iff.mp (hsets _ (List.mem_of_getElem? (i := 12) rfl))
  obtain ⟨o1, ev_o1⟩ := exa_v c1
  have S_o1 : Sta s s.heap "com/example/stern_warden/sternwarden/model/AccessMode" "READ" "Lcom/example/stern_warden/sternwarden/model/AccessMode;" (.ref o1) := Sta.start ev_o1 (Or.inr ⟨(ww1 hw), (ww2 hw)⟩)
  have E_o1 : Exa s s.heap o1 "com/example/stern_warden/sternwarden/model/AccessMode" := Exa.start ev_o1 c1
  obtain ⟨o2, ev_o2⟩ := arr_v c3
  have S_o2 : Sta s s.heap "com/example/stern_warden/sternwarden/model/AccessMode" "$VALUES" "[Lcom/example/stern_warden/sternwarden/model/AccessMode;" (.ref o2) := Sta.start ev_o2 (Or.inl (ww94 hw))
  obtain ⟨cl_o2, Ar_o2⟩ := Arr.start ev_o2 c3
  have E_o2 : Exa s s.heap o2 "[Lcom/example/stern_warden/sternwarden/model/AccessMode;" := Exa.start ev_o2 c5
  have ev97 := own_eqI c7
  have ev98 := own_eqR ev_o1 c9
  obtain ⟨o3, ev_o3⟩ := exa_v c11
  have S_o3 : Sta s s.heap "com/example/stern_warden/sternwarden/model/AccessMode" "WRITE" "Lcom/example/stern_warden/sternwarden/model/AccessMode;" (.ref o3) := Sta.start ev_o3 (Or.inr ⟨(ww1 hw), (ww91 hw)⟩)
  have E_o3 : Exa s s.heap o3 "com/example/stern_warden/sternwarden/model/AccessMode" := Exa.start ev_o3 c11
  have ev99 := own_eqR ev_o3 c13
  obtain ⟨o4, ev_o4⟩ := exa_v c15
  have S_o4 : Sta s s.heap "com/example/stern_warden/sternwarden/model/AccessMode" "APPEND" "Lcom/example/stern_warden/sternwarden/model/AccessMode;" (.ref o4) := Sta.start ev_o4 (Or.inr ⟨(ww1 hw), (ww92 hw)⟩)
  have E_o4 : Exa s s.heap o4 "com/example/stern_warden/sternwarden/model/AccessMode" := Exa.start ev_o4 c15
  have ev100 := own_eqR ev_o4 c17
  obtain ⟨o5, ev_o5⟩ := exa_v c19
  have S_o5 : Sta s s.heap "com/example/stern_warden/sternwarden/model/AccessMode" "CONTROL" "Lcom/example/stern_warden/sternwarden/model/AccessMode;" (.ref o5) := Sta.start ev_o5 (Or.inr ⟨(ww1 hw), (ww93 hw)⟩)
  have E_o5 : Exa s s.heap o5 "com/example/stern_warden/sternwarden/model/AccessMode" := Exa.start ev_o5 c19
  have ev101 := own_eqR ev_o5 c21
  obtain ⟨o6, ev_o6⟩ := exa_v c23
  have Ff_o6 : Fld s s.heap o1 "com/example/stern_warden/sternwarden/model/AccessMode" "localName" "Ljava/lang/String;" (.ref o6) := Fld.start ((fld_at ev_o1).symm.trans ev_o6)
  have E_o6 : Exa s s.heap o6 "java/lang/String" := Exa.start ev_o6 c23
  have F102 : Fld s s.heap o6 "java/lang/String" "coder" "B" (.int 0) := Fld.start ((fld_at ev_o6).symm.trans (own_eqI c25))
  obtain ⟨o7, ev_o7⟩ := arr_v c27
  have Ff_o7 : Fld s s.heap o6 "java/lang/String" "value" "[B" (.ref o7) := Fld.start ((fld_at ev_o6).symm.trans ev_o7)
  obtain ⟨cl_o7, Ar_o7⟩ := Arr.start ev_o7 c27
  have ev103 := own_eqI c29
  obtain ⟨o8, ev_o8⟩ := exa_v c31
  have Ff_o8 : Fld s s.heap o3 "com/example/stern_warden/sternwarden/model/AccessMode" "localName" "Ljava/lang/String;" (.ref o8) := Fld.start ((fld_at ev_o3).symm.trans ev_o8)
  have E_o8 : Exa s s.heap o8 "java/lang/String" := Exa.start ev_o8 c31
  have F104 : Fld s s.heap o8 "java/lang/String" "coder" "B" (.int 0) := Fld.start ((fld_at ev_o8).symm.trans (own_eqI c33))
  obtain ⟨o9, ev_o9⟩ := arr_v c35
  have Ff_o9 : Fld s s.heap o8 "java/lang/String" "value" "[B" (.ref o9) := Fld.start ((fld_at ev_o8).symm.trans ev_o9)
  obtain ⟨cl_o9, Ar_o9⟩ := Arr.start ev_o9 c35
  have ev105 := own_eqI c37
  obtain ⟨o10, ev_o10⟩ := exa_v c39
  have Ff_o10 : Fld s s.heap o4 "com/example/stern_warden/sternwarden/model/AccessMode" "localName" "Ljava/lang/String;" (.ref o10) := Fld.start ((fld_at ev_o4).symm.trans ev_o10)
  have E_o10 : Exa s s.heap o10 "java/lang/String" := Exa.start ev_o10 c39
  have F106 : Fld s s.heap o10 "java/lang/String" "coder" "B" (.int 0) := Fld.start ((fld_at ev_o10).symm.trans (own_eqI c41))
  obtain ⟨o11, ev_o11⟩ := arr_v c43
  have Ff_o11 : Fld s s.heap o10 "java/lang/String" "value" "[B" (.ref o11) := Fld.start ((fld_at ev_o10).symm.trans ev_o11)
  obtain ⟨cl_o11, Ar_o11⟩ := Arr.start ev_o11 c43
  have ev107 := own_eqI c45
  obtain ⟨o12, ev_o12⟩ := exa_v c47
  have Ff_o12 : Fld s s.heap o5 "com/example/stern_warden/sternwarden/model/AccessMode" "localName" "Ljava/lang/String;" (.ref o12) := Fld.start ((fld_at ev_o5).symm.trans ev_o12)
  have E_o12 : Exa s s.heap o12 "java/lang/String" := Exa.start ev_o12 c47
  have F108 : Fld s s.heap o12 "java/lang/String" "coder" "B" (.int 0) := Fld.start ((fld_at ev_o12).symm.trans (own_eqI c49))
  obtain ⟨o13, ev_o13⟩ := arr_v c51
  have Ff_o13 : Fld s s.heap o12 "java/lang/String" "value" "[B" (.ref o13) := Fld.start ((fld_at ev_o12).symm.trans ev_o13)
  obtain ⟨cl_o13, Ar_o13⟩ := Arr.start ev_o13 c51
  have ev109 := own_eqI c53
  have ev110 := own_eqI c55
  have ev111 := own_eqI c57
  have ev112 := own_eqI c59
  have ev113 := own_eqI c61
  have ev114 := own_eqI c63
  have ev115 := own_eqI c65
  have ev116 := own_eqI c67
  have ev117 := own_eqI c69
  have ev118 := own_eqI c71
  have ev119 := own_eqI c73
  have ev120 := own_eqI c75
  have ev121 := own_eqI c77
  have ev122 := own_eqI c79
  have ev123 := own_eqI c81
  have ev124 := own_eqI c83
  have ev125 := own_eqI c85
  have ev126 := own_eqI c87
  have ev127 := own_eqI c89
  have ev128 := own_eqI c91
  have ev129 := own_eqI c93
  have ev130 := own_eqI c95
  have ev131 := own_eqI c96
  obtain ⟨n1, ev_n1⟩ := is_v hs1
  have S_n1 : Sta s s.heap "java/lang/String" "COMPACT_STRINGS" "Z" (.int n1) := Sta.start ev_n1 (Or.inl (ww151 hw))
  have cn132 : ¬ (n1 = (0 : Int32)) := gotF (Cond.eq_ints ev_n1 (Term.int_eval (0))) (not_v hs2)
  obtain ⟨r2, ev_r2, ir_r2⟩ := isR_v hs8
  have S_r2 : Sta s s.heap "jdk/internal/util/Preconditions" "SIOOBE_FORMATTER" "Ljava/util/function/BiFunction;" r2 := Sta.start ev_r2 (Or.inl (ww158 hw))
  obtain ⟨o14, ev_o14⟩ := exa_v hs11
  have S_o14 : Sta s s.heap "java/util/Optional" "EMPTY" "Ljava/util/Optional;" (.ref o14) := Sta.start ev_o14 (Or.inl (ww161 hw))
  have E_o14 : Exa s s.heap o14 "java/util/Optional" := Exa.start ev_o14 hs11
  have F133 : Fld s s.heap o14 "java/util/Optional" "value" "Ljava/lang/Object;" .null := Fld.start ((fld_at ev_o14).symm.trans (null_v hs12))
  obtain ⟨sm_o2, sz_o2⟩ := own_len ev_o2 Ar_o2 ev97
  have V_o2 : Arv s s.heap o2 cl_o2.cls (.object "com/example/stern_warden/sternwarden/model/AccessMode") (4 : Int32) [(.ref o1), (.ref o3), (.ref o4), (.ref o5)] .null := Arv.start hfit Ar_o2 sm_o2 sz_o2 (by decide +kernel) rfl ⟨own_elem ev_o2 Ar_o2 ev98 rfl, ⟨own_elem ev_o2 Ar_o2 ev99 rfl, ⟨own_elem ev_o2 Ar_o2 ev100 rfl, ⟨own_elem ev_o2 Ar_o2 ev101 rfl, trivial⟩⟩⟩⟩
  obtain ⟨sm_o7, sz_o7⟩ := own_len ev_o7 Ar_o7 ev103
  have V_o7 : Arv s s.heap o7 cl_o7.cls .byte (4 : Int32) [(.int 82), (.int 101), (.int 97), (.int 100)] (.int (0 : Int32)) := Arv.start hfit Ar_o7 sm_o7 sz_o7 (by decide +kernel) rfl ⟨own_elem ev_o7 Ar_o7 ev110 rfl, ⟨own_elem ev_o7 Ar_o7 ev111 rfl, ⟨own_elem ev_o7 Ar_o7 ev112 rfl, ⟨own_elem ev_o7 Ar_o7 ev113 rfl, trivial⟩⟩⟩⟩
  obtain ⟨sm_o9, sz_o9⟩ := own_len ev_o9 Ar_o9 ev105
  have V_o9 : Arv s s.heap o9 cl_o9.cls .byte (5 : Int32) [(.int 87), (.int 114), (.int 105), (.int 116), (.int 101)] (.int (0 : Int32)) := Arv.start hfit Ar_o9 sm_o9 sz_o9 (by decide +kernel) rfl ⟨own_elem ev_o9 Ar_o9 ev114 rfl, ⟨own_elem ev_o9 Ar_o9 ev115 rfl, ⟨own_elem ev_o9 Ar_o9 ev116 rfl, ⟨own_elem ev_o9 Ar_o9 ev117 rfl, ⟨own_elem ev_o9 Ar_o9 ev118 rfl, trivial⟩⟩⟩⟩⟩
  obtain ⟨sm_o11, sz_o11⟩ := own_len ev_o11 Ar_o11 ev107
  have V_o11 : Arv s s.heap o11 cl_o11.cls .byte (6 : Int32) [(.int 65), (.int 112), (.int 112), (.int 101), (.int 110), (.int 100)] (.int (0 : Int32)) := Arv.start hfit Ar_o11 sm_o11 sz_o11 (by decide +kernel) rfl ⟨own_elem ev_o11 Ar_o11 ev119 rfl, ⟨own_elem ev_o11 Ar_o11 ev120 rfl, ⟨own_elem ev_o11 Ar_o11 ev121 rfl, ⟨own_elem ev_o11 Ar_o11 ev122 rfl, ⟨own_elem ev_o11 Ar_o11 ev123 rfl, ⟨own_elem ev_o11 Ar_o11 ev124 rfl, trivial⟩⟩⟩⟩⟩⟩
  obtain ⟨sm_o13, sz_o13⟩ := own_len ev_o13 Ar_o13 ev109
  have V_o13 : Arv s s.heap o13 cl_o13.cls .byte (7 : Int32) [(.int 67), (.int 111), (.int 110), (.int 116), (.int 114), (.int 111), (.int 108)] (.int (0 : Int32)) := Arv.start hfit Ar_o13 sm_o13 sz_o13 (by decide +kernel) rfl ⟨own_elem ev_o13 Ar_o13 ev125 rfl, ⟨own_elem ev_o13 Ar_o13 ev126 rfl, ⟨own_elem ev_o13 Ar_o13 ev127 rfl, ⟨own_elem ev_o13 Ar_o13 ev128 rfl, ⟨own_elem ev_o13 Ar_o13 ev129 rfl, ⟨own_elem ev_o13 Ar_o13 ev130 rfl, ⟨own_elem ev_o13 Ar_o13 ev131 rfl, trivial⟩⟩⟩⟩⟩⟩⟩
  obtain ⟨n, o, h1, h2, h3, _, L, rfl, ⟨rfl, N⟩, hq⟩ := rm0 l s _ hw tables_1 i0 i1 i2 i3 o1 n1 r2 o6 o3 o8 o4 o10 o5 o12 o2 cl_o2.cls o7 cl_o7.cls o9 cl_o9.cls o11 cl_o11.cls o13 cl_o13.cls o14 s.heap s.heap.size (Old.start s) S_o1 S_n1 cn132 S_r2 ir_r2 Ff_o6 E_o6.lt S_o3 Ff_o8 E_o8.lt S_o4 Ff_o10 E_o10.lt S_o5 Ff_o12 E_o12.lt S_o2 V_o2 E_o2 E_o6 F102 Ff_o7 V_o7 E_o8 F104 Ff_o9 V_o9 E_o10 F106 Ff_o11 V_o11 E_o12 F108 Ff_o13 V_o13 S_o14 E_o14 F133 p e ha hc hk s m _ below hf ((Spec.applies_iff_loose hf).mp happ).1 ⟨rfl, State.Warmed39.refl s, rfl, CHv.start (own_EW hw) hheld (own_compact hw) (ww6 hw) (ww5 hw)⟩ trivial
  refine ⟨n, _, h1, h2, h3, hpost _ _ _ _ _ _ ⟨Cond.after_iff.mpr rfl, Cond.after_iff.mpr (eq_i res_at (Term.int_eval (1)) rfl), trivial⟩ ⟨hq.1, hq.2.1, hq.2.2.1, (hq.2.2.2.sift fun y hy => Or.inr (N y hy)).mono (by decide) (by decide)⟩⟩
theorem main_1_1 : Claimed_1_1 := comes_1 fun _ _ _ _ _ _ h hF => ⟨h.1, hF⟩
theorem main_1_2 : Claimed_1_2 := comes_1 fun _ _ _ _ _ _ h hF => ⟨h.2.1, hF⟩
end Jvm.Pilot.@@N@@
namespace Jvm.Pilot.@@N@@
open Jvm Jvm.ClassFile Sem Op Lib Jvm.Free Jvm.Stand Jvm.Pilot.@@N@@.Jvm.D
/-! MADE BY PROGRAM (witnessworld.py) out of the Statement's table words and the real class files: 24 classes; the members and pool entries that the words name. The judged class is class 1, her method 3. -/
namespace start1
open Jvm.ClassFile
def u (s : String) : CpInfo := .utf8 (stringToUtf16 s)
/-- a pool by its gaps: so many unusable entries, then the entry; so many at the end -/
def gap : Nat → List CpInfo → List CpInfo
  | 0, r => r
  | n + 1, r => .unusable :: gap n r
def poolList (es : List (Nat × CpInfo)) (last : Nat) : List CpInfo := es.foldr (fun e r => gap e.1 (e.2 :: r)) (gap last [])
def pool (es : List (Nat × CpInfo)) (last : Nat) : Array CpInfo := ⟨poolList es last⟩
def fileOf (pool : Array CpInfo) (this : Nat) (attrs : Array Attribute := #[]) (ms : Array MethodInfo := #[]) (fl : Nat := 33) (sup : Nat := 0) (ifs : Array Nat := #[]) (fds : Array FieldInfo := #[]) : ClassFile where
  minorVersion := 0
  majorVersion := 65
  constantPool := pool
  accessFlags := fl
  thisClass := this
  superClass := sup
  interfaces := ifs
  fields := fds
  methods := ms
  attributes := attrs
def plain (name : String) (sup : Option ClassId) : Class where
  name := name
  kind := .ordinary
  loader := none
  accessFlags := 33
  super := sup
  interfaces := #[]
  cf := none
  fields := #[]
  methods := #[]
  instanceTypes := #[]
  staticTypes := #[]
  resolved := #[]
  callSites := []
  init := .initialized
  statics := none
  mirror := none

def pool0 : Array CpInfo := pool [(5, u "<init>"), (0, u "()V"), (1, .class_ 10), (1, u "java/lang/Object"), (85, u "clone"), (0, u "()Ljava/lang/Object;")] 26

def k0c0 : Code := { maxStack := 0, maxLocals := 1, code := object_method_1_code, exceptionTable := #[], attributes := #[] }
def k0m0 : Method := { name := "<init>", desc := "()V", sig := { parameters := [], returnType := none }, accessFlags := 1, code := some k0c0 }
def k0m1 : Method := { name := "clone", desc := "()Ljava/lang/Object;", sig := { parameters := [], returnType := some (.object "java/lang/Object") }, accessFlags := 260, code := none }
/-- java/lang/Object -/
def k0 : Class := { plain "java/lang/Object" none with
  accessFlags := 33
  interfaces := #[]
  cf := some (fileOf pool0 8 #[] #[{ accessFlags := 1, nameIndex := 5, descriptorIndex := 6, attributes := #[] }, { accessFlags := 260, nameIndex := 96, descriptorIndex := 97, attributes := #[] }] 33 0 #[] #[])
  fields := #[]
  methods := #[k0m0, k0m1]
  instanceTypes := #[]
  staticTypes := #[]
  resolved := Array.replicate 124 none
  statics := none }

def pool1 : Array CpInfo := pool [(2, .class_ 4), (1, u "java/lang/Object"), (0, u "<init>"), (0, u "()V"), (0, .methodref 8 9), (0, .class_ 10), (0, .nameAndType 11 12), (0, u "java/lang/String"), (0, u "length"), (0, u "()I"), (0, .methodref 8 14), (0, .nameAndType 15 16), (0, u "charAt"), (0, u "(I)C"), (0, .methodref 8 18), (0, .nameAndType 5 19), (0, u "([C)V"), (0, .fieldref 21 22), (0, .class_ 23), (0, .nameAndType 24 25), (0, u "com/example/stern_warden/sternwarden/model/AccessMode"), (0, u "READ"), (0, u "Lcom/example/stern_warden/sternwarden/model/AccessMode;"), (0, .fieldref 21 27), (0, .nameAndType 28 25), (0, u "WRITE"), (0, .fieldref 21 30), (0, .nameAndType 31 25), (0, u "APPEND"), (0, .fieldref 21 33), (0, .nameAndType 34 25), (0, u "CONTROL"), (0, .string 36), (0, u "Read"), (0, .string 38), (0, u "Write"), (0, .string 40), (0, u "Append"), (0, .string 42), (0, u "Control"), (0, .methodref 44 45), (0, .class_ 46), (0, .nameAndType 47 48), (0, u "com/example/stern_warden/sternwarden/model/AccessModeFromNamePinLaw"), (0, u "at"), (0, u "(Ljava/lang/String;I)C"), (0, .integer 2147483647), (0, .methodref 44 51), (0, .nameAndType 52 53), (0, u "str"), (0, u "([CI)Ljava/lang/String;"), (0, .methodref 21 55), (0, .nameAndType 56 57), (0, u "fromName"), (0, u "(Ljava/lang/String;)Ljava/util/Optional;"), (0, .methodref 59 60), (0, .class_ 61), (0, .nameAndType 62 63), (0, u "java/util/Optional"), (0, u "isEmpty"), (0, u "()Z"), (0, .methodref 59 65), (0, .nameAndType 66 63), (0, u "isPresent"), (0, .methodref 59 68), (0, .nameAndType 69 70), (0, u "get"), (0, u "()Ljava/lang/Object;"), (3, u "law"), (0, u "(IIII)Z")] 4

def k1m0 : Method := { name := "<init>", desc := "()V", sig := { parameters := [], returnType := none }, accessFlags := 2, code := none }
def k1c1 : Code := { maxStack := 2, maxLocals := 2, code := method_2_code, exceptionTable := #[], attributes := #[] }
def k1m1 : Method := { name := "at", desc := "(Ljava/lang/String;I)C", sig := { parameters := [(.object "java/lang/String"), .int], returnType := some .char }, accessFlags := 10, code := some k1c1 }
def k1c2 : Code := { maxStack := 7, maxLocals := 2, code := method_3_code, exceptionTable := #[], attributes := #[] }
def k1m2 : Method := { name := "str", desc := "([CI)Ljava/lang/String;", sig := { parameters := [(.array .char), .int], returnType := some (.object "java/lang/String") }, accessFlags := 10, code := some k1c2 }
def k1c3 : Code := { maxStack := 4, maxLocals := 15, code := code, exceptionTable := #[], attributes := #[] }
def k1m3 : Method := { name := "law", desc := "(IIII)Z", sig := { parameters := [.int, .int, .int, .int], returnType := some .boolean }, accessFlags := 9, code := some k1c3 }
/-- com/example/stern_warden/sternwarden/model/AccessModeFromNamePinLaw -/
def k1 : Class := { plain "com/example/stern_warden/sternwarden/model/AccessModeFromNamePinLaw" (some 0) with
  accessFlags := 49
  interfaces := #[]
  cf := some (fileOf pool1 44 #[] #[{ accessFlags := 2, nameIndex := 5, descriptorIndex := 6, attributes := #[] }, { accessFlags := 10, nameIndex := 47, descriptorIndex := 48, attributes := #[] }, { accessFlags := 10, nameIndex := 52, descriptorIndex := 53, attributes := #[] }, { accessFlags := 9, nameIndex := 74, descriptorIndex := 75, attributes := #[] }] 49 2 #[] #[])
  fields := #[]
  methods := #[k1m0, k1m1, k1m2, k1m3]
  instanceTypes := #[]
  staticTypes := #[]
  resolved := Array.replicate 80 none
  statics := none }

def pool2 : Array CpInfo := pool [(1, .class_ 2), (0, u "java/lang/constant/Constable"), (0, .class_ 4), (0, u "java/lang/Object")] 6

/-- java/lang/constant/Constable -/
def k2 : Class := { plain "java/lang/constant/Constable" (some 0) with
  accessFlags := 1537
  interfaces := #[]
  cf := some (fileOf pool2 1 #[] #[] 1537 3 #[] #[])
  fields := #[]
  methods := #[]
  instanceTypes := #[]
  staticTypes := #[]
  resolved := Array.replicate 11 none
  statics := none }

def pool3 : Array CpInfo := pool [(1, .class_ 2), (0, u "java/lang/Comparable"), (0, .class_ 4), (0, u "java/lang/Object")] 7

/-- java/lang/Comparable -/
def k3 : Class := { plain "java/lang/Comparable" (some 0) with
  accessFlags := 1537
  interfaces := #[]
  cf := some (fileOf pool3 1 #[] #[] 1537 3 #[] #[])
  fields := #[]
  methods := #[]
  instanceTypes := #[]
  staticTypes := #[]
  resolved := Array.replicate 12 none
  statics := none }

def pool4 : Array CpInfo := pool [(1, .class_ 2), (0, u "java/io/Serializable"), (0, .class_ 4), (0, u "java/lang/Object")] 2

/-- java/io/Serializable -/
def k4 : Class := { plain "java/io/Serializable" (some 0) with
  accessFlags := 1537
  interfaces := #[]
  cf := some (fileOf pool4 1 #[] #[] 1537 3 #[] #[])
  fields := #[]
  methods := #[]
  instanceTypes := #[]
  staticTypes := #[]
  resolved := Array.replicate 7 none
  statics := none }

def pool5 : Array CpInfo := pool [(2, .class_ 4), (1, u "java/lang/Enum"), (0, u "name"), (0, u "Ljava/lang/String;"), (2, u "ordinal"), (0, u "I"), (1, .class_ 14), (1, u "java/lang/Object"), (4, u "hash"), (86, .class_ 108), (1, u "java/lang/Enum$EnumDesc"), (2, .class_ 112), (0, u "java/lang/constant/Constable"), (0, .class_ 114), (0, u "java/lang/Comparable"), (0, .class_ 116), (0, u "java/io/Serializable")] 87

/-- java/lang/Enum -/
def k5 : Class := { plain "java/lang/Enum" (some 0) with
  accessFlags := 1057
  interfaces := #[2, 3, 4]
  cf := some (fileOf pool5 2 #[.nestMembers #[106]] #[] 1057 12 #[111, 113, 115] #[{ accessFlags := 18, nameIndex := 5, descriptorIndex := 6, attributes := #[] }, { accessFlags := 18, nameIndex := 9, descriptorIndex := 10, attributes := #[] }, { accessFlags := 2, nameIndex := 19, descriptorIndex := 10, attributes := #[] }])
  fields := #[{ name := "name", type := (.object "java/lang/String"), accessFlags := 18, slot := 0, constantValue := 0 }, { name := "ordinal", type := .int, accessFlags := 18, slot := 1, constantValue := 0 }, { name := "hash", type := .int, accessFlags := 2, slot := 2, constantValue := 0 }]
  methods := #[]
  instanceTypes := #[(.object "java/lang/String"), .int, .int]
  staticTypes := #[]
  resolved := Array.replicate 204 none
  statics := none }

def pool6 : Array CpInfo := pool [(1, .class_ 2), (0, u "com/example/stern_warden/sternwarden/model/AccessMode"), (2, u "READ"), (0, u "Lcom/example/stern_warden/sternwarden/model/AccessMode;"), (2, u "WRITE"), (2, u "APPEND"), (2, u "CONTROL"), (0, .fieldref 1 17), (0, .nameAndType 18 19), (0, u "$VALUES"), (0, u "[Lcom/example/stern_warden/sternwarden/model/AccessMode;"), (0, .methodref 21 22), (0, .class_ 19), (0, .nameAndType 23 24), (0, u "clone"), (0, u "()Ljava/lang/Object;"), (1, .class_ 28), (1, u "java/lang/Enum"), (6, .fieldref 1 36), (0, .nameAndType 37 38), (0, u "localName"), (0, u "Ljava/lang/String;"), (6, u "iri"), (0, .methodref 1 47), (0, .nameAndType 48 49), (0, u "values"), (0, u "()[Lcom/example/stern_warden/sternwarden/model/AccessMode;"), (17, .methodref 68 69), (0, .class_ 70), (0, .nameAndType 71 72), (0, u "java/lang/String"), (0, u "equals"), (0, u "(Ljava/lang/Object;)Z"), (0, .methodref 74 75), (0, .class_ 76), (0, .nameAndType 77 78), (0, u "java/util/Optional"), (0, u "of"), (0, u "(Ljava/lang/Object;)Ljava/util/Optional;"), (0, .methodref 74 80), (0, .nameAndType 81 82), (0, u "empty"), (0, u "()Ljava/util/Optional;"), (18, u "fromName"), (0, u "(Ljava/lang/String;)Ljava/util/Optional;")] 49

def k6c0 : Code := { maxStack := 1, maxLocals := 0, code := prog_2_method_1_code, exceptionTable := #[], attributes := #[] }
def k6m0 : Method := { name := "values", desc := "()[Lcom/example/stern_warden/sternwarden/model/AccessMode;", sig := { parameters := [], returnType := some (.array (.object "com/example/stern_warden/sternwarden/model/AccessMode")) }, accessFlags := 9, code := some k6c0 }
def k6c1 : Code := { maxStack := 2, maxLocals := 5, code := prog_2_method_8_code, exceptionTable := #[], attributes := #[] }
def k6m1 : Method := { name := "fromName", desc := "(Ljava/lang/String;)Ljava/util/Optional;", sig := { parameters := [(.object "java/lang/String")], returnType := some (.object "java/util/Optional") }, accessFlags := 9, code := some k6c1 }
/-- com/example/stern_warden/sternwarden/model/AccessMode -/
def k6 : Class := { plain "com/example/stern_warden/sternwarden/model/AccessMode" (some 5) with
  accessFlags := 16433
  interfaces := #[]
  cf := some (fileOf pool6 1 #[] #[{ accessFlags := 9, nameIndex := 48, descriptorIndex := 49, attributes := #[] }, { accessFlags := 9, nameIndex := 101, descriptorIndex := 102, attributes := #[] }] 16433 26 #[] #[{ accessFlags := 16409, nameIndex := 5, descriptorIndex := 6, attributes := #[] }, { accessFlags := 16409, nameIndex := 9, descriptorIndex := 6, attributes := #[] }, { accessFlags := 16409, nameIndex := 12, descriptorIndex := 6, attributes := #[] }, { accessFlags := 16409, nameIndex := 15, descriptorIndex := 6, attributes := #[] }, { accessFlags := 18, nameIndex := 37, descriptorIndex := 38, attributes := #[] }, { accessFlags := 18, nameIndex := 45, descriptorIndex := 38, attributes := #[] }, { accessFlags := 4122, nameIndex := 18, descriptorIndex := 19, attributes := #[] }])
  fields := #[{ name := "READ", type := (.object "com/example/stern_warden/sternwarden/model/AccessMode"), accessFlags := 16409, slot := 0, constantValue := 0 }, { name := "WRITE", type := (.object "com/example/stern_warden/sternwarden/model/AccessMode"), accessFlags := 16409, slot := 1, constantValue := 0 }, { name := "APPEND", type := (.object "com/example/stern_warden/sternwarden/model/AccessMode"), accessFlags := 16409, slot := 2, constantValue := 0 }, { name := "CONTROL", type := (.object "com/example/stern_warden/sternwarden/model/AccessMode"), accessFlags := 16409, slot := 3, constantValue := 0 }, { name := "localName", type := (.object "java/lang/String"), accessFlags := 18, slot := 3, constantValue := 0 }, { name := "iri", type := (.object "java/lang/String"), accessFlags := 18, slot := 4, constantValue := 0 }, { name := "$VALUES", type := (.array (.object "com/example/stern_warden/sternwarden/model/AccessMode")), accessFlags := 4122, slot := 4, constantValue := 0 }]
  methods := #[k6m0, k6m1]
  instanceTypes := #[(.object "java/lang/String"), .int, .int, (.object "java/lang/String"), (.object "java/lang/String")]
  staticTypes := #[(.object "com/example/stern_warden/sternwarden/model/AccessMode"), (.object "com/example/stern_warden/sternwarden/model/AccessMode"), (.object "com/example/stern_warden/sternwarden/model/AccessMode"), (.object "com/example/stern_warden/sternwarden/model/AccessMode"), (.array (.object "com/example/stern_warden/sternwarden/model/AccessMode"))]
  resolved := Array.replicate 152 none
  statics := some 0 }

def pool7 : Array CpInfo := pool [(2, .class_ 4), (1, u "java/lang/CharSequence"), (42, .class_ 48), (0, u "java/lang/CharSequence$1CodePointIterator"), (10, .class_ 60), (0, u "java/lang/CharSequence$1CharIterator"), (5, .class_ 67), (0, u "java/lang/Object")] 63

/-- java/lang/CharSequence -/
def k7 : Class := { plain "java/lang/CharSequence" (some 0) with
  accessFlags := 1537
  interfaces := #[]
  cf := some (fileOf pool7 2 #[.nestMembers #[47, 59]] #[] 1537 66 #[] #[])
  fields := #[]
  methods := #[]
  instanceTypes := #[]
  staticTypes := #[]
  resolved := Array.replicate 131 none
  statics := none }

def pool8 : Array CpInfo := pool [(1, .class_ 2), (0, u "java/lang/constant/ConstantDesc"), (0, .class_ 4), (0, u "java/lang/Object")] 32

/-- java/lang/constant/ConstantDesc -/
def k8 : Class := { plain "java/lang/constant/ConstantDesc" (some 0) with
  accessFlags := 1537
  interfaces := #[]
  cf := some (fileOf pool8 1 #[] #[] 1537 3 #[] #[])
  fields := #[]
  methods := #[]
  instanceTypes := #[]
  staticTypes := #[]
  resolved := Array.replicate 37 none
  statics := none }

def pool9 : Array CpInfo := pool [(1, .methodref 2 3), (0, .class_ 4), (0, .nameAndType 5 6), (0, u "java/lang/Object"), (0, u "<init>"), (0, u "()V"), (0, .string 8), (0, u ""), (0, .fieldref 10 11), (0, .class_ 12), (0, .nameAndType 13 14), (0, u "java/lang/String"), (0, u "value"), (0, u "[B"), (0, .fieldref 10 16), (0, .nameAndType 17 18), (0, u "coder"), (0, u "B"), (2, u "hash"), (0, u "I"), (2, u "hashIsZero"), (0, u "Z"), (0, .methodref 10 28), (0, .nameAndType 5 29), (0, u "([CIILjava/lang/Void;)V"), (8, .fieldref 10 39), (0, .nameAndType 40 26), (0, u "COMPACT_STRINGS"), (1, .class_ 44), (1, u "java/lang/StringUTF16"), (0, u "compress"), (1, .methodref 42 48), (0, .nameAndType 49 50), (0, u "coderFromArrayLen"), (0, u "([BI)B"), (56, .class_ 109), (1, u "java/lang/StringLatin1"), (32, u "()Z"), (34, .methodref 42 178), (0, .nameAndType 45 179), (0, u "([CII)[B"), (154, u "()I"), (0, .methodref 10 336), (0, .nameAndType 17 337), (0, u "()B"), (25, u "([BI)C"), (27, u "(II)V"), (35, u "(I)C"), (64, .methodref 10 493), (0, .nameAndType 494 142), (0, u "isLatin1"), (0, .methodref 107 496), (0, .nameAndType 497 363), (0, u "charAt"), (3, u "checkIndex"), (5, u "length"), (33, .methodref 107 542), (0, .nameAndType 543 544), (0, u "equals"), (0, u "([B[B)Z"), (28, u "(Ljava/lang/Object;)Z"), (1, .class_ 576), (0, u "java/lang/CharSequence"), (22, u "CASE_INSENSITIVE_ORDER"), (0, u "Ljava/util/Comparator;"), (409, u "([C)V"), (42, .fieldref 1054 1055), (0, .class_ 1056), (0, .nameAndType 1057 1058), (0, u "jdk/internal/util/Preconditions"), (0, u "SIOOBE_FORMATTER"), (0, u "Ljava/util/function/BiFunction;"), (0, .methodref 1054 1060), (0, .nameAndType 501 1061), (0, u "(IILjava/util/function/BiFunction;)I"), (39, u "serialPersistentFields"), (0, u "[Ljava/io/ObjectStreamField;"), (0, .class_ 1104), (0, u "java/lang/String$CaseInsensitiveComparator"), (1, .class_ 1107), (0, u "java/io/Serializable"), (0, .class_ 1109), (0, u "java/lang/Comparable"), (0, .class_ 1111), (0, u "java/lang/constant/Constable"), (0, .class_ 1113), (0, u "java/lang/constant/ConstantDesc"), (2, u "serialVersionUID"), (0, u "J"), (3, u "REPL"), (0, u "C"), (2, u "LATIN1"), (1, u "UTF16")] 323

def k9m0 : Method := { name := "<init>", desc := "()V", sig := { parameters := [], returnType := none }, accessFlags := 1, code := none }
def k9c1 : Code := { maxStack := 5, maxLocals := 2, code := jdk_42_method_3_code, exceptionTable := #[], attributes := #[] }
def k9m1 : Method := { name := "<init>", desc := "([C)V", sig := { parameters := [(.array .char)], returnType := none }, accessFlags := 1, code := some k9c1 }
def k9c2 : Code := { maxStack := 2, maxLocals := 1, code := jdk_42_method_54_code, exceptionTable := #[], attributes := #[] }
def k9m2 : Method := { name := "length", desc := "()I", sig := { parameters := [], returnType := some .int }, accessFlags := 1, code := some k9c2 }
def k9c3 : Code := { maxStack := 2, maxLocals := 2, code := jdk_42_method_56_code, exceptionTable := #[], attributes := #[] }
def k9m3 : Method := { name := "charAt", desc := "(I)C", sig := { parameters := [.int], returnType := some .char }, accessFlags := 1, code := some k9c3 }
def k9c4 : Code := { maxStack := 2, maxLocals := 3, code := jdk_42_method_66_code, exceptionTable := #[], attributes := #[] }
def k9m4 : Method := { name := "equals", desc := "(Ljava/lang/Object;)Z", sig := { parameters := [(.object "java/lang/Object")], returnType := some .boolean }, accessFlags := 1, code := some k9c4 }
def k9c5 : Code := { maxStack := 4, maxLocals := 6, code := jdk_42_method_149_code, exceptionTable := #[], attributes := #[] }
def k9m5 : Method := { name := "<init>", desc := "([CIILjava/lang/Void;)V", sig := { parameters := [(.array .char), .int, .int, (.object "java/lang/Void")], returnType := none }, accessFlags := 2, code := some k9c5 }
def k9c6 : Code := { maxStack := 1, maxLocals := 1, code := jdk_42_method_152_code, exceptionTable := #[], attributes := #[] }
def k9m6 : Method := { name := "coder", desc := "()B", sig := { parameters := [], returnType := some .byte }, accessFlags := 0, code := some k9c6 }
def k9c7 : Code := { maxStack := 1, maxLocals := 1, code := jdk_42_method_154_code, exceptionTable := #[], attributes := #[] }
def k9m7 : Method := { name := "isLatin1", desc := "()Z", sig := { parameters := [], returnType := some .boolean }, accessFlags := 0, code := some k9c7 }
def k9c8 : Code := { maxStack := 3, maxLocals := 2, code := jdk_42_method_155_code, exceptionTable := #[], attributes := #[] }
def k9m8 : Method := { name := "checkIndex", desc := "(II)V", sig := { parameters := [.int, .int], returnType := none }, accessFlags := 8, code := some k9c8 }
/-- java/lang/String -/
def k9 : Class := { plain "java/lang/String" (some 0) with
  accessFlags := 49
  interfaces := #[4, 3, 7, 2, 8]
  cf := some (fileOf pool9 10 #[.nestMembers #[1103]] #[{ accessFlags := 1, nameIndex := 5, descriptorIndex := 6, attributes := #[] }, { accessFlags := 1, nameIndex := 5, descriptorIndex := 1010, attributes := #[] }, { accessFlags := 1, nameIndex := 507, descriptorIndex := 334, attributes := #[] }, { accessFlags := 1, nameIndex := 497, descriptorIndex := 427, attributes := #[] }, { accessFlags := 1, nameIndex := 543, descriptorIndex := 573, attributes := #[] }, { accessFlags := 2, nameIndex := 5, descriptorIndex := 29, attributes := #[] }, { accessFlags := 0, nameIndex := 17, descriptorIndex := 337, attributes := #[] }, { accessFlags := 0, nameIndex := 494, descriptorIndex := 142, attributes := #[] }, { accessFlags := 8, nameIndex := 501, descriptorIndex := 391, attributes := #[] }] 49 2 #[1106, 1108, 575, 1110, 1112] #[{ accessFlags := 18, nameIndex := 13, descriptorIndex := 14, attributes := #[] }, { accessFlags := 18, nameIndex := 17, descriptorIndex := 18, attributes := #[] }, { accessFlags := 2, nameIndex := 21, descriptorIndex := 22, attributes := #[] }, { accessFlags := 2, nameIndex := 25, descriptorIndex := 26, attributes := #[] }, { accessFlags := 26, nameIndex := 1116, descriptorIndex := 1117, attributes := #[] }, { accessFlags := 24, nameIndex := 40, descriptorIndex := 26, attributes := #[] }, { accessFlags := 26, nameIndex := 1101, descriptorIndex := 1102, attributes := #[] }, { accessFlags := 26, nameIndex := 1121, descriptorIndex := 1122, attributes := #[] }, { accessFlags := 25, nameIndex := 599, descriptorIndex := 600, attributes := #[] }, { accessFlags := 24, nameIndex := 1125, descriptorIndex := 18, attributes := #[] }, { accessFlags := 24, nameIndex := 1127, descriptorIndex := 18, attributes := #[] }])
  fields := #[{ name := "value", type := (.array .byte), accessFlags := 18, slot := 0, constantValue := 0 }, { name := "coder", type := .byte, accessFlags := 18, slot := 1, constantValue := 0 }, { name := "hash", type := .int, accessFlags := 2, slot := 2, constantValue := 0 }, { name := "hashIsZero", type := .boolean, accessFlags := 2, slot := 3, constantValue := 0 }, { name := "serialVersionUID", type := .long, accessFlags := 26, slot := 0, constantValue := 0 }, { name := "COMPACT_STRINGS", type := .boolean, accessFlags := 24, slot := 1, constantValue := 0 }, { name := "serialPersistentFields", type := (.array (.object "java/io/ObjectStreamField")), accessFlags := 26, slot := 2, constantValue := 0 }, { name := "REPL", type := .char, accessFlags := 26, slot := 3, constantValue := 0 }, { name := "CASE_INSENSITIVE_ORDER", type := (.object "java/util/Comparator"), accessFlags := 25, slot := 4, constantValue := 0 }, { name := "LATIN1", type := .byte, accessFlags := 24, slot := 5, constantValue := 0 }, { name := "UTF16", type := .byte, accessFlags := 24, slot := 6, constantValue := 0 }]
  methods := #[k9m0, k9m1, k9m2, k9m3, k9m4, k9m5, k9m6, k9m7, k9m8]
  instanceTypes := #[(.array .byte), .byte, .int, .boolean]
  staticTypes := #[.long, .boolean, (.array (.object "java/io/ObjectStreamField")), .char, (.object "java/util/Comparator"), .byte, .byte]
  resolved := Array.replicate 1451 none
  statics := some 1 }

def pool10 : Array CpInfo := pool [(1, .class_ 2), (0, u "java/lang/String"), (1, .class_ 6), (1, u "java/lang/Object"), (0, u "<init>"), (0, u "()V"), (0, .methodref 1 10), (0, .nameAndType 11 12), (0, u "checkIndex"), (0, u "(II)V"), (1, .class_ 16), (1, u "java/lang/StringLatin1"), (36, u "([BI)C"), (67, u "$assertionsDisabled"), (0, u "Z"), (98, .class_ 223), (1, u "java/lang/StringLatin1$LinesSpliterator"), (28, u "charAt"), (28, u "equals"), (0, u "([B[B)Z"), (107, .class_ 391), (0, u "java/lang/StringLatin1$CharsSpliterator")] 3

def k10m0 : Method := { name := "<init>", desc := "()V", sig := { parameters := [], returnType := none }, accessFlags := 0, code := none }
def k10c1 : Code := { maxStack := 2, maxLocals := 2, code := jdk_43_method_2_code, exceptionTable := #[], attributes := #[] }
def k10m1 : Method := { name := "charAt", desc := "([BI)C", sig := { parameters := [(.array .byte), .int], returnType := some .char }, accessFlags := 9, code := some k10c1 }
def k10c2 : Code := { maxStack := 3, maxLocals := 3, code := jdk_43_method_13_code, exceptionTable := #[], attributes := #[] }
def k10m2 : Method := { name := "equals", desc := "([B[B)Z", sig := { parameters := [(.array .byte), (.array .byte)], returnType := some .boolean }, accessFlags := 9, code := some k10c2 }
/-- java/lang/StringLatin1 -/
def k10 : Class := { plain "java/lang/StringLatin1" (some 0) with
  accessFlags := 48
  interfaces := #[]
  cf := some (fileOf pool10 14 #[.nestMembers #[390, 221]] #[{ accessFlags := 0, nameIndex := 7, descriptorIndex := 8, attributes := #[] }, { accessFlags := 9, nameIndex := 252, descriptorIndex := 53, attributes := #[] }, { accessFlags := 9, nameIndex := 281, descriptorIndex := 282, attributes := #[] }] 48 4 #[] #[{ accessFlags := 4120, nameIndex := 121, descriptorIndex := 122, attributes := #[] }])
  fields := #[{ name := "$assertionsDisabled", type := .boolean, accessFlags := 4120, slot := 0, constantValue := 0 }]
  methods := #[k10m0, k10m1, k10m2]
  instanceTypes := #[]
  staticTypes := #[.boolean]
  resolved := Array.replicate 395 none
  statics := none }

def pool11 : Array CpInfo := pool [(2, .class_ 4), (1, u "java/lang/Object"), (0, u "<init>"), (0, u "()V"), (17, .class_ 26), (1, u "jdk/internal/util/Preconditions"), (6, u "checkIndex"), (21, .class_ 56), (0, u "jdk/internal/util/Preconditions$4"), (57, .class_ 115), (0, u "jdk/internal/util/Preconditions$1"), (7, u "SIOOBE_FORMATTER"), (0, u "Ljava/util/function/BiFunction;"), (0, .class_ 126), (0, u "jdk/internal/util/Preconditions$2"), (3, u "AIOOBE_FORMATTER"), (0, .class_ 132), (0, u "jdk/internal/util/Preconditions$3"), (3, u "IOOBE_FORMATTER"), (41, u "(IILjava/util/function/BiFunction;)I")] 15

def k11m0 : Method := { name := "<init>", desc := "()V", sig := { parameters := [], returnType := none }, accessFlags := 1, code := none }
def k11c1 : Code := { maxStack := 3, maxLocals := 3, code := jdk_41_method_11_code, exceptionTable := #[], attributes := #[] }
def k11m1 : Method := { name := "checkIndex", desc := "(IILjava/util/function/BiFunction;)I", sig := { parameters := [.int, .int, (.object "java/util/function/BiFunction")], returnType := some .int }, accessFlags := 9, code := some k11c1 }
/-- jdk/internal/util/Preconditions -/
def k11 : Class := { plain "jdk/internal/util/Preconditions" (some 0) with
  accessFlags := 33
  interfaces := #[]
  cf := some (fileOf pool11 24 #[.nestMembers #[55, 131, 125, 114]] #[{ accessFlags := 1, nameIndex := 5, descriptorIndex := 6, attributes := #[] }, { accessFlags := 9, nameIndex := 33, descriptorIndex := 178, attributes := #[] }] 33 2 #[] #[{ accessFlags := 25, nameIndex := 123, descriptorIndex := 124, attributes := #[] }, { accessFlags := 25, nameIndex := 130, descriptorIndex := 124, attributes := #[] }, { accessFlags := 25, nameIndex := 136, descriptorIndex := 124, attributes := #[] }])
  fields := #[{ name := "SIOOBE_FORMATTER", type := (.object "java/util/function/BiFunction"), accessFlags := 25, slot := 0, constantValue := 0 }, { name := "AIOOBE_FORMATTER", type := (.object "java/util/function/BiFunction"), accessFlags := 25, slot := 1, constantValue := 0 }, { name := "IOOBE_FORMATTER", type := (.object "java/util/function/BiFunction"), accessFlags := 25, slot := 2, constantValue := 0 }]
  methods := #[k11m0, k11m1]
  instanceTypes := #[]
  staticTypes := #[(.object "java/util/function/BiFunction"), (.object "java/util/function/BiFunction"), (.object "java/util/function/BiFunction")]
  resolved := Array.replicate 194 none
  statics := some 2 }

def pool12 : Array CpInfo := pool [(6, .class_ 8), (1, u "java/lang/Object"), (0, u "<init>"), (0, u "()V"), (1, .class_ 14), (1, u "java/lang/StringUTF16"), (31, u "$assertionsDisabled"), (0, u "Z"), (13, u "HI_BYTE_SHIFT"), (0, u "I"), (2, u "LO_BYTE_SHIFT"), (49, .methodref 12 116), (0, .nameAndType 117 118), (0, u "compress"), (0, u "([CI[BII)I"), (3, u "([CII)[B"), (138, u "coderFromArrayLen"), (0, u "([BI)B"), (106, .class_ 371), (1, u "java/lang/StringUTF16$LinesSpliterator"), (58, u "MAX_LENGTH"), (196, .class_ 628), (0, u "java/lang/StringUTF16$CodePointsSpliterator"), (0, .class_ 630), (0, u "java/lang/StringUTF16$CharsSpliterator")] 4

def k12m0 : Method := { name := "<init>", desc := "()V", sig := { parameters := [], returnType := none }, accessFlags := 0, code := none }
def k12c1 : Code := { maxStack := 2, maxLocals := 2, code := jdk_52_method_15_code, exceptionTable := #[], attributes := #[] }
def k12m1 : Method := { name := "coderFromArrayLen", desc := "([BI)B", sig := { parameters := [(.array .byte), .int], returnType := some .byte }, accessFlags := 8, code := some k12c1 }
def k12c2 : Code := { maxStack := 5, maxLocals := 6, code := jdk_52_method_16_code, exceptionTable := #[], attributes := #[] }
def k12m2 : Method := { name := "compress", desc := "([CII)[B", sig := { parameters := [(.array .char), .int, .int], returnType := some (.array .byte) }, accessFlags := 9, code := some k12c2 }
def k12c3 : Code := { maxStack := 3, maxLocals := 7, code := jdk_52_method_21_code, exceptionTable := #[], attributes := #[] }
def k12m3 : Method := { name := "compress", desc := "([CI[BII)I", sig := { parameters := [(.array .char), .int, (.array .byte), .int, .int], returnType := some .int }, accessFlags := 9, code := some k12c3 }
/-- java/lang/StringUTF16 -/
def k12 : Class := { plain "java/lang/StringUTF16" (some 0) with
  accessFlags := 48
  interfaces := #[]
  cf := some (fileOf pool12 12 #[.nestMembers #[627, 629, 369]] #[{ accessFlags := 0, nameIndex := 9, descriptorIndex := 10, attributes := #[] }, { accessFlags := 8, nameIndex := 261, descriptorIndex := 262, attributes := #[] }, { accessFlags := 9, nameIndex := 117, descriptorIndex := 122, attributes := #[] }, { accessFlags := 9, nameIndex := 117, descriptorIndex := 118, attributes := #[] }] 48 6 #[] #[{ accessFlags := 26, nameIndex := 61, descriptorIndex := 62, attributes := #[] }, { accessFlags := 26, nameIndex := 65, descriptorIndex := 62, attributes := #[] }, { accessFlags := 24, nameIndex := 430, descriptorIndex := 62, attributes := #[] }, { accessFlags := 4120, nameIndex := 46, descriptorIndex := 47, attributes := #[] }])
  fields := #[{ name := "HI_BYTE_SHIFT", type := .int, accessFlags := 26, slot := 0, constantValue := 0 }, { name := "LO_BYTE_SHIFT", type := .int, accessFlags := 26, slot := 1, constantValue := 0 }, { name := "MAX_LENGTH", type := .int, accessFlags := 24, slot := 2, constantValue := 0 }, { name := "$assertionsDisabled", type := .boolean, accessFlags := 4120, slot := 3, constantValue := 0 }]
  methods := #[k12m0, k12m1, k12m2, k12m3]
  instanceTypes := #[]
  staticTypes := #[.int, .int, .int, .boolean]
  resolved := Array.replicate 635 none
  statics := none }

def pool13 : Array CpInfo := pool [(1, .class_ 2), (0, u "java/lang/Cloneable"), (0, .class_ 4), (0, u "java/lang/Object")] 2

/-- java/lang/Cloneable -/
def k13 : Class := { plain "java/lang/Cloneable" (some 0) with
  accessFlags := 1537
  interfaces := #[]
  cf := some (fileOf pool13 1 #[] #[] 1537 3 #[] #[])
  fields := #[]
  methods := #[]
  instanceTypes := #[]
  staticTypes := #[]
  resolved := Array.replicate 7 none
  statics := none }

def pool14 : Array CpInfo := pool [(1, .fieldref 2 3), (0, .class_ 4), (0, .nameAndType 5 6), (0, u "java/util/Optional"), (0, u "EMPTY"), (0, u "Ljava/util/Optional;"), (0, .methodref 8 9), (0, .class_ 10), (0, .nameAndType 11 12), (0, u "java/lang/Object"), (0, u "<init>"), (0, u "()V"), (0, .fieldref 2 14), (0, .nameAndType 15 16), (0, u "value"), (0, u "Ljava/lang/Object;"), (0, .methodref 18 19), (0, .class_ 20), (0, .nameAndType 21 22), (0, u "java/util/Objects"), (0, u "requireNonNull"), (0, u "(Ljava/lang/Object;)Ljava/lang/Object;"), (0, .methodref 2 24), (0, .nameAndType 11 25), (0, u "(Ljava/lang/Object;)V"), (19, u "isEmpty"), (0, u "()Z"), (8, u "empty"), (0, u "()Ljava/util/Optional;"), (8, u "(Ljava/lang/Object;)Ljava/util/Optional;"), (2, u "isPresent"), (4, u "get"), (0, u "()Ljava/lang/Object;"), (7, u "of")] 104

def k14c0 : Code := { maxStack := 1, maxLocals := 1, code := jdk_32_method_1_code, exceptionTable := #[], attributes := #[] }
def k14m0 : Method := { name := "empty", desc := "()Ljava/util/Optional;", sig := { parameters := [], returnType := some (.object "java/util/Optional") }, accessFlags := 9, code := some k14c0 }
def k14c1 : Code := { maxStack := 2, maxLocals := 2, code := jdk_32_method_2_code, exceptionTable := #[], attributes := #[] }
def k14m1 : Method := { name := "<init>", desc := "(Ljava/lang/Object;)V", sig := { parameters := [(.object "java/lang/Object")], returnType := none }, accessFlags := 2, code := some k14c1 }
def k14c2 : Code := { maxStack := 3, maxLocals := 1, code := jdk_32_method_3_code, exceptionTable := #[], attributes := #[] }
def k14m2 : Method := { name := "of", desc := "(Ljava/lang/Object;)Ljava/util/Optional;", sig := { parameters := [(.object "java/lang/Object")], returnType := some (.object "java/util/Optional") }, accessFlags := 9, code := some k14c2 }
def k14c3 : Code := { maxStack := 3, maxLocals := 1, code := jdk_32_method_5_code, exceptionTable := #[], attributes := #[] }
def k14m3 : Method := { name := "get", desc := "()Ljava/lang/Object;", sig := { parameters := [], returnType := some (.object "java/lang/Object") }, accessFlags := 1, code := some k14c3 }
def k14c4 : Code := { maxStack := 1, maxLocals := 1, code := jdk_32_method_6_code, exceptionTable := #[], attributes := #[] }
def k14m4 : Method := { name := "isPresent", desc := "()Z", sig := { parameters := [], returnType := some .boolean }, accessFlags := 1, code := some k14c4 }
def k14c5 : Code := { maxStack := 1, maxLocals := 1, code := jdk_32_method_7_code, exceptionTable := #[], attributes := #[] }
def k14m5 : Method := { name := "isEmpty", desc := "()Z", sig := { parameters := [], returnType := some .boolean }, accessFlags := 1, code := some k14c5 }
/-- java/util/Optional -/
def k14 : Class := { plain "java/util/Optional" (some 0) with
  accessFlags := 49
  interfaces := #[]
  cf := some (fileOf pool14 2 #[] #[{ accessFlags := 9, nameIndex := 55, descriptorIndex := 56, attributes := #[] }, { accessFlags := 2, nameIndex := 11, descriptorIndex := 25, attributes := #[] }, { accessFlags := 9, nameIndex := 82, descriptorIndex := 65, attributes := #[] }, { accessFlags := 1, nameIndex := 73, descriptorIndex := 74, attributes := #[] }, { accessFlags := 1, nameIndex := 68, descriptorIndex := 46, attributes := #[] }, { accessFlags := 1, nameIndex := 45, descriptorIndex := 46, attributes := #[] }] 49 8 #[] #[{ accessFlags := 26, nameIndex := 5, descriptorIndex := 6, attributes := #[] }, { accessFlags := 18, nameIndex := 15, descriptorIndex := 16, attributes := #[] }])
  fields := #[{ name := "EMPTY", type := (.object "java/util/Optional"), accessFlags := 26, slot := 0, constantValue := 0 }, { name := "value", type := (.object "java/lang/Object"), accessFlags := 18, slot := 0, constantValue := 0 }]
  methods := #[k14m0, k14m1, k14m2, k14m3, k14m4, k14m5]
  instanceTypes := #[(.object "java/lang/Object")]
  staticTypes := #[(.object "java/util/Optional")]
  resolved := Array.replicate 187 none
  statics := some 3 }

def pool15 : Array CpInfo := pool [(2, .class_ 4), (1, u "java/lang/Object"), (0, u "<init>"), (0, u "()V"), (35, .class_ 44), (1, u "java/util/Objects"), (0, u "requireNonNull"), (0, u "(Ljava/lang/Object;)Ljava/lang/Object;")] 137

def k15m0 : Method := { name := "<init>", desc := "()V", sig := { parameters := [], returnType := none }, accessFlags := 2, code := none }
def k15c1 : Code := { maxStack := 2, maxLocals := 1, code := jdk_31_method_10_code, exceptionTable := #[], attributes := #[] }
def k15m1 : Method := { name := "requireNonNull", desc := "(Ljava/lang/Object;)Ljava/lang/Object;", sig := { parameters := [(.object "java/lang/Object")], returnType := some (.object "java/lang/Object") }, accessFlags := 9, code := some k15c1 }
/-- java/util/Objects -/
def k15 : Class := { plain "java/util/Objects" (some 0) with
  accessFlags := 49
  interfaces := #[]
  cf := some (fileOf pool15 42 #[] #[{ accessFlags := 2, nameIndex := 5, descriptorIndex := 6, attributes := #[] }, { accessFlags := 9, nameIndex := 45, descriptorIndex := 46, attributes := #[] }] 49 2 #[] #[])
  fields := #[]
  methods := #[k15m0, k15m1]
  instanceTypes := #[]
  staticTypes := #[]
  resolved := Array.replicate 184 none
  statics := none }

def pool16 : Array CpInfo := pool [(9, u "<init>"), (6, .class_ 18), (1, u "java/lang/Object"), (0, u "()V"), (1, .class_ 23), (1, u "jdk/internal/util/ArraysSupport"), (0, u "LOG2_ARRAY_LONG_INDEX_SCALE"), (0, u "I"), (2, u "U"), (0, u "Ljdk/internal/misc/Unsafe;"), (8, u "BIG_ENDIAN"), (0, u "Z"), (8, u "LOG2_BYTE_BIT_SIZE"), (4, u "LOG2_ARRAY_INT_INDEX_SCALE"), (54, u "JLA"), (0, u "Ljdk/internal/access/JavaLangAccess;"), (11, u "LOG2_ARRAY_BOOLEAN_INDEX_SCALE"), (9, u "LOG2_ARRAY_BYTE_INDEX_SCALE"), (5, u "LOG2_ARRAY_CHAR_INDEX_SCALE"), (5, u "LOG2_ARRAY_SHORT_INDEX_SCALE"), (18, u "LOG2_ARRAY_FLOAT_INDEX_SCALE"), (24, u "LOG2_ARRAY_DOUBLE_INDEX_SCALE"), (89, u "T_BOOLEAN"), (2, u "T_CHAR"), (1, u "T_FLOAT"), (1, u "T_DOUBLE"), (1, u "T_BYTE"), (1, u "T_SHORT"), (1, u "T_INT"), (1, u "T_LONG"), (1, u "SOFT_MAX_ARRAY_LENGTH")] 83

def k16m0 : Method := { name := "<init>", desc := "()V", sig := { parameters := [], returnType := none }, accessFlags := 2, code := none }
/-- jdk/internal/util/ArraysSupport -/
def k16 : Class := { plain "jdk/internal/util/ArraysSupport" (some 0) with
  accessFlags := 33
  interfaces := #[]
  cf := some (fileOf pool16 21 #[] #[{ accessFlags := 2, nameIndex := 9, descriptorIndex := 19, attributes := #[] }] 33 16 #[] #[{ accessFlags := 24, nameIndex := 28, descriptorIndex := 29, attributes := #[] }, { accessFlags := 26, nameIndex := 38, descriptorIndex := 39, attributes := #[] }, { accessFlags := 25, nameIndex := 121, descriptorIndex := 25, attributes := #[] }, { accessFlags := 25, nameIndex := 131, descriptorIndex := 25, attributes := #[] }, { accessFlags := 25, nameIndex := 137, descriptorIndex := 25, attributes := #[] }, { accessFlags := 25, nameIndex := 143, descriptorIndex := 25, attributes := #[] }, { accessFlags := 25, nameIndex := 53, descriptorIndex := 25, attributes := #[] }, { accessFlags := 25, nameIndex := 24, descriptorIndex := 25, attributes := #[] }, { accessFlags := 25, nameIndex := 162, descriptorIndex := 25, attributes := #[] }, { accessFlags := 25, nameIndex := 187, descriptorIndex := 25, attributes := #[] }, { accessFlags := 26, nameIndex := 48, descriptorIndex := 25, attributes := #[] }, { accessFlags := 25, nameIndex := 277, descriptorIndex := 25, attributes := #[] }, { accessFlags := 25, nameIndex := 280, descriptorIndex := 25, attributes := #[] }, { accessFlags := 25, nameIndex := 282, descriptorIndex := 25, attributes := #[] }, { accessFlags := 25, nameIndex := 284, descriptorIndex := 25, attributes := #[] }, { accessFlags := 25, nameIndex := 286, descriptorIndex := 25, attributes := #[] }, { accessFlags := 25, nameIndex := 288, descriptorIndex := 25, attributes := #[] }, { accessFlags := 25, nameIndex := 290, descriptorIndex := 25, attributes := #[] }, { accessFlags := 25, nameIndex := 292, descriptorIndex := 25, attributes := #[] }, { accessFlags := 26, nameIndex := 108, descriptorIndex := 109, attributes := #[] }, { accessFlags := 25, nameIndex := 294, descriptorIndex := 25, attributes := #[] }])
  fields := #[{ name := "U", type := (.object "jdk/internal/misc/Unsafe"), accessFlags := 24, slot := 0, constantValue := 0 }, { name := "BIG_ENDIAN", type := .boolean, accessFlags := 26, slot := 1, constantValue := 0 }, { name := "LOG2_ARRAY_BOOLEAN_INDEX_SCALE", type := .int, accessFlags := 25, slot := 2, constantValue := 0 }, { name := "LOG2_ARRAY_BYTE_INDEX_SCALE", type := .int, accessFlags := 25, slot := 3, constantValue := 0 }, { name := "LOG2_ARRAY_CHAR_INDEX_SCALE", type := .int, accessFlags := 25, slot := 4, constantValue := 0 }, { name := "LOG2_ARRAY_SHORT_INDEX_SCALE", type := .int, accessFlags := 25, slot := 5, constantValue := 0 }, { name := "LOG2_ARRAY_INT_INDEX_SCALE", type := .int, accessFlags := 25, slot := 6, constantValue := 0 }, { name := "LOG2_ARRAY_LONG_INDEX_SCALE", type := .int, accessFlags := 25, slot := 7, constantValue := 0 }, { name := "LOG2_ARRAY_FLOAT_INDEX_SCALE", type := .int, accessFlags := 25, slot := 8, constantValue := 0 }, { name := "LOG2_ARRAY_DOUBLE_INDEX_SCALE", type := .int, accessFlags := 25, slot := 9, constantValue := 0 }, { name := "LOG2_BYTE_BIT_SIZE", type := .int, accessFlags := 26, slot := 10, constantValue := 0 }, { name := "T_BOOLEAN", type := .int, accessFlags := 25, slot := 11, constantValue := 0 }, { name := "T_CHAR", type := .int, accessFlags := 25, slot := 12, constantValue := 0 }, { name := "T_FLOAT", type := .int, accessFlags := 25, slot := 13, constantValue := 0 }, { name := "T_DOUBLE", type := .int, accessFlags := 25, slot := 14, constantValue := 0 }, { name := "T_BYTE", type := .int, accessFlags := 25, slot := 15, constantValue := 0 }, { name := "T_SHORT", type := .int, accessFlags := 25, slot := 16, constantValue := 0 }, { name := "T_INT", type := .int, accessFlags := 25, slot := 17, constantValue := 0 }, { name := "T_LONG", type := .int, accessFlags := 25, slot := 18, constantValue := 0 }, { name := "JLA", type := (.object "jdk/internal/access/JavaLangAccess"), accessFlags := 26, slot := 19, constantValue := 0 }, { name := "SOFT_MAX_ARRAY_LENGTH", type := .int, accessFlags := 25, slot := 20, constantValue := 0 }]
  methods := #[k16m0]
  instanceTypes := #[]
  staticTypes := #[(.object "jdk/internal/misc/Unsafe"), .boolean, .int, .int, .int, .int, .int, .int, .int, .int, .int, .int, .int, .int, .int, .int, .int, .int, .int, (.object "jdk/internal/access/JavaLangAccess"), .int]
  resolved := Array.replicate 378 none
  statics := none }

/-- the primitive byte -/
def k17 : Class := { plain "byte" none with kind := .primitive 'B', accessFlags := 0x411 }
/-- [B -/
def k18 : Class := { plain "[B" (some 0) with kind := .array 17 .byte, interfaces := #[13, 4], accessFlags := 1041 }

/-- the primitive char -/
def k19 : Class := { plain "char" none with kind := .primitive 'C', accessFlags := 0x411 }
/-- [C -/
def k20 : Class := { plain "[C" (some 0) with kind := .array 19 .char, interfaces := #[13, 4], accessFlags := 1041 }

/-- the primitive int -/
def k21 : Class := { plain "int" none with kind := .primitive 'I', accessFlags := 0x411 }
/-- [I -/
def k22 : Class := { plain "[I" (some 0) with kind := .array 21 .int, interfaces := #[13, 4], accessFlags := 1041 }

/-- [Lcom/example/stern_warden/sternwarden/model/AccessMode; -/
def k23 : Class := { plain "[Lcom/example/stern_warden/sternwarden/model/AccessMode;" (some 0) with kind := .array 6 (.object "com/example/stern_warden/sternwarden/model/AccessMode"), interfaces := #[13, 4], accessFlags := 1041 }

def heap : Heap := #[{ cls := 6, slots := #[.ref 5, .ref 8, .ref 11, .ref 14, .ref 4], vm := .statics 6 },
  { cls := 9, slots := #[.long 0, .int 1, .null, .int 0, .null, .int 0, .int 0], vm := .statics 9 },
  { cls := 11, slots := #[.null, .null, .null], vm := .statics 11 },
  { cls := 14, slots := #[.ref 17], vm := .statics 14 },
  { cls := 23, slots := #[.ref 5, .ref 8, .ref 11, .ref 14], vm := .none },
  { cls := 6, slots := #[.null, .int 0, .int 0, .ref 6, .null], vm := .none },
  { cls := 9, slots := #[.ref 7, .int 0, .int 0, .int 0], vm := .none },
  { cls := 18, slots := #[.int 82, .int 101, .int 97, .int 100], vm := .none },
  { cls := 6, slots := #[.null, .int 0, .int 0, .ref 9, .null], vm := .none },
  { cls := 9, slots := #[.ref 10, .int 0, .int 0, .int 0], vm := .none },
  { cls := 18, slots := #[.int 87, .int 114, .int 105, .int 116, .int 101], vm := .none },
  { cls := 6, slots := #[.null, .int 0, .int 0, .ref 12, .null], vm := .none },
  { cls := 9, slots := #[.ref 13, .int 0, .int 0, .int 0], vm := .none },
  { cls := 18, slots := #[.int 65, .int 112, .int 112, .int 101, .int 110, .int 100], vm := .none },
  { cls := 6, slots := #[.null, .int 0, .int 0, .ref 15, .null], vm := .none },
  { cls := 9, slots := #[.ref 16, .int 0, .int 0, .int 0], vm := .none },
  { cls := 18, slots := #[.int 67, .int 111, .int 110, .int 116, .int 114, .int 111, .int 108], vm := .none },
  { cls := 14, slots := #[.null], vm := .none }]
def classes : Array Class := #[k0, k1, k2, k3, k4, k5, k6, k7, k8, k9, k10, k11, k12, k13, k14, k15, k16, k17, k18, k19, k20, k21, k22, k23]
def interned : List (Array UInt16 × Addr) := []
def slotsUsed : Nat := 79
def theMethod : MethodId := ⟨1, 3⟩
def args0 : Array Value := #[.int 0, .int 0, .int 0, .int 5]
def aboutOver (below : List Frame) : State where
  vm := { classes := classes, interned := interned.toArray }
  heap := heap
  slotsUsed := slotsUsed
  threads := #[{ frames := .invoking theMethod args0 :: below }]
def below0 : List Frame := [.native { method := ⟨0, 0⟩, args := #[] }]
def about1 : State := aboutOver below0
def p0 : Program := .bare "" "" ""
def e0 : Env := launch0.env 0 0 0
theorem w_frames : about1.frames = Frame.invoking theMethod args0 :: below0 := rfl
set_option maxRecDepth 65536 in
theorem w_args : argsFit about1.vm theMethod args0 = true := by decide +kernel
set_option maxRecDepth 65536 in
theorem w_heap : heapFits about1 = true := by decide +kernel
set_option maxRecDepth 65536 in
theorem w_runnable : about1.curStatus? = some .runnable := by decide +kernel
set_option maxRecDepth 65536 in
theorem w_alone : about1.alone = true := by decide +kernel
set_option maxRecDepth 65536 in
theorem w_named : about1.methodNamed? x = some theMethod := by decide +kernel
set_option maxRecDepth 65536 in
theorem w_hears : about1.hears theMethod below0 = true := by decide +kernel
set_option maxRecDepth 65536 in
theorem w_ripe : about1.ripe theMethod args0 below0 = true := by decide +kernel
theorem w_running : about1.status = .running := rfl
set_option maxRecDepth 65536 in
theorem w_room : about1.hasRoom e0.platform room_1 = true :=
  launch0.hasRoom_least _ room_1 (by decide +kernel) (by decide +kernel) (by decide +kernel) (by decide +kernel) (by decide +kernel) (by decide +kernel)
theorem allAtoms_all (ts : List Jvm.Cond) (a : Array Jvm.Value) (st : Jvm.State) : (allAtoms ts).before a st = ts.all (fun c => c.before a st) := by
  induction ts with
  | nil => rfl
  | cons c t ih =>
    show (Jvm.Cond.and c (allAtoms t)).before a st = _
    rw [Jvm.Cond.before_and, ih, List.all_cons]
def words1 : List Jvm.Cond := Jvm.Cond.code x code maxLocals ret :: tables_1
/-- a 'code' word, met by the world's own term for the bytes: nothing is compared byte by byte -/
theorem code_word {y : MethodName} {bytes : ByteArray} {mx : Nat} {rt : Option FieldType} {a : Array Value} {s : State} {m : MethodId} {meth : Method} {c : Code} (h1 : s.methodNamed? y = some m) (h2 : s.vm.method? m = some meth) (h3 : meth.code = some c) (h4 : c.code = bytes)
    (h5 : (c.maxLocals == mx && c.exceptionTable.isEmpty && decide (c.maxStack ≤ mostOperands) && decide (meth.sig.returnType = rt) && !meth.locks && decide (parseMethodDescriptor y.desc = some meth.sig)) = true) : (Jvm.Cond.code y bytes mx rt).before a s = true := by
  simp only [Bool.and_eq_true, beq_iff_eq, Bool.not_eq_true', decide_eq_true_eq] at h5
  obtain ⟨⟨⟨⟨⟨g1, g2⟩, g3⟩, g4⟩, g5⟩, g6⟩ := h5
  simp [Cond.before, Cond.holds, Cond.value, h1, h2, h3, h4, g1, g2, g3, g4, g5, g6]
def isCode : Jvm.Cond → Bool
  | .code _ _ _ _ => true
  | _ => false
theorem all_split {L : List Jvm.Cond} {P : Jvm.Cond → Bool} (h1 : L.all (fun c => isCode c || P c) = true) (h2 : ∀ c ∈ L.filter isCode, P c = true) : L.all P = true := by
  refine List.all_eq_true.mpr fun c hc => ?_
  have h := List.all_eq_true.mp h1 c hc
  rcases Bool.eq_false_or_eq_true (isCode c) with hi | hi
  · exact h2 c (List.mem_filter.mpr ⟨hc, hi⟩)
  · simpa [hi] using h
set_option maxRecDepth 65536 in
theorem w_c0 : (Jvm.Cond.code x code maxLocals ret).before args0 about1 = true := code_word (m := ⟨1, 3⟩) (meth := k1m3) (c := k1c3) (by decide +kernel) rfl rfl rfl (by decide +kernel)
set_option maxRecDepth 65536 in
theorem w_c1 : (Jvm.Cond.code ({ cls := "java/lang/String", name := "length", desc := "()I" } : Jvm.MethodName) jdk_42_method_54_code (1 : Nat) (Option.some Jvm.ClassFile.FieldType.int)).before args0 about1 = true := code_word (m := ⟨9, 2⟩) (meth := k9m2) (c := k9c2) (by decide +kernel) rfl rfl rfl (by decide +kernel)
set_option maxRecDepth 65536 in
theorem w_c2 : (Jvm.Cond.code ({ cls := "java/lang/String", name := "coder", desc := "()B" } : Jvm.MethodName) jdk_42_method_152_code (1 : Nat) (Option.some Jvm.ClassFile.FieldType.byte)).before args0 about1 = true := code_word (m := ⟨9, 6⟩) (meth := k9m6) (c := k9c6) (by decide +kernel) rfl rfl rfl (by decide +kernel)
set_option maxRecDepth 65536 in
theorem w_c3 : (Jvm.Cond.code ({ cls := "com/example/stern_warden/sternwarden/model/AccessModeFromNamePinLaw", name := "at", desc := "(Ljava/lang/String;I)C" } : Jvm.MethodName) method_2_code (2 : Nat) (Option.some Jvm.ClassFile.FieldType.char)).before args0 about1 = true := code_word (m := ⟨1, 1⟩) (meth := k1m1) (c := k1c1) (by decide +kernel) rfl rfl rfl (by decide +kernel)
set_option maxRecDepth 65536 in
theorem w_c4 : (Jvm.Cond.code ({ cls := "java/lang/String", name := "charAt", desc := "(I)C" } : Jvm.MethodName) jdk_42_method_56_code (2 : Nat) (Option.some Jvm.ClassFile.FieldType.char)).before args0 about1 = true := code_word (m := ⟨9, 3⟩) (meth := k9m3) (c := k9c3) (by decide +kernel) rfl rfl rfl (by decide +kernel)
set_option maxRecDepth 65536 in
theorem w_c5 : (Jvm.Cond.code ({ cls := "java/lang/String", name := "isLatin1", desc := "()Z" } : Jvm.MethodName) jdk_42_method_154_code (1 : Nat) (Option.some Jvm.ClassFile.FieldType.boolean)).before args0 about1 = true := code_word (m := ⟨9, 7⟩) (meth := k9m7) (c := k9c7) (by decide +kernel) rfl rfl rfl (by decide +kernel)
set_option maxRecDepth 65536 in
theorem w_c6 : (Jvm.Cond.code ({ cls := "java/lang/StringLatin1", name := "charAt", desc := "([BI)C" } : Jvm.MethodName) jdk_43_method_2_code (2 : Nat) (Option.some Jvm.ClassFile.FieldType.char)).before args0 about1 = true := code_word (m := ⟨10, 1⟩) (meth := k10m1) (c := k10c1) (by decide +kernel) rfl rfl rfl (by decide +kernel)
set_option maxRecDepth 65536 in
theorem w_c7 : (Jvm.Cond.code ({ cls := "java/lang/String", name := "checkIndex", desc := "(II)V" } : Jvm.MethodName) jdk_42_method_155_code (2 : Nat) (Option.none : Option Jvm.ClassFile.FieldType)).before args0 about1 = true := code_word (m := ⟨9, 8⟩) (meth := k9m8) (c := k9c8) (by decide +kernel) rfl rfl rfl (by decide +kernel)
set_option maxRecDepth 65536 in
theorem w_c8 : (Jvm.Cond.code ({ cls := "jdk/internal/util/Preconditions", name := "checkIndex", desc := "(IILjava/util/function/BiFunction;)I" } : Jvm.MethodName) jdk_41_method_11_code (3 : Nat) (Option.some Jvm.ClassFile.FieldType.int)).before args0 about1 = true := code_word (m := ⟨11, 1⟩) (meth := k11m1) (c := k11c1) (by decide +kernel) rfl rfl rfl (by decide +kernel)
set_option maxRecDepth 65536 in
theorem w_c9 : (Jvm.Cond.code ({ cls := "com/example/stern_warden/sternwarden/model/AccessModeFromNamePinLaw", name := "str", desc := "([CI)Ljava/lang/String;" } : Jvm.MethodName) method_3_code (2 : Nat) (Option.some (Jvm.ClassFile.FieldType.object "java/lang/String"))).before args0 about1 = true := code_word (m := ⟨1, 2⟩) (meth := k1m2) (c := k1c2) (by decide +kernel) rfl rfl rfl (by decide +kernel)
set_option maxRecDepth 65536 in
theorem w_c10 : (Jvm.Cond.code ({ cls := "java/lang/String", name := "<init>", desc := "([C)V" } : Jvm.MethodName) jdk_42_method_3_code (2 : Nat) (Option.none : Option Jvm.ClassFile.FieldType)).before args0 about1 = true := code_word (m := ⟨9, 1⟩) (meth := k9m1) (c := k9c1) (by decide +kernel) rfl rfl rfl (by decide +kernel)
set_option maxRecDepth 65536 in
theorem w_c11 : (Jvm.Cond.code ({ cls := "java/lang/String", name := "<init>", desc := "([CIILjava/lang/Void;)V" } : Jvm.MethodName) jdk_42_method_149_code (6 : Nat) (Option.none : Option Jvm.ClassFile.FieldType)).before args0 about1 = true := code_word (m := ⟨9, 5⟩) (meth := k9m5) (c := k9c5) (by decide +kernel) rfl rfl rfl (by decide +kernel)
set_option maxRecDepth 65536 in
theorem w_c12 : (Jvm.Cond.code ({ cls := "java/lang/Object", name := "<init>", desc := "()V" } : Jvm.MethodName) object_method_1_code (1 : Nat) (Option.none : Option Jvm.ClassFile.FieldType)).before args0 about1 = true := code_word (m := ⟨0, 0⟩) (meth := k0m0) (c := k0c0) (by decide +kernel) rfl rfl rfl (by decide +kernel)
set_option maxRecDepth 65536 in
theorem w_c13 : (Jvm.Cond.code ({ cls := "java/lang/StringUTF16", name := "compress", desc := "([CII)[B" } : Jvm.MethodName) jdk_52_method_16_code (6 : Nat) (Option.some (Jvm.ClassFile.FieldType.array Jvm.ClassFile.FieldType.byte))).before args0 about1 = true := code_word (m := ⟨12, 2⟩) (meth := k12m2) (c := k12c2) (by decide +kernel) rfl rfl rfl (by decide +kernel)
set_option maxRecDepth 65536 in
theorem w_c14 : (Jvm.Cond.code ({ cls := "java/lang/StringUTF16", name := "compress", desc := "([CI[BII)I" } : Jvm.MethodName) jdk_52_method_21_code (7 : Nat) (Option.some Jvm.ClassFile.FieldType.int)).before args0 about1 = true := code_word (m := ⟨12, 3⟩) (meth := k12m3) (c := k12c3) (by decide +kernel) rfl rfl rfl (by decide +kernel)
set_option maxRecDepth 65536 in
theorem w_c15 : (Jvm.Cond.code ({ cls := "java/lang/StringUTF16", name := "coderFromArrayLen", desc := "([BI)B" } : Jvm.MethodName) jdk_52_method_15_code (2 : Nat) (Option.some Jvm.ClassFile.FieldType.byte)).before args0 about1 = true := code_word (m := ⟨12, 1⟩) (meth := k12m1) (c := k12c1) (by decide +kernel) rfl rfl rfl (by decide +kernel)
set_option maxRecDepth 65536 in
theorem w_c16 : (Jvm.Cond.code ({ cls := "com/example/stern_warden/sternwarden/model/AccessMode", name := "fromName", desc := "(Ljava/lang/String;)Ljava/util/Optional;" } : Jvm.MethodName) prog_2_method_8_code (5 : Nat) (Option.some (Jvm.ClassFile.FieldType.object "java/util/Optional"))).before args0 about1 = true := code_word (m := ⟨6, 1⟩) (meth := k6m1) (c := k6c1) (by decide +kernel) rfl rfl rfl (by decide +kernel)
set_option maxRecDepth 65536 in
theorem w_c17 : (Jvm.Cond.code ({ cls := "com/example/stern_warden/sternwarden/model/AccessMode", name := "values", desc := "()[Lcom/example/stern_warden/sternwarden/model/AccessMode;" } : Jvm.MethodName) prog_2_method_1_code (0 : Nat) (Option.some (Jvm.ClassFile.FieldType.array (Jvm.ClassFile.FieldType.object "com/example/stern_warden/sternwarden/model/AccessMode")))).before args0 about1 = true := code_word (m := ⟨6, 0⟩) (meth := k6m0) (c := k6c0) (by decide +kernel) rfl rfl rfl (by decide +kernel)
set_option maxRecDepth 65536 in
theorem w_c18 : (Jvm.Cond.code ({ cls := "java/lang/String", name := "equals", desc := "(Ljava/lang/Object;)Z" } : Jvm.MethodName) jdk_42_method_66_code (3 : Nat) (Option.some Jvm.ClassFile.FieldType.boolean)).before args0 about1 = true := code_word (m := ⟨9, 4⟩) (meth := k9m4) (c := k9c4) (by decide +kernel) rfl rfl rfl (by decide +kernel)
set_option maxRecDepth 65536 in
theorem w_c19 : (Jvm.Cond.code ({ cls := "java/lang/StringLatin1", name := "equals", desc := "([B[B)Z" } : Jvm.MethodName) jdk_43_method_13_code (3 : Nat) (Option.some Jvm.ClassFile.FieldType.boolean)).before args0 about1 = true := code_word (m := ⟨10, 2⟩) (meth := k10m2) (c := k10c2) (by decide +kernel) rfl rfl rfl (by decide +kernel)
set_option maxRecDepth 65536 in
theorem w_c20 : (Jvm.Cond.code ({ cls := "java/util/Optional", name := "empty", desc := "()Ljava/util/Optional;" } : Jvm.MethodName) jdk_32_method_1_code (1 : Nat) (Option.some (Jvm.ClassFile.FieldType.object "java/util/Optional"))).before args0 about1 = true := code_word (m := ⟨14, 0⟩) (meth := k14m0) (c := k14c0) (by decide +kernel) rfl rfl rfl (by decide +kernel)
set_option maxRecDepth 65536 in
theorem w_c21 : (Jvm.Cond.code ({ cls := "java/util/Optional", name := "isEmpty", desc := "()Z" } : Jvm.MethodName) jdk_32_method_7_code (1 : Nat) (Option.some Jvm.ClassFile.FieldType.boolean)).before args0 about1 = true := code_word (m := ⟨14, 5⟩) (meth := k14m5) (c := k14c5) (by decide +kernel) rfl rfl rfl (by decide +kernel)
set_option maxRecDepth 65536 in
theorem w_c22 : (Jvm.Cond.code ({ cls := "java/util/Optional", name := "of", desc := "(Ljava/lang/Object;)Ljava/util/Optional;" } : Jvm.MethodName) jdk_32_method_3_code (1 : Nat) (Option.some (Jvm.ClassFile.FieldType.object "java/util/Optional"))).before args0 about1 = true := code_word (m := ⟨14, 2⟩) (meth := k14m2) (c := k14c2) (by decide +kernel) rfl rfl rfl (by decide +kernel)
set_option maxRecDepth 65536 in
theorem w_c23 : (Jvm.Cond.code ({ cls := "java/util/Objects", name := "requireNonNull", desc := "(Ljava/lang/Object;)Ljava/lang/Object;" } : Jvm.MethodName) jdk_31_method_10_code (1 : Nat) (Option.some (Jvm.ClassFile.FieldType.object "java/lang/Object"))).before args0 about1 = true := code_word (m := ⟨15, 1⟩) (meth := k15m1) (c := k15c1) (by decide +kernel) rfl rfl rfl (by decide +kernel)
set_option maxRecDepth 65536 in
theorem w_c24 : (Jvm.Cond.code ({ cls := "java/util/Optional", name := "<init>", desc := "(Ljava/lang/Object;)V" } : Jvm.MethodName) jdk_32_method_2_code (2 : Nat) (Option.none : Option Jvm.ClassFile.FieldType)).before args0 about1 = true := code_word (m := ⟨14, 1⟩) (meth := k14m1) (c := k14c1) (by decide +kernel) rfl rfl rfl (by decide +kernel)
set_option maxRecDepth 65536 in
theorem w_c25 : (Jvm.Cond.code ({ cls := "java/util/Optional", name := "isPresent", desc := "()Z" } : Jvm.MethodName) jdk_32_method_6_code (1 : Nat) (Option.some Jvm.ClassFile.FieldType.boolean)).before args0 about1 = true := code_word (m := ⟨14, 4⟩) (meth := k14m4) (c := k14c4) (by decide +kernel) rfl rfl rfl (by decide +kernel)
set_option maxRecDepth 65536 in
theorem w_c26 : (Jvm.Cond.code ({ cls := "java/util/Optional", name := "get", desc := "()Ljava/lang/Object;" } : Jvm.MethodName) jdk_32_method_5_code (1 : Nat) (Option.some (Jvm.ClassFile.FieldType.object "java/lang/Object"))).before args0 about1 = true := code_word (m := ⟨14, 3⟩) (meth := k14m3) (c := k14c3) (by decide +kernel) rfl rfl rfl (by decide +kernel)
def codes1 : List Jvm.Cond := [Jvm.Cond.code x code maxLocals ret, Jvm.Cond.code ({ cls := "java/lang/String", name := "length", desc := "()I" } : Jvm.MethodName) jdk_42_method_54_code (1 : Nat) (Option.some Jvm.ClassFile.FieldType.int), Jvm.Cond.code ({ cls := "java/lang/String", name := "coder", desc := "()B" } : Jvm.MethodName) jdk_42_method_152_code (1 : Nat) (Option.some Jvm.ClassFile.FieldType.byte), Jvm.Cond.code ({ cls := "com/example/stern_warden/sternwarden/model/AccessModeFromNamePinLaw", name := "at", desc := "(Ljava/lang/String;I)C" } : Jvm.MethodName) method_2_code (2 : Nat) (Option.some Jvm.ClassFile.FieldType.char), Jvm.Cond.code ({ cls := "java/lang/String", name := "charAt", desc := "(I)C" } : Jvm.MethodName) jdk_42_method_56_code (2 : Nat) (Option.some Jvm.ClassFile.FieldType.char), Jvm.Cond.code ({ cls := "java/lang/String", name := "isLatin1", desc := "()Z" } : Jvm.MethodName) jdk_42_method_154_code (1 : Nat) (Option.some Jvm.ClassFile.FieldType.boolean), Jvm.Cond.code ({ cls := "java/lang/StringLatin1", name := "charAt", desc := "([BI)C" } : Jvm.MethodName) jdk_43_method_2_code (2 : Nat) (Option.some Jvm.ClassFile.FieldType.char), Jvm.Cond.code ({ cls := "java/lang/String", name := "checkIndex", desc := "(II)V" } : Jvm.MethodName) jdk_42_method_155_code (2 : Nat) (Option.none : Option Jvm.ClassFile.FieldType), Jvm.Cond.code ({ cls := "jdk/internal/util/Preconditions", name := "checkIndex", desc := "(IILjava/util/function/BiFunction;)I" } : Jvm.MethodName) jdk_41_method_11_code (3 : Nat) (Option.some Jvm.ClassFile.FieldType.int), Jvm.Cond.code ({ cls := "com/example/stern_warden/sternwarden/model/AccessModeFromNamePinLaw", name := "str", desc := "([CI)Ljava/lang/String;" } : Jvm.MethodName) method_3_code (2 : Nat) (Option.some (Jvm.ClassFile.FieldType.object "java/lang/String")), Jvm.Cond.code ({ cls := "java/lang/String", name := "<init>", desc := "([C)V" } : Jvm.MethodName) jdk_42_method_3_code (2 : Nat) (Option.none : Option Jvm.ClassFile.FieldType), Jvm.Cond.code ({ cls := "java/lang/String", name := "<init>", desc := "([CIILjava/lang/Void;)V" } : Jvm.MethodName) jdk_42_method_149_code (6 : Nat) (Option.none : Option Jvm.ClassFile.FieldType), Jvm.Cond.code ({ cls := "java/lang/Object", name := "<init>", desc := "()V" } : Jvm.MethodName) object_method_1_code (1 : Nat) (Option.none : Option Jvm.ClassFile.FieldType), Jvm.Cond.code ({ cls := "java/lang/StringUTF16", name := "compress", desc := "([CII)[B" } : Jvm.MethodName) jdk_52_method_16_code (6 : Nat) (Option.some (Jvm.ClassFile.FieldType.array Jvm.ClassFile.FieldType.byte)), Jvm.Cond.code ({ cls := "java/lang/StringUTF16", name := "compress", desc := "([CI[BII)I" } : Jvm.MethodName) jdk_52_method_21_code (7 : Nat) (Option.some Jvm.ClassFile.FieldType.int), Jvm.Cond.code ({ cls := "java/lang/StringUTF16", name := "coderFromArrayLen", desc := "([BI)B" } : Jvm.MethodName) jdk_52_method_15_code (2 : Nat) (Option.some Jvm.ClassFile.FieldType.byte), Jvm.Cond.code ({ cls := "com/example/stern_warden/sternwarden/model/AccessMode", name := "fromName", desc := "(Ljava/lang/String;)Ljava/util/Optional;" } : Jvm.MethodName) prog_2_method_8_code (5 : Nat) (Option.some (Jvm.ClassFile.FieldType.object "java/util/Optional")), Jvm.Cond.code ({ cls := "com/example/stern_warden/sternwarden/model/AccessMode", name := "values", desc := "()[Lcom/example/stern_warden/sternwarden/model/AccessMode;" } : Jvm.MethodName) prog_2_method_1_code (0 : Nat) (Option.some (Jvm.ClassFile.FieldType.array (Jvm.ClassFile.FieldType.object "com/example/stern_warden/sternwarden/model/AccessMode"))), Jvm.Cond.code ({ cls := "java/lang/String", name := "equals", desc := "(Ljava/lang/Object;)Z" } : Jvm.MethodName) jdk_42_method_66_code (3 : Nat) (Option.some Jvm.ClassFile.FieldType.boolean), Jvm.Cond.code ({ cls := "java/lang/StringLatin1", name := "equals", desc := "([B[B)Z" } : Jvm.MethodName) jdk_43_method_13_code (3 : Nat) (Option.some Jvm.ClassFile.FieldType.boolean), Jvm.Cond.code ({ cls := "java/util/Optional", name := "empty", desc := "()Ljava/util/Optional;" } : Jvm.MethodName) jdk_32_method_1_code (1 : Nat) (Option.some (Jvm.ClassFile.FieldType.object "java/util/Optional")), Jvm.Cond.code ({ cls := "java/util/Optional", name := "isEmpty", desc := "()Z" } : Jvm.MethodName) jdk_32_method_7_code (1 : Nat) (Option.some Jvm.ClassFile.FieldType.boolean), Jvm.Cond.code ({ cls := "java/util/Optional", name := "of", desc := "(Ljava/lang/Object;)Ljava/util/Optional;" } : Jvm.MethodName) jdk_32_method_3_code (1 : Nat) (Option.some (Jvm.ClassFile.FieldType.object "java/util/Optional")), Jvm.Cond.code ({ cls := "java/util/Objects", name := "requireNonNull", desc := "(Ljava/lang/Object;)Ljava/lang/Object;" } : Jvm.MethodName) jdk_31_method_10_code (1 : Nat) (Option.some (Jvm.ClassFile.FieldType.object "java/lang/Object")), Jvm.Cond.code ({ cls := "java/util/Optional", name := "<init>", desc := "(Ljava/lang/Object;)V" } : Jvm.MethodName) jdk_32_method_2_code (2 : Nat) (Option.none : Option Jvm.ClassFile.FieldType), Jvm.Cond.code ({ cls := "java/util/Optional", name := "isPresent", desc := "()Z" } : Jvm.MethodName) jdk_32_method_6_code (1 : Nat) (Option.some Jvm.ClassFile.FieldType.boolean), Jvm.Cond.code ({ cls := "java/util/Optional", name := "get", desc := "()Ljava/lang/Object;" } : Jvm.MethodName) jdk_32_method_5_code (1 : Nat) (Option.some (Jvm.ClassFile.FieldType.object "java/lang/Object"))]
set_option maxRecDepth 65536 in
theorem codes_eq : words1.filter isCode = codes1 := rfl
theorem w_codes : ∀ c ∈ words1.filter isCode, c.before args0 about1 = true := by
  rw [codes_eq]
  intro c hc
  simp only [codes1, List.mem_cons, List.not_mem_nil, or_false] at hc
  rcases hc with rfl | rfl | rfl | rfl | rfl | rfl | rfl | rfl | rfl | rfl | rfl | rfl | rfl | rfl | rfl | rfl | rfl | rfl | rfl | rfl | rfl | rfl | rfl | rfl | rfl | rfl | rfl
  · exact w_c0
  · exact w_c1
  · exact w_c2
  · exact w_c3
  · exact w_c4
  · exact w_c5
  · exact w_c6
  · exact w_c7
  · exact w_c8
  · exact w_c9
  · exact w_c10
  · exact w_c11
  · exact w_c12
  · exact w_c13
  · exact w_c14
  · exact w_c15
  · exact w_c16
  · exact w_c17
  · exact w_c18
  · exact w_c19
  · exact w_c20
  · exact w_c21
  · exact w_c22
  · exact w_c23
  · exact w_c24
  · exact w_c25
  · exact w_c26
set_option maxRecDepth 65536 in
theorem w_t1 : (words1.take 24).all (fun c => isCode c || c.before args0 about1) = true := by decide +kernel
set_option maxRecDepth 65536 in
theorem w_t2 : ((words1.drop 24).take 24).all (fun c => isCode c || c.before args0 about1) = true := by decide +kernel
set_option maxRecDepth 65536 in
theorem w_t3 : (((words1.drop 24).drop 24).take 24).all (fun c => isCode c || c.before args0 about1) = true := by decide +kernel
set_option maxRecDepth 65536 in
theorem w_t4 : ((((words1.drop 24).drop 24).drop 24).take 24).all (fun c => isCode c || c.before args0 about1) = true := by decide +kernel
set_option maxRecDepth 65536 in
theorem w_t5 : (((((words1.drop 24).drop 24).drop 24).drop 24).take 24).all (fun c => isCode c || c.before args0 about1) = true := by decide +kernel
set_option maxRecDepth 65536 in
theorem w_t6 : ((((((words1.drop 24).drop 24).drop 24).drop 24).drop 24).take 24).all (fun c => isCode c || c.before args0 about1) = true := by decide +kernel
set_option maxRecDepth 65536 in
theorem w_t7 : ((((((words1.drop 24).drop 24).drop 24).drop 24).drop 24).drop 24).all (fun c => isCode c || c.before args0 about1) = true := by decide +kernel
theorem w_tables : (allAtoms (Jvm.Cond.code x code maxLocals ret :: tables_1)).before args0 about1 = true := by
  rw [allAtoms_all]
  show words1.all (fun c => c.before args0 about1) = true
  refine all_split ?_ w_codes
  rw [← List.take_append_drop 24 words1, List.all_append, w_t1, ← List.take_append_drop 24 (words1.drop 24), List.all_append, w_t2, ← List.take_append_drop 24 ((words1.drop 24).drop 24), List.all_append, w_t3, ← List.take_append_drop 24 (((words1.drop 24).drop 24).drop 24), List.all_append, w_t4, ← List.take_append_drop 24 ((((words1.drop 24).drop 24).drop 24).drop 24), List.all_append, w_t5, ← List.take_append_drop 24 (((((words1.drop 24).drop 24).drop 24).drop 24).drop 24), List.all_append, w_t6, w_t7]
  rfl
set_option maxRecDepth 65536 in
theorem w_rest : rest_1_c.before args0 about1 = true := by decide +kernel
set_option maxRecDepth 65536 in
theorem w_case : (Jvm.Cond.and given_1 narrow_1).before args0 about1 = true := by decide +kernel
set_option maxRecDepth 65536 in
theorem w_consts : constsHeld consts_1 about1 := Jvm.Lit.constsHeldB_iff.mp (by decide +kernel)
theorem w_applies : (headSpec (Jvm.Cond.code x code maxLocals ret :: tables_1) room_1).applies x e0.platform about1 = true :=
  (Spec.applies_iff w_frames).mpr ⟨w_running, w_runnable, w_alone, w_named, w_hears, w_ripe, w_room, w_tables⟩
theorem atStart : AtStart classFile x code maxLocals ret World_1 tables_1 room_1 Calls_1 rest_1 Pre_1 launch0 p0 e0 about1 theMethod args0 below0 :=
  ⟨lists_1, trivial, launch0.admits_env _ _ _, launch0.least_env, fairChoices_fair.cas, fairChoices_fair.clock, w_frames, w_args, w_heap, w_applies, ⟨w_consts, trivial⟩, w_rest, w_case⟩
end start1
theorem witness_1 : WitnessClaimed_1 := ⟨start1.p0, start1.e0, start1.about1, start1.theMethod, start1.args0, start1.below0, start1.atStart⟩
end Jvm.Pilot.@@N@@
