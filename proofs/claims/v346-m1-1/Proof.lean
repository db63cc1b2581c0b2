import JvmDerived
import JvmDerived.Pilot.@@N@@Statement
import JvmDerived.Pilot.@@N@@Code
set_option linter.unusedVariables false
set_option linter.unusedSimpArgs false
set_option maxRecDepth 65536
set_option maxHeartbeats 40000000
@@BLOCK:NumsL.lean.txt@@
namespace Jvm.RoadKit
open Sem ClassFile Op Lib Jvm.Stand Jvm.Free Jvm.LawKit
section New
variable {p : Program} {l : Launch} {e : Env} {R : Room} {s : State} {m : MethodId} {args : Array Value} {below : List Frame} {meth : Method} {c : Code} {T : State} {locs : List Loc} {cells slots : Nat}
theorem retI (X : Stand p l e R s m args below meth c T locs cells slots) (hx : p.tables.exec = Jvm.exec) {pc : Nat} {Ls : Array Slot} {z : Int32} {rest : List Value} (hret : meth.sig.returnType = some .int) (hd : decode c.code pc = .ok (.ireturn, 1)) {fs : List Frame}
    (hl : ∀ (f : JFrame) (acts : List Action), f.method = m → f.locked = none → f.entered = [] → (doReturn e (T.setTop f) acts (some (.int z))).1 = T.setFrames fs) : Steps p.tables e below (T.setTop (mkF m pc Ls (.int z :: rest))) (T.setFrames fs) := by
  have hm' : T.vm.method? m = some meth := X.method'
  have hn : narrow .int (.int z) = .int z := rfl
  show Steps p.tables e below (T.setTop { method := m, pc := pc, locals := Ls, stack := _ :: rest, locked := none }) _
  jvm_step X.here [X.here.top, hx, hd, hm', hret, hn]
  first | (intro acts; rw [hl _ acts rfl rfl rfl]) | rw [hl _ _ rfl rfl rfl]
  exact Steps.refl _
end New
end Jvm.RoadKit
namespace Jvm.Pilot.@@N@@
open Jvm Jvm.ClassFile Sem Op Lib Jvm.Free Jvm.Stand Jvm.LawKit Jvm.RoadKit Bundle Jvm.Pilot.@@N@@.Jvm.D
theorem own_eqI {args : Array Value} {s : State} {a : Term} {k : Int32} (h : (Cond.eq a (.int k)).value args s none s [] = some true) : a.eval args s none [] s = some (.int k) := by
  obtain ⟨x, y, hx, hy, k1, k2⟩ := cmp_v (Or.inl h)
  obtain rfl : Value.int k = y := Option.some.inj ((Term.int_eval k).symm.trans hy)
  obtain ⟨z, rfl⟩ : ∃ z, x = .int z := k2
  have hz : z = k := gotT (Cond.eq_ints hx hy) h
  rw [hz] at hx; exact hx
theorem own_eqR {args : Array Value} {s : State} {a b : Term} {y : Addr} (hb : b.eval args s none [] s = some (.ref y)) (h : (Cond.eq a b).value args s none s [] = some true) : a.eval args s none [] s = some (.ref y) := by
  obtain ⟨x, y', hx, hy, k1, k2⟩ := cmp_v (Or.inl h)
  obtain rfl : Value.ref y = y' := Option.some.inj (hb.symm.trans hy)
  have hr : x.isRef = true := k2.2
  have hz : x = .ref y := gotT (eq_R hx hy hr rfl) h
  rw [hz] at hx; exact hx
theorem own_t {a b c : Nat} (h : a < b) (k : b ≤ c) : a < c := Nat.lt_of_lt_of_le h k
theorem own_n {a b c : Nat} (h : a < b) (k : b ≤ c) : a ≠ c := Nat.ne_of_lt (Nat.lt_of_lt_of_le h k)
abbrev vI (x : Int32) : Slot := .val (.int x)
abbrev vJ (x : Int64) : Slot := .val (.long x)
abbrev vR (x : Addr) : Slot := .val (.ref x)
abbrev vN : Slot := .val .null
theorem own_z {Z : State} {n0 : Nat} {h : Heap} (O : Old Z n0 h) : n0 ≤ h.size := O.1 ▸ O.2.1
theorem own_len {args : Array Value} {s : State} {t : Term} {x : Addr} {cl : Cell} {ty : FieldType} {n : Int32} (ev : t.eval args s none [] s = some (.ref x)) (A : Arr s s.heap x cl ty) (h : (Term.length t).eval args s none [] s = some (.int n)) : cl.slots.size < 2 ^ 31 ∧ cl.slots.size.toInt32 = n := by
  have ha : s.arrayAt? x = some cl := IntBox.arrayAt_of A.1 A.2.1 A.2.2
  simpa [Term.eval, ev, ha] using h
theorem own_elem {args : Array Value} {s : State} {t : Term} {x : Addr} {cl : Cell} {ty : FieldType} {j : Int32} {v : Value} {i : Nat} (ev : t.eval args s none [] s = some (.ref x)) (A : Arr s s.heap x cl ty) (h : (Term.elem t (.int j)).eval args s none [] s = some v) (hi : j.toNatClampNeg = i) : cl.slots[i]? = some v := by
  have q := (elem_in h ev (Term.int_eval j) A.1).2
  rw [hi] at q; exact q
def own_ws : List Jvm.Cond := tables_1 ++ jdkStatics_1
theorem gw (i : Nat) {d : Jvm.Cond} (h : own_ws[i]? = some d) : d ∈ own_ws := List.mem_of_getElem? h
abbrev own_HW (Z : State) (a0 : Array Value) : Prop := ∀ d ∈ own_ws, d.before a0 Z = true
section OwnW
variable {Z : State} {a0 : Array Value}
def ww120 (hw : own_HW Z a0) := hw _ (gw 120 rfl)
def ww121 (hw : own_HW Z a0) := hw _ (gw 121 rfl)
def ww160 (hw : own_HW Z a0) := hw _ (gw 160 rfl)
def ww212 (hw : own_HW Z a0) := hw _ (gw 212 rfl)
def ww214 (hw : own_HW Z a0) := hw _ (gw 214 rfl)
def ww216 (hw : own_HW Z a0) := hw _ (gw 216 rfl)
def ww6 (hw : own_HW Z a0) := hw _ (gw 6 rfl)
def ww217 (hw : own_HW Z a0) := hw _ (gw 217 rfl)
def ww0 (hw : own_HW Z a0) := hw _ (gw 0 rfl)
def ww3 (hw : own_HW Z a0) := hw _ (gw 3 rfl)
def ww2 (hw : own_HW Z a0) := hw _ (gw 2 rfl)
def ww1 (hw : own_HW Z a0) := hw _ (gw 1 rfl)
def ww4 (hw : own_HW Z a0) := hw _ (gw 4 rfl)
def ww5 (hw : own_HW Z a0) := hw _ (gw 5 rfl)
def ww26 (hw : own_HW Z a0) := hw _ (gw 26 rfl)
def ww29 (hw : own_HW Z a0) := hw _ (gw 29 rfl)
def ww61 (hw : own_HW Z a0) := hw _ (gw 61 rfl)
def ww7 (hw : own_HW Z a0) := hw _ (gw 7 rfl)
def ww10 (hw : own_HW Z a0) := hw _ (gw 10 rfl)
def ww16 (hw : own_HW Z a0) := hw _ (gw 16 rfl)
def ww22 (hw : own_HW Z a0) := hw _ (gw 22 rfl)
def ww24 (hw : own_HW Z a0) := hw _ (gw 24 rfl)
def ww23 (hw : own_HW Z a0) := hw _ (gw 23 rfl)
def ww21 (hw : own_HW Z a0) := hw _ (gw 21 rfl)
def ww20 (hw : own_HW Z a0) := hw _ (gw 20 rfl)
def ww17 (hw : own_HW Z a0) := hw _ (gw 17 rfl)
def ww25 (hw : own_HW Z a0) := hw _ (gw 25 rfl)
def ww15 (hw : own_HW Z a0) := hw _ (gw 15 rfl)
def ww14 (hw : own_HW Z a0) := hw _ (gw 14 rfl)
def ww11 (hw : own_HW Z a0) := hw _ (gw 11 rfl)
def ww27 (hw : own_HW Z a0) := hw _ (gw 27 rfl)
def ww28 (hw : own_HW Z a0) := hw _ (gw 28 rfl)
def ww9 (hw : own_HW Z a0) := hw _ (gw 9 rfl)
def ww8 (hw : own_HW Z a0) := hw _ (gw 8 rfl)
def ww30 (hw : own_HW Z a0) := hw _ (gw 30 rfl)
def ww31 (hw : own_HW Z a0) := hw _ (gw 31 rfl)
def ww32 (hw : own_HW Z a0) := hw _ (gw 32 rfl)
def ww48 (hw : own_HW Z a0) := hw _ (gw 48 rfl)
def ww50 (hw : own_HW Z a0) := hw _ (gw 50 rfl)
def ww63 (hw : own_HW Z a0) := hw _ (gw 63 rfl)
def ww65 (hw : own_HW Z a0) := hw _ (gw 65 rfl)
def ww112 (hw : own_HW Z a0) := hw _ (gw 112 rfl)
def ww114 (hw : own_HW Z a0) := hw _ (gw 114 rfl)
def ww33 (hw : own_HW Z a0) := hw _ (gw 33 rfl)
def ww34 (hw : own_HW Z a0) := hw _ (gw 34 rfl)
def ww35 (hw : own_HW Z a0) := hw _ (gw 35 rfl)
def ww41 (hw : own_HW Z a0) := hw _ (gw 41 rfl)
def ww36 (hw : own_HW Z a0) := hw _ (gw 36 rfl)
def ww39 (hw : own_HW Z a0) := hw _ (gw 39 rfl)
def ww40 (hw : own_HW Z a0) := hw _ (gw 40 rfl)
def ww38 (hw : own_HW Z a0) := hw _ (gw 38 rfl)
def ww37 (hw : own_HW Z a0) := hw _ (gw 37 rfl)
def ww42 (hw : own_HW Z a0) := hw _ (gw 42 rfl)
def ww45 (hw : own_HW Z a0) := hw _ (gw 45 rfl)
def ww46 (hw : own_HW Z a0) := hw _ (gw 46 rfl)
def ww47 (hw : own_HW Z a0) := hw _ (gw 47 rfl)
def ww49 (hw : own_HW Z a0) := hw _ (gw 49 rfl)
def ww51 (hw : own_HW Z a0) := hw _ (gw 51 rfl)
def ww60 (hw : own_HW Z a0) := hw _ (gw 60 rfl)
def ww59 (hw : own_HW Z a0) := hw _ (gw 59 rfl)
def ww54 (hw : own_HW Z a0) := hw _ (gw 54 rfl)
def ww52 (hw : own_HW Z a0) := hw _ (gw 52 rfl)
def ww53 (hw : own_HW Z a0) := hw _ (gw 53 rfl)
def ww55 (hw : own_HW Z a0) := hw _ (gw 55 rfl)
def ww56 (hw : own_HW Z a0) := hw _ (gw 56 rfl)
def ww57 (hw : own_HW Z a0) := hw _ (gw 57 rfl)
def ww58 (hw : own_HW Z a0) := hw _ (gw 58 rfl)
def ww62 (hw : own_HW Z a0) := hw _ (gw 62 rfl)
def ww64 (hw : own_HW Z a0) := hw _ (gw 64 rfl)
def ww66 (hw : own_HW Z a0) := hw _ (gw 66 rfl)
def ww74 (hw : own_HW Z a0) := hw _ (gw 74 rfl)
def ww75 (hw : own_HW Z a0) := hw _ (gw 75 rfl)
def ww76 (hw : own_HW Z a0) := hw _ (gw 76 rfl)
def ww82 (hw : own_HW Z a0) := hw _ (gw 82 rfl)
def ww85 (hw : own_HW Z a0) := hw _ (gw 85 rfl)
def ww89 (hw : own_HW Z a0) := hw _ (gw 89 rfl)
def ww100 (hw : own_HW Z a0) := hw _ (gw 100 rfl)
def ww77 (hw : own_HW Z a0) := hw _ (gw 77 rfl)
def ww81 (hw : own_HW Z a0) := hw _ (gw 81 rfl)
def ww83 (hw : own_HW Z a0) := hw _ (gw 83 rfl)
def ww84 (hw : own_HW Z a0) := hw _ (gw 84 rfl)
def ww86 (hw : own_HW Z a0) := hw _ (gw 86 rfl)
def ww87 (hw : own_HW Z a0) := hw _ (gw 87 rfl)
def ww88 (hw : own_HW Z a0) := hw _ (gw 88 rfl)
def ww80 (hw : own_HW Z a0) := hw _ (gw 80 rfl)
def ww78 (hw : own_HW Z a0) := hw _ (gw 78 rfl)
def ww73 (hw : own_HW Z a0) := hw _ (gw 73 rfl)
def ww69 (hw : own_HW Z a0) := hw _ (gw 69 rfl)
def ww67 (hw : own_HW Z a0) := hw _ (gw 67 rfl)
def ww68 (hw : own_HW Z a0) := hw _ (gw 68 rfl)
def ww70 (hw : own_HW Z a0) := hw _ (gw 70 rfl)
def ww71 (hw : own_HW Z a0) := hw _ (gw 71 rfl)
def ww72 (hw : own_HW Z a0) := hw _ (gw 72 rfl)
def ww90 (hw : own_HW Z a0) := hw _ (gw 90 rfl)
def ww99 (hw : own_HW Z a0) := hw _ (gw 99 rfl)
def ww101 (hw : own_HW Z a0) := hw _ (gw 101 rfl)
def ww98 (hw : own_HW Z a0) := hw _ (gw 98 rfl)
def ww93 (hw : own_HW Z a0) := hw _ (gw 93 rfl)
def ww91 (hw : own_HW Z a0) := hw _ (gw 91 rfl)
def ww92 (hw : own_HW Z a0) := hw _ (gw 92 rfl)
def ww94 (hw : own_HW Z a0) := hw _ (gw 94 rfl)
def ww95 (hw : own_HW Z a0) := hw _ (gw 95 rfl)
def ww96 (hw : own_HW Z a0) := hw _ (gw 96 rfl)
def ww97 (hw : own_HW Z a0) := hw _ (gw 97 rfl)
def ww102 (hw : own_HW Z a0) := hw _ (gw 102 rfl)
def ww105 (hw : own_HW Z a0) := hw _ (gw 105 rfl)
def ww104 (hw : own_HW Z a0) := hw _ (gw 104 rfl)
def ww103 (hw : own_HW Z a0) := hw _ (gw 103 rfl)
def ww44 (hw : own_HW Z a0) := hw _ (gw 44 rfl)
def ww43 (hw : own_HW Z a0) := hw _ (gw 43 rfl)
def ww106 (hw : own_HW Z a0) := hw _ (gw 106 rfl)
def ww111 (hw : own_HW Z a0) := hw _ (gw 111 rfl)
def ww113 (hw : own_HW Z a0) := hw _ (gw 113 rfl)
def ww110 (hw : own_HW Z a0) := hw _ (gw 110 rfl)
def ww109 (hw : own_HW Z a0) := hw _ (gw 109 rfl)
def ww107 (hw : own_HW Z a0) := hw _ (gw 107 rfl)
def ww108 (hw : own_HW Z a0) := hw _ (gw 108 rfl)
def ww115 (hw : own_HW Z a0) := hw _ (gw 115 rfl)
def ww119 (hw : own_HW Z a0) := hw _ (gw 119 rfl)
def ww211 (hw : own_HW Z a0) := hw _ (gw 211 rfl)
def ww159 (hw : own_HW Z a0) := hw _ (gw 159 rfl)
def ww213 (hw : own_HW Z a0) := hw _ (gw 213 rfl)
def ww118 (hw : own_HW Z a0) := hw _ (gw 118 rfl)
def ww117 (hw : own_HW Z a0) := hw _ (gw 117 rfl)
def ww116 (hw : own_HW Z a0) := hw _ (gw 116 rfl)
def ww122 (hw : own_HW Z a0) := hw _ (gw 122 rfl)
def ww126 (hw : own_HW Z a0) := hw _ (gw 126 rfl)
def ww125 (hw : own_HW Z a0) := hw _ (gw 125 rfl)
def ww123 (hw : own_HW Z a0) := hw _ (gw 123 rfl)
def ww124 (hw : own_HW Z a0) := hw _ (gw 124 rfl)
def ww127 (hw : own_HW Z a0) := hw _ (gw 127 rfl)
def ww131 (hw : own_HW Z a0) := hw _ (gw 131 rfl)
def ww130 (hw : own_HW Z a0) := hw _ (gw 130 rfl)
def ww128 (hw : own_HW Z a0) := hw _ (gw 128 rfl)
def ww129 (hw : own_HW Z a0) := hw _ (gw 129 rfl)
def ww132 (hw : own_HW Z a0) := hw _ (gw 132 rfl)
def ww137 (hw : own_HW Z a0) := hw _ (gw 137 rfl)
def ww138 (hw : own_HW Z a0) := hw _ (gw 138 rfl)
def ww143 (hw : own_HW Z a0) := hw _ (gw 143 rfl)
def ww148 (hw : own_HW Z a0) := hw _ (gw 148 rfl)
def ww153 (hw : own_HW Z a0) := hw _ (gw 153 rfl)
def ww155 (hw : own_HW Z a0) := hw _ (gw 155 rfl)
def ww154 (hw : own_HW Z a0) := hw _ (gw 154 rfl)
def ww156 (hw : own_HW Z a0) := hw _ (gw 156 rfl)
def ww157 (hw : own_HW Z a0) := hw _ (gw 157 rfl)
def ww152 (hw : own_HW Z a0) := hw _ (gw 152 rfl)
def ww149 (hw : own_HW Z a0) := hw _ (gw 149 rfl)
def ww151 (hw : own_HW Z a0) := hw _ (gw 151 rfl)
def ww150 (hw : own_HW Z a0) := hw _ (gw 150 rfl)
def ww147 (hw : own_HW Z a0) := hw _ (gw 147 rfl)
def ww144 (hw : own_HW Z a0) := hw _ (gw 144 rfl)
def ww146 (hw : own_HW Z a0) := hw _ (gw 146 rfl)
def ww145 (hw : own_HW Z a0) := hw _ (gw 145 rfl)
def ww158 (hw : own_HW Z a0) := hw _ (gw 158 rfl)
def ww142 (hw : own_HW Z a0) := hw _ (gw 142 rfl)
def ww139 (hw : own_HW Z a0) := hw _ (gw 139 rfl)
def ww141 (hw : own_HW Z a0) := hw _ (gw 141 rfl)
def ww140 (hw : own_HW Z a0) := hw _ (gw 140 rfl)
def ww136 (hw : own_HW Z a0) := hw _ (gw 136 rfl)
def ww135 (hw : own_HW Z a0) := hw _ (gw 135 rfl)
def ww133 (hw : own_HW Z a0) := hw _ (gw 133 rfl)
def ww134 (hw : own_HW Z a0) := hw _ (gw 134 rfl)
def ww161 (hw : own_HW Z a0) := hw _ (gw 161 rfl)
def ww169 (hw : own_HW Z a0) := hw _ (gw 169 rfl)
def ww173 (hw : own_HW Z a0) := hw _ (gw 173 rfl)
def ww172 (hw : own_HW Z a0) := hw _ (gw 172 rfl)
def ww170 (hw : own_HW Z a0) := hw _ (gw 170 rfl)
def ww171 (hw : own_HW Z a0) := hw _ (gw 171 rfl)
def ww174 (hw : own_HW Z a0) := hw _ (gw 174 rfl)
def ww168 (hw : own_HW Z a0) := hw _ (gw 168 rfl)
def ww164 (hw : own_HW Z a0) := hw _ (gw 164 rfl)
def ww162 (hw : own_HW Z a0) := hw _ (gw 162 rfl)
def ww163 (hw : own_HW Z a0) := hw _ (gw 163 rfl)
def ww165 (hw : own_HW Z a0) := hw _ (gw 165 rfl)
def ww166 (hw : own_HW Z a0) := hw _ (gw 166 rfl)
def ww167 (hw : own_HW Z a0) := hw _ (gw 167 rfl)
def ww175 (hw : own_HW Z a0) := hw _ (gw 175 rfl)
def ww177 (hw : own_HW Z a0) := hw _ (gw 177 rfl)
def ww184 (hw : own_HW Z a0) := hw _ (gw 184 rfl)
def ww183 (hw : own_HW Z a0) := hw _ (gw 183 rfl)
def ww182 (hw : own_HW Z a0) := hw _ (gw 182 rfl)
def ww181 (hw : own_HW Z a0) := hw _ (gw 181 rfl)
def ww178 (hw : own_HW Z a0) := hw _ (gw 178 rfl)
def ww179 (hw : own_HW Z a0) := hw _ (gw 179 rfl)
def ww180 (hw : own_HW Z a0) := hw _ (gw 180 rfl)
def ww186 (hw : own_HW Z a0) := hw _ (gw 186 rfl)
def ww189 (hw : own_HW Z a0) := hw _ (gw 189 rfl)
def ww187 (hw : own_HW Z a0) := hw _ (gw 187 rfl)
def ww188 (hw : own_HW Z a0) := hw _ (gw 188 rfl)
def ww190 (hw : own_HW Z a0) := hw _ (gw 190 rfl)
def ww194 (hw : own_HW Z a0) := hw _ (gw 194 rfl)
def ww193 (hw : own_HW Z a0) := hw _ (gw 193 rfl)
def ww191 (hw : own_HW Z a0) := hw _ (gw 191 rfl)
def ww192 (hw : own_HW Z a0) := hw _ (gw 192 rfl)
def ww195 (hw : own_HW Z a0) := hw _ (gw 195 rfl)
def ww200 (hw : own_HW Z a0) := hw _ (gw 200 rfl)
def ww205 (hw : own_HW Z a0) := hw _ (gw 205 rfl)
def ww206 (hw : own_HW Z a0) := hw _ (gw 206 rfl)
def ww209 (hw : own_HW Z a0) := hw _ (gw 209 rfl)
def ww210 (hw : own_HW Z a0) := hw _ (gw 210 rfl)
def ww208 (hw : own_HW Z a0) := hw _ (gw 208 rfl)
def ww207 (hw : own_HW Z a0) := hw _ (gw 207 rfl)
def ww204 (hw : own_HW Z a0) := hw _ (gw 204 rfl)
def ww203 (hw : own_HW Z a0) := hw _ (gw 203 rfl)
def ww201 (hw : own_HW Z a0) := hw _ (gw 201 rfl)
def ww202 (hw : own_HW Z a0) := hw _ (gw 202 rfl)
def ww199 (hw : own_HW Z a0) := hw _ (gw 199 rfl)
def ww198 (hw : own_HW Z a0) := hw _ (gw 198 rfl)
def ww196 (hw : own_HW Z a0) := hw _ (gw 196 rfl)
def ww197 (hw : own_HW Z a0) := hw _ (gw 197 rfl)
end OwnW
section OwnSteps
variable {p : Program} {l : Launch} {e : Env} {R : Room} {s : State} {m : MethodId} {args : Array Value} {below : List Frame} {meth : Method} {c : Code} {T t : State} {locs : List Loc} {cells slots : Nat} {bytes : ByteArray} {pc pc' : Nat} {Ls Ls' : Array Slot} {S : List Value} {x : Int32} {v w : Value} {j : Int64}
theorem o_iload (X : Stand p l e R s m args below meth c T locs cells slots) (hx : p.tables.exec = Jvm.exec) (hby : c.code = bytes) {k : Nat} (hd : decode bytes pc = .ok (.iload k, 2)) (hl : Ls[k]? = some (.val (.int x))) (K : Steps p.tables e below (T.setTop (mkF m (pc + 2) Ls (.int x :: S))) t) : Steps p.tables e below (T.setTop (mkF m pc Ls (S))) t := XS.iload X.here hx rfl (hb hby hd) hl K
theorem o_iloadN (X : Stand p l e R s m args below meth c T locs cells slots) (hx : p.tables.exec = Jvm.exec) (hby : c.code = bytes) {k : Fin 4} (hd : decode bytes pc = .ok (.iload_n k, 1)) (hl : Ls[k.val]? = some (.val (.int x))) (K : Steps p.tables e below (T.setTop (mkF m (pc + 1) Ls (.int x :: S))) t) : Steps p.tables e below (T.setTop (mkF m pc Ls (S))) t := XS.iloadN X.here hx rfl (hb hby hd) hl K
theorem o_lload (X : Stand p l e R s m args below meth c T locs cells slots) (hx : p.tables.exec = Jvm.exec) (hby : c.code = bytes) {k : Nat} (hd : decode bytes pc = .ok (.lload k, 2)) (hl : Ls[k]? = some (.val (.long j))) (K : Steps p.tables e below (T.setTop (mkF m (pc + 2) Ls (.long j :: S))) t) : Steps p.tables e below (T.setTop (mkF m pc Ls (S))) t := XS.lload X.here hx rfl (hb hby hd) hl K
theorem o_lloadN (X : Stand p l e R s m args below meth c T locs cells slots) (hx : p.tables.exec = Jvm.exec) (hby : c.code = bytes) {k : Fin 4} (hd : decode bytes pc = .ok (.lload_n k, 1)) (hl : Ls[k.val]? = some (.val (.long j))) (K : Steps p.tables e below (T.setTop (mkF m (pc + 1) Ls (.long j :: S))) t) : Steps p.tables e below (T.setTop (mkF m pc Ls (S))) t := XS.lloadN X.here hx rfl (hb hby hd) hl K
theorem o_aload (X : Stand p l e R s m args below meth c T locs cells slots) (hx : p.tables.exec = Jvm.exec) (hby : c.code = bytes) {k : Nat} (hd : decode bytes pc = .ok (.aload k, 2)) (hl : Ls[k]? = some (.val (v))) (hr : v.isRef = true) (K : Steps p.tables e below (T.setTop (mkF m (pc + 2) Ls (v :: S))) t) : Steps p.tables e below (T.setTop (mkF m pc Ls (S))) t := XS.aload X.here hx rfl (hb hby hd) hl hr K
theorem o_aloadN (X : Stand p l e R s m args below meth c T locs cells slots) (hx : p.tables.exec = Jvm.exec) (hby : c.code = bytes) {k : Fin 4} (hd : decode bytes pc = .ok (.aload_n k, 1)) (hl : Ls[k.val]? = some (.val (v))) (hr : v.isRef = true) (K : Steps p.tables e below (T.setTop (mkF m (pc + 1) Ls (v :: S))) t) : Steps p.tables e below (T.setTop (mkF m pc Ls (S))) t := XS.aloadN X.here hx rfl (hb hby hd) hl hr K
theorem o_istore (X : Stand p l e R s m args below meth c T locs cells slots) (hx : p.tables.exec = Jvm.exec) (hby : c.code = bytes) {k : Nat} (hd : decode bytes pc = .ok (.istore k, 2)) (hl : storeLocals Ls k (.int x) = some Ls') (K : Steps p.tables e below (T.setTop (mkF m (pc + 2) Ls' (S))) t) : Steps p.tables e below (T.setTop (mkF m pc Ls (.int x :: S))) t := XS.istore X.here hx rfl (hb hby hd) rfl (l' := Ls') hl K
theorem o_istoreN (X : Stand p l e R s m args below meth c T locs cells slots) (hx : p.tables.exec = Jvm.exec) (hby : c.code = bytes) {k : Fin 4} (hd : decode bytes pc = .ok (.istore_n k, 1)) (hl : storeLocals Ls k.val (.int x) = some Ls') (K : Steps p.tables e below (T.setTop (mkF m (pc + 1) Ls' (S))) t) : Steps p.tables e below (T.setTop (mkF m pc Ls (.int x :: S))) t := XS.istoreN X.here hx rfl (hb hby hd) rfl (l' := Ls') hl K
theorem o_lstore (X : Stand p l e R s m args below meth c T locs cells slots) (hx : p.tables.exec = Jvm.exec) (hby : c.code = bytes) {k : Nat} (hd : decode bytes pc = .ok (.lstore k, 2)) (hl : storeLocals Ls k (.long j) = some Ls') (K : Steps p.tables e below (T.setTop (mkF m (pc + 2) Ls' (S))) t) : Steps p.tables e below (T.setTop (mkF m pc Ls (.long j :: S))) t := XS.lstore X.here hx rfl (hb hby hd) rfl (l' := Ls') hl K
theorem o_lstoreN (X : Stand p l e R s m args below meth c T locs cells slots) (hx : p.tables.exec = Jvm.exec) (hby : c.code = bytes) {k : Fin 4} (hd : decode bytes pc = .ok (.lstore_n k, 1)) (hl : storeLocals Ls k.val (.long j) = some Ls') (K : Steps p.tables e below (T.setTop (mkF m (pc + 1) Ls' (S))) t) : Steps p.tables e below (T.setTop (mkF m pc Ls (.long j :: S))) t := XS.lstoreN X.here hx rfl (hb hby hd) rfl (l' := Ls') hl K
theorem o_astore (X : Stand p l e R s m args below meth c T locs cells slots) (hx : p.tables.exec = Jvm.exec) (hby : c.code = bytes) {k : Nat} (hd : decode bytes pc = .ok (.astore k, 2)) (hr : v.isRef = true) (hl : storeLocals Ls k (v) = some Ls') (K : Steps p.tables e below (T.setTop (mkF m (pc + 2) Ls' (S))) t) : Steps p.tables e below (T.setTop (mkF m pc Ls (v :: S))) t := XS.astore X.here hx rfl (hb hby hd) rfl hr (l' := Ls') hl K
theorem o_astoreN (X : Stand p l e R s m args below meth c T locs cells slots) (hx : p.tables.exec = Jvm.exec) (hby : c.code = bytes) {k : Fin 4} (hd : decode bytes pc = .ok (.astore_n k, 1)) (hr : v.isRef = true) (hl : storeLocals Ls k.val (v) = some Ls') (K : Steps p.tables e below (T.setTop (mkF m (pc + 1) Ls' (S))) t) : Steps p.tables e below (T.setTop (mkF m pc Ls (v :: S))) t := XS.astoreN X.here hx rfl (hb hby hd) rfl hr (l' := Ls') hl K
theorem o_iconst (X : Stand p l e R s m args below meth c T locs cells slots) (hx : p.tables.exec = Jvm.exec) (hby : c.code = bytes) {i : Int} (hd : decode bytes pc = .ok (.iconst i, 1)) (hz : Int32.ofInt i = x) (K : Steps p.tables e below (T.setTop (mkF m (pc + 1) Ls (.int x :: S))) t) : Steps p.tables e below (T.setTop (mkF m pc Ls (S))) t := by subst hz; exact XS.iconst X.here hx rfl (hb hby hd) K
theorem o_bipush (X : Stand p l e R s m args below meth c T locs cells slots) (hx : p.tables.exec = Jvm.exec) (hby : c.code = bytes) {i : Int} (hd : decode bytes pc = .ok (.bipush i, 2)) (hz : (Int8.ofInt i).toInt32 = x) (K : Steps p.tables e below (T.setTop (mkF m (pc + 2) Ls (.int x :: S))) t) : Steps p.tables e below (T.setTop (mkF m pc Ls (S))) t := by subst hz; exact XS.bipush X.here hx rfl (hb hby hd) K
theorem o_lconst (X : Stand p l e R s m args below meth c T locs cells slots) (hx : p.tables.exec = Jvm.exec) (hby : c.code = bytes) {i : Fin 2} (hd : decode bytes pc = .ok (.lconst i, 1)) (hz : Int64.ofNat i = j) (K : Steps p.tables e below (T.setTop (mkF m (pc + 1) Ls (.long j :: S))) t) : Steps p.tables e below (T.setTop (mkF m pc Ls (S))) t := by subst hz; exact XS.lconst X.here hx rfl (hb hby hd) K
theorem o_iinc (X : Stand p l e R s m args below meth c T locs cells slots) (hx : p.tables.exec = Jvm.exec) (hby : c.code = bytes) {k : Nat} {i : Int} {k' z : Int32} (hd : decode bytes pc = .ok (.iinc k i, 3)) (hl : Ls[k]? = some (.val (.int x))) (hk : Int32.ofInt i = k') (hz : x + k' = z) (hs : storeLocals Ls k (.int z) = some Ls') (K : Steps p.tables e below (T.setTop (mkF m (pc + 3) Ls' (S))) t) : Steps p.tables e below (T.setTop (mkF m pc Ls (S))) t := by subst hz; subst hk; exact XS.iinc X.here hx rfl (hb hby hd) hl (l' := Ls') hs K
theorem o_dup (X : Stand p l e R s m args below meth c T locs cells slots) (hx : p.tables.exec = Jvm.exec) (hby : c.code = bytes) (hd : decode bytes pc = .ok (.dup, 1)) (hc : v.category = 1) (K : Steps p.tables e below (T.setTop (mkF m (pc + 1) Ls (v :: v :: S))) t) : Steps p.tables e below (T.setTop (mkF m pc Ls (v :: S))) t := XS.dup X.here hx rfl (hb hby hd) rfl hc K
theorem o_dupX1 (X : Stand p l e R s m args below meth c T locs cells slots) (hx : p.tables.exec = Jvm.exec) (hby : c.code = bytes) (hd : decode bytes pc = .ok (.dup_x1, 1)) (hc : v.category = 1) (hc' : w.category = 1) (K : Steps p.tables e below (T.setTop (mkF m (pc + 1) Ls (v :: w :: v :: S))) t) : Steps p.tables e below (T.setTop (mkF m pc Ls (v :: w :: S))) t := XS.dupX1 X.here hx rfl (hb hby hd) rfl hc hc' K
theorem o_pop (X : Stand p l e R s m args below meth c T locs cells slots) (hx : p.tables.exec = Jvm.exec) (hby : c.code = bytes) (hd : decode bytes pc = .ok (.pop, 1)) (hc : v.category = 1) (K : Steps p.tables e below (T.setTop (mkF m (pc + 1) Ls (S))) t) : Steps p.tables e below (T.setTop (mkF m pc Ls (v :: S))) t := XS.pop X.here hx rfl (hb hby hd) rfl hc K
theorem o_goto (X : Stand p l e R s m args below meth c T locs cells slots) (hx : p.tables.exec = Jvm.exec) (hby : c.code = bytes) {o : Int} (hd : decode bytes pc = .ok (.goto o, 3)) (ho : 0 ≤ (pc : Int) + o) (hp : ((pc : Int) + o).toNat = pc') (K : Steps p.tables e below (T.setTop (mkF m pc' Ls (S))) t) : Steps p.tables e below (T.setTop (mkF m pc Ls (S))) t := XS.goto X.here hx rfl (pc0 := pc) (pc' := pc') rfl (hb hby hd) ho hp K
theorem o_iadd (X : Stand p l e R s m args below meth c T locs cells slots) (hx : p.tables.exec = Jvm.exec) (hby : c.code = bytes) {a : Int32} {b : Int32} {z : Int32} (hd : decode bytes pc = .ok (.iadd, 1)) (hz : (a + b) = z) (K : Steps p.tables e below (T.setTop (mkF m (pc + 1) Ls (.int z :: S))) t) : Steps p.tables e below (T.setTop (mkF m pc Ls (.int b :: .int a :: S))) t := by subst hz; exact XS.iadd X.here hx rfl (hb hby hd) rfl K
theorem o_isub (X : Stand p l e R s m args below meth c T locs cells slots) (hx : p.tables.exec = Jvm.exec) (hby : c.code = bytes) {a : Int32} {b : Int32} {z : Int32} (hd : decode bytes pc = .ok (.isub, 1)) (hz : (a - b) = z) (K : Steps p.tables e below (T.setTop (mkF m (pc + 1) Ls (.int z :: S))) t) : Steps p.tables e below (T.setTop (mkF m pc Ls (.int b :: .int a :: S))) t := by subst hz; exact XS.isub X.here hx rfl (hb hby hd) rfl K
theorem o_iand (X : Stand p l e R s m args below meth c T locs cells slots) (hx : p.tables.exec = Jvm.exec) (hby : c.code = bytes) {a : Int32} {b : Int32} {z : Int32} (hd : decode bytes pc = .ok (.iand, 1)) (hz : (a &&& b) = z) (K : Steps p.tables e below (T.setTop (mkF m (pc + 1) Ls (.int z :: S))) t) : Steps p.tables e below (T.setTop (mkF m pc Ls (.int b :: .int a :: S))) t := by subst hz; exact XS.iand X.here hx rfl (hb hby hd) rfl K
theorem o_iushr (X : Stand p l e R s m args below meth c T locs cells slots) (hx : p.tables.exec = Jvm.exec) (hby : c.code = bytes) {a : Int32} {b : Int32} {z : Int32} (hd : decode bytes pc = .ok (.iushr, 1)) (hz : ((a.toUInt32 >>> (b &&& 31).toUInt32).toInt32) = z) (K : Steps p.tables e below (T.setTop (mkF m (pc + 1) Ls (.int z :: S))) t) : Steps p.tables e below (T.setTop (mkF m pc Ls (.int b :: .int a :: S))) t := by subst hz; exact XS.iushr X.here hx rfl (hb hby hd) rfl K
theorem o_ladd (X : Stand p l e R s m args below meth c T locs cells slots) (hx : p.tables.exec = Jvm.exec) (hby : c.code = bytes) {a : Int64} {b : Int64} {z : Int64} (hd : decode bytes pc = .ok (.ladd, 1)) (hz : (a + b) = z) (K : Steps p.tables e below (T.setTop (mkF m (pc + 1) Ls (.long z :: S))) t) : Steps p.tables e below (T.setTop (mkF m pc Ls (.long b :: .long a :: S))) t := by subst hz; exact XS.ladd X.here hx rfl (hb hby hd) rfl K
theorem o_lsub (X : Stand p l e R s m args below meth c T locs cells slots) (hx : p.tables.exec = Jvm.exec) (hby : c.code = bytes) {a : Int64} {b : Int64} {z : Int64} (hd : decode bytes pc = .ok (.lsub, 1)) (hz : (a - b) = z) (K : Steps p.tables e below (T.setTop (mkF m (pc + 1) Ls (.long z :: S))) t) : Steps p.tables e below (T.setTop (mkF m pc Ls (.long b :: .long a :: S))) t := by subst hz; exact XS.lsub X.here hx rfl (hb hby hd) rfl K
theorem o_lmul (X : Stand p l e R s m args below meth c T locs cells slots) (hx : p.tables.exec = Jvm.exec) (hby : c.code = bytes) {a : Int64} {b : Int64} {z : Int64} (hd : decode bytes pc = .ok (.lmul, 1)) (hz : (a * b) = z) (K : Steps p.tables e below (T.setTop (mkF m (pc + 1) Ls (.long z :: S))) t) : Steps p.tables e below (T.setTop (mkF m pc Ls (.long b :: .long a :: S))) t := by subst hz; exact XS.lmul X.here hx rfl (hb hby hd) rfl K
theorem o_lxor (X : Stand p l e R s m args below meth c T locs cells slots) (hx : p.tables.exec = Jvm.exec) (hby : c.code = bytes) {a : Int64} {b : Int64} {z : Int64} (hd : decode bytes pc = .ok (.lxor, 1)) (hz : (a ^^^ b) = z) (K : Steps p.tables e below (T.setTop (mkF m (pc + 1) Ls (.long z :: S))) t) : Steps p.tables e below (T.setTop (mkF m pc Ls (.long b :: .long a :: S))) t := by subst hz; exact XS.lxor X.here hx rfl (hb hby hd) rfl K
theorem o_lushr (X : Stand p l e R s m args below meth c T locs cells slots) (hx : p.tables.exec = Jvm.exec) (hby : c.code = bytes) {a : Int64} {b : Int32} {z : Int64} (hd : decode bytes pc = .ok (.lushr, 1)) (hz : ((a.toUInt64 >>> (b &&& 0x3f).toInt64.toUInt64).toInt64) = z) (K : Steps p.tables e below (T.setTop (mkF m (pc + 1) Ls (.long z :: S))) t) : Steps p.tables e below (T.setTop (mkF m pc Ls (.int b :: .long a :: S))) t := by subst hz; exact XS.lushr X.here hx rfl (hb hby hd) rfl K
theorem o_lrem (X : Stand p l e R s m args below meth c T locs cells slots) (hx : p.tables.exec = Jvm.exec) (hby : c.code = bytes) {a : Int64} {b : Int64} {z : Int64} (hd : decode bytes pc = .ok (.lrem, 1)) (hn : ¬ (b = 0)) (hz : (a - (a / b) * b) = z) (K : Steps p.tables e below (T.setTop (mkF m (pc + 1) Ls (.long z :: S))) t) : Steps p.tables e below (T.setTop (mkF m pc Ls (.long b :: .long a :: S))) t := by subst hz; exact XS.lrem X.here hx rfl (hb hby hd) rfl hn K
theorem o_lcmp (X : Stand p l e R s m args below meth c T locs cells slots) (hx : p.tables.exec = Jvm.exec) (hby : c.code = bytes) {a : Int64} {b : Int64} {z : Int32} (hd : decode bytes pc = .ok (.lcmp, 1)) (hz : (lcmpW a b) = z) (K : Steps p.tables e below (T.setTop (mkF m (pc + 1) Ls (.int z :: S))) t) : Steps p.tables e below (T.setTop (mkF m pc Ls (.long b :: .long a :: S))) t := by subst hz; exact XS.lcmp X.here hx rfl (hb hby hd) rfl K
theorem o_i2l (X : Stand p l e R s m args below meth c T locs cells slots) (hx : p.tables.exec = Jvm.exec) (hby : c.code = bytes) {a : Int32} {z : Int64} (hd : decode bytes pc = .ok (.i2l, 1)) (hz : (a.toInt64) = z) (K : Steps p.tables e below (T.setTop (mkF m (pc + 1) Ls (.long z :: S))) t) : Steps p.tables e below (T.setTop (mkF m pc Ls (.int a :: S))) t := by subst hz; exact XS.i2l X.here hx rfl (hb hby hd) rfl K
theorem o_l2i (X : Stand p l e R s m args below meth c T locs cells slots) (hx : p.tables.exec = Jvm.exec) (hby : c.code = bytes) {a : Int64} {z : Int32} (hd : decode bytes pc = .ok (.l2i, 1)) (hz : (a.toInt32) = z) (K : Steps p.tables e below (T.setTop (mkF m (pc + 1) Ls (.int z :: S))) t) : Steps p.tables e below (T.setTop (mkF m pc Ls (.long a :: S))) t := by subst hz; exact XS.l2i X.here hx rfl (hb hby hd) rfl K
theorem o_icmpY (X : Stand p l e R s m args below meth c T locs cells slots) (hx : p.tables.exec = Jvm.exec) (hby : c.code = bytes) {cd : ClassFile.Cond} {o : Int} {a b : Int32} (hd : decode bytes pc = .ok (.if_icmp cd o, 3)) (hc : if_icmp.holds cd a b = true) (ho : 0 ≤ (pc : Int) + o) (hp : ((pc : Int) + o).toNat = pc') (K : Steps p.tables e below (T.setTop (mkF m pc' Ls (S))) t) : Steps p.tables e below (T.setTop (mkF m pc Ls (.int b :: .int a :: S))) t := XS.icmpYes X.here hx rfl (pc0 := pc) (pc' := pc') rfl (hb hby hd) rfl hc ho hp K
theorem o_icmpN (X : Stand p l e R s m args below meth c T locs cells slots) (hx : p.tables.exec = Jvm.exec) (hby : c.code = bytes) {cd : ClassFile.Cond} {o : Int} {a b : Int32} (hd : decode bytes pc = .ok (.if_icmp cd o, 3)) (hc : if_icmp.holds cd a b = false) (K : Steps p.tables e below (T.setTop (mkF m (pc + 3) Ls (S))) t) : Steps p.tables e below (T.setTop (mkF m pc Ls (.int b :: .int a :: S))) t := XS.icmpNo X.here hx rfl (hb hby hd) rfl hc K
theorem o_ifY (X : Stand p l e R s m args below meth c T locs cells slots) (hx : p.tables.exec = Jvm.exec) (hby : c.code = bytes) {cd : ClassFile.Cond} {o : Int} {a : Int32} (hd : decode bytes pc = .ok (.ifCond cd o, 3)) (hc : ifCond.holds cd a = true) (ho : 0 ≤ (pc : Int) + o) (hp : ((pc : Int) + o).toNat = pc') (K : Steps p.tables e below (T.setTop (mkF m pc' Ls (S))) t) : Steps p.tables e below (T.setTop (mkF m pc Ls (.int a :: S))) t := XS.ifYes X.here hx rfl (pc0 := pc) (pc' := pc') rfl (hb hby hd) rfl hc ho hp K
theorem o_ifN (X : Stand p l e R s m args below meth c T locs cells slots) (hx : p.tables.exec = Jvm.exec) (hby : c.code = bytes) {cd : ClassFile.Cond} {o : Int} {a : Int32} (hd : decode bytes pc = .ok (.ifCond cd o, 3)) (hc : ifCond.holds cd a = false) (K : Steps p.tables e below (T.setTop (mkF m (pc + 3) Ls (S))) t) : Steps p.tables e below (T.setTop (mkF m pc Ls (.int a :: S))) t := XS.ifNo X.here hx rfl (hb hby hd) rfl hc K
end OwnSteps
/-! what every body's theorem says, its head and its calls, said once -/
abbrev own_Met (l : Launch) (Z : State) (y : MethodName) (bytes : ByteArray) (maxL : Nat) (ret : Option FieldType) (rm : Room) (as' : Array Value) (h : Heap) (Q : Option Value → Heap → List Loc → Prop) : Prop :=
  MetFree l y (head1 [Jvm.Cond.code y bytes maxL ret] rm) (fun a U => a = as' ∧ Z.Warmed39 U.vm ∧ U.heap = h) (fun _ _ _ _ _ => True) (fun _ U o U' => ∃ v L, o = .returned v ∧ Q v U'.heap L ∧ FrameEnd U o U' L rm.cells rm.slots)
abbrev own_MetW (l : Launch) (Z : State) (y : MethodName) (bytes : ByteArray) (maxL : Nat) (ret : Option FieldType) (rm : Room) (as' : Array Value) (h : Heap) (Q : Option Value → Heap → List Loc → Prop) : Prop :=
  MetFree l y (head1 [Jvm.Cond.code y bytes maxL ret] rm) (fun a U => a = as' ∧ Z.Warmed39 U.vm ∧ U.heap = h) (fun _ _ _ _ _ => True) (fun _ U o U' => ∃ v L, o = .returned v ∧ Q v U'.heap L ∧ ReturnedEndW U o U' L rm.cells rm.slots)
abbrev own_Ret (e : Env) (T : State) (m : MethodId) (v : Option Value) (fs : List Frame) : Prop := ∀ (f : JFrame) (acts : List Action), f.method = m → f.locked = none → f.entered = [] → (doReturn e (T.setTop f) acts v).1 = T.setFrames fs
theorem own_atH {T : State} {H : Heap} {Q : Option Value → Heap → List Loc → Prop} {v : Option Value} {L : List Loc} (E : T.heap = H) (q : Q v H L) : Q v T.heap L := by rw [E]; exact q
theorem own_body {l : Launch} {Z : State} {y : MethodName} {bytes : ByteArray} {maxL : Nat} {ret : Option FieldType} {rm : Room} {as' : Array Value} {h0 : Heap} {Q : Option Value → Heap → List Loc → Prop} {L0 : Array Slot} {ws : List Jvm.Cond} (hp : plainFor y = true) (hef : ∀ m, entryFrame m as' maxL = mkF m 0 L0 [])
    (H : ∀ (p : Program) (e : Env) (s : State) (m : MethodId) (below : List Frame) (meth : Method) (c : Code) (s₁ EN : State), p.tables.exec = Jvm.exec → c.code = bytes → c.maxLocals = maxL → s.vm.findClass y.cls = some m.cls → meth.name = y.name → meth.sig.returnType = ret → Stand p l e rm s m as' below meth c s₁ [] 0 0 → Z.Warmed39 s.vm → s₁.heap = h0 → s.heap = h0 → (∀ t, Steps p.tables e below (s₁.setTop (mkF m 0 L0 [])) t → Steps p.tables e below EN t) →
      (∀ (v : Option Value) (T : State) (locs : List Loc) (cells slots : Nat), Stand p l e rm s m as' below meth c T locs cells slots → (ret = none → v = none) → (∀ fs, own_Ret e T m v fs → Steps p.tables e below EN (T.setFrames fs)) → Q v T.heap locs → cells ≤ rm.cells → slots ≤ rm.slots → False) → False) :
    MetFree l y (head1 (Jvm.Cond.code y bytes maxL ret :: ws) rm) (fun a U => a = as' ∧ Z.Warmed39 U.vm ∧ U.heap = h0) (fun _ _ _ _ _ => True) (fun _ U o U' => ∃ v L, o = .returned v ∧ Q v U'.heap L ∧ FrameEnd U o U' L rm.cells rm.slots) := by
  refine MetFree.of_bodySF hp hisR ?_
  intro p e s m args below meth c s₁ Bd hml hP hK
  obtain ⟨rfl, hZ, hh⟩ := hP
  refine Classical.byContradiction fun hno => ?_
  have hnm := (name_of_methodNamed Bd.named Bd.method).1
  refine H p e s m below meth c s₁ _ Bd.exec Bd.bytes hml (findClass_of_methodNamed Bd.named) hnm Bd.returns (Stand.of_body Bd) hZ (by rw [← hh, Bd.state]; rfl) hh (fun t k => castTop (hef m) k) ?_
  intro v T locs cells slots X hv hst hQ hc hs
  obtain ⟨fs, hr, hrun, hended, hW, hsame⟩ := X.leave (v := v) (fun q => hv (Bd.returns ▸ q))
  exact hno ⟨_, _, hst fs hr, hrun, hended, _, _, rfl, hQ, ⟨_, rfl⟩, hW, hsame.mono hc hs⟩
section OwnCalls
variable {p : Program} {l : Launch} {e : Env} {R : Room} {s : State} {m : MethodId} {args : Array Value} {below : List Frame} {meth : Method} {c : Code} {T : State} {locs : List Loc} {cells slots : Nat} {Z : State} {a0 : Array Value} {h : Heap} {own C : String} {index count maxL mL0 pc W : Nat} {y z : MethodName} {bytes : ByteArray} {ret r : Option FieldType} {rm : Room} {as' : Array Value} {Q : Option Value → Heap → List Loc → Prop} {ps : List FieldType} {Ls : Array Slot} {argsL rest : List Value} {b : Addr}
abbrev own_Back (p : Program) (l : Launch) (e : Env) (R : Room) (s : State) (m : MethodId) (args : Array Value) (below : List Frame) (meth : Method) (c : Code) (T : State) (locs : List Loc) (cells slots pc n : Nat) (Ls : Array Slot) (S rest : List Value) (rm : Room) (Q : Option Value → Heap → List Loc → Prop) : Prop :=
  ∃ v T' L', Stand p l e R s m args below meth c T' (locs ++ L') (cells + rm.cells) (slots + rm.slots) ∧ Q v T'.heap L' ∧ ∀ target, Steps p.tables e below (T'.setTop (mkF m (pc + n) Ls (v.toList ++ rest))) target → Steps p.tables e below (T.setTop (mkF m pc Ls S)) target
theorem own_cS (X : Stand p l e R s m args below meth c T locs cells slots) (hx : p.tables.exec = Jvm.exec) (hZ : Z.Warmed39 s.vm) (hown : s.vm.findClass own = some m.cls) (w1 : (Cond.methodLink own index y).before a0 Z = true) (w2 : (Cond.static y).before a0 Z = true) (w3 : (Cond.initialized y.cls).before a0 Z = true) (w4 : (Cond.code y bytes maxL ret).before a0 Z = true)
    (hM : own_Met l Z y bytes maxL ret rm as' h Q) (eT : T.heap = h) (hdd : parseMethodDescriptor y.desc = some ⟨ps, r⟩) (hml : c.maxLocals = mL0) (hdec : decode c.code pc = .ok (.invokestatic index, 3)) (hsz : Ls.size = mL0 := by rfl) (hlen : argsL.length = ps.length := by rfl) (has : argsL.toArray = as' := by rfl) (hW : (rest.map fun v => v.category).sum ≤ W := by exact Nat.le_of_eq rfl)
    (hy : y.cls ≠ "java/lang/invoke/MethodHandle" ∧ y.cls ≠ "java/lang/invoke/VarHandle" := by decide) (hf : rm.frames + 1 ≤ R.frames := by decide) (hl : W + (maxL + 11) + rm.locals ≤ R.locals := by decide) (hc : cells + rm.cells ≤ R.cells := by decide) (hs : slots + rm.slots ≤ R.slots := by decide) :
    own_Back p l e R s m args below meth c T locs cells slots pc 3 Ls (argsL.reverse ++ rest) rest rm Q := by
  obtain ⟨v, _, ⟨T', L', k, n⟩, -, X', ⟨Lc, hQ, e1, e2, e3⟩, st⟩ := Jvm.LawKit.callS X hx (y := y) hown (mvT hZ w1) (mvT hZ w2) (mvT hZ w3) (mvT hZ w4) hy (backOf (W := W) hM hZ w4 w3 hf hl) (g := mkF m pc Ls (argsL.reverse ++ rest)) rfl (by rw [hml]; exact hsz) (argsL := argsL) (rest := rest) (lenOf hdd hlen) rfl (by show 2 * 0 + _ ≤ _; omega) hdec (fun _ _ => ⟨has, eT, hc, hs⟩)
  dsimp only [Pt.U, Pt.locs, Pt.cells, Pt.slots] at X' e1 e2 e3 st hQ
  subst e1 e2 e3
  exact ⟨v, T', Lc, X', hQ, st⟩
theorem own_cI (X : Stand p l e R s m args below meth c T locs cells slots) (hx : p.tables.exec = Jvm.exec) (hZ : Z.Warmed39 s.vm) (hown : s.vm.findClass own = some m.cls) (w1 : (Cond.methodLink own index y).before a0 Z = true) (w2 : (Cond.instanceMethod y).before a0 Z = true) (w3 : (Cond.initialized y.cls).before a0 Z = true) (w4 : (Cond.code y bytes maxL none).before a0 Z = true)
    (hM : own_Met l Z y bytes maxL none rm as' h Q) (eT : T.heap = h) (hdd : parseMethodDescriptor y.desc = some ⟨ps, r⟩) (hml : c.maxLocals = mL0) (hdec : decode c.code pc = .ok (.invokespecial index, 3)) (hni : y.name = "<init>" := by rfl) (hsz : Ls.size = mL0 := by rfl) (hlen : argsL.length = ps.length := by rfl) (has : (.ref b :: argsL).toArray = as' := by rfl) (hW : (rest.map fun v => v.category).sum ≤ W := by exact Nat.le_of_eq rfl)
    (hy : y.cls ≠ "java/lang/invoke/MethodHandle" ∧ y.cls ≠ "java/lang/invoke/VarHandle" := by decide) (hf : rm.frames + 1 ≤ R.frames := by decide) (hl : W + (maxL + 11) + rm.locals ≤ R.locals := by decide) (hc : cells + rm.cells ≤ R.cells := by decide) (hs : slots + rm.slots ≤ R.slots := by decide) :
    own_Back p l e R s m args below meth c T locs cells slots pc 3 Ls (argsL.reverse ++ .ref b :: rest) rest rm Q := by
  obtain ⟨v, _, ⟨T', L', k, n⟩, -, X', ⟨Lc, hQ, e1, e2, e3⟩, st⟩ := X.specialBack hx (y := y) hni hown (mvT hZ w1) (mvT hZ w2) (mvT hZ w4) hy (backOf (W := W) hM hZ w4 w3 hf hl) (g := mkF m pc Ls (argsL.reverse ++ .ref b :: rest)) rfl (by rw [hml]; exact hsz) (Steps.refl _) (a := b) (argsL := argsL) (rest := rest) (lenOf hdd hlen) rfl (by show 2 * 0 + _ ≤ _; omega) hdec (fun _ _ => ⟨has, eT, hc, hs⟩)
  dsimp only [Pt.U, Pt.locs, Pt.cells, Pt.slots] at X' e1 e2 e3 st hQ
  subst e1 e2 e3
  exact ⟨v, T', Lc, X', hQ, fun _ k => st.trans k⟩
theorem own_cV (X : Stand p l e R s m args below meth c T locs cells slots) (hx : p.tables.exec = Jvm.exec) (hZ : Z.Warmed39 s.vm) (hown : s.vm.findClass own = some m.cls) (w1 : (Cond.methodLink own index y).before a0 Z = true) (w2 : (Cond.declares y).before a0 Z = true) (nf : NotFace s y) (w3 : (Cond.selects C y z).before a0 Z = true) (w4 : (Cond.instanceMethod z).before a0 Z = true) (w5 : (Cond.initialized z.cls).before a0 Z = true) (w6 : (Cond.code z bytes maxL ret).before a0 Z = true)
    (E : Exa Z h b C) (hM : own_Met l Z z bytes maxL ret rm as' h Q) (eT : T.heap = h) (hdd : parseMethodDescriptor y.desc = some ⟨ps, r⟩) (hml : c.maxLocals = mL0) (hdec : decode c.code pc = .ok (.invokevirtual index, 3)) (hsz : Ls.size = mL0 := by rfl) (hlen : argsL.length = ps.length := by rfl) (has : (.ref b :: argsL).toArray = as' := by rfl) (hW : (rest.map fun v => v.category).sum ≤ W := by exact Nat.le_of_eq rfl)
    (hy : y.cls ≠ "java/lang/invoke/MethodHandle" ∧ y.cls ≠ "java/lang/invoke/VarHandle" := by decide) (hf : rm.frames + 1 ≤ R.frames := by decide) (hl : W + (maxL + 11) + rm.locals ≤ R.locals := by decide) (hc : cells + rm.cells ≤ R.cells := by decide) (hs : slots + rm.slots ≤ R.slots := by decide) :
    own_Back p l e R s m args below meth c T locs cells slots pc 3 Ls (argsL.reverse ++ .ref b :: rest) rest rm Q := by
  obtain ⟨cq, kq, qa, qb, qc⟩ := isOf hZ eT E
  obtain ⟨v, _, ⟨T', L', k, n⟩, -, X', ⟨Lc, hQ, e1, e2, e3⟩, st⟩ := X.virtualBack hx (y := y) (z := z) hown (mvT hZ w1) (mvT hZ w2) nf (mvT hZ w3) (mvT hZ w4) hy (backOf (W := W) hM hZ w6 w5 hf hl) qa qc (g := mkF m pc Ls (argsL.reverse ++ .ref b :: rest)) rfl (by rw [hml]; exact hsz) (Steps.refl _) (argsL := argsL) (rest := rest) (lenOf hdd hlen) rfl (by show 2 * 0 + _ ≤ _; omega) hdec (fun _ _ => ⟨has, eT, hc, hs⟩)
  dsimp only [Pt.U, Pt.locs, Pt.cells, Pt.slots] at X' e1 e2 e3 st hQ
  subst e1 e2 e3
  exact ⟨v, T', Lc, X', hQ, fun _ k => st.trans k⟩
theorem own_cN (X : Stand p l e R s m args below meth c T locs cells slots) (hx : p.tables.exec = Jvm.exec) (hZ : Z.Warmed39 s.vm) (hown : s.vm.findClass own = some m.cls) (w1 : (Cond.methodLink own index y).before a0 Z = true) (w2 : (Cond.declares y).before a0 Z = true) (w2' : (Cond.interfaceMethod y.cls y.cls y.name y.desc).before args s = true) (w3 : (Cond.selects C y z).before a0 Z = true) (w4 : (Cond.instanceMethod z).before a0 Z = true) (w4' : (Cond.publicMethod z).before a0 Z = true) (w4'' : (Cond.unhidden C y.name y.desc).before a0 Z = true) (w4''' : (Cond.castable C y.cls).before a0 Z = true) (w5 : (Cond.initialized z.cls).before a0 Z = true) (w6 : (Cond.code z bytes maxL ret).before a0 Z = true)
    (E : Exa Z h b C) (hM : own_Met l Z z bytes maxL ret rm as' h Q) (eT : T.heap = h) (hdd : parseMethodDescriptor y.desc = some ⟨ps, r⟩) (hml : c.maxLocals = mL0) (hdec : decode c.code pc = .ok (.invokeinterface index count, 5)) (hsz : Ls.size = mL0 := by rfl) (hlen : argsL.length = ps.length := by rfl) (has : (.ref b :: argsL).toArray = as' := by rfl) (hW : (rest.map fun v => v.category).sum ≤ W := by exact Nat.le_of_eq rfl)
    (hy : y.cls ≠ "java/lang/invoke/MethodHandle" ∧ y.cls ≠ "java/lang/invoke/VarHandle" := by decide) (hf : rm.frames + 1 ≤ R.frames := by decide) (hl : W + (maxL + 11) + rm.locals ≤ R.locals := by decide) (hc : cells + rm.cells ≤ R.cells := by decide) (hs : slots + rm.slots ≤ R.slots := by decide) :
    own_Back p l e R s m args below meth c T locs cells slots pc 5 Ls (argsL.reverse ++ .ref b :: rest) rest rm Q := by
  obtain ⟨cq, kq, qa, qb, qc⟩ := isOf hZ eT E
  obtain ⟨v, _, ⟨T', L', k, n⟩, -, X', ⟨Lc, hQ, e1, e2, e3⟩, st⟩ := X.interfaceBack hx (xi := y) (y := z) hown (mvT hZ w1) (mvT hZ w2) w2' (mvT hZ w3) (mvT hZ w4) (mvT hZ w4') (mvT hZ w4'') (mvT hZ w4''') hy (backOf (W := W) hM hZ w6 w5 hf hl) qa qb qc (g := mkF m pc Ls (argsL.reverse ++ .ref b :: rest)) rfl (by rw [hml]; exact hsz) (Steps.refl _) (argsL := argsL) (rest := rest) (lenOf hdd hlen) rfl (by show 2 * 0 + _ ≤ _; omega) hdec (fun _ _ => ⟨has, eT, hc, hs⟩)
  dsimp only [Pt.U, Pt.locs, Pt.cells, Pt.slots] at X' e1 e2 e3 st hQ
  subst e1 e2 e3
  exact ⟨v, T', Lc, X', hQ, fun _ k => st.trans k⟩
theorem own_cU (X : Stand p l e R s m args below meth c T locs cells slots) (hx : p.tables.exec = Jvm.exec) (hZ : Z.Warmed39 s.vm) (hown : s.vm.findClass own = some m.cls) {owner : String} (w1 : (Cond.methodLink own index y).before a0 Z = true) (w2 : (Cond.sameMethod y.cls owner y.name y.desc).before a0 Z = true) (w2' : (Cond.declares ⟨owner, y.name, y.desc⟩).before a0 Z = true) (w3 : (Cond.selects C y z).before a0 Z = true) (w4 : (Cond.instanceMethod z).before a0 Z = true) (w5 : (Cond.initialized z.cls).before a0 Z = true) (w6 : (Cond.code z bytes maxL ret).before a0 Z = true)
    (E : Exa Z h b C) (hM : own_Met l Z z bytes maxL ret rm as' h Q) (eT : T.heap = h) (hdd : parseMethodDescriptor y.desc = some ⟨ps, r⟩) (hml : c.maxLocals = mL0) (hdec : decode c.code pc = .ok (.invokevirtual index, 3)) (hsz : Ls.size = mL0 := by rfl) (hlen : argsL.length = ps.length := by rfl) (has : (.ref b :: argsL).toArray = as' := by rfl) (hW : (rest.map fun v => v.category).sum ≤ W := by exact Nat.le_of_eq rfl)
    (hy : owner ≠ "java/lang/invoke/MethodHandle" ∧ owner ≠ "java/lang/invoke/VarHandle" := by decide) (hf : rm.frames + 1 ≤ R.frames := by decide) (hl : W + (maxL + 11) + rm.locals ≤ R.locals := by decide) (hc : cells + rm.cells ≤ R.cells := by decide) (hs : slots + rm.slots ≤ R.slots := by decide) :
    own_Back p l e R s m args below meth c T locs cells slots pc 3 Ls (argsL.reverse ++ .ref b :: rest) rest rm Q := by
  obtain ⟨cq, kq, qa, qb, qc⟩ := isOf hZ eT E
  obtain ⟨v, _, ⟨T', L', k, n⟩, -, X', ⟨Lc, hQ, e1, e2, e3⟩, st⟩ := X.virtualBackUp hx (owner := owner) (x := y) (y := z) hown (mvT hZ w1) (mvT hZ w2) (mvT hZ w2') hy (mvT hZ w3) (mvT hZ w4) (backOf (W := W) hM hZ w6 w5 hf hl) qa qc (g := mkF m pc Ls (argsL.reverse ++ .ref b :: rest)) rfl (by rw [hml]; exact hsz) (Steps.refl _) (argsL := argsL) (rest := rest) (lenOf hdd hlen) rfl (by show 2 * 0 + _ ≤ _; omega) hdec (fun _ _ => ⟨has, eT, hc, hs⟩)
  dsimp only [Pt.U, Pt.locs, Pt.cells, Pt.slots] at X' e1 e2 e3 st hQ
  subst e1 e2 e3
  exact ⟨v, T', Lc, X', hQ, fun _ k => st.trans k⟩
theorem own_cP (X : Stand p l e R s m args below meth c T locs cells slots) (hx : p.tables.exec = Jvm.exec) (hZ : Z.Warmed39 s.vm) (hown : s.vm.findClass own = some m.cls) (w1 : (Cond.methodLink own index y).before a0 Z = true) (w2 : (Cond.instanceMethod y).before a0 Z = true) (w3 : (Cond.selects y.cls y y).before args s = true) (w4 : (Cond.privateMethod y).before a0 Z = true) (w5 : (Cond.initialized y.cls).before a0 Z = true) (w6 : (Cond.code y bytes maxL ret).before a0 Z = true)
    (E : Exa Z h b C) (hM : own_Met l Z y bytes maxL ret rm as' h Q) (eT : T.heap = h) (hdd : parseMethodDescriptor y.desc = some ⟨ps, r⟩) (hml : c.maxLocals = mL0) (hdec : decode c.code pc = .ok (.invokevirtual index, 3)) (hsz : Ls.size = mL0 := by rfl) (hlen : argsL.length = ps.length := by rfl) (has : (.ref b :: argsL).toArray = as' := by rfl) (hW : (rest.map fun v => v.category).sum ≤ W := by exact Nat.le_of_eq rfl)
    (hy : y.cls ≠ "java/lang/invoke/MethodHandle" ∧ y.cls ≠ "java/lang/invoke/VarHandle" := by decide) (hf : rm.frames + 1 ≤ R.frames := by decide) (hl : W + (maxL + 11) + rm.locals ≤ R.locals := by decide) (hc : cells + rm.cells ≤ R.cells := by decide) (hs : slots + rm.slots ≤ R.slots := by decide) :
    own_Back p l e R s m args below meth c T locs cells slots pc 3 Ls (argsL.reverse ++ .ref b :: rest) rest rm Q := by
  obtain ⟨cq, q, q'⟩ := E.cell
  obtain ⟨v, _, ⟨T', L', k, n⟩, -, X', ⟨Lc, hQ, e1, e2, e3⟩, st⟩ := X.privateBack hx (y := y) hown (mvT hZ w1) (mvT hZ w2) w3 (Cond.privateMethod_at (mvP hZ w4 (args := #[]))) (mvT hZ w6) hy (backOf (W := W) hM hZ w6 w5 hf hl) (g := mkF m pc Ls (argsL.reverse ++ .ref b :: rest)) rfl (by rw [hml]; exact hsz) (Steps.refl _) (a := b) (by rw [eT]; exact q) q' (argsL := argsL) (rest := rest) (lenOf hdd hlen) rfl (by show 2 * 0 + _ ≤ _; omega) hdec (fun _ _ => ⟨has, eT, hc, hs⟩)
  dsimp only [Pt.U, Pt.locs, Pt.cells, Pt.slots] at X' e1 e2 e3 st hQ
  subst e1 e2 e3
  exact ⟨v, T', Lc, X', hQ, fun _ k => st.trans k⟩
end OwnCalls
section OwnCallsW
variable {p : Program} {l : Launch} {e : Env} {R : Room} {s : State} {m : MethodId} {args : Array Value} {below : List Frame} {meth : Method} {c : Code} {T : State} {locs : List Loc} {cells slots : Nat} {Z : State} {a0 : Array Value} {h : Heap} {own C : String} {index count maxL mL0 pc W k0 : Nat} {vm0 : Vm} {y z : MethodName} {bytes : ByteArray} {ret r : Option FieldType} {rm : Room} {as' : Array Value} {Q : Option Value → Heap → List Loc → Prop} {ps : List FieldType} {Ls : Array Slot} {argsL rest : List Value} {b : Addr}
abbrev own_BackW (p : Program) (l : Launch) (e : Env) (R : Room) (s : State) (m : MethodId) (args : Array Value) (below : List Frame) (meth : Method) (c : Code) (T : State) (locs : List Loc) (cells slots pc n : Nat) (Ls : Array Slot) (S rest : List Value) (rm : Room) (Q : Option Value → Heap → List Loc → Prop) (Z : State) (own : String) : Prop :=
  ∃ v T' L', Stand p l e R (s.setVm T'.vm) m args below meth c T' (locs ++ L') (cells + rm.cells) (slots + rm.slots) ∧ s.Since T'.vm T'.heap.size ∧ Z.Warmed39 (s.setVm T'.vm).vm ∧ (s.setVm T'.vm).vm.findClass own = some m.cls ∧ Q v T'.heap L' ∧ ∀ target, Steps p.tables e below (T'.setTop (mkF m (pc + n) Ls (v.toList ++ rest))) target → Steps p.tables e below (T.setTop (mkF m pc Ls S)) target
end OwnCallsW
abbrev own_SL {p : Program} {l : Launch} {e : Env} {R : Room} {s : State} {m : MethodId} {args : Array Value} {below : List Frame} {meth : Method} {c : Code} {T : State} {locs : List Loc} {cells slots : Nat} (n0 : Nat) (X : Stand p l e R s m args below meth c T locs cells slots) (T' : State) : Prop := ∃ L, Fr n0 L ∧ Stand p l e R s m args below meth c T' L cells slots
theorem own_and3 (x : Int32) : x &&& 3 = 0 ∨ x &&& 3 = 1 ∨ x &&& 3 = 2 ∨ x &&& 3 = 3 := by
  have h := Jvm.Kit.i32_mask x 3 (k := 2) (by decide) (by decide +kernel)
  have e0 : (0 : Int32).toInt = 0 := by decide +kernel
  have e1 : (1 : Int32).toInt = 1 := by decide +kernel
  have e2 : (2 : Int32).toInt = 2 := by decide +kernel
  have e3 : (3 : Int32).toInt = 3 := by decide +kernel
  simp only [← Int32.toInt_inj, e0, e1, e2, e3]
  omega
theorem own_and3' {y x : Int32} (h : y = x &&& 3) : y = 0 ∨ y = 1 ∨ y = 2 ∨ y = 3 := by subst h; exact own_and3 x
theorem own_kd0_n {k x : Int32} (h : k = x &&& 3) (hc : (0 : Int32) < k) : ((k = (0 : Int32) ∨ k = (1 : Int32) ∨ k = (2 : Int32) ∨ k = (3 : Int32)) ∧ (0 : Int32) = (0 : Int32)) := by
  rcases own_and3' h with h | h | h | h <;> subst h <;> revert hc <;> decide +kernel
theorem own_kd0_k {k x : Int32} (h : k = x &&& 3) (hc : ¬ ((0 : Int32) < k)) : ((k = (0 : Int32) ∨ k = (1 : Int32) ∨ k = (2 : Int32) ∨ k = (3 : Int32)) ∧ k = (0 : Int32)) := by
  rcases own_and3' h with h | h | h | h <;> subst h <;> revert hc <;> decide +kernel
theorem own_md0 {k d : Int32} (h : ((k = (0 : Int32) ∨ k = (1 : Int32) ∨ k = (2 : Int32) ∨ k = (3 : Int32)) ∧ d = (0 : Int32))) : (d = 0 ∨ d = 1 ∨ d = 2 ∨ d = 3) ∧ ¬ (d < d) := by
  rcases h with ⟨h1, h⟩ <;> subst h <;> decide +kernel
theorem own_kd1_n {k x : Int32} (h : k = x &&& 3) (hc : (1 : Int32) < k) : (k = (0 : Int32) ∧ (1 : Int32) = (0 : Int32)) ∨ ((k = (1 : Int32) ∨ k = (2 : Int32) ∨ k = (3 : Int32)) ∧ (1 : Int32) = (1 : Int32)) := by
  rcases own_and3' h with h | h | h | h <;> subst h <;> revert hc <;> decide +kernel
theorem own_kd1_k {k x : Int32} (h : k = x &&& 3) (hc : ¬ ((1 : Int32) < k)) : (k = (0 : Int32) ∧ k = (0 : Int32)) ∨ ((k = (1 : Int32) ∨ k = (2 : Int32) ∨ k = (3 : Int32)) ∧ k = (1 : Int32)) := by
  rcases own_and3' h with h | h | h | h <;> subst h <;> revert hc <;> decide +kernel
theorem own_md1 {k d : Int32} (h : (k = (0 : Int32) ∧ d = (0 : Int32)) ∨ ((k = (1 : Int32) ∨ k = (2 : Int32) ∨ k = (3 : Int32)) ∧ d = (1 : Int32))) : (d = 0 ∨ d = 1 ∨ d = 2 ∨ d = 3) ∧ ¬ (d < d) := by
  rcases h with ⟨h1, h⟩ | ⟨h1, h⟩ <;> subst h <;> decide +kernel
theorem own_kd2_n {k x : Int32} (h : k = x &&& 3) (hc : (2 : Int32) < k) : (k = (0 : Int32) ∧ (2 : Int32) = (0 : Int32)) ∨ (k = (1 : Int32) ∧ (2 : Int32) = (1 : Int32)) ∨ ((k = (2 : Int32) ∨ k = (3 : Int32)) ∧ (2 : Int32) = (2 : Int32)) := by
  rcases own_and3' h with h | h | h | h <;> subst h <;> revert hc <;> decide +kernel
theorem own_kd2_k {k x : Int32} (h : k = x &&& 3) (hc : ¬ ((2 : Int32) < k)) : (k = (0 : Int32) ∧ k = (0 : Int32)) ∨ (k = (1 : Int32) ∧ k = (1 : Int32)) ∨ ((k = (2 : Int32) ∨ k = (3 : Int32)) ∧ k = (2 : Int32)) := by
  rcases own_and3' h with h | h | h | h <;> subst h <;> revert hc <;> decide +kernel
theorem own_md2 {k d : Int32} (h : (k = (0 : Int32) ∧ d = (0 : Int32)) ∨ (k = (1 : Int32) ∧ d = (1 : Int32)) ∨ ((k = (2 : Int32) ∨ k = (3 : Int32)) ∧ d = (2 : Int32))) : (d = 0 ∨ d = 1 ∨ d = 2 ∨ d = 3) ∧ ¬ (d < d) := by
  rcases h with ⟨h1, h⟩ | ⟨h1, h⟩ | ⟨h1, h⟩ <;> subst h <;> decide +kernel
theorem own_kd3_n {k x : Int32} (h : k = x &&& 3) (hc : (3 : Int32) < k) : (k = (0 : Int32) ∧ (3 : Int32) = (0 : Int32)) ∨ (k = (1 : Int32) ∧ (3 : Int32) = (1 : Int32)) ∨ (k = (2 : Int32) ∧ (3 : Int32) = (2 : Int32)) ∨ (k = (3 : Int32) ∧ (3 : Int32) = (3 : Int32)) := by
  rcases own_and3' h with h | h | h | h <;> subst h <;> revert hc <;> decide +kernel
theorem own_kd3_k {k x : Int32} (h : k = x &&& 3) (hc : ¬ ((3 : Int32) < k)) : (k = (0 : Int32) ∧ k = (0 : Int32)) ∨ (k = (1 : Int32) ∧ k = (1 : Int32)) ∨ (k = (2 : Int32) ∧ k = (2 : Int32)) ∨ (k = (3 : Int32) ∧ k = (3 : Int32)) := by
  rcases own_and3' h with h | h | h | h <;> subst h <;> revert hc <;> decide +kernel
theorem own_md3 {k d : Int32} (h : (k = (0 : Int32) ∧ d = (0 : Int32)) ∨ (k = (1 : Int32) ∧ d = (1 : Int32)) ∨ (k = (2 : Int32) ∧ d = (2 : Int32)) ∨ (k = (3 : Int32) ∧ d = (3 : Int32))) : (d = 0 ∨ d = 1 ∨ d = 2 ∨ d = 3) ∧ ¬ (d < d) := by
  rcases h with ⟨h1, h⟩ | ⟨h1, h⟩ | ⟨h1, h⟩ | ⟨h1, h⟩ <;> subst h <;> decide +kernel
theorem own_m0 {m : Int32} (h : (m = 0 ∨ m = 1 ∨ m = 2 ∨ m = 3) ∧ ¬ ((0 : Int32) < m)) : m = (0 : Int32) := by
  obtain ⟨h, hc⟩ := h
  rcases h with h | h | h | h <;> subst h <;> revert hc <;> decide +kernel
theorem own_m1 {m : Int32} (h : (m = 0 ∨ m = 1 ∨ m = 2 ∨ m = 3) ∧ ¬ ((1 : Int32) < m)) : m = (0 : Int32) ∨ m = (1 : Int32) := by
  obtain ⟨h, hc⟩ := h
  rcases h with h | h | h | h <;> subst h <;> revert hc <;> decide +kernel
theorem own_m2 {m : Int32} (h : (m = 0 ∨ m = 1 ∨ m = 2 ∨ m = 3) ∧ ¬ ((2 : Int32) < m)) : m = (0 : Int32) ∨ m = (1 : Int32) ∨ m = (2 : Int32) := by
  obtain ⟨h, hc⟩ := h
  rcases h with h | h | h | h <;> subst h <;> revert hc <;> decide +kernel
theorem own_m3 {m : Int32} (h : (m = 0 ∨ m = 1 ∨ m = 2 ∨ m = 3) ∧ ¬ ((3 : Int32) < m)) : m = (0 : Int32) ∨ m = (1 : Int32) ∨ m = (2 : Int32) ∨ m = (3 : Int32) := by
  obtain ⟨h, hc⟩ := h
  rcases h with h | h | h | h <;> subst h <;> revert hc <;> decide +kernel
abbrev own_sh (x : Int64) (k : Int32) : Int64 := ((x.toUInt64 >>> (k &&& 0x3f).toInt64.toUInt64).toInt64)
def own_mix (s : Int64) : Int64 :=
  ((((s ^^^ own_sh s 30) * (-4658895280553007687)) ^^^ own_sh ((s ^^^ own_sh s 30) * (-4658895280553007687)) 27) * (-7723592293110705685)) ^^^ own_sh ((((s ^^^ own_sh s 30) * (-4658895280553007687)) ^^^ own_sh ((s ^^^ own_sh s 30) * (-4658895280553007687)) 27) * (-7723592293110705685)) 31
theorem own_mulinj {x y c d : Int64} (h : c * d = 1) (e : x * c = y * c) : x = y := by
  have := congrArg (· * d) e
  simpa [Int64.mul_assoc, h] using this
theorem own_bvinj (k : Nat) (hk : 0 < k) (x y : BitVec 64) (e : x ^^^ (x >>> k) = y ^^^ (y >>> k)) : x = y := by
  have key : ∀ n i, 64 ≤ i + n → x.getLsbD i = y.getLsbD i := by
    intro n
    induction n with
    | zero => intro i hi; rw [BitVec.getLsbD_of_ge _ _ (by omega), BitVec.getLsbD_of_ge _ _ (by omega)]
    | succ n ih =>
      intro i hi
      have e1 := congrArg (fun z => z.getLsbD i) e
      simp only [BitVec.getLsbD_xor, BitVec.getLsbD_ushiftRight] at e1
      have e2 := ih (k + i) (by omega)
      rw [e2] at e1
      revert e1
      cases x.getLsbD i <;> cases y.getLsbD i <;> cases y.getLsbD (k + i) <;> simp
  exact BitVec.eq_of_getLsbD_eq fun i _ => key 64 i (by omega)
theorem own_shbv (x : Int64) (k : Int32) (n : Nat) (hk : ((k &&& 0x3f).toInt64.toUInt64).toNat % 64 = n) : (own_sh x k).toBitVec = x.toBitVec >>> n := by
  subst hk
  show x.toUInt64.toBitVec >>> _ = _
  rw [BitVec.ushiftRight_eq']
  rfl
theorem own_xsinj {x y : Int64} (k : Int32) (n : Nat) (hk : ((k &&& 0x3f).toInt64.toUInt64).toNat % 64 = n) (hn : 0 < n) (e : x ^^^ own_sh x k = y ^^^ own_sh y k) : x = y := by
  have e1 := congrArg Int64.toBitVec e
  rw [Int64.toBitVec_xor, Int64.toBitVec_xor, own_shbv x k n hk, own_shbv y k n hk] at e1
  exact Int64.toBitVec_inj.mp (own_bvinj n hn _ _ e1)
theorem own_mixinj {x y : Int64} (e : own_mix x = own_mix y) : x = y :=
  own_xsinj 30 30 (by decide +kernel) (by decide) (own_mulinj (d := -7575587736534282103) (by decide +kernel) (own_xsinj 27 27 (by decide +kernel) (by decide) (own_mulinj (d := 3573116690164977347) (by decide +kernel) (own_xsinj 31 31 (by decide +kernel) (by decide) e))))
theorem own_mixof {s a b1 c1 a2 b2 c2 a3 z : Int64} (h8 : a = own_sh s 30) (h7 : b1 = s ^^^ a) (h6 : c1 = b1 * (-4658895280553007687)) (h5 : a2 = own_sh c1 27) (h4 : b2 = c1 ^^^ a2) (h3 : c2 = b2 * (-7723592293110705685)) (h2 : a3 = own_sh c2 31) (h1 : z = c2 ^^^ a3) : z = own_mix s := by
  subst h8 h7 h6 h5 h4 h3 h2 h1; rfl
theorem own_lu1 {z u : Int64} (hu : u = own_sh z 1) : 0 ≤ u.toInt ∧ u.toInt < 2 ^ 63 ∧ (u.toInt = z.toInt / 2 ∧ 0 ≤ z.toInt ∨ u.toInt = (z.toInt + 2 ^ 64) / 2 ∧ z.toInt < 0) := by
  have e : u.toBitVec = z.toBitVec >>> 1 := by rw [hu]; exact own_shbv z 1 1 (by decide +kernel)
  have e1 : u.toInt = (u.toBitVec).toInt := rfl
  have e2 : z.toInt = (z.toBitVec).toInt := rfl
  have hz := z.toBitVec.isLt
  rw [e1, e2, e]
  rw [BitVec.toInt_eq_toNat_cond, BitVec.toInt_eq_toNat_cond, BitVec.toNat_ushiftRight, Nat.shiftRight_eq_div_pow]
  split <;> split <;> omega
theorem own_lc0 {x : Int64} {i : Int32} (hi : i = lcmpW x 0) : i < 0 ↔ x.toInt < 0 := by
  subst hi
  rw [lcW, lc_lt, Int64.lt_iff_toInt_lt]; rfl
theorem own_rem {u r : Int64} {B : Int64} {b : Int} (hB : B.toInt = b) (hb : 0 < b) (h0 : 0 ≤ u.toInt) (hr : r = u - (u / B) * B) : r.toInt = u.toInt % b := by
  rw [hr, Jvm.Kit.i64_rem_nonneg h0, hB]
theorem own_nb2 {z u r j4 j5 : Int64} {i : Int32} (hu : u = own_sh z 1) (hr : r = u - (u / (2 : Int64)) * (2 : Int64)) (h4 : j4 = u - r) (h5 : j5 = j4 + (1 : Int64)) (hi : i = lcmpW j5 (0 : Int64)) : ¬ i < (0 : Int32) := by
  obtain ⟨u0, u1, -⟩ := own_lu1 hu
  have r1 := own_rem (by decide +kernel : (2 : Int64).toInt = 2) (by decide) u0 hr
  have k1 : j4.toInt = u.toInt - r.toInt := by rw [h4]; exact Jvm.Kit.i64_sub (by omega) (by omega)
  have o1 : (1 : Int64).toInt = 1 := by decide +kernel
  have k2 : j5.toInt = j4.toInt + 1 := by rw [h5, ← o1]; exact Jvm.Kit.i64_add (by omega) (by omega)
  rw [own_lc0 hi]; omega
theorem own_rej3 {z u r j4 j5 : Int64} {i : Int32} (hu : u = own_sh z 1) (hr : r = u - (u / (3 : Int64)) * (3 : Int64)) (h4 : j4 = u - r) (h5 : j5 = j4 + (2 : Int64)) (hi : i = lcmpW j5 (0 : Int64)) (h : i < (0 : Int32)) : -4 ≤ z.toInt ∧ z.toInt ≤ -1 := by
  obtain ⟨u0, u1, uz⟩ := own_lu1 hu
  have r1 := own_rem (by decide +kernel : (3 : Int64).toInt = 3) (by decide) u0 hr
  have k1 : j4.toInt = u.toInt - r.toInt := by rw [h4]; exact Jvm.Kit.i64_sub (by omega) (by omega)
  have o1 : (2 : Int64).toInt = 2 := by decide +kernel
  rw [own_lc0 hi] at h
  have hz1 : z.toInt < 2 ^ 63 := Int64.toInt_lt z
  by_cases q : j4.toInt + 2 < 2 ^ 63
  · have k2 : j5.toInt = j4.toInt + 2 := by rw [h5, ← o1]; exact Jvm.Kit.i64_add (by omega) (by omega)
    omega
  · omega
theorem own_step {s t : Int64} {c : Int64} (h : t = s + c) (hc : c ≠ 0) : s ≠ t := fun e => by
  subst e
  apply hc
  have q := congrArg (fun x => -s + x) h
  simp only [← Int64.add_assoc, Int64.add_left_neg, Int64.zero_add] at q
  exact q.symm
theorem own_zne {s t z w : Int64} (hz : z = own_mix s) (hw : w = own_mix t) (h : s ≠ t) : z.toInt ≠ w.toInt := fun e => h (own_mixinj (by rw [← hz, ← hw]; exact Int64.toInt_inj.mp e))
theorem own_nb3 {s0 s1 s2 s3 s4 s5 z1 z2 z3 z4 z5 u r j4 j5 : Int64} {i : Int32} (e1 : s1 = s0 + (-7046029254386353131 : Int64)) (m1 : z1 = own_mix s1) (r1 : -4 ≤ z1.toInt ∧ z1.toInt ≤ -1) (e2 : s2 = s1 + (-7046029254386353131 : Int64)) (m2 : z2 = own_mix s2) (r2 : -4 ≤ z2.toInt ∧ z2.toInt ≤ -1) (e3 : s3 = s2 + (-7046029254386353131 : Int64)) (m3 : z3 = own_mix s3) (r3 : -4 ≤ z3.toInt ∧ z3.toInt ≤ -1) (e4 : s4 = s3 + (-7046029254386353131 : Int64)) (m4 : z4 = own_mix s4) (r4 : -4 ≤ z4.toInt ∧ z4.toInt ≤ -1) (e5 : s5 = s4 + (-7046029254386353131 : Int64)) (m5 : z5 = own_mix s5)
    (hu : u = own_sh z5 1) (hr : r = u - (u / (3 : Int64)) * (3 : Int64)) (h4 : j4 = u - r) (h5 : j5 = j4 + (2 : Int64)) (hi : i = lcmpW j5 (0 : Int64)) : ¬ i < (0 : Int32) := fun h => by
  have r5 := own_rej3 hu hr h4 h5 hi h
  have n12 := own_zne m1 m2 (own_step e2 (by decide +kernel))
  have n23 := own_zne m2 m3 (own_step e3 (by decide +kernel))
  have n34 := own_zne m3 m4 (own_step e4 (by decide +kernel))
  have n45 := own_zne m4 m5 (own_step e5 (by decide +kernel))
  have n13 := own_zne m1 m3 (own_step (c := -7046029254386353131 + -7046029254386353131) (by rw [e3, e2, Int64.add_assoc]) (by decide +kernel))
  have n24 := own_zne m2 m4 (own_step (c := -7046029254386353131 + -7046029254386353131) (by rw [e4, e3, Int64.add_assoc]) (by decide +kernel))
  have n35 := own_zne m3 m5 (own_step (c := -7046029254386353131 + -7046029254386353131) (by rw [e5, e4, Int64.add_assoc]) (by decide +kernel))
  have n14 := own_zne m1 m4 (own_step (c := -7046029254386353131 + (-7046029254386353131 + -7046029254386353131)) (by rw [e4, e3, e2, Int64.add_assoc, Int64.add_assoc]) (by decide +kernel))
  have n25 := own_zne m2 m5 (own_step (c := -7046029254386353131 + (-7046029254386353131 + -7046029254386353131)) (by rw [e5, e4, e3, Int64.add_assoc, Int64.add_assoc]) (by decide +kernel))
  have n15 := own_zne m1 m5 (own_step (c := -7046029254386353131 + (-7046029254386353131 + (-7046029254386353131 + -7046029254386353131))) (by rw [e5, e4, e3, e2, Int64.add_assoc, Int64.add_assoc, Int64.add_assoc]) (by decide +kernel))
  omega
theorem own_rb2 {z u r : Int64} {i : Int32} (hu : u = own_sh z 1) (hr : r = u - (u / (2 : Int64)) * (2 : Int64)) (hi : i = r.toInt32) : ¬ (i < (0 : Int32)) ∧ i < (2 : Int32) := by
  obtain ⟨u0, u1, -⟩ := own_lu1 hu
  have r1 := own_rem (by decide +kernel : (2 : Int64).toInt = 2) (by decide) u0 hr
  have k : i.toInt = r.toInt := by rw [hi]; exact Jvm.Kit.i32_of_i64 (by omega) (by omega)
  have e0 : (0 : Int32).toInt = 0 := by decide +kernel
  have e2 : (2 : Int32).toInt = 2 := by decide +kernel
  rw [Int32.lt_iff_toInt_lt, Int32.lt_iff_toInt_lt, e0, e2]; omega
theorem own_rb3 {z u r : Int64} {i : Int32} (hu : u = own_sh z 1) (hr : r = u - (u / (3 : Int64)) * (3 : Int64)) (hi : i = r.toInt32) : ¬ (i < (0 : Int32)) ∧ i < (3 : Int32) := by
  obtain ⟨u0, u1, -⟩ := own_lu1 hu
  have r1 := own_rem (by decide +kernel : (3 : Int64).toInt = 3) (by decide) u0 hr
  have k : i.toInt = r.toInt := by rw [hi]; exact Jvm.Kit.i32_of_i64 (by omega) (by omega)
  have e0 : (0 : Int32).toInt = 0 := by decide +kernel
  have e2 : (3 : Int32).toInt = 3 := by decide +kernel
  rw [Int32.lt_iff_toInt_lt, Int32.lt_iff_toInt_lt, e0, e2]; omega
theorem own_j2 {j : Int32} (h1 : ¬ (j < (0 : Int32))) (h2 : j < (2 : Int32)) : j = 0 ∨ j = 1 := by
  have e0 : (0 : Int32).toInt = 0 := by decide +kernel
  have e1 : (1 : Int32).toInt = 1 := by decide +kernel
  have e2 : (2 : Int32).toInt = 2 := by decide +kernel
  simp only [Int32.lt_iff_toInt_lt, ← Int32.toInt_inj, e0, e1, e2] at *; omega
theorem own_j3 {j : Int32} (h1 : ¬ (j < (0 : Int32))) (h2 : j < (3 : Int32)) : j = 0 ∨ j = 1 ∨ j = 2 := by
  have e0 : (0 : Int32).toInt = 0 := by decide +kernel
  have e1 : (1 : Int32).toInt = 1 := by decide +kernel
  have e2 : (2 : Int32).toInt = 2 := by decide +kernel
  have e3 : (3 : Int32).toInt = 3 := by decide +kernel
  simp only [Int32.lt_iff_toInt_lt, ← Int32.toInt_inj, e0, e1, e2, e3] at *; omega
abbrev bc1 : ByteArray := jdk_29_method_69_code
theorem d1_0 : decode bc1 0 = .ok (.iload_n 0, 1) := by decide +kernel
theorem d1_1 : decode bc1 1 = .ok (.iload_n 1, 1) := by decide +kernel
theorem d1_2 : decode bc1 2 = .ok (.if_icmp .gt 7, 3) := by decide +kernel
theorem d1_9 : decode bc1 9 = .ok (.iload_n 1, 1) := by decide +kernel
theorem d1_10 : decode bc1 10 = .ok (.ireturn, 1) := by decide +kernel
theorem d1_5 : decode bc1 5 = .ok (.iload_n 0, 1) := by decide +kernel
theorem d1_6 : decode bc1 6 = .ok (.goto 4, 3) := by decide +kernel
abbrev M_0 : MethodName := ⟨"java/lang/Math", "min", "(II)I"⟩
theorem pd_0 : parseMethodDescriptor "(II)I" = some ⟨[.int, .int], some .int⟩ := by decide +kernel
abbrev C_0 : String := "java/util/AbstractList"
abbrev C_1 : String := "java/util/ArrayList"
abbrev C_2 : String := "[Ljava/lang/Object;"
abbrev bc2 : ByteArray := jdk_38_method_2_code
theorem d2_0 : decode bc2 0 = .ok (.aload_n 0, 1) := by decide +kernel
theorem d2_1 : decode bc2 1 = .ok (.invokespecial 1, 3) := by decide +kernel
abbrev bc3 : ByteArray := jdk_39_method_1_code
theorem d3_0 : decode bc3 0 = .ok (.aload_n 0, 1) := by decide +kernel
theorem d3_1 : decode bc3 1 = .ok (.invokespecial 1, 3) := by decide +kernel
abbrev bc4 : ByteArray := jdk_22_method_1_code
theorem d4_0 : decode bc4 0 = .ok (.aload_n 0, 1) := by decide +kernel
theorem d4_1 : decode bc4 1 = .ok (.invokespecial 1, 3) := by decide +kernel
theorem d4_4 : decode bc4 4 = .ok (.return_, 1) := by decide +kernel
abbrev M_1 : MethodName := ⟨"java/util/AbstractCollection", "<init>", "()V"⟩
theorem pn_0 : plainName "java/util/AbstractCollection" = true := by first | (simp [plainName, overriddenIn]; done) | decide +kernel
theorem pd_1 : parseMethodDescriptor "()V" = some ⟨[], none⟩ := by decide +kernel
theorem d3_4 : decode bc3 4 = .ok (.aload_n 0, 1) := by decide +kernel
theorem d3_5 : decode bc3 5 = .ok (.iconst 0, 1) := by decide +kernel
theorem d3_6 : decode bc3 6 = .ok (.putfield 7, 3) := by decide +kernel
theorem d3_9 : decode bc3 9 = .ok (.return_, 1) := by decide +kernel
theorem own_sl0 {Z : State} {a0 : Array Value} (hw : own_HW Z a0) : Jvm.RoadKit.slotOf Z "java/util/ArrayList" "elementData" "[Ljava/lang/Object;" ≠ Jvm.RoadKit.slotOf Z "java/util/AbstractList" "modCount" "I" := slot_ne (Or.inl (ww29 hw)) (Or.inl (ww26 hw)) (by decide) (t := (.array (.object "java/lang/Object"))) (t' := .int) (by decide) (by decide)
theorem own_sl1 {Z : State} {a0 : Array Value} (hw : own_HW Z a0) : Jvm.RoadKit.slotOf Z "java/util/ArrayList" "size" "I" ≠ Jvm.RoadKit.slotOf Z "java/util/AbstractList" "modCount" "I" := slot_ne (Or.inl (ww61 hw)) (Or.inl (ww26 hw)) (by decide) (t := .int) (t' := .int) (by decide) (by decide)
abbrev M_2 : MethodName := ⟨"java/util/AbstractList", "<init>", "()V"⟩
theorem pn_1 : plainName "java/util/AbstractList" = true := by first | (simp [plainName, overriddenIn]; done) | decide +kernel
theorem d2_4 : decode bc2 4 = .ok (.aload_n 0, 1) := by decide +kernel
theorem d2_5 : decode bc2 5 = .ok (.getstatic 39, 3) := by decide +kernel
theorem d2_8 : decode bc2 8 = .ok (.putfield 9, 3) := by decide +kernel
theorem d2_11 : decode bc2 11 = .ok (.return_, 1) := by decide +kernel
theorem own_sl2 {Z : State} {a0 : Array Value} (hw : own_HW Z a0) : Jvm.RoadKit.slotOf Z "java/util/AbstractList" "modCount" "I" ≠ Jvm.RoadKit.slotOf Z "java/util/ArrayList" "elementData" "[Ljava/lang/Object;" := slot_ne (Or.inl (ww26 hw)) (Or.inl (ww29 hw)) (by decide) (t := .int) (t' := (.array (.object "java/lang/Object"))) (by decide) (by decide)
theorem own_sl3 {Z : State} {a0 : Array Value} (hw : own_HW Z a0) : Jvm.RoadKit.slotOf Z "java/util/ArrayList" "size" "I" ≠ Jvm.RoadKit.slotOf Z "java/util/ArrayList" "elementData" "[Ljava/lang/Object;" := slot_ne (Or.inl (ww61 hw)) (Or.inl (ww29 hw)) (by decide) (t := .int) (t' := (.array (.object "java/lang/Object"))) (by decide) (by decide)
abbrev M_3 : MethodName := ⟨"java/util/ArrayList", "<init>", "()V"⟩
theorem pn_2 : plainName "java/util/ArrayList" = true := by first | (simp [plainName, overriddenIn]; done) | decide +kernel
abbrev C_3 : String := "com/example/railspan/railspan/game/CardPiles"
abbrev C_4 : String := "Lcom/example/railspan/railspan/game/Generator;"
abbrev C_5 : String := "com/example/railspan/railspan/game/Generator"
abbrev bc6 : ByteArray := prog_23_method_1_code
theorem d6_0 : decode bc6 0 = .ok (.aload_n 0, 1) := by decide +kernel
theorem d6_1 : decode bc6 1 = .ok (.invokespecial 1, 3) := by decide +kernel
theorem d6_4 : decode bc6 4 = .ok (.aload_n 0, 1) := by decide +kernel
theorem d6_5 : decode bc6 5 = .ok (.lload_n 1, 1) := by decide +kernel
theorem d6_6 : decode bc6 6 = .ok (.putfield 7, 3) := by decide +kernel
theorem d6_9 : decode bc6 9 = .ok (.return_, 1) := by decide +kernel
abbrev M_4 : MethodName := ⟨"com/example/railspan/railspan/game/Generator", "<init>", "(J)V"⟩
theorem pn_3 : plainName "com/example/railspan/railspan/game/Generator" = true := by first | (simp [plainName, overriddenIn]; done) | decide +kernel
theorem pd_2 : parseMethodDescriptor "(J)V" = some ⟨[.long], none⟩ := by decide +kernel
abbrev bc7 : ByteArray := prog_20_method_1_code
theorem d7_0 : decode bc7 0 = .ok (.aload_n 0, 1) := by decide +kernel
theorem d7_1 : decode bc7 1 = .ok (.invokespecial 1, 3) := by decide +kernel
theorem d7_4 : decode bc7 4 = .ok (.aload_n 0, 1) := by decide +kernel
theorem d7_5 : decode bc7 5 = .ok (.iconst 5, 1) := by decide +kernel
theorem d7_6 : decode bc7 6 = .ok (.newarray .int, 2) := by decide +kernel
theorem d7_8 : decode bc7 8 = .ok (.putfield 9, 3) := by decide +kernel
theorem d7_11 : decode bc7 11 = .ok (.aload_n 0, 1) := by decide +kernel
theorem d7_12 : decode bc7 12 = .ok (.aload_n 2, 1) := by decide +kernel
theorem d7_13 : decode bc7 13 = .ok (.putfield 13, 3) := by decide +kernel
theorem own_sl4 {Z : State} {a0 : Array Value} (hw : own_HW Z a0) : Jvm.RoadKit.slotOf Z "com/example/railspan/railspan/game/CardPiles" "generator" "Lcom/example/railspan/railspan/game/Generator;" ≠ Jvm.RoadKit.slotOf Z "com/example/railspan/railspan/game/CardPiles" "market" "[I" := slot_ne (Or.inr (ww50 hw)) (Or.inr (ww48 hw)) (by decide) (t := (.object "com/example/railspan/railspan/game/Generator")) (t' := (.array .int)) (by decide) (by decide)
theorem d7_16 : decode bc7 16 = .ok (.aload_n 0, 1) := by decide +kernel
theorem d7_17 : decode bc7 17 = .ok (.aload_n 1, 1) := by decide +kernel
theorem d7_18 : decode bc7 18 = .ok (.invokeinterface 17 1, 5) := by decide +kernel
abbrev bc8 : ByteArray := jdk_38_method_8_code
theorem d8_0 : decode bc8 0 = .ok (.aload_n 0, 1) := by decide +kernel
theorem d8_1 : decode bc8 1 = .ok (.getfield 48, 3) := by decide +kernel
theorem d8_4 : decode bc8 4 = .ok (.ireturn, 1) := by decide +kernel
abbrev M_5 : MethodName := ⟨"java/util/ArrayList", "size", "()I"⟩
theorem pd_3 : parseMethodDescriptor "()I" = some ⟨[], some .int⟩ := by decide +kernel
abbrev M_6 : MethodName := ⟨"java/util/List", "size", "()I"⟩
theorem d7_23 : decode bc7 23 = .ok (.newarray .int, 2) := by decide +kernel
theorem d7_25 : decode bc7 25 = .ok (.putfield 23, 3) := by decide +kernel
theorem own_sl5 {Z : State} {a0 : Array Value} (hw : own_HW Z a0) : Jvm.RoadKit.slotOf Z "com/example/railspan/railspan/game/CardPiles" "deck" "[I" ≠ Jvm.RoadKit.slotOf Z "com/example/railspan/railspan/game/CardPiles" "market" "[I" := slot_ne (Or.inr (ww63 hw)) (Or.inr (ww48 hw)) (by decide) (t := (.array .int)) (t' := (.array .int)) (by decide) (by decide)
theorem own_sl6 {Z : State} {a0 : Array Value} (hw : own_HW Z a0) : Jvm.RoadKit.slotOf Z "com/example/railspan/railspan/game/CardPiles" "deck" "[I" ≠ Jvm.RoadKit.slotOf Z "com/example/railspan/railspan/game/CardPiles" "generator" "Lcom/example/railspan/railspan/game/Generator;" := slot_ne (Or.inr (ww63 hw)) (Or.inr (ww50 hw)) (by decide) (t := (.array .int)) (t' := (.object "com/example/railspan/railspan/game/Generator")) (by decide) (by decide)
theorem d7_28 : decode bc7 28 = .ok (.aload_n 0, 1) := by decide +kernel
theorem d7_29 : decode bc7 29 = .ok (.aload_n 1, 1) := by decide +kernel
theorem d7_30 : decode bc7 30 = .ok (.invokeinterface 17 1, 5) := by decide +kernel
theorem d7_35 : decode bc7 35 = .ok (.newarray .int, 2) := by decide +kernel
theorem d7_37 : decode bc7 37 = .ok (.putfield 26, 3) := by decide +kernel
theorem own_sl7 {Z : State} {a0 : Array Value} (hw : own_HW Z a0) : Jvm.RoadKit.slotOf Z "com/example/railspan/railspan/game/CardPiles" "discard" "[I" ≠ Jvm.RoadKit.slotOf Z "com/example/railspan/railspan/game/CardPiles" "market" "[I" := slot_ne (Or.inr (ww65 hw)) (Or.inr (ww48 hw)) (by decide) (t := (.array .int)) (t' := (.array .int)) (by decide) (by decide)
theorem own_sl8 {Z : State} {a0 : Array Value} (hw : own_HW Z a0) : Jvm.RoadKit.slotOf Z "com/example/railspan/railspan/game/CardPiles" "discard" "[I" ≠ Jvm.RoadKit.slotOf Z "com/example/railspan/railspan/game/CardPiles" "generator" "Lcom/example/railspan/railspan/game/Generator;" := slot_ne (Or.inr (ww65 hw)) (Or.inr (ww50 hw)) (by decide) (t := (.array .int)) (t' := (.object "com/example/railspan/railspan/game/Generator")) (by decide) (by decide)
theorem own_sl9 {Z : State} {a0 : Array Value} (hw : own_HW Z a0) : Jvm.RoadKit.slotOf Z "com/example/railspan/railspan/game/CardPiles" "discard" "[I" ≠ Jvm.RoadKit.slotOf Z "com/example/railspan/railspan/game/CardPiles" "deck" "[I" := slot_ne (Or.inr (ww65 hw)) (Or.inr (ww63 hw)) (by decide) (t := (.array .int)) (t' := (.array .int)) (by decide) (by decide)
theorem d7_40 : decode bc7 40 = .ok (.aload_n 1, 1) := by decide +kernel
theorem d7_41 : decode bc7 41 = .ok (.invokeinterface 29 1, 5) := by decide +kernel
abbrev bc9 : ByteArray := jdk_38_method_55_code
theorem d9_0 : decode bc9 0 = .ok (.new 267, 3) := by decide +kernel
abbrev C_6 : String := "java/util/ArrayList$Itr"
abbrev C_7 : String := "Ljava/util/ArrayList;"
theorem d9_3 : decode bc9 3 = .ok (.dup, 1) := by decide +kernel
theorem d9_4 : decode bc9 4 = .ok (.aload_n 0, 1) := by decide +kernel
theorem d9_5 : decode bc9 5 = .ok (.invokespecial 269, 3) := by decide +kernel
abbrev bc10 : ByteArray := jdk_49_method_1_code
theorem d10_0 : decode bc10 0 = .ok (.aload_n 0, 1) := by decide +kernel
theorem d10_1 : decode bc10 1 = .ok (.aload_n 1, 1) := by decide +kernel
theorem d10_2 : decode bc10 2 = .ok (.putfield 1, 3) := by decide +kernel
theorem d10_5 : decode bc10 5 = .ok (.aload_n 0, 1) := by decide +kernel
theorem d10_6 : decode bc10 6 = .ok (.invokespecial 7, 3) := by decide +kernel
theorem d10_9 : decode bc10 9 = .ok (.aload_n 0, 1) := by decide +kernel
theorem d10_10 : decode bc10 10 = .ok (.iconst (-1), 1) := by decide +kernel
theorem d10_11 : decode bc10 11 = .ok (.putfield 13, 3) := by decide +kernel
theorem own_sl10 {Z : State} {a0 : Array Value} (hw : own_HW Z a0) : Jvm.RoadKit.slotOf Z "java/util/ArrayList$Itr" "lastRet" "I" ≠ Jvm.RoadKit.slotOf Z "java/util/ArrayList$Itr" "this$0" "Ljava/util/ArrayList;" := slot_ne (Or.inl (ww85 hw)) (Or.inr (ww82 hw)) (by decide) (t := .int) (t' := (.object "java/util/ArrayList")) (by decide) (by decide)
theorem d10_14 : decode bc10 14 = .ok (.aload_n 0, 1) := by decide +kernel
theorem d10_15 : decode bc10 15 = .ok (.aload_n 0, 1) := by decide +kernel
theorem d10_16 : decode bc10 16 = .ok (.getfield 1, 3) := by decide +kernel
theorem own_sl11 {Z : State} {a0 : Array Value} (hw : own_HW Z a0) : Jvm.RoadKit.slotOf Z "java/util/ArrayList$Itr" "this$0" "Ljava/util/ArrayList;" ≠ Jvm.RoadKit.slotOf Z "java/util/ArrayList$Itr" "lastRet" "I" := slot_ne (Or.inr (ww82 hw)) (Or.inl (ww85 hw)) (by decide) (t := (.object "java/util/ArrayList")) (t' := .int) (by decide) (by decide)
theorem d10_19 : decode bc10 19 = .ok (.getfield 17, 3) := by decide +kernel
theorem d10_22 : decode bc10 22 = .ok (.putfield 22, 3) := by decide +kernel
theorem own_sl12 {Z : State} {a0 : Array Value} (hw : own_HW Z a0) : Jvm.RoadKit.slotOf Z "java/util/ArrayList$Itr" "expectedModCount" "I" ≠ Jvm.RoadKit.slotOf Z "java/util/ArrayList$Itr" "this$0" "Ljava/util/ArrayList;" := slot_ne (Or.inl (ww89 hw)) (Or.inr (ww82 hw)) (by decide) (t := .int) (t' := (.object "java/util/ArrayList")) (by decide) (by decide)
theorem own_sl13 {Z : State} {a0 : Array Value} (hw : own_HW Z a0) : Jvm.RoadKit.slotOf Z "java/util/ArrayList$Itr" "expectedModCount" "I" ≠ Jvm.RoadKit.slotOf Z "java/util/ArrayList$Itr" "lastRet" "I" := slot_ne (Or.inl (ww89 hw)) (Or.inl (ww85 hw)) (by decide) (t := .int) (t' := .int) (by decide) (by decide)
theorem d10_25 : decode bc10 25 = .ok (.return_, 1) := by decide +kernel
theorem own_sl14 {Z : State} {a0 : Array Value} (hw : own_HW Z a0) : Jvm.RoadKit.slotOf Z "java/util/ArrayList$Itr" "cursor" "I" ≠ Jvm.RoadKit.slotOf Z "java/util/ArrayList$Itr" "this$0" "Ljava/util/ArrayList;" := slot_ne (Or.inl (ww100 hw)) (Or.inr (ww82 hw)) (by decide) (t := .int) (t' := (.object "java/util/ArrayList")) (by decide) (by decide)
theorem own_sl15 {Z : State} {a0 : Array Value} (hw : own_HW Z a0) : Jvm.RoadKit.slotOf Z "java/util/ArrayList$Itr" "cursor" "I" ≠ Jvm.RoadKit.slotOf Z "java/util/ArrayList$Itr" "lastRet" "I" := slot_ne (Or.inl (ww100 hw)) (Or.inl (ww85 hw)) (by decide) (t := .int) (t' := .int) (by decide) (by decide)
theorem own_sl16 {Z : State} {a0 : Array Value} (hw : own_HW Z a0) : Jvm.RoadKit.slotOf Z "java/util/ArrayList$Itr" "cursor" "I" ≠ Jvm.RoadKit.slotOf Z "java/util/ArrayList$Itr" "expectedModCount" "I" := slot_ne (Or.inl (ww100 hw)) (Or.inl (ww89 hw)) (by decide) (t := .int) (t' := .int) (by decide) (by decide)
theorem own_sl17 {Z : State} {a0 : Array Value} (hw : own_HW Z a0) : Jvm.RoadKit.slotOf Z "java/util/ArrayList$Itr" "lastRet" "I" ≠ Jvm.RoadKit.slotOf Z "java/util/ArrayList$Itr" "expectedModCount" "I" := slot_ne (Or.inl (ww85 hw)) (Or.inl (ww89 hw)) (by decide) (t := .int) (t' := .int) (by decide) (by decide)
theorem own_sl18 {Z : State} {a0 : Array Value} (hw : own_HW Z a0) : Jvm.RoadKit.slotOf Z "java/util/ArrayList$Itr" "this$0" "Ljava/util/ArrayList;" ≠ Jvm.RoadKit.slotOf Z "java/util/ArrayList$Itr" "expectedModCount" "I" := slot_ne (Or.inr (ww82 hw)) (Or.inl (ww89 hw)) (by decide) (t := (.object "java/util/ArrayList")) (t' := .int) (by decide) (by decide)
abbrev M_7 : MethodName := ⟨"java/util/ArrayList$Itr", "<init>", "(Ljava/util/ArrayList;)V"⟩
theorem pn_4 : plainName "java/util/ArrayList$Itr" = true := by first | (simp [plainName, overriddenIn]; done) | decide +kernel
theorem pd_4 : parseMethodDescriptor "(Ljava/util/ArrayList;)V" = some ⟨[(.object "java/util/ArrayList")], none⟩ := by decide +kernel
theorem d9_8 : decode bc9 8 = .ok (.areturn, 1) := by decide +kernel
abbrev M_8 : MethodName := ⟨"java/util/ArrayList", "iterator", "()Ljava/util/Iterator;"⟩
theorem pd_5 : parseMethodDescriptor "()Ljava/util/Iterator;" = some ⟨[], some (.object "java/util/Iterator")⟩ := by decide +kernel
abbrev M_9 : MethodName := ⟨"java/util/List", "iterator", "()Ljava/util/Iterator;"⟩
theorem d7_46 : decode bc7 46 = .ok (.astore_n 3, 1) := by decide +kernel
theorem d7_47 : decode bc7 47 = .ok (.aload_n 3, 1) := by decide +kernel
theorem d7_48 : decode bc7 48 = .ok (.invokeinterface 33 1, 5) := by decide +kernel
abbrev bc11 : ByteArray := jdk_49_method_2_code
theorem d11_0 : decode bc11 0 = .ok (.aload_n 0, 1) := by decide +kernel
theorem d11_1 : decode bc11 1 = .ok (.getfield 25, 3) := by decide +kernel
theorem d11_4 : decode bc11 4 = .ok (.aload_n 0, 1) := by decide +kernel
theorem d11_5 : decode bc11 5 = .ok (.getfield 1, 3) := by decide +kernel
theorem d11_8 : decode bc11 8 = .ok (.getfield 28, 3) := by decide +kernel
theorem d11_11 : decode bc11 11 = .ok (.if_icmp .eq 7, 3) := by decide +kernel
theorem d11_18 : decode bc11 18 = .ok (.iconst 0, 1) := by decide +kernel
theorem d11_19 : decode bc11 19 = .ok (.ireturn, 1) := by decide +kernel
abbrev M_10 : MethodName := ⟨"java/util/ArrayList$Itr", "hasNext", "()Z"⟩
theorem pd_6 : parseMethodDescriptor "()Z" = some ⟨[], some .boolean⟩ := by decide +kernel
abbrev M_11 : MethodName := ⟨"java/util/Iterator", "hasNext", "()Z"⟩
theorem d7_53 : decode bc7 53 = .ok (.ifCond .eq 46, 3) := by decide +kernel
theorem d7_99 : decode bc7 99 = .ok (.aload_n 0, 1) := by decide +kernel
theorem d7_100 : decode bc7 100 = .ok (.getfield 9, 3) := by decide +kernel
theorem own_sl19 {Z : State} {a0 : Array Value} (hw : own_HW Z a0) : Jvm.RoadKit.slotOf Z "com/example/railspan/railspan/game/CardPiles" "market" "[I" ≠ Jvm.RoadKit.slotOf Z "com/example/railspan/railspan/game/CardPiles" "generator" "Lcom/example/railspan/railspan/game/Generator;" := slot_ne (Or.inr (ww48 hw)) (Or.inr (ww50 hw)) (by decide) (t := (.array .int)) (t' := (.object "com/example/railspan/railspan/game/Generator")) (by decide) (by decide)
theorem own_sl20 {Z : State} {a0 : Array Value} (hw : own_HW Z a0) : Jvm.RoadKit.slotOf Z "com/example/railspan/railspan/game/CardPiles" "market" "[I" ≠ Jvm.RoadKit.slotOf Z "com/example/railspan/railspan/game/CardPiles" "deck" "[I" := slot_ne (Or.inr (ww48 hw)) (Or.inr (ww63 hw)) (by decide) (t := (.array .int)) (t' := (.array .int)) (by decide) (by decide)
theorem own_sl21 {Z : State} {a0 : Array Value} (hw : own_HW Z a0) : Jvm.RoadKit.slotOf Z "com/example/railspan/railspan/game/CardPiles" "market" "[I" ≠ Jvm.RoadKit.slotOf Z "com/example/railspan/railspan/game/CardPiles" "discard" "[I" := slot_ne (Or.inr (ww48 hw)) (Or.inr (ww65 hw)) (by decide) (t := (.array .int)) (t' := (.array .int)) (by decide) (by decide)
theorem d7_103 : decode bc7 103 = .ok (.iconst (-1), 1) := by decide +kernel
theorem d7_104 : decode bc7 104 = .ok (.invokestatic 52, 3) := by decide +kernel
abbrev bc12 : ByteArray := jdk_65_method_103_code
theorem d12_0 : decode bc12 0 = .ok (.iconst 0, 1) := by decide +kernel
theorem d12_1 : decode bc12 1 = .ok (.istore_n 2, 1) := by decide +kernel
theorem d12_2 : decode bc12 2 = .ok (.aload_n 0, 1) := by decide +kernel
theorem d12_3 : decode bc12 3 = .ok (.arraylength, 1) := by decide +kernel
theorem d12_4 : decode bc12 4 = .ok (.istore_n 3, 1) := by decide +kernel
theorem d12_5 : decode bc12 5 = .ok (.iload_n 2, 1) := by decide +kernel
theorem d12_6 : decode bc12 6 = .ok (.iload_n 3, 1) := by decide +kernel
theorem d12_7 : decode bc12 7 = .ok (.if_icmp .ge 13, 3) := by decide +kernel
theorem d12_10 : decode bc12 10 = .ok (.aload_n 0, 1) := by decide +kernel
theorem d12_11 : decode bc12 11 = .ok (.iload_n 2, 1) := by decide +kernel
theorem d12_12 : decode bc12 12 = .ok (.iload_n 1, 1) := by decide +kernel
theorem d12_13 : decode bc12 13 = .ok (.iastore, 1) := by decide +kernel
theorem d12_14 : decode bc12 14 = .ok (.iinc 2 1, 3) := by decide +kernel
theorem d12_17 : decode bc12 17 = .ok (.goto (-12), 3) := by decide +kernel
theorem d12_20 : decode bc12 20 = .ok (.return_, 1) := by decide +kernel
abbrev M_12 : MethodName := ⟨"java/util/Arrays", "fill", "([II)V"⟩
theorem pn_5 : plainName "java/util/Arrays" = true := by first | (simp [plainName, overriddenIn]; done) | decide +kernel
theorem pd_7 : parseMethodDescriptor "([II)V" = some ⟨[(.array .int), .int], none⟩ := by decide +kernel
theorem d7_107 : decode bc7 107 = .ok (.return_, 1) := by decide +kernel
theorem own_sl22 {Z : State} {a0 : Array Value} (hw : own_HW Z a0) : Jvm.RoadKit.slotOf Z "com/example/railspan/railspan/game/CardPiles" "deck" "[I" ≠ Jvm.RoadKit.slotOf Z "com/example/railspan/railspan/game/CardPiles" "discard" "[I" := slot_ne (Or.inr (ww63 hw)) (Or.inr (ww65 hw)) (by decide) (t := (.array .int)) (t' := (.array .int)) (by decide) (by decide)
theorem own_sl23 {Z : State} {a0 : Array Value} (hw : own_HW Z a0) : Jvm.RoadKit.slotOf Z "com/example/railspan/railspan/game/CardPiles" "deckSize" "I" ≠ Jvm.RoadKit.slotOf Z "com/example/railspan/railspan/game/CardPiles" "market" "[I" := slot_ne (Or.inl (ww112 hw)) (Or.inr (ww48 hw)) (by decide) (t := .int) (t' := (.array .int)) (by decide) (by decide)
theorem own_sl24 {Z : State} {a0 : Array Value} (hw : own_HW Z a0) : Jvm.RoadKit.slotOf Z "com/example/railspan/railspan/game/CardPiles" "deckSize" "I" ≠ Jvm.RoadKit.slotOf Z "com/example/railspan/railspan/game/CardPiles" "generator" "Lcom/example/railspan/railspan/game/Generator;" := slot_ne (Or.inl (ww112 hw)) (Or.inr (ww50 hw)) (by decide) (t := .int) (t' := (.object "com/example/railspan/railspan/game/Generator")) (by decide) (by decide)
theorem own_sl25 {Z : State} {a0 : Array Value} (hw : own_HW Z a0) : Jvm.RoadKit.slotOf Z "com/example/railspan/railspan/game/CardPiles" "deckSize" "I" ≠ Jvm.RoadKit.slotOf Z "com/example/railspan/railspan/game/CardPiles" "deck" "[I" := slot_ne (Or.inl (ww112 hw)) (Or.inr (ww63 hw)) (by decide) (t := .int) (t' := (.array .int)) (by decide) (by decide)
theorem own_sl26 {Z : State} {a0 : Array Value} (hw : own_HW Z a0) : Jvm.RoadKit.slotOf Z "com/example/railspan/railspan/game/CardPiles" "deckSize" "I" ≠ Jvm.RoadKit.slotOf Z "com/example/railspan/railspan/game/CardPiles" "discard" "[I" := slot_ne (Or.inl (ww112 hw)) (Or.inr (ww65 hw)) (by decide) (t := .int) (t' := (.array .int)) (by decide) (by decide)
theorem own_sl27 {Z : State} {a0 : Array Value} (hw : own_HW Z a0) : Jvm.RoadKit.slotOf Z "com/example/railspan/railspan/game/CardPiles" "discardSize" "I" ≠ Jvm.RoadKit.slotOf Z "com/example/railspan/railspan/game/CardPiles" "market" "[I" := slot_ne (Or.inl (ww114 hw)) (Or.inr (ww48 hw)) (by decide) (t := .int) (t' := (.array .int)) (by decide) (by decide)
theorem own_sl28 {Z : State} {a0 : Array Value} (hw : own_HW Z a0) : Jvm.RoadKit.slotOf Z "com/example/railspan/railspan/game/CardPiles" "discardSize" "I" ≠ Jvm.RoadKit.slotOf Z "com/example/railspan/railspan/game/CardPiles" "generator" "Lcom/example/railspan/railspan/game/Generator;" := slot_ne (Or.inl (ww114 hw)) (Or.inr (ww50 hw)) (by decide) (t := .int) (t' := (.object "com/example/railspan/railspan/game/Generator")) (by decide) (by decide)
theorem own_sl29 {Z : State} {a0 : Array Value} (hw : own_HW Z a0) : Jvm.RoadKit.slotOf Z "com/example/railspan/railspan/game/CardPiles" "discardSize" "I" ≠ Jvm.RoadKit.slotOf Z "com/example/railspan/railspan/game/CardPiles" "deck" "[I" := slot_ne (Or.inl (ww114 hw)) (Or.inr (ww63 hw)) (by decide) (t := .int) (t' := (.array .int)) (by decide) (by decide)
theorem own_sl30 {Z : State} {a0 : Array Value} (hw : own_HW Z a0) : Jvm.RoadKit.slotOf Z "com/example/railspan/railspan/game/CardPiles" "discardSize" "I" ≠ Jvm.RoadKit.slotOf Z "com/example/railspan/railspan/game/CardPiles" "discard" "[I" := slot_ne (Or.inl (ww114 hw)) (Or.inr (ww65 hw)) (by decide) (t := .int) (t' := (.array .int)) (by decide) (by decide)
theorem own_sl31 {Z : State} {a0 : Array Value} (hw : own_HW Z a0) : Jvm.RoadKit.slotOf Z "com/example/railspan/railspan/game/CardPiles" "generator" "Lcom/example/railspan/railspan/game/Generator;" ≠ Jvm.RoadKit.slotOf Z "com/example/railspan/railspan/game/CardPiles" "deck" "[I" := slot_ne (Or.inr (ww50 hw)) (Or.inr (ww63 hw)) (by decide) (t := (.object "com/example/railspan/railspan/game/Generator")) (t' := (.array .int)) (by decide) (by decide)
theorem own_sl32 {Z : State} {a0 : Array Value} (hw : own_HW Z a0) : Jvm.RoadKit.slotOf Z "com/example/railspan/railspan/game/CardPiles" "generator" "Lcom/example/railspan/railspan/game/Generator;" ≠ Jvm.RoadKit.slotOf Z "com/example/railspan/railspan/game/CardPiles" "discard" "[I" := slot_ne (Or.inr (ww50 hw)) (Or.inr (ww65 hw)) (by decide) (t := (.object "com/example/railspan/railspan/game/Generator")) (t' := (.array .int)) (by decide) (by decide)
abbrev M_13 : MethodName := ⟨"com/example/railspan/railspan/game/CardPiles", "<init>", "(Ljava/util/List;Lcom/example/railspan/railspan/game/Generator;)V"⟩
theorem pn_6 : plainName "com/example/railspan/railspan/game/CardPiles" = true := by first | (simp [plainName, overriddenIn]; done) | decide +kernel
theorem pd_8 : parseMethodDescriptor "(Ljava/util/List;Lcom/example/railspan/railspan/game/Generator;)V" = some ⟨[(.object "java/util/List"), (.object "com/example/railspan/railspan/game/Generator")], none⟩ := by decide +kernel
abbrev bc13 : ByteArray := prog_20_method_5_code
theorem d13_0 : decode bc13 0 = .ok (.aload_n 0, 1) := by decide +kernel
theorem d13_1 : decode bc13 1 = .ok (.getfield 45, 3) := by decide +kernel
theorem d13_4 : decode bc13 4 = .ok (.ifCond .ne 57, 3) := by decide +kernel
theorem d13_7 : decode bc13 7 = .ok (.aload_n 0, 1) := by decide +kernel
theorem d13_8 : decode bc13 8 = .ok (.getfield 58, 3) := by decide +kernel
theorem d13_11 : decode bc13 11 = .ok (.ifCond .ne 5, 3) := by decide +kernel
theorem d13_14 : decode bc13 14 = .ok (.iconst (-1), 1) := by decide +kernel
theorem d13_15 : decode bc13 15 = .ok (.ireturn, 1) := by decide +kernel
abbrev M_14 : MethodName := ⟨"com/example/railspan/railspan/game/CardPiles", "draw", "()I"⟩
abbrev bc14 : ByteArray := method_2_code
theorem d14_0 : decode bc14 0 = .ok (.iload_n 0, 1) := by decide +kernel
theorem d14_1 : decode bc14 1 = .ok (.iconst 3, 1) := by decide +kernel
theorem d14_2 : decode bc14 2 = .ok (.iand, 1) := by decide +kernel
theorem d14_3 : decode bc14 3 = .ok (.istore_n 1, 1) := by decide +kernel
theorem d14_4 : decode bc14 4 = .ok (.iload_n 1, 1) := by decide +kernel
theorem d14_5 : decode bc14 5 = .ok (.ifCond .ne 7, 3) := by decide +kernel
theorem d14_8 : decode bc14 8 = .ok (.getstatic 7, 3) := by decide +kernel
abbrev C_8 : String := "com/example/railspan/railspan/game/Card"
abbrev C_9 : String := "Lcom/example/railspan/railspan/game/Card;"
theorem d14_11 : decode bc14 11 = .ok (.areturn, 1) := by decide +kernel
abbrev C_10 : String := "java/lang/Enum"
theorem d14_12 : decode bc14 12 = .ok (.iload_n 1, 1) := by decide +kernel
theorem d14_13 : decode bc14 13 = .ok (.iconst 1, 1) := by decide +kernel
theorem d14_14 : decode bc14 14 = .ok (.if_icmp .ne 7, 3) := by decide +kernel
theorem d14_17 : decode bc14 17 = .ok (.getstatic 13, 3) := by decide +kernel
theorem d14_20 : decode bc14 20 = .ok (.areturn, 1) := by decide +kernel
theorem d14_21 : decode bc14 21 = .ok (.iload_n 1, 1) := by decide +kernel
theorem d14_22 : decode bc14 22 = .ok (.iconst 2, 1) := by decide +kernel
theorem d14_23 : decode bc14 23 = .ok (.if_icmp .ne 7, 3) := by decide +kernel
theorem d14_26 : decode bc14 26 = .ok (.getstatic 16, 3) := by decide +kernel
theorem d14_29 : decode bc14 29 = .ok (.areturn, 1) := by decide +kernel
theorem d14_30 : decode bc14 30 = .ok (.getstatic 19, 3) := by decide +kernel
theorem d14_33 : decode bc14 33 = .ok (.areturn, 1) := by decide +kernel
abbrev M_15 : MethodName := ⟨"com/example/railspan/railspan/game/CardPilesCanDrawPinLaw", "card", "(I)Lcom/example/railspan/railspan/game/Card;"⟩
theorem pn_7 : plainName "com/example/railspan/railspan/game/CardPilesCanDrawPinLaw" = true := by first | (simp [plainName, overriddenIn]; done) | decide +kernel
theorem pd_9 : parseMethodDescriptor "(I)Lcom/example/railspan/railspan/game/Card;" = some ⟨[.int], some (.object "com/example/railspan/railspan/game/Card")⟩ := by decide +kernel
abbrev bc15 : ByteArray := prog_20_method_7_code
theorem d15_0 : decode bc15 0 = .ok (.iconst 0, 1) := by decide +kernel
theorem d15_1 : decode bc15 1 = .ok (.istore_n 3, 1) := by decide +kernel
theorem d15_2 : decode bc15 2 = .ok (.iload_n 3, 1) := by decide +kernel
theorem d15_3 : decode bc15 3 = .ok (.iload_n 2, 1) := by decide +kernel
theorem d15_4 : decode bc15 4 = .ok (.if_icmp .ge 29, 3) := by decide +kernel
theorem d15_33 : decode bc15 33 = .ok (.return_, 1) := by decide +kernel
abbrev M_16 : MethodName := ⟨"com/example/railspan/railspan/game/CardPiles", "discard", "(Lcom/example/railspan/railspan/game/Card;I)V"⟩
theorem pd_10 : parseMethodDescriptor "(Lcom/example/railspan/railspan/game/Card;I)V" = some ⟨[(.object "com/example/railspan/railspan/game/Card"), .int], none⟩ := by decide +kernel
abbrev bc16 : ByteArray := prog_20_method_4_code
theorem d16_0 : decode bc16 0 = .ok (.aload_n 0, 1) := by decide +kernel
theorem d16_1 : decode bc16 1 = .ok (.getfield 45, 3) := by decide +kernel
theorem d16_4 : decode bc16 4 = .ok (.aload_n 0, 1) := by decide +kernel
theorem d16_5 : decode bc16 5 = .ok (.getfield 58, 3) := by decide +kernel
theorem d16_8 : decode bc16 8 = .ok (.iadd, 1) := by decide +kernel
theorem d16_9 : decode bc16 9 = .ok (.ifCond .le 7, 3) := by decide +kernel
theorem d16_16 : decode bc16 16 = .ok (.iconst 0, 1) := by decide +kernel
theorem d16_17 : decode bc16 17 = .ok (.ireturn, 1) := by decide +kernel
abbrev M_17 : MethodName := ⟨"com/example/railspan/railspan/game/CardPiles", "canDraw", "()Z"⟩
abbrev bc17 : ByteArray := jdk_38_method_25_code
theorem d17_0 : decode bc17 0 = .ok (.aload_n 0, 1) := by decide +kernel
theorem d17_1 : decode bc17 1 = .ok (.dup, 1) := by decide +kernel
theorem d17_2 : decode bc17 2 = .ok (.getfield 63, 3) := by decide +kernel
theorem d17_5 : decode bc17 5 = .ok (.iconst 1, 1) := by decide +kernel
theorem d17_6 : decode bc17 6 = .ok (.iadd, 1) := by decide +kernel
theorem d17_7 : decode bc17 7 = .ok (.putfield 63, 3) := by decide +kernel
theorem d17_10 : decode bc17 10 = .ok (.aload_n 0, 1) := by decide +kernel
theorem d17_11 : decode bc17 11 = .ok (.aload_n 1, 1) := by decide +kernel
theorem d17_12 : decode bc17 12 = .ok (.aload_n 0, 1) := by decide +kernel
theorem d17_13 : decode bc17 13 = .ok (.getfield 9, 3) := by decide +kernel
theorem d17_16 : decode bc17 16 = .ok (.aload_n 0, 1) := by decide +kernel
theorem d17_17 : decode bc17 17 = .ok (.getfield 48, 3) := by decide +kernel
theorem d17_20 : decode bc17 20 = .ok (.invokevirtual 131, 3) := by decide +kernel
abbrev bc18 : ByteArray := jdk_38_method_24_code
theorem d18_0 : decode bc18 0 = .ok (.iload_n 3, 1) := by decide +kernel
theorem d18_1 : decode bc18 1 = .ok (.aload_n 2, 1) := by decide +kernel
theorem d18_2 : decode bc18 2 = .ok (.arraylength, 1) := by decide +kernel
theorem d18_3 : decode bc18 3 = .ok (.if_icmp .ne 8, 3) := by decide +kernel
theorem d18_6 : decode bc18 6 = .ok (.aload_n 0, 1) := by decide +kernel
theorem d18_7 : decode bc18 7 = .ok (.invokevirtual 129, 3) := by decide +kernel
abbrev bc19 : ByteArray := jdk_38_method_7_code
theorem d19_0 : decode bc19 0 = .ok (.aload_n 0, 1) := by decide +kernel
theorem d19_1 : decode bc19 1 = .ok (.aload_n 0, 1) := by decide +kernel
theorem d19_2 : decode bc19 2 = .ok (.getfield 48, 3) := by decide +kernel
theorem d19_5 : decode bc19 5 = .ok (.iconst 1, 1) := by decide +kernel
theorem d19_6 : decode bc19 6 = .ok (.iadd, 1) := by decide +kernel
theorem d19_7 : decode bc19 7 = .ok (.invokevirtual 69, 3) := by decide +kernel
abbrev bc20 : ByteArray := jdk_38_method_6_code
theorem d20_0 : decode bc20 0 = .ok (.aload_n 0, 1) := by decide +kernel
theorem d20_1 : decode bc20 1 = .ok (.getfield 9, 3) := by decide +kernel
theorem d20_4 : decode bc20 4 = .ok (.arraylength, 1) := by decide +kernel
theorem d20_5 : decode bc20 5 = .ok (.istore_n 2, 1) := by decide +kernel
theorem d20_6 : decode bc20 6 = .ok (.iload_n 2, 1) := by decide +kernel
theorem d20_7 : decode bc20 7 = .ok (.ifCond .gt 13, 3) := by decide +kernel
theorem d20_10 : decode bc20 10 = .ok (.aload_n 0, 1) := by decide +kernel
theorem d20_11 : decode bc20 11 = .ok (.getfield 9, 3) := by decide +kernel
theorem d20_14 : decode bc20 14 = .ok (.getstatic 39, 3) := by decide +kernel
theorem d20_17 : decode bc20 17 = .ok (.if_acmp .eq 28, 3) := by decide +kernel
theorem d20_45 : decode bc20 45 = .ok (.aload_n 0, 1) := by decide +kernel
theorem d20_46 : decode bc20 46 = .ok (.bipush 10, 2) := by decide +kernel
theorem d20_48 : decode bc20 48 = .ok (.iload_n 1, 1) := by decide +kernel
theorem d20_49 : decode bc20 49 = .ok (.invokestatic 79, 3) := by decide +kernel
abbrev bc21 : ByteArray := jdk_29_method_65_code
theorem d21_0 : decode bc21 0 = .ok (.iload_n 0, 1) := by decide +kernel
theorem d21_1 : decode bc21 1 = .ok (.iload_n 1, 1) := by decide +kernel
theorem d21_2 : decode bc21 2 = .ok (.if_icmp .lt 7, 3) := by decide +kernel
theorem d21_5 : decode bc21 5 = .ok (.iload_n 0, 1) := by decide +kernel
theorem d21_6 : decode bc21 6 = .ok (.goto 4, 3) := by decide +kernel
theorem d21_10 : decode bc21 10 = .ok (.ireturn, 1) := by decide +kernel
abbrev M_18 : MethodName := ⟨"java/lang/Math", "max", "(II)I"⟩
theorem d20_52 : decode bc20 52 = .ok (.anewarray 7, 3) := by decide +kernel
theorem d20_55 : decode bc20 55 = .ok (.dup_x1, 1) := by decide +kernel
theorem d20_56 : decode bc20 56 = .ok (.putfield 9, 3) := by decide +kernel
theorem d20_59 : decode bc20 59 = .ok (.areturn, 1) := by decide +kernel
abbrev M_19 : MethodName := ⟨"java/util/ArrayList", "grow", "(I)[Ljava/lang/Object;"⟩
theorem pd_11 : parseMethodDescriptor "(I)[Ljava/lang/Object;" = some ⟨[.int], some (.array (.object "java/lang/Object"))⟩ := by decide +kernel
theorem d19_10 : decode bc19 10 = .ok (.areturn, 1) := by decide +kernel
abbrev M_20 : MethodName := ⟨"java/util/ArrayList", "grow", "()[Ljava/lang/Object;"⟩
theorem pd_12 : parseMethodDescriptor "()[Ljava/lang/Object;" = some ⟨[], some (.array (.object "java/lang/Object"))⟩ := by decide +kernel
theorem d18_10 : decode bc18 10 = .ok (.astore_n 2, 1) := by decide +kernel
theorem d18_11 : decode bc18 11 = .ok (.aload_n 2, 1) := by decide +kernel
theorem d18_12 : decode bc18 12 = .ok (.iload_n 3, 1) := by decide +kernel
theorem d18_13 : decode bc18 13 = .ok (.aload_n 1, 1) := by decide +kernel
theorem d18_14 : decode bc18 14 = .ok (.aastore, 1) := by decide +kernel
theorem d18_15 : decode bc18 15 = .ok (.aload_n 0, 1) := by decide +kernel
theorem d18_16 : decode bc18 16 = .ok (.iload_n 3, 1) := by decide +kernel
theorem d18_17 : decode bc18 17 = .ok (.iconst 1, 1) := by decide +kernel
theorem d18_18 : decode bc18 18 = .ok (.iadd, 1) := by decide +kernel
theorem d18_19 : decode bc18 19 = .ok (.putfield 48, 3) := by decide +kernel
theorem d18_22 : decode bc18 22 = .ok (.return_, 1) := by decide +kernel
theorem own_sl33 {Z : State} {a0 : Array Value} (hw : own_HW Z a0) : Jvm.RoadKit.slotOf Z "java/util/ArrayList" "elementData" "[Ljava/lang/Object;" ≠ Jvm.RoadKit.slotOf Z "java/util/ArrayList" "size" "I" := slot_ne (Or.inl (ww29 hw)) (Or.inl (ww61 hw)) (by decide) (t := (.array (.object "java/lang/Object"))) (t' := .int) (by decide) (by decide)
theorem own_sl34 {Z : State} {a0 : Array Value} (hw : own_HW Z a0) : Jvm.RoadKit.slotOf Z "java/util/AbstractList" "modCount" "I" ≠ Jvm.RoadKit.slotOf Z "java/util/ArrayList" "size" "I" := slot_ne (Or.inl (ww26 hw)) (Or.inl (ww61 hw)) (by decide) (t := .int) (t' := .int) (by decide) (by decide)
abbrev M_21 : MethodName := ⟨"java/util/ArrayList", "add", "(Ljava/lang/Object;[Ljava/lang/Object;I)V"⟩
theorem pd_13 : parseMethodDescriptor "(Ljava/lang/Object;[Ljava/lang/Object;I)V" = some ⟨[(.object "java/lang/Object"), (.array (.object "java/lang/Object")), .int], none⟩ := by decide +kernel
theorem d17_23 : decode bc17 23 = .ok (.iconst 1, 1) := by decide +kernel
theorem d17_24 : decode bc17 24 = .ok (.ireturn, 1) := by decide +kernel
abbrev M_22 : MethodName := ⟨"java/util/ArrayList", "add", "(Ljava/lang/Object;)Z"⟩
theorem pd_14 : parseMethodDescriptor "(Ljava/lang/Object;)Z" = some ⟨[(.object "java/lang/Object")], some .boolean⟩ := by decide +kernel
theorem d11_14 : decode bc11 14 = .ok (.iconst 1, 1) := by decide +kernel
theorem d11_15 : decode bc11 15 = .ok (.goto 4, 3) := by decide +kernel
theorem d7_56 : decode bc7 56 = .ok (.aload_n 3, 1) := by decide +kernel
theorem d7_57 : decode bc7 57 = .ok (.invokeinterface 39 1, 5) := by decide +kernel
abbrev bc22 : ByteArray := jdk_49_method_3_code
theorem d22_0 : decode bc22 0 = .ok (.aload_n 0, 1) := by decide +kernel
theorem d22_1 : decode bc22 1 = .ok (.invokevirtual 31, 3) := by decide +kernel
abbrev bc23 : ByteArray := jdk_49_method_6_code
theorem d23_0 : decode bc23 0 = .ok (.aload_n 0, 1) := by decide +kernel
theorem d23_1 : decode bc23 1 = .ok (.getfield 1, 3) := by decide +kernel
theorem d23_4 : decode bc23 4 = .ok (.getfield 17, 3) := by decide +kernel
theorem d23_7 : decode bc23 7 = .ok (.aload_n 0, 1) := by decide +kernel
theorem d23_8 : decode bc23 8 = .ok (.getfield 22, 3) := by decide +kernel
theorem d23_11 : decode bc23 11 = .ok (.if_icmp .eq 11, 3) := by decide +kernel
theorem d23_22 : decode bc23 22 = .ok (.return_, 1) := by decide +kernel
abbrev M_23 : MethodName := ⟨"java/util/ArrayList$Itr", "checkForComodification", "()V"⟩
theorem d22_4 : decode bc22 4 = .ok (.aload_n 0, 1) := by decide +kernel
theorem d22_5 : decode bc22 5 = .ok (.getfield 25, 3) := by decide +kernel
theorem d22_8 : decode bc22 8 = .ok (.istore_n 1, 1) := by decide +kernel
theorem d22_9 : decode bc22 9 = .ok (.iload_n 1, 1) := by decide +kernel
theorem d22_10 : decode bc22 10 = .ok (.aload_n 0, 1) := by decide +kernel
theorem d22_11 : decode bc22 11 = .ok (.getfield 1, 3) := by decide +kernel
theorem d22_14 : decode bc22 14 = .ok (.getfield 28, 3) := by decide +kernel
theorem d22_17 : decode bc22 17 = .ok (.if_icmp .lt 11, 3) := by decide +kernel
theorem d22_28 : decode bc22 28 = .ok (.aload_n 0, 1) := by decide +kernel
theorem d22_29 : decode bc22 29 = .ok (.getfield 1, 3) := by decide +kernel
theorem d22_32 : decode bc22 32 = .ok (.getfield 37, 3) := by decide +kernel
theorem d22_35 : decode bc22 35 = .ok (.astore_n 2, 1) := by decide +kernel
theorem d22_36 : decode bc22 36 = .ok (.iload_n 1, 1) := by decide +kernel
theorem d22_37 : decode bc22 37 = .ok (.aload_n 2, 1) := by decide +kernel
theorem d22_38 : decode bc22 38 = .ok (.arraylength, 1) := by decide +kernel
theorem d22_39 : decode bc22 39 = .ok (.if_icmp .lt 11, 3) := by decide +kernel
theorem d22_50 : decode bc22 50 = .ok (.aload_n 0, 1) := by decide +kernel
theorem d22_51 : decode bc22 51 = .ok (.iload_n 1, 1) := by decide +kernel
theorem d22_52 : decode bc22 52 = .ok (.iconst 1, 1) := by decide +kernel
theorem d22_53 : decode bc22 53 = .ok (.iadd, 1) := by decide +kernel
theorem d22_54 : decode bc22 54 = .ok (.putfield 25, 3) := by decide +kernel
theorem d22_57 : decode bc22 57 = .ok (.aload_n 2, 1) := by decide +kernel
theorem d22_58 : decode bc22 58 = .ok (.aload_n 0, 1) := by decide +kernel
theorem d22_59 : decode bc22 59 = .ok (.iload_n 1, 1) := by decide +kernel
theorem d22_60 : decode bc22 60 = .ok (.dup_x1, 1) := by decide +kernel
theorem d22_61 : decode bc22 61 = .ok (.putfield 13, 3) := by decide +kernel
theorem own_sl35 {Z : State} {a0 : Array Value} (hw : own_HW Z a0) : Jvm.RoadKit.slotOf Z "java/util/ArrayList$Itr" "lastRet" "I" ≠ Jvm.RoadKit.slotOf Z "java/util/ArrayList$Itr" "cursor" "I" := slot_ne (Or.inl (ww85 hw)) (Or.inl (ww100 hw)) (by decide) (t := .int) (t' := .int) (by decide) (by decide)
theorem d22_64 : decode bc22 64 = .ok (.aaload, 1) := by decide +kernel
theorem d22_65 : decode bc22 65 = .ok (.areturn, 1) := by decide +kernel
theorem own_sl36 {Z : State} {a0 : Array Value} (hw : own_HW Z a0) : Jvm.RoadKit.slotOf Z "java/util/ArrayList$Itr" "expectedModCount" "I" ≠ Jvm.RoadKit.slotOf Z "java/util/ArrayList$Itr" "cursor" "I" := slot_ne (Or.inl (ww89 hw)) (Or.inl (ww100 hw)) (by decide) (t := .int) (t' := .int) (by decide) (by decide)
theorem own_sl37 {Z : State} {a0 : Array Value} (hw : own_HW Z a0) : Jvm.RoadKit.slotOf Z "java/util/ArrayList$Itr" "this$0" "Ljava/util/ArrayList;" ≠ Jvm.RoadKit.slotOf Z "java/util/ArrayList$Itr" "cursor" "I" := slot_ne (Or.inr (ww82 hw)) (Or.inl (ww100 hw)) (by decide) (t := (.object "java/util/ArrayList")) (t' := .int) (by decide) (by decide)
abbrev M_24 : MethodName := ⟨"java/util/ArrayList$Itr", "next", "()Ljava/lang/Object;"⟩
theorem pd_15 : parseMethodDescriptor "()Ljava/lang/Object;" = some ⟨[], some (.object "java/lang/Object")⟩ := by decide +kernel
abbrev M_25 : MethodName := ⟨"java/util/Iterator", "next", "()Ljava/lang/Object;"⟩
theorem d7_62 : decode bc7 62 = .ok (.checkcast 43, 3) := by decide +kernel
theorem d7_65 : decode bc7 65 = .ok (.astore 4, 2) := by decide +kernel
theorem d7_67 : decode bc7 67 = .ok (.aload_n 0, 1) := by decide +kernel
theorem d7_68 : decode bc7 68 = .ok (.getfield 23, 3) := by decide +kernel
theorem d7_71 : decode bc7 71 = .ok (.aload_n 0, 1) := by decide +kernel
theorem d7_72 : decode bc7 72 = .ok (.getfield 23, 3) := by decide +kernel
theorem d7_75 : decode bc7 75 = .ok (.arraylength, 1) := by decide +kernel
theorem d7_76 : decode bc7 76 = .ok (.iconst 1, 1) := by decide +kernel
theorem d7_77 : decode bc7 77 = .ok (.isub, 1) := by decide +kernel
theorem d7_78 : decode bc7 78 = .ok (.aload_n 0, 1) := by decide +kernel
theorem d7_79 : decode bc7 79 = .ok (.dup, 1) := by decide +kernel
theorem d7_80 : decode bc7 80 = .ok (.getfield 45, 3) := by decide +kernel
theorem d7_83 : decode bc7 83 = .ok (.dup_x1, 1) := by decide +kernel
theorem d7_84 : decode bc7 84 = .ok (.iconst 1, 1) := by decide +kernel
theorem d7_85 : decode bc7 85 = .ok (.iadd, 1) := by decide +kernel
theorem d7_86 : decode bc7 86 = .ok (.putfield 45, 3) := by decide +kernel
theorem d7_89 : decode bc7 89 = .ok (.isub, 1) := by decide +kernel
theorem d7_90 : decode bc7 90 = .ok (.aload 4, 2) := by decide +kernel
theorem d7_92 : decode bc7 92 = .ok (.invokevirtual 49, 3) := by decide +kernel
abbrev bc24 : ByteArray := jdk_37_method_2_code
theorem d24_0 : decode bc24 0 = .ok (.aload_n 0, 1) := by decide +kernel
theorem d24_1 : decode bc24 1 = .ok (.getfield 7, 3) := by decide +kernel
theorem d24_4 : decode bc24 4 = .ok (.ireturn, 1) := by decide +kernel
abbrev M_26 : MethodName := ⟨"java/lang/Enum", "ordinal", "()I"⟩
theorem pn_8 : plainName "java/lang/Enum" = true := by first | (simp [plainName, overriddenIn]; done) | decide +kernel
abbrev M_27 : MethodName := ⟨"com/example/railspan/railspan/game/Card", "ordinal", "()I"⟩
theorem d7_95 : decode bc7 95 = .ok (.iastore, 1) := by decide +kernel
theorem d7_96 : decode bc7 96 = .ok (.goto (-49), 3) := by decide +kernel
theorem own_sl38 {Z : State} {a0 : Array Value} (hw : own_HW Z a0) : Jvm.RoadKit.slotOf Z "com/example/railspan/railspan/game/CardPiles" "market" "[I" ≠ Jvm.RoadKit.slotOf Z "com/example/railspan/railspan/game/CardPiles" "deckSize" "I" := slot_ne (Or.inr (ww48 hw)) (Or.inl (ww112 hw)) (by decide) (t := (.array .int)) (t' := .int) (by decide) (by decide)
theorem own_sl39 {Z : State} {a0 : Array Value} (hw : own_HW Z a0) : Jvm.RoadKit.slotOf Z "com/example/railspan/railspan/game/CardPiles" "deck" "[I" ≠ Jvm.RoadKit.slotOf Z "com/example/railspan/railspan/game/CardPiles" "deckSize" "I" := slot_ne (Or.inr (ww63 hw)) (Or.inl (ww112 hw)) (by decide) (t := (.array .int)) (t' := .int) (by decide) (by decide)
theorem own_sl40 {Z : State} {a0 : Array Value} (hw : own_HW Z a0) : Jvm.RoadKit.slotOf Z "com/example/railspan/railspan/game/CardPiles" "discard" "[I" ≠ Jvm.RoadKit.slotOf Z "com/example/railspan/railspan/game/CardPiles" "deckSize" "I" := slot_ne (Or.inr (ww65 hw)) (Or.inl (ww112 hw)) (by decide) (t := (.array .int)) (t' := .int) (by decide) (by decide)
theorem own_sl41 {Z : State} {a0 : Array Value} (hw : own_HW Z a0) : Jvm.RoadKit.slotOf Z "com/example/railspan/railspan/game/CardPiles" "discardSize" "I" ≠ Jvm.RoadKit.slotOf Z "com/example/railspan/railspan/game/CardPiles" "deckSize" "I" := slot_ne (Or.inl (ww114 hw)) (Or.inl (ww112 hw)) (by decide) (t := .int) (t' := .int) (by decide) (by decide)
theorem own_sl42 {Z : State} {a0 : Array Value} (hw : own_HW Z a0) : Jvm.RoadKit.slotOf Z "com/example/railspan/railspan/game/CardPiles" "generator" "Lcom/example/railspan/railspan/game/Generator;" ≠ Jvm.RoadKit.slotOf Z "com/example/railspan/railspan/game/CardPiles" "deckSize" "I" := slot_ne (Or.inr (ww50 hw)) (Or.inl (ww112 hw)) (by decide) (t := (.object "com/example/railspan/railspan/game/Generator")) (t' := .int) (by decide) (by decide)
theorem d16_12 : decode bc16 12 = .ok (.iconst 1, 1) := by decide +kernel
theorem d16_13 : decode bc16 13 = .ok (.goto 4, 3) := by decide +kernel
theorem d13_61 : decode bc13 61 = .ok (.aload_n 0, 1) := by decide +kernel
theorem d13_62 : decode bc13 62 = .ok (.getfield 23, 3) := by decide +kernel
theorem d13_65 : decode bc13 65 = .ok (.aload_n 0, 1) := by decide +kernel
theorem d13_66 : decode bc13 66 = .ok (.dup, 1) := by decide +kernel
theorem d13_67 : decode bc13 67 = .ok (.getfield 45, 3) := by decide +kernel
theorem d13_70 : decode bc13 70 = .ok (.iconst 1, 1) := by decide +kernel
theorem d13_71 : decode bc13 71 = .ok (.isub, 1) := by decide +kernel
theorem d13_72 : decode bc13 72 = .ok (.dup_x1, 1) := by decide +kernel
theorem d13_73 : decode bc13 73 = .ok (.putfield 45, 3) := by decide +kernel
theorem d13_76 : decode bc13 76 = .ok (.iaload, 1) := by decide +kernel
theorem d13_77 : decode bc13 77 = .ok (.ireturn, 1) := by decide +kernel
theorem d15_7 : decode bc15 7 = .ok (.aload_n 0, 1) := by decide +kernel
theorem d15_8 : decode bc15 8 = .ok (.getfield 26, 3) := by decide +kernel
theorem d15_11 : decode bc15 11 = .ok (.aload_n 0, 1) := by decide +kernel
theorem d15_12 : decode bc15 12 = .ok (.dup, 1) := by decide +kernel
theorem d15_13 : decode bc15 13 = .ok (.getfield 58, 3) := by decide +kernel
theorem d15_16 : decode bc15 16 = .ok (.dup_x1, 1) := by decide +kernel
theorem d15_17 : decode bc15 17 = .ok (.iconst 1, 1) := by decide +kernel
theorem d15_18 : decode bc15 18 = .ok (.iadd, 1) := by decide +kernel
theorem d15_19 : decode bc15 19 = .ok (.putfield 58, 3) := by decide +kernel
theorem d15_22 : decode bc15 22 = .ok (.aload_n 1, 1) := by decide +kernel
theorem d15_23 : decode bc15 23 = .ok (.invokevirtual 49, 3) := by decide +kernel
theorem d15_26 : decode bc15 26 = .ok (.iastore, 1) := by decide +kernel
theorem d15_27 : decode bc15 27 = .ok (.iinc 3 1, 3) := by decide +kernel
theorem d15_30 : decode bc15 30 = .ok (.goto (-28), 3) := by decide +kernel
theorem own_sl43 {Z : State} {a0 : Array Value} (hw : own_HW Z a0) : Jvm.RoadKit.slotOf Z "com/example/railspan/railspan/game/CardPiles" "deck" "[I" ≠ Jvm.RoadKit.slotOf Z "com/example/railspan/railspan/game/CardPiles" "discardSize" "I" := slot_ne (Or.inr (ww63 hw)) (Or.inl (ww114 hw)) (by decide) (t := (.array .int)) (t' := .int) (by decide) (by decide)
theorem own_sl44 {Z : State} {a0 : Array Value} (hw : own_HW Z a0) : Jvm.RoadKit.slotOf Z "com/example/railspan/railspan/game/CardPiles" "deckSize" "I" ≠ Jvm.RoadKit.slotOf Z "com/example/railspan/railspan/game/CardPiles" "discardSize" "I" := slot_ne (Or.inl (ww112 hw)) (Or.inl (ww114 hw)) (by decide) (t := .int) (t' := .int) (by decide) (by decide)
theorem own_sl45 {Z : State} {a0 : Array Value} (hw : own_HW Z a0) : Jvm.RoadKit.slotOf Z "com/example/railspan/railspan/game/CardPiles" "discard" "[I" ≠ Jvm.RoadKit.slotOf Z "com/example/railspan/railspan/game/CardPiles" "discardSize" "I" := slot_ne (Or.inr (ww65 hw)) (Or.inl (ww114 hw)) (by decide) (t := (.array .int)) (t' := .int) (by decide) (by decide)
theorem own_sl46 {Z : State} {a0 : Array Value} (hw : own_HW Z a0) : Jvm.RoadKit.slotOf Z "com/example/railspan/railspan/game/CardPiles" "generator" "Lcom/example/railspan/railspan/game/Generator;" ≠ Jvm.RoadKit.slotOf Z "com/example/railspan/railspan/game/CardPiles" "discardSize" "I" := slot_ne (Or.inr (ww50 hw)) (Or.inl (ww114 hw)) (by decide) (t := (.object "com/example/railspan/railspan/game/Generator")) (t' := .int) (by decide) (by decide)
theorem own_sl47 {Z : State} {a0 : Array Value} (hw : own_HW Z a0) : Jvm.RoadKit.slotOf Z "com/example/railspan/railspan/game/CardPiles" "market" "[I" ≠ Jvm.RoadKit.slotOf Z "com/example/railspan/railspan/game/CardPiles" "discardSize" "I" := slot_ne (Or.inr (ww48 hw)) (Or.inl (ww114 hw)) (by decide) (t := (.array .int)) (t' := .int) (by decide) (by decide)
theorem d13_16 : decode bc13 16 = .ok (.aload_n 0, 1) := by decide +kernel
theorem d13_17 : decode bc13 17 = .ok (.getfield 26, 3) := by decide +kernel
theorem d13_20 : decode bc13 20 = .ok (.iconst 0, 1) := by decide +kernel
theorem d13_21 : decode bc13 21 = .ok (.aload_n 0, 1) := by decide +kernel
theorem d13_22 : decode bc13 22 = .ok (.getfield 23, 3) := by decide +kernel
theorem d13_25 : decode bc13 25 = .ok (.iconst 0, 1) := by decide +kernel
theorem d13_26 : decode bc13 26 = .ok (.aload_n 0, 1) := by decide +kernel
theorem d13_27 : decode bc13 27 = .ok (.getfield 58, 3) := by decide +kernel
theorem d13_30 : decode bc13 30 = .ok (.invokestatic 61, 3) := by decide +kernel
theorem d13_33 : decode bc13 33 = .ok (.aload_n 0, 1) := by decide +kernel
theorem d13_34 : decode bc13 34 = .ok (.aload_n 0, 1) := by decide +kernel
theorem d13_35 : decode bc13 35 = .ok (.getfield 58, 3) := by decide +kernel
theorem d13_38 : decode bc13 38 = .ok (.putfield 45, 3) := by decide +kernel
theorem d13_41 : decode bc13 41 = .ok (.aload_n 0, 1) := by decide +kernel
theorem d13_42 : decode bc13 42 = .ok (.iconst 0, 1) := by decide +kernel
theorem d13_43 : decode bc13 43 = .ok (.putfield 58, 3) := by decide +kernel
theorem d13_46 : decode bc13 46 = .ok (.aload_n 0, 1) := by decide +kernel
theorem d13_47 : decode bc13 47 = .ok (.getfield 13, 3) := by decide +kernel
theorem d13_50 : decode bc13 50 = .ok (.aload_n 0, 1) := by decide +kernel
theorem d13_51 : decode bc13 51 = .ok (.getfield 23, 3) := by decide +kernel
theorem d13_54 : decode bc13 54 = .ok (.aload_n 0, 1) := by decide +kernel
theorem d13_55 : decode bc13 55 = .ok (.getfield 45, 3) := by decide +kernel
theorem d13_58 : decode bc13 58 = .ok (.invokevirtual 67, 3) := by decide +kernel
abbrev bc25 : ByteArray := prog_23_method_6_code
theorem d25_0 : decode bc25 0 = .ok (.iload_n 2, 1) := by decide +kernel
theorem d25_1 : decode bc25 1 = .ok (.iconst 1, 1) := by decide +kernel
theorem d25_2 : decode bc25 2 = .ok (.isub, 1) := by decide +kernel
theorem d25_3 : decode bc25 3 = .ok (.istore_n 3, 1) := by decide +kernel
theorem d25_4 : decode bc25 4 = .ok (.iload_n 3, 1) := by decide +kernel
theorem d25_5 : decode bc25 5 = .ok (.ifCond .le 36, 3) := by decide +kernel
theorem d25_41 : decode bc25 41 = .ok (.return_, 1) := by decide +kernel
abbrev M_28 : MethodName := ⟨"com/example/railspan/railspan/game/Generator", "shuffle", "([II)V"⟩
theorem d25_8 : decode bc25 8 = .ok (.aload_n 0, 1) := by decide +kernel
theorem d25_9 : decode bc25 9 = .ok (.iload_n 3, 1) := by decide +kernel
theorem d25_10 : decode bc25 10 = .ok (.iconst 1, 1) := by decide +kernel
theorem d25_11 : decode bc25 11 = .ok (.iadd, 1) := by decide +kernel
theorem d25_12 : decode bc25 12 = .ok (.invokevirtual 39, 3) := by decide +kernel
abbrev bc26 : ByteArray := prog_23_method_5_code
theorem d26_0 : decode bc26 0 = .ok (.iload_n 1, 1) := by decide +kernel
theorem d26_1 : decode bc26 1 = .ok (.ifCond .gt 17, 3) := by decide +kernel
theorem d26_18 : decode bc26 18 = .ok (.aload_n 0, 1) := by decide +kernel
theorem d26_19 : decode bc26 19 = .ok (.invokevirtual 35, 3) := by decide +kernel
abbrev bc27 : ByteArray := prog_23_method_3_code
theorem d27_0 : decode bc27 0 = .ok (.aload_n 0, 1) := by decide +kernel
theorem d27_1 : decode bc27 1 = .ok (.dup, 1) := by decide +kernel
theorem d27_2 : decode bc27 2 = .ok (.getfield 7, 3) := by decide +kernel
theorem d27_5 : decode bc27 5 = .ok (.ldc2_w 20, 3) := by decide +kernel
theorem d27_8 : decode bc27 8 = .ok (.ladd, 1) := by decide +kernel
theorem d27_9 : decode bc27 9 = .ok (.putfield 7, 3) := by decide +kernel
theorem d27_12 : decode bc27 12 = .ok (.aload_n 0, 1) := by decide +kernel
theorem d27_13 : decode bc27 13 = .ok (.getfield 7, 3) := by decide +kernel
theorem d27_16 : decode bc27 16 = .ok (.invokestatic 13, 3) := by decide +kernel
abbrev bc28 : ByteArray := prog_23_method_4_code
theorem d28_0 : decode bc28 0 = .ok (.lload_n 0, 1) := by decide +kernel
theorem d28_1 : decode bc28 1 = .ok (.lload_n 0, 1) := by decide +kernel
theorem d28_2 : decode bc28 2 = .ok (.bipush 30, 2) := by decide +kernel
theorem d28_4 : decode bc28 4 = .ok (.lushr, 1) := by decide +kernel
theorem d28_5 : decode bc28 5 = .ok (.lxor, 1) := by decide +kernel
theorem d28_6 : decode bc28 6 = .ok (.ldc2_w 22, 3) := by decide +kernel
theorem d28_9 : decode bc28 9 = .ok (.lmul, 1) := by decide +kernel
theorem d28_10 : decode bc28 10 = .ok (.lstore_n 0, 1) := by decide +kernel
theorem d28_11 : decode bc28 11 = .ok (.lload_n 0, 1) := by decide +kernel
theorem d28_12 : decode bc28 12 = .ok (.lload_n 0, 1) := by decide +kernel
theorem d28_13 : decode bc28 13 = .ok (.bipush 27, 2) := by decide +kernel
theorem d28_15 : decode bc28 15 = .ok (.lushr, 1) := by decide +kernel
theorem d28_16 : decode bc28 16 = .ok (.lxor, 1) := by decide +kernel
theorem d28_17 : decode bc28 17 = .ok (.ldc2_w 24, 3) := by decide +kernel
theorem d28_20 : decode bc28 20 = .ok (.lmul, 1) := by decide +kernel
theorem d28_21 : decode bc28 21 = .ok (.lstore_n 0, 1) := by decide +kernel
theorem d28_22 : decode bc28 22 = .ok (.lload_n 0, 1) := by decide +kernel
theorem d28_23 : decode bc28 23 = .ok (.lload_n 0, 1) := by decide +kernel
theorem d28_24 : decode bc28 24 = .ok (.bipush 31, 2) := by decide +kernel
theorem d28_26 : decode bc28 26 = .ok (.lushr, 1) := by decide +kernel
theorem d28_27 : decode bc28 27 = .ok (.lxor, 1) := by decide +kernel
theorem d28_28 : decode bc28 28 = .ok (.lreturn, 1) := by decide +kernel
abbrev M_29 : MethodName := ⟨"com/example/railspan/railspan/game/Generator", "mix", "(J)J"⟩
theorem pd_16 : parseMethodDescriptor "(J)J" = some ⟨[.long], some .long⟩ := by decide +kernel
theorem d27_19 : decode bc27 19 = .ok (.lreturn, 1) := by decide +kernel
abbrev M_30 : MethodName := ⟨"com/example/railspan/railspan/game/Generator", "nextLong", "()J"⟩
theorem pd_17 : parseMethodDescriptor "()J" = some ⟨[], some .long⟩ := by decide +kernel
theorem d26_22 : decode bc26 22 = .ok (.iconst 1, 1) := by decide +kernel
theorem d26_23 : decode bc26 23 = .ok (.lushr, 1) := by decide +kernel
theorem d26_24 : decode bc26 24 = .ok (.lstore_n 2, 1) := by decide +kernel
theorem d26_25 : decode bc26 25 = .ok (.lload_n 2, 1) := by decide +kernel
theorem d26_26 : decode bc26 26 = .ok (.iload_n 1, 1) := by decide +kernel
theorem d26_27 : decode bc26 27 = .ok (.i2l, 1) := by decide +kernel
theorem d26_28 : decode bc26 28 = .ok (.lrem, 1) := by decide +kernel
theorem d26_29 : decode bc26 29 = .ok (.lstore 4, 2) := by decide +kernel
theorem d26_31 : decode bc26 31 = .ok (.lload_n 2, 1) := by decide +kernel
theorem d26_32 : decode bc26 32 = .ok (.lload 4, 2) := by decide +kernel
theorem d26_34 : decode bc26 34 = .ok (.lsub, 1) := by decide +kernel
theorem d26_35 : decode bc26 35 = .ok (.iload_n 1, 1) := by decide +kernel
theorem d26_36 : decode bc26 36 = .ok (.iconst 1, 1) := by decide +kernel
theorem d26_37 : decode bc26 37 = .ok (.isub, 1) := by decide +kernel
theorem d26_38 : decode bc26 38 = .ok (.i2l, 1) := by decide +kernel
theorem d26_39 : decode bc26 39 = .ok (.ladd, 1) := by decide +kernel
theorem d26_40 : decode bc26 40 = .ok (.lconst 0, 1) := by decide +kernel
theorem d26_41 : decode bc26 41 = .ok (.lcmp, 1) := by decide +kernel
theorem d26_42 : decode bc26 42 = .ok (.ifCond .ge 19, 3) := by decide +kernel
theorem d26_61 : decode bc26 61 = .ok (.lload 4, 2) := by decide +kernel
theorem d26_63 : decode bc26 63 = .ok (.l2i, 1) := by decide +kernel
theorem d26_64 : decode bc26 64 = .ok (.ireturn, 1) := by decide +kernel
abbrev M_31 : MethodName := ⟨"com/example/railspan/railspan/game/Generator", "nextInt", "(I)I"⟩
theorem pd_18 : parseMethodDescriptor "(I)I" = some ⟨[.int], some .int⟩ := by decide +kernel
theorem d25_15 : decode bc25 15 = .ok (.istore 4, 2) := by decide +kernel
theorem d25_17 : decode bc25 17 = .ok (.aload_n 1, 1) := by decide +kernel
theorem d25_18 : decode bc25 18 = .ok (.iload_n 3, 1) := by decide +kernel
theorem d25_19 : decode bc25 19 = .ok (.iaload, 1) := by decide +kernel
theorem d25_20 : decode bc25 20 = .ok (.istore 5, 2) := by decide +kernel
theorem d25_22 : decode bc25 22 = .ok (.aload_n 1, 1) := by decide +kernel
theorem d25_23 : decode bc25 23 = .ok (.iload_n 3, 1) := by decide +kernel
theorem d25_24 : decode bc25 24 = .ok (.aload_n 1, 1) := by decide +kernel
theorem d25_25 : decode bc25 25 = .ok (.iload 4, 2) := by decide +kernel
theorem d25_27 : decode bc25 27 = .ok (.iaload, 1) := by decide +kernel
theorem d25_28 : decode bc25 28 = .ok (.iastore, 1) := by decide +kernel
theorem d25_29 : decode bc25 29 = .ok (.aload_n 1, 1) := by decide +kernel
theorem d25_30 : decode bc25 30 = .ok (.iload 4, 2) := by decide +kernel
theorem d25_32 : decode bc25 32 = .ok (.iload 5, 2) := by decide +kernel
theorem d25_34 : decode bc25 34 = .ok (.iastore, 1) := by decide +kernel
theorem d25_35 : decode bc25 35 = .ok (.iinc 3 (-1), 3) := by decide +kernel
theorem d25_38 : decode bc25 38 = .ok (.goto (-34), 3) := by decide +kernel
theorem d26_45 : decode bc26 45 = .ok (.aload_n 0, 1) := by decide +kernel
theorem d26_46 : decode bc26 46 = .ok (.invokevirtual 35, 3) := by decide +kernel
theorem d26_49 : decode bc26 49 = .ok (.iconst 1, 1) := by decide +kernel
theorem d26_50 : decode bc26 50 = .ok (.lushr, 1) := by decide +kernel
theorem d26_51 : decode bc26 51 = .ok (.lstore_n 2, 1) := by decide +kernel
theorem d26_52 : decode bc26 52 = .ok (.lload_n 2, 1) := by decide +kernel
theorem d26_53 : decode bc26 53 = .ok (.iload_n 1, 1) := by decide +kernel
theorem d26_54 : decode bc26 54 = .ok (.i2l, 1) := by decide +kernel
theorem d26_55 : decode bc26 55 = .ok (.lrem, 1) := by decide +kernel
theorem d26_56 : decode bc26 56 = .ok (.lstore 4, 2) := by decide +kernel
theorem d26_58 : decode bc26 58 = .ok (.goto (-27), 3) := by decide +kernel
def Q1_2 (Z : State) (p1 : Int32) (h0 : Heap) (n0 : Nat) (v : Option Value) (h : Heap) (L : List Loc) : Prop := ((0 : Int32) < p1 ∧ v = some (.int 0) ∧ Fr n0 L ∧ h = h0) ∨ (¬ ((0 : Int32) < p1) ∧ v = some (.int p1) ∧ Fr n0 L ∧ h = h0)
theorem rm1_2 (l : Launch) (Z : State) (a0 : Array Value) (hw : own_HW Z a0) (p1 : Int32) (h0 : Heap) (n0 : Nat) (O0 : Old Z n0 h0) : own_Met l Z M_0 bc1 2 (some .int) ({ frames := 0, cells := 0, slots := 0, locals := 0 } : Room) #[(.int p1), (.int 0)] h0 (Q1_2 Z p1 h0 n0) := by
  refine own_body (L0 := #[vI p1, vI 0]) (Jvm.Free.JP.mathPlain rfl (by decide +kernel)) (fun m => by first | (simp [entryFrame, mkF, argsToLocals, Value.category]; done) | rfl) fun p e s m below meth c s₁ EN hx hby hml hown hnm hret X0 hZ e0 hh pre0 fin => ?_
  have N0 := Fr.nil n0
  have pre2 : ∀ t, Steps p.tables e below (s₁.setTop (mkF m 2 #[vI p1, vI 0] [(.int 0), (.int p1)])) t → Steps p.tables e below EN t := by
    intro t kt
    refine pre0 t ?_
    refine o_iloadN X0 hx hby d1_0 rfl (o_iloadN X0 hx hby d1_1 rfl ?_)
    exact kt
  by_cases hc3 : (0 : Int32) < p1
  · skip
    refine fin (some (.int 0)) _ _ _ _ X0 nofun (fun fs hr => pre2 _ ?_) (own_atH e0 ?_) (by decide) (by decide)
    · refine o_icmpY X0 hx hby d1_2 (pc := 2) (pc' := 9) (tlt hc3).2.2.1 (by decide) (by decide) (o_iloadN X0 hx hby d1_9 rfl ?_)
      exact retI X0 hx hret (hb hby d1_10) hr
    · exact Or.inl (⟨hc3, rfl, N0, rfl⟩)
  · skip
    refine fin (some (.int p1)) _ _ _ _ X0 nofun (fun fs hr => pre2 _ ?_) (own_atH e0 ?_) (by decide) (by decide)
    · refine o_icmpN X0 hx hby d1_2 (flt hc3).2.2.1 (o_iloadN X0 hx hby d1_5 rfl (o_goto X0 hx hby d1_6 (pc := 6) (pc' := 10) (by decide) (by decide) ?_))
      exact retI X0 hx hret (hb hby d1_10) hr
    · exact Or.inr (⟨hc3, rfl, N0, rfl⟩)
def Q1_3 (Z : State) (p1 : Int32) (p2 : Int32) (h0 : Heap) (n0 : Nat) (v : Option Value) (h : Heap) (L : List Loc) : Prop := (p2 < p1 ∧ v = some (.int p2) ∧ Fr n0 L ∧ h = h0) ∨ (¬ (p2 < p1) ∧ v = some (.int p1) ∧ Fr n0 L ∧ h = h0)
theorem rm1_3 (l : Launch) (Z : State) (a0 : Array Value) (hw : own_HW Z a0) (p1 : Int32) (p2 : Int32) (h0 : Heap) (n0 : Nat) (O0 : Old Z n0 h0) : own_Met l Z M_0 bc1 2 (some .int) ({ frames := 0, cells := 0, slots := 0, locals := 0 } : Room) #[(.int p1), (.int p2)] h0 (Q1_3 Z p1 p2 h0 n0) := by
  refine own_body (L0 := #[vI p1, vI p2]) (Jvm.Free.JP.mathPlain rfl (by decide +kernel)) (fun m => by first | (simp [entryFrame, mkF, argsToLocals, Value.category]; done) | rfl) fun p e s m below meth c s₁ EN hx hby hml hown hnm hret X0 hZ e0 hh pre0 fin => ?_
  have N0 := Fr.nil n0
  have pre3 : ∀ t, Steps p.tables e below (s₁.setTop (mkF m 2 #[vI p1, vI p2] [(.int p2), (.int p1)])) t → Steps p.tables e below EN t := by
    intro t kt
    refine pre0 t ?_
    refine o_iloadN X0 hx hby d1_0 rfl (o_iloadN X0 hx hby d1_1 rfl ?_)
    exact kt
  by_cases hc4 : p2 < p1
  · skip
    refine fin (some (.int p2)) _ _ _ _ X0 nofun (fun fs hr => pre3 _ ?_) (own_atH e0 ?_) (by decide) (by decide)
    · refine o_icmpY X0 hx hby d1_2 (pc := 2) (pc' := 9) (tlt hc4).2.2.1 (by decide) (by decide) (o_iloadN X0 hx hby d1_9 rfl ?_)
      exact retI X0 hx hret (hb hby d1_10) hr
    · exact Or.inl (⟨hc4, rfl, N0, rfl⟩)
  · skip
    refine fin (some (.int p1)) _ _ _ _ X0 nofun (fun fs hr => pre3 _ ?_) (own_atH e0 ?_) (by decide) (by decide)
    · refine o_icmpN X0 hx hby d1_2 (flt hc4).2.2.1 (o_iloadN X0 hx hby d1_5 rfl (o_goto X0 hx hby d1_6 (pc := 6) (pc' := 10) (by decide) (by decide) ?_))
      exact retI X0 hx hret (hb hby d1_10) hr
    · exact Or.inr (⟨hc4, rfl, N0, rfl⟩)
def Q4_6 (Z : State) (a1 : Addr) (h0 : Heap) (n0 : Nat) (v : Option Value) (h : Heap) (L : List Loc) : Prop := (v = none ∧ Fr n0 L ∧ h = h0)
theorem rm4_6 (l : Launch) (Z : State) (a0 : Array Value) (hw : own_HW Z a0) (a1 : Addr) (h0 : Heap) (n0 : Nat) (O0 : Old Z n0 h0) : own_Met l Z M_1 bc4 1 none ({ frames := 1, cells := 0, slots := 0, locals := 12 } : Room) #[(.ref a1)] h0 (Q4_6 Z a1 h0 n0) := by
  refine own_body (L0 := #[vR a1]) (plainFor_of_name pn_0) (fun m => by first | (simp [entryFrame, mkF, argsToLocals, Value.category]; done) | rfl) fun p e s m below meth c s₁ EN hx hby hml hown hnm hret X0 hZ e0 hh pre0 fin => ?_
  have N0 := Fr.nil n0
  obtain ⟨T2, X2, e2, st2⟩ := initO X0 hx hZ hown (ww22 hw) (ww23 hw) (ww24 hw) e0 (g := (mkF m 1 #[vR a1] [(.ref a1)])) rfl (by rw [hml]; rfl) rfl (hb hby d4_1) (by decide) (W := 0) (by show 2 * 0 + _ ≤ _; exact Nat.le_of_eq rfl) (by decide)
  refine fin none _ _ _ _ X2 (fun _ => rfl) (fun fs hr => pre0 _ ?_) (own_atH e2 ?_) (by decide) (by decide)
  · refine o_aloadN X0 hx hby d4_0 rfl rfl (st2 _ ?_)
    exact X2.returnOut hx hret (hb hby d4_4) hr
  · exact ⟨rfl, N0, rfl⟩
def Q3_5 (Z : State) (a1 : Addr) (h0 : Heap) (n0 : Nat) (v : Option Value) (h : Heap) (L : List Loc) : Prop := (v = none ∧ Fr n0 L ∧ Keep h0 h [a1] ∧ Exa Z h a1 C_1 ∧ Fld Z h a1 C_1 "elementData" C_2 .null ∧ Fld Z h a1 C_0 "modCount" "I" (.int 0) ∧ Fld Z h a1 C_1 "size" "I" (.int 0))
theorem rm3_5 (l : Launch) (Z : State) (a0 : Array Value) (hw : own_HW Z a0) (a1 : Addr) (h0 : Heap) (n0 : Nat) (O0 : Old Z n0 h0) (E_6 : Exa Z h0 a1 C_1) (F7 : Fld Z h0 a1 C_1 "elementData" C_2 .null) (F8 : Fld Z h0 a1 C_0 "modCount" "I" (.int 0)) (F9 : Fld Z h0 a1 C_1 "size" "I" (.int 0)) (g_a1 : n0 ≤ a1) : own_Met l Z M_2 bc3 1 none ({ frames := 2, cells := 0, slots := 0, locals := 24 } : Room) #[(.ref a1)] h0 (Q3_5 Z a1 h0 n0) := by
  refine own_body (L0 := #[vR a1]) (plainFor_of_name pn_1) (fun m => by first | (simp [entryFrame, mkF, argsToLocals, Value.category]; done) | rfl) fun p e s m below meth c s₁ EN hx hby hml hown hnm hret X0 hZ e0 hh pre0 fin => ?_
  have N0 := Fr.nil n0
  obtain ⟨_, T2, L2, X2, hQ2, st2⟩ := own_cI X0 hx hZ hown (ww16 hw) (ww17 hw) (ww20 hw) (ww21 hw) (rm4_6 l Z a0 hw a1 h0 n0 O0) e0 pd_1 hml (hb hby d3_1) (Ls := #[vR a1]) (W := 0) (argsL := []) (rest := []) (b := a1)
  obtain ⟨rfl, u4, u5⟩ := hQ2
  have N2 := Fr.app N0 u4
  obtain ⟨T10, h10, X10, e10, W10, st10⟩ := putF X2 hx hZ hown (host := "") (Or.inl (ww25 hw)) Via.refl u5 F8 E_6 (Or.inl (ww26 hw)) (ww5 hw) (ty := .int) (by decide) rfl rfl (g := (mkF m 6 #[vR a1] [(.int 0), (.ref a1)])) rfl rfl (hb hby d3_6)
  have O10 : Old Z n0 h10 := O0.wr W10 g_a1
  have Fw10 : Fld Z h10 a1 C_0 "modCount" "I" (.int 0) := Fld.same W10 F8
  have N10 := Fr.snoc X10 N2 g_a1
  have f11 : Exa Z h10 a1 C_1 := (Exa.wr W10 E_6)
  have f12 : Fld Z h10 a1 C_1 "elementData" C_2 .null := (Fld.other W10 F7 (Or.inr (own_sl0 hw)))
  have f13 : Fld Z h10 a1 C_1 "size" "I" (.int 0) := (Fld.other W10 F9 (Or.inr (own_sl1 hw)))
  refine fin none _ _ _ _ X10 (fun _ => rfl) (fun fs hr => pre0 _ ?_) (own_atH e10 ?_) (by decide) (by decide)
  · refine o_aloadN X0 hx hby d3_0 rfl rfl (st2 _ (o_aloadN X2 hx hby d3_4 rfl rfl (o_iconst X2 hx hby d3_5 (x := 0) rfl (st10 _ ?_))))
    exact X10.returnOut hx hret (hb hby d3_9) hr
  · exact ⟨rfl, N10, ((Keep.refl h0 [a1]).wr W10 (Or.inl (List.mem_of_getElem? (i := 0) rfl))), f11, f12, Fw10, f13⟩
def Q2_4 (Z : State) (a1 : Addr) (a14 : Addr) (h0 : Heap) (n0 : Nat) (v : Option Value) (h : Heap) (L : List Loc) : Prop := (v = none ∧ Fr n0 L ∧ Keep h0 h [a1] ∧ Exa Z h a1 C_1 ∧ Fld Z h a1 C_1 "elementData" C_2 (.ref a14) ∧ Fld Z h a1 C_0 "modCount" "I" (.int 0) ∧ Fld Z h a1 C_1 "size" "I" (.int 0))
theorem rm2_4 (l : Launch) (Z : State) (a0 : Array Value) (hw : own_HW Z a0) (a1 : Addr) (a14 : Addr) (h0 : Heap) (n0 : Nat) (O0 : Old Z n0 h0) (E_2 : Exa Z h0 a1 C_1) (F3 : Fld Z h0 a1 C_1 "elementData" C_2 .null) (F4 : Fld Z h0 a1 C_0 "modCount" "I" (.int 0)) (F5 : Fld Z h0 a1 C_1 "size" "I" (.int 0)) (g_a1 : n0 ≤ a1) (S_15 : Sta Z Z.heap C_1 "DEFAULTCAPACITY_EMPTY_ELEMENTDATA" C_2 (.ref a14)) : own_Met l Z M_3 bc2 1 none ({ frames := 3, cells := 0, slots := 0, locals := 36 } : Room) #[(.ref a1)] h0 (Q2_4 Z a1 a14 h0 n0) := by
  refine own_body (L0 := #[vR a1]) (plainFor_of_name pn_2) (fun m => by first | (simp [entryFrame, mkF, argsToLocals, Value.category]; done) | rfl) fun p e s m below meth c s₁ EN hx hby hml hown hnm hret X0 hZ e0 hh pre0 fin => ?_
  have N0 := Fr.nil n0
  obtain ⟨_, T6, L6, X6, hQ6, st6⟩ := own_cI X0 hx hZ hown (ww10 hw) (ww11 hw) (ww14 hw) (ww15 hw) (rm3_5 l Z a0 hw a1 h0 n0 O0 E_2 F3 F4 F5 g_a1) e0 pd_1 hml (hb hby d2_1) (Ls := #[vR a1]) (W := 0) (argsL := []) (rest := []) (b := a1)
  obtain ⟨rfl, u8, Ku9, u10, u11, u12, u13⟩ := hQ6
  have Ou9 : Old Z n0 T6.heap := O0.keep Ku9 (allS g_a1 all0)
  have N6 := Fr.app N0 u8
  obtain ⟨T16, X16, e16, st16⟩ := getS2 X6 hx hZ hown (host := "") (Or.inl (ww27 hw)) Via.refl rfl (Sta.ext Ou9.2 S_15) (g := (mkF m 5 #[vR a1] [(.ref a1)])) rfl (hb hby d2_5)
  obtain ⟨T17, h17, X17, e17, W17, st17⟩ := putF X16 hx hZ hown (host := "") (Or.inl (ww28 hw)) Via.refl e16 u11 u10 (Or.inl (ww29 hw)) (ww5 hw) (ty := (.array (.object "java/lang/Object"))) (by decide) rfl rfl (g := (mkF m 8 #[vR a1] [(.ref a14), (.ref a1)])) rfl rfl (hb hby d2_8)
  have O17 : Old Z n0 h17 := Ou9.wr W17 g_a1
  have Fw17 : Fld Z h17 a1 C_1 "elementData" C_2 (.ref a14) := Fld.same W17 u11
  have N17 := Fr.snoc X17 N6 g_a1
  have f18 : Exa Z h17 a1 C_1 := (Exa.wr W17 u10)
  have f19 : Fld Z h17 a1 C_0 "modCount" "I" (.int 0) := (Fld.other W17 u12 (Or.inr (own_sl2 hw)))
  have f20 : Fld Z h17 a1 C_1 "size" "I" (.int 0) := (Fld.other W17 u13 (Or.inr (own_sl3 hw)))
  refine fin none _ _ _ _ X17 (fun _ => rfl) (fun fs hr => pre0 _ ?_) (own_atH e17 ?_) (by decide) (by decide)
  · refine o_aloadN X0 hx hby d2_0 rfl rfl (st6 _ (o_aloadN X6 hx hby d2_4 rfl rfl (st16 _ (st17 _ ?_))))
    exact X17.returnOut hx hret (hb hby d2_11) hr
  · exact ⟨rfl, N17, (((Keep.refl h0 [a1]).trans Ku9 (allS (Or.inl (List.mem_of_getElem? (i := 0) rfl)) all0)).wr W17 (Or.inl (List.mem_of_getElem? (i := 0) rfl))), f18, Fw17, f19, f20⟩
def Q6_7 (Z : State) (a1 : Addr) (q2 : Int64) (h0 : Heap) (n0 : Nat) (v : Option Value) (h : Heap) (L : List Loc) : Prop := (v = none ∧ Fr n0 L ∧ Keep h0 h [a1] ∧ Exa Z h a1 C_5 ∧ Fld Z h a1 C_5 "state" "J" (.long q2))
theorem rm6_7 (l : Launch) (Z : State) (a0 : Array Value) (hw : own_HW Z a0) (a1 : Addr) (q2 : Int64) (h0 : Heap) (n0 : Nat) (O0 : Old Z n0 h0) (E_4 : Exa Z h0 a1 C_5) (F5 : Fld Z h0 a1 C_5 "state" "J" (.long 0)) (g_a1 : n0 ≤ a1) : own_Met l Z M_4 bc6 3 none ({ frames := 1, cells := 0, slots := 0, locals := 12 } : Room) #[(.ref a1), (.long q2)] h0 (Q6_7 Z a1 q2 h0 n0) := by
  refine own_body (L0 := #[vR a1, vJ q2, .second]) (plainFor_of_name pn_3) (fun m => by first | (simp [entryFrame, mkF, argsToLocals, Value.category]; done) | rfl) fun p e s m below meth c s₁ EN hx hby hml hown hnm hret X0 hZ e0 hh pre0 fin => ?_
  have N0 := Fr.nil n0
  obtain ⟨T3, X3, e3, st3⟩ := initO X0 hx hZ hown (ww39 hw) (ww23 hw) (ww24 hw) e0 (g := (mkF m 1 #[vR a1, vJ q2, .second] [(.ref a1)])) rfl (by rw [hml]; rfl) rfl (hb hby d6_1) (by decide) (W := 0) (by show 2 * 0 + _ ≤ _; exact Nat.le_of_eq rfl) (by decide)
  obtain ⟨T6, h6, X6, e6, W6, st6⟩ := putF X3 hx hZ hown (host := "") (Or.inl (ww40 hw)) Via.refl e3 F5 E_4 (Or.inl (ww41 hw)) (ww34 hw) (ty := .long) (by decide) rfl rfl (g := (mkF m 6 #[vR a1, vJ q2, .second] [(.long q2), (.ref a1)])) rfl rfl (hb hby d6_6)
  have O6 : Old Z n0 h6 := O0.wr W6 g_a1
  have Fw6 : Fld Z h6 a1 C_5 "state" "J" (.long q2) := Fld.same W6 F5
  have N6 := Fr.snoc X6 N0 g_a1
  have f7 : Exa Z h6 a1 C_5 := (Exa.wr W6 E_4)
  refine fin none _ _ _ _ X6 (fun _ => rfl) (fun fs hr => pre0 _ ?_) (own_atH e6 ?_) (by decide) (by decide)
  · refine o_aloadN X0 hx hby d6_0 rfl rfl (st3 _ (o_aloadN X3 hx hby d6_4 rfl rfl (o_lloadN X3 hx hby d6_5 rfl (st6 _ ?_))))
    exact X6.returnOut hx hret (hb hby d6_9) hr
  · exact ⟨rfl, N6, ((Keep.refl h0 [a1]).wr W6 (Or.inl (List.mem_of_getElem? (i := 0) rfl))), f7, Fw6⟩
def Q8_9 (Z : State) (a1 : Addr) (h0 : Heap) (n0 : Nat) (v : Option Value) (h : Heap) (L : List Loc) : Prop := (v = some (.int 0) ∧ Fr n0 L ∧ h = h0)
theorem rm8_9 (l : Launch) (Z : State) (a0 : Array Value) (hw : own_HW Z a0) (a1 : Addr) (h0 : Heap) (n0 : Nat) (O0 : Old Z n0 h0) (F2 : Fld Z h0 a1 C_1 "size" "I" (.int 0)) : own_Met l Z M_5 bc8 1 (some .int) ({ frames := 0, cells := 0, slots := 0, locals := 0 } : Room) #[(.ref a1)] h0 (Q8_9 Z a1 h0 n0) := by
  refine own_body (L0 := #[vR a1]) (plainFor_of_name pn_2) (fun m => by first | (simp [entryFrame, mkF, argsToLocals, Value.category]; done) | rfl) fun p e s m below meth c s₁ EN hx hby hml hown hnm hret X0 hZ e0 hh pre0 fin => ?_
  have N0 := Fr.nil n0
  obtain ⟨T3, X3, e3, st3⟩ := getF X0 hx hZ hown (host := "") (Or.inl (ww60 hw)) Via.refl e0 F2 (g := (mkF m 1 #[vR a1] [(.ref a1)])) rfl rfl (hb hby d8_1)
  refine fin (some (.int 0)) _ _ _ _ X3 nofun (fun fs hr => pre0 _ ?_) (own_atH e3 ?_) (by decide) (by decide)
  · refine o_aloadN X0 hx hby d8_0 rfl rfl (st3 _ ?_)
    exact retI X3 hx hret (hb hby d8_4) hr
  · exact ⟨rfl, N0, rfl⟩
def Q10_11 (Z : State) (a1 : Addr) (a2 : Addr) (h0 : Heap) (n0 : Nat) (v : Option Value) (h : Heap) (L : List Loc) : Prop := (v = none ∧ Fr n0 L ∧ Keep h0 h [a1] ∧ Exa Z h a1 C_6 ∧ Fld Z h a1 C_6 "cursor" "I" (.int 0) ∧ Fld Z h a1 C_6 "expectedModCount" "I" (.int 0) ∧ Fld Z h a1 C_6 "lastRet" "I" (.int (-1)) ∧ Fld Z h a1 C_6 "this$0" C_7 (.ref a2))
theorem rm10_11 (l : Launch) (Z : State) (a0 : Array Value) (hw : own_HW Z a0) (a1 : Addr) (a2 : Addr) (h0 : Heap) (n0 : Nat) (O0 : Old Z n0 h0) (E_3 : Exa Z h0 a1 C_6) (F4 : Fld Z h0 a1 C_6 "cursor" "I" (.int 0)) (F5 : Fld Z h0 a1 C_6 "expectedModCount" "I" (.int 0)) (F6 : Fld Z h0 a1 C_6 "lastRet" "I" (.int 0)) (F7 : Fld Z h0 a1 C_6 "this$0" C_7 .null) (g_a1 : n0 ≤ a1) (F15 : Fld Z h0 a2 C_0 "modCount" "I" (.int 0)) (hne16 : a2 ≠ a1) : own_Met l Z M_7 bc10 2 none ({ frames := 1, cells := 0, slots := 0, locals := 12 } : Room) #[(.ref a1), (.ref a2)] h0 (Q10_11 Z a1 a2 h0 n0) := by
  refine own_body (L0 := #[vR a1, vR a2]) (plainFor_of_name pn_4) (fun m => by first | (simp [entryFrame, mkF, argsToLocals, Value.category]; done) | rfl) fun p e s m below meth c s₁ EN hx hby hml hown hnm hret X0 hZ e0 hh pre0 fin => ?_
  have N0 := Fr.nil n0
  obtain ⟨T8, h8, X8, e8, W8, st8⟩ := putF X0 hx hZ hown (host := "") (Or.inl (ww81 hw)) Via.refl e0 F7 E_3 (Or.inr ⟨(ww82 hw), rfl, hnm⟩) (ww75 hw) (ty := (.object "java/util/ArrayList")) (by decide) rfl rfl (g := (mkF m 2 #[vR a1, vR a2] [(.ref a2), (.ref a1)])) rfl rfl (hb hby d10_2)
  have O8 : Old Z n0 h8 := O0.wr W8 g_a1
  have Fw8 : Fld Z h8 a1 C_6 "this$0" C_7 (.ref a2) := Fld.same W8 F7
  have N8 := Fr.snoc X8 N0 g_a1
  obtain ⟨T9, X9, e9, st9⟩ := initO X8 hx hZ hown (ww83 hw) (ww23 hw) (ww24 hw) e8 (g := (mkF m 6 #[vR a1, vR a2] [(.ref a1)])) rfl (by rw [hml]; rfl) rfl (hb hby d10_6) (by decide) (W := 0) (by show 2 * 0 + _ ≤ _; exact Nat.le_of_eq rfl) (by decide)
  have f10 : Fld Z h8 a1 C_6 "lastRet" "I" (.int 0) := (Fld.other W8 F6 (Or.inr (own_sl10 hw)))
  have f11 : Exa Z h8 a1 C_6 := (Exa.wr W8 E_3)
  obtain ⟨T12, h12, X12, e12, W12, st12⟩ := putF X9 hx hZ hown (host := "") (Or.inl (ww84 hw)) Via.refl e9 f10 f11 (Or.inl (ww85 hw)) (ww75 hw) (ty := .int) (by decide) rfl rfl (g := (mkF m 11 #[vR a1, vR a2] [(.int (-1)), (.ref a1)])) rfl rfl (hb hby d10_11)
  have O12 : Old Z n0 h12 := O8.wr W12 g_a1
  have Fw12 : Fld Z h12 a1 C_6 "lastRet" "I" (.int (-1)) := Fld.same W12 f10
  have N12 := Fr.snoc X12 N8 g_a1
  have f13 : Fld Z h12 a1 C_6 "this$0" C_7 (.ref a2) := (Fld.other W12 Fw8 (Or.inr (own_sl11 hw)))
  obtain ⟨T14, X14, e14, st14⟩ := getF X12 hx hZ hown (host := "") (Or.inl (ww81 hw)) Via.refl e12 f13 (g := (mkF m 16 #[vR a1, vR a2] [(.ref a1), (.ref a1)])) rfl rfl (hb hby d10_16)
  have f17 : Fld Z h12 a2 C_0 "modCount" "I" (.int 0) := (Fld.other W12 (Fld.other W8 F15 (Or.inl hne16)) (Or.inl hne16))
  obtain ⟨T18, X18, e18, st18⟩ := getF X14 hx hZ hown (host := "") (Or.inl (ww86 hw)) (Via.of (ww87 hw)) e14 f17 (g := (mkF m 19 #[vR a1, vR a2] [(.ref a2), (.ref a1)])) rfl rfl (hb hby d10_19)
  have f19 : Fld Z h12 a1 C_6 "expectedModCount" "I" (.int 0) := (Fld.other W12 (Fld.other W8 F5 (Or.inr (own_sl12 hw))) (Or.inr (own_sl13 hw)))
  have f20 : Exa Z h12 a1 C_6 := (Exa.wr W12 f11)
  obtain ⟨T21, h21, X21, e21, W21, st21⟩ := putF X18 hx hZ hown (host := "") (Or.inl (ww88 hw)) Via.refl e18 f19 f20 (Or.inl (ww89 hw)) (ww75 hw) (ty := .int) (by decide) rfl rfl (g := (mkF m 22 #[vR a1, vR a2] [(.int 0), (.ref a1)])) rfl rfl (hb hby d10_22)
  have O21 : Old Z n0 h21 := O12.wr W21 g_a1
  have Fw21 : Fld Z h21 a1 C_6 "expectedModCount" "I" (.int 0) := Fld.same W21 f19
  have N21 := Fr.snoc X21 N12 g_a1
  have f22 : Exa Z h21 a1 C_6 := (Exa.wr W21 f20)
  have f23 : Fld Z h21 a1 C_6 "cursor" "I" (.int 0) := (Fld.other W21 (Fld.other W12 (Fld.other W8 F4 (Or.inr (own_sl14 hw))) (Or.inr (own_sl15 hw))) (Or.inr (own_sl16 hw)))
  have f24 : Fld Z h21 a1 C_6 "lastRet" "I" (.int (-1)) := (Fld.other W21 Fw12 (Or.inr (own_sl17 hw)))
  have f25 : Fld Z h21 a1 C_6 "this$0" C_7 (.ref a2) := (Fld.other W21 f13 (Or.inr (own_sl18 hw)))
  refine fin none _ _ _ _ X21 (fun _ => rfl) (fun fs hr => pre0 _ ?_) (own_atH e21 ?_) (by decide) (by decide)
  · refine o_aloadN X0 hx hby d10_0 rfl rfl (o_aloadN X0 hx hby d10_1 rfl rfl (st8 _ (o_aloadN X8 hx hby d10_5 rfl rfl (st9 _ (o_aloadN X9 hx hby d10_9 rfl rfl (o_iconst X9 hx hby d10_10 (x := -1) rfl (st12 _ (o_aloadN X12 hx hby d10_14 rfl rfl (o_aloadN X12 hx hby d10_15 rfl rfl (st14 _ (st18 _ (st21 _ ?_))))))))))))
    exact X21.returnOut hx hret (hb hby d10_25) hr
  · exact ⟨rfl, N21, ((((Keep.refl h0 [a1]).wr W8 (Or.inl (List.mem_of_getElem? (i := 0) rfl))).wr W12 (Or.inl (List.mem_of_getElem? (i := 0) rfl))).wr W21 (Or.inl (List.mem_of_getElem? (i := 0) rfl))), f22, f23, Fw21, f24, f25⟩
def Q9_10 (Z : State) (a1 : Addr) (h0 : Heap) (n0 : Nat) (v : Option Value) (h : Heap) (L : List Loc) : Prop := (∃ (b2 : Addr), v = some (.ref b2) ∧ Fr n0 L ∧ h0.size ≤ b2 ∧ b2 < h.size ∧ Keep h0 h [] ∧ Exa Z h b2 C_6 ∧ Fld Z h b2 C_6 "cursor" "I" (.int 0) ∧ Fld Z h b2 C_6 "expectedModCount" "I" (.int 0) ∧ Fld Z h b2 C_6 "lastRet" "I" (.int (-1)) ∧ Fld Z h b2 C_6 "this$0" C_7 (.ref a1))
theorem rm9_10 (l : Launch) (Z : State) (a0 : Array Value) (hw : own_HW Z a0) (a1 : Addr) (h0 : Heap) (n0 : Nat) (O0 : Old Z n0 h0) (F3 : Fld Z h0 a1 C_0 "modCount" "I" (.int 0)) (lt_a1 : a1 < h0.size) : own_Met l Z M_8 bc9 1 (some (.object "java/util/Iterator")) ({ frames := 2, cells := 1, slots := 4, locals := 26 } : Room) #[(.ref a1)] h0 (Q9_10 Z a1 h0 n0) := by
  refine own_body (L0 := #[vR a1]) (plainFor_of_name pn_2) (fun m => by first | (simp [entryFrame, mkF, argsToLocals, Value.category]; done) | rfl) fun p e s m below meth c s₁ EN hx hby hml hown hnm hret X0 hZ e0 hh pre0 fin => ?_
  have N0 := Fr.nil n0
  obtain ⟨T2, h2, X2, e2, E2, A2, D2, -, st2⟩ := newO X0 hx hZ hown (ww74 hw) (ww75 hw) (ww76 hw) e0 (g := (mkF m 0 #[vR a1] [])) rfl (hb hby d9_0) (by decide) (by decide)
  obtain ⟨b2, g2⟩ : ∃ z, z = h0.size := ⟨_, rfl⟩
  rw [← g2] at A2 D2 st2
  have O2 : Old Z n0 h2 := O0.ext E2
  have bd_b2 : h0.size ≤ b2 := Nat.le_of_eq g2.symm
  have g_b2 : n0 ≤ b2 := Nat.le_trans (own_z O0) bd_b2
  have sz_b2 : h0.size ≤ b2 := Nat.le_trans (Nat.le_refl _) bd_b2
  have lt_b2 : b2 < h2.size := A2.lt
  have D2_82 : Fld Z h2 b2 C_6 "this$0" C_7 .null := D2 (Or.inr (ww82 hw)) (ty := (.object "java/util/ArrayList")) (by decide)
  have D2_85 : Fld Z h2 b2 C_6 "lastRet" "I" (.int 0) := D2 (Or.inl (ww85 hw)) (ty := .int) (by decide)
  have D2_89 : Fld Z h2 b2 C_6 "expectedModCount" "I" (.int 0) := D2 (Or.inl (ww89 hw)) (ty := .int) (by decide)
  have D2_100 : Fld Z h2 b2 C_6 "cursor" "I" (.int 0) := D2 (Or.inl (ww100 hw)) (ty := .int) (by decide)
  have f4 : Fld Z h2 a1 C_0 "modCount" "I" (.int 0) := (Fld.ext E2 F3)
  obtain ⟨_, T5, L5, X5, hQ5, st5⟩ := own_cI X2 hx hZ hown (ww77 hw) (ww78 hw) (ww76 hw) (ww80 hw) (rm10_11 l Z a0 hw b2 a1 h2 n0 O2 A2 D2_100 D2_89 D2_85 D2_82 g_b2 f4 (own_n lt_a1 bd_b2)) e2 pd_4 hml (hb hby d9_5) (Ls := #[vR a1]) (W := 1) (argsL := [(.ref a1)]) (rest := [(.ref b2)]) (b := b2)
  obtain ⟨rfl, u7, Ku8, u9, u10, u11, u12, u13⟩ := hQ5
  have Ou8 : Old Z n0 T5.heap := O2.keep Ku8 (allS g_b2 all0)
  have N5 := Fr.app N0 u7
  refine fin (some (.ref b2)) _ _ _ _ X5 nofun (fun fs hr => pre0 _ ?_) ?_ (by decide) (by decide)
  · refine st2 _ (o_dup X2 hx hby d9_3 rfl (o_aloadN X2 hx hby d9_4 rfl rfl (st5 _ ?_)))
    show Steps p.tables e below (T5.setTop (mkF m 8 #[vR a1] [(.ref b2)])) _
    jvm_step X5.here [X5.here.top, hx, (hb hby d9_8), X5.method', hret, Value.isRef, FieldType.isReference]
    first | (intro acts; rw [hr _ acts rfl rfl rfl]) | rw [hr _ _ rfl rfl rfl]
    exact Steps.refl _
  · exact ⟨b2, rfl, N5, sz_b2, (own_t lt_b2 Ku8.1), (((Keep.refl h0 []).ext E2).trans Ku8 (allS (Or.inr sz_b2) all0)), u9, u10, u11, u12, u13⟩
def Q11_12 (Z : State) (a1 : Addr) (a4 : Addr) (h0 : Heap) (n0 : Nat) (v : Option Value) (h : Heap) (L : List Loc) : Prop := (v = some (.int 0) ∧ Fr n0 L ∧ h = h0)
theorem rm11_12 (l : Launch) (Z : State) (a0 : Array Value) (hw : own_HW Z a0) (a1 : Addr) (a4 : Addr) (h0 : Heap) (n0 : Nat) (O0 : Old Z n0 h0) (F2 : Fld Z h0 a1 C_6 "cursor" "I" (.int 0)) (F5 : Fld Z h0 a1 C_6 "this$0" C_7 (.ref a4)) (F7 : Fld Z h0 a4 C_1 "size" "I" (.int 0)) : own_Met l Z M_10 bc11 1 (some .boolean) ({ frames := 0, cells := 0, slots := 0, locals := 0 } : Room) #[(.ref a1)] h0 (Q11_12 Z a1 a4 h0 n0) := by
  refine own_body (L0 := #[vR a1]) (plainFor_of_name pn_4) (fun m => by first | (simp [entryFrame, mkF, argsToLocals, Value.category]; done) | rfl) fun p e s m below meth c s₁ EN hx hby hml hown hnm hret X0 hZ e0 hh pre0 fin => ?_
  have N0 := Fr.nil n0
  obtain ⟨T3, X3, e3, st3⟩ := getF X0 hx hZ hown (host := "") (Or.inl (ww99 hw)) Via.refl e0 F2 (g := (mkF m 1 #[vR a1] [(.ref a1)])) rfl rfl (hb hby d11_1)
  obtain ⟨T6, X6, e6, st6⟩ := getF X3 hx hZ hown (host := "") (Or.inl (ww81 hw)) Via.refl e3 F5 (g := (mkF m 5 #[vR a1] [(.ref a1), (.int 0)])) rfl rfl (hb hby d11_5)
  obtain ⟨T8, X8, e8, st8⟩ := getF X6 hx hZ hown (Or.inr (ww101 hw)) Via.refl e6 F7 (g := (mkF m 8 #[vR a1] [(.ref a4), (.int 0)])) rfl rfl (hb hby d11_8)
  refine fin (some (.int 0)) _ _ _ _ X8 nofun (fun fs hr => pre0 _ ?_) (own_atH e8 ?_) (by decide) (by decide)
  · refine o_aloadN X0 hx hby d11_0 rfl rfl (st3 _ (o_aloadN X3 hx hby d11_4 rfl rfl (st6 _ (st8 _ (o_icmpY X8 hx hby d11_11 (pc := 11) (pc' := 18) (by decide +kernel) (by decide) (by decide) (o_iconst X8 hx hby d11_18 (x := 0) rfl ?_))))))
    exact retN X8 hx (t := .boolean) hret (by simp) (hb hby d11_19) hr
  · exact ⟨rfl, N0, rfl⟩
def Q12_13 (Z : State) (a1 : Addr) (k2 : ClassId) (h0 : Heap) (n0 : Nat) (v : Option Value) (h : Heap) (L : List Loc) : Prop := (v = none ∧ Fr n0 L ∧ Keep h0 h [a1] ∧ Exa Z h a1 "[I" ∧ Arv Z h a1 k2 .int (5 : Int32) [(.int (-1)), (.int (-1)), (.int (-1)), (.int (-1)), (.int (-1))] (.int (0 : Int32)))
theorem rm12_13 (l : Launch) (Z : State) (a0 : Array Value) (hw : own_HW Z a0) (a1 : Addr) (k2 : ClassId) (h0 : Heap) (n0 : Nat) (O0 : Old Z n0 h0) (V3 : Arv Z h0 a1 k2 .int (5 : Int32) [] (.int (0 : Int32))) (g_a1 : n0 ≤ a1) (E_8 : Exa Z h0 a1 "[I") : own_Met l Z M_12 bc12 4 none ({ frames := 0, cells := 0, slots := 0, locals := 0 } : Room) #[(.ref a1), (.int (-1))] h0 (Q12_13 Z a1 k2 h0 n0) := by
  refine own_body (L0 := #[vR a1, vI (-1), .unset, .unset]) (plainFor_of_name pn_5) (fun m => by first | (simp [entryFrame, mkF, argsToLocals, Value.category]; done) | rfl) fun p e s m below meth c s₁ EN hx hby hml hown hnm hret X0 hZ e0 hh pre0 fin => ?_
  have N0 := Fr.nil n0
  obtain ⟨cl4, Ar4, -, Sz4, Nn4, -, -⟩ := id V3
  have Vp5 : Arv Z h0 a1 k2 .int (5 : Int32) [(.int 0)] (.int (0 : Int32)) := V3.pad (pad_rep [] (.int (0 : Int32)) 1)
  obtain ⟨cl6, Ar6, qk6, Sz6, Nn6, Hh6, Gg6⟩ := id Vp5
  have hin6 : ¬ ((0 : Int32) < 0 ∨ cl6.slots.size ≤ ((0 : Int32)).toNatClampNeg) := inb_of Sz6 ⟨by decide +kernel, by decide +kernel⟩
  obtain ⟨T7, h7, X7, e7, W7, st7⟩ := stI X0 hx hZ e0 Ar6 (j := (0 : Int32)) hin6 (g := (mkF m 13 #[vR a1, vI (-1), vI 0, vI 5] [(.int (-1)), (.int 0), (.ref a1)])) rfl rfl (hb hby d12_13)
  have O7 : Old Z n0 h7 := O0.wr W7 g_a1
  have V7 : Arv Z h7 a1 k2 .int (5 : Int32) [(.int (-1))] (.int (0 : Int32)) := Arv.set Ar6 qk6 Sz6 Nn6 Hh6 Gg6 rfl W7 0 rfl (Nat.le_of_ble_eq_true rfl)
  have N7 := Fr.snoc X7 N0 g_a1
  have Vp9 : Arv Z h7 a1 k2 .int (5 : Int32) [(.int (-1)), (.int 0)] (.int (0 : Int32)) := V7.pad (pad_rep [(.int (-1))] (.int (0 : Int32)) 1)
  obtain ⟨cl10, Ar10, qk10, Sz10, Nn10, Hh10, Gg10⟩ := id Vp9
  have hin10 : ¬ ((1 : Int32) < 0 ∨ cl10.slots.size ≤ ((1 : Int32)).toNatClampNeg) := inb_of Sz10 ⟨by decide +kernel, by decide +kernel⟩
  obtain ⟨T11, h11, X11, e11, W11, st11⟩ := stI X7 hx hZ e7 Ar10 (j := (1 : Int32)) hin10 (g := (mkF m 13 #[vR a1, vI (-1), vI 1, vI 5] [(.int (-1)), (.int 1), (.ref a1)])) rfl rfl (hb hby d12_13)
  have O11 : Old Z n0 h11 := O7.wr W11 g_a1
  have V11 : Arv Z h11 a1 k2 .int (5 : Int32) [(.int (-1)), (.int (-1))] (.int (0 : Int32)) := Arv.set Ar10 qk10 Sz10 Nn10 Hh10 Gg10 rfl W11 1 rfl (Nat.le_of_ble_eq_true rfl)
  have N11 := Fr.snoc X11 N7 g_a1
  have Vp12 : Arv Z h11 a1 k2 .int (5 : Int32) [(.int (-1)), (.int (-1)), (.int 0)] (.int (0 : Int32)) := V11.pad (pad_rep [(.int (-1)), (.int (-1))] (.int (0 : Int32)) 1)
  obtain ⟨cl13, Ar13, qk13, Sz13, Nn13, Hh13, Gg13⟩ := id Vp12
  have hin13 : ¬ ((2 : Int32) < 0 ∨ cl13.slots.size ≤ ((2 : Int32)).toNatClampNeg) := inb_of Sz13 ⟨by decide +kernel, by decide +kernel⟩
  obtain ⟨T14, h14, X14, e14, W14, st14⟩ := stI X11 hx hZ e11 Ar13 (j := (2 : Int32)) hin13 (g := (mkF m 13 #[vR a1, vI (-1), vI 2, vI 5] [(.int (-1)), (.int 2), (.ref a1)])) rfl rfl (hb hby d12_13)
  have O14 : Old Z n0 h14 := O11.wr W14 g_a1
  have V14 : Arv Z h14 a1 k2 .int (5 : Int32) [(.int (-1)), (.int (-1)), (.int (-1))] (.int (0 : Int32)) := Arv.set Ar13 qk13 Sz13 Nn13 Hh13 Gg13 rfl W14 2 rfl (Nat.le_of_ble_eq_true rfl)
  have N14 := Fr.snoc X14 N11 g_a1
  have Vp15 : Arv Z h14 a1 k2 .int (5 : Int32) [(.int (-1)), (.int (-1)), (.int (-1)), (.int 0)] (.int (0 : Int32)) := V14.pad (pad_rep [(.int (-1)), (.int (-1)), (.int (-1))] (.int (0 : Int32)) 1)
  obtain ⟨cl16, Ar16, qk16, Sz16, Nn16, Hh16, Gg16⟩ := id Vp15
  have hin16 : ¬ ((3 : Int32) < 0 ∨ cl16.slots.size ≤ ((3 : Int32)).toNatClampNeg) := inb_of Sz16 ⟨by decide +kernel, by decide +kernel⟩
  obtain ⟨T17, h17, X17, e17, W17, st17⟩ := stI X14 hx hZ e14 Ar16 (j := (3 : Int32)) hin16 (g := (mkF m 13 #[vR a1, vI (-1), vI 3, vI 5] [(.int (-1)), (.int 3), (.ref a1)])) rfl rfl (hb hby d12_13)
  have O17 : Old Z n0 h17 := O14.wr W17 g_a1
  have V17 : Arv Z h17 a1 k2 .int (5 : Int32) [(.int (-1)), (.int (-1)), (.int (-1)), (.int (-1))] (.int (0 : Int32)) := Arv.set Ar16 qk16 Sz16 Nn16 Hh16 Gg16 rfl W17 3 rfl (Nat.le_of_ble_eq_true rfl)
  have N17 := Fr.snoc X17 N14 g_a1
  have Vp18 : Arv Z h17 a1 k2 .int (5 : Int32) [(.int (-1)), (.int (-1)), (.int (-1)), (.int (-1)), (.int 0)] (.int (0 : Int32)) := V17.pad (pad_rep [(.int (-1)), (.int (-1)), (.int (-1)), (.int (-1))] (.int (0 : Int32)) 1)
  obtain ⟨cl19, Ar19, qk19, Sz19, Nn19, Hh19, Gg19⟩ := id Vp18
  have hin19 : ¬ ((4 : Int32) < 0 ∨ cl19.slots.size ≤ ((4 : Int32)).toNatClampNeg) := inb_of Sz19 ⟨by decide +kernel, by decide +kernel⟩
  obtain ⟨T20, h20, X20, e20, W20, st20⟩ := stI X17 hx hZ e17 Ar19 (j := (4 : Int32)) hin19 (g := (mkF m 13 #[vR a1, vI (-1), vI 4, vI 5] [(.int (-1)), (.int 4), (.ref a1)])) rfl rfl (hb hby d12_13)
  have O20 : Old Z n0 h20 := O17.wr W20 g_a1
  have V20 : Arv Z h20 a1 k2 .int (5 : Int32) [(.int (-1)), (.int (-1)), (.int (-1)), (.int (-1)), (.int (-1))] (.int (0 : Int32)) := Arv.set Ar19 qk19 Sz19 Nn19 Hh19 Gg19 rfl W20 4 rfl (Nat.le_of_ble_eq_true rfl)
  have N20 := Fr.snoc X20 N17 g_a1
  have f21 : Exa Z h20 a1 "[I" := (Exa.wr W20 (Exa.wr W17 (Exa.wr W14 (Exa.wr W11 (Exa.wr W7 E_8)))))
  refine fin none _ _ _ _ X20 (fun _ => rfl) (fun fs hr => pre0 _ ?_) (own_atH e20 ?_) (by decide) (by decide)
  · refine o_iconst X0 hx hby d12_0 (x := 0) rfl (o_istoreN X0 hx hby d12_1 (Ls' := #[vR a1, vI (-1), vI 0, .unset]) rfl (o_aloadN X0 hx hby d12_2 rfl rfl (X0.arraylength hx (by rw [e0]; exact Ar4.1) (State.isArrayOf_alike hZ.alike Ar4.2.1) (g := (mkF m 3 #[vR a1, vI (-1), vI 0, .unset] [(.ref a1)])) rfl rfl (hb hby d12_3) _ ?_)))
    rw [len_of Sz4 Nn4]
    refine o_istoreN X0 hx hby d12_4 (Ls' := #[vR a1, vI (-1), vI 0, vI 5]) rfl (o_iloadN X0 hx hby d12_5 rfl (o_iloadN X0 hx hby d12_6 rfl (o_icmpN X0 hx hby d12_7 (by decide +kernel) (o_aloadN X0 hx hby d12_10 rfl rfl (o_iloadN X0 hx hby d12_11 rfl (o_iloadN X0 hx hby d12_12 rfl (st7 _ (o_iinc X7 hx hby d12_14 rfl (z := (1 : Int32)) (k' := 1) rfl (by decide +kernel) (Ls' := #[vR a1, vI (-1), vI 1, vI 5]) rfl (o_goto X7 hx hby d12_17 (pc := 17) (pc' := 5) (by decide) (by decide) (o_iloadN X7 hx hby d12_5 rfl (o_iloadN X7 hx hby d12_6 rfl (o_icmpN X7 hx hby d12_7 (by decide +kernel) (o_aloadN X7 hx hby d12_10 rfl rfl (o_iloadN X7 hx hby d12_11 rfl (o_iloadN X7 hx hby d12_12 rfl (st11 _ (o_iinc X11 hx hby d12_14 rfl (z := (2 : Int32)) (k' := 1) rfl (by decide +kernel) (Ls' := #[vR a1, vI (-1), vI 2, vI 5]) rfl (o_goto X11 hx hby d12_17 (pc := 17) (pc' := 5) (by decide) (by decide) (o_iloadN X11 hx hby d12_5 rfl (o_iloadN X11 hx hby d12_6 rfl (o_icmpN X11 hx hby d12_7 (by decide +kernel) (o_aloadN X11 hx hby d12_10 rfl rfl (o_iloadN X11 hx hby d12_11 rfl (o_iloadN X11 hx hby d12_12 rfl (st14 _ (o_iinc X14 hx hby d12_14 rfl (z := (3 : Int32)) (k' := 1) rfl (by decide +kernel) (Ls' := #[vR a1, vI (-1), vI 3, vI 5]) rfl (o_goto X14 hx hby d12_17 (pc := 17) (pc' := 5) (by decide) (by decide) (o_iloadN X14 hx hby d12_5 rfl (o_iloadN X14 hx hby d12_6 rfl (o_icmpN X14 hx hby d12_7 (by decide +kernel) (o_aloadN X14 hx hby d12_10 rfl rfl (o_iloadN X14 hx hby d12_11 rfl (o_iloadN X14 hx hby d12_12 rfl (st17 _ (o_iinc X17 hx hby d12_14 rfl (z := (4 : Int32)) (k' := 1) rfl (by decide +kernel) (Ls' := #[vR a1, vI (-1), vI 4, vI 5]) rfl (o_goto X17 hx hby d12_17 (pc := 17) (pc' := 5) (by decide) (by decide) (o_iloadN X17 hx hby d12_5 rfl (o_iloadN X17 hx hby d12_6 rfl (o_icmpN X17 hx hby d12_7 (by decide +kernel) ?_)))))))))))))))))))))))))))))))))))))))
    refine o_aloadN X17 hx hby d12_10 rfl rfl (o_iloadN X17 hx hby d12_11 rfl (o_iloadN X17 hx hby d12_12 rfl (st20 _ (o_iinc X20 hx hby d12_14 rfl (z := (5 : Int32)) (k' := 1) rfl (by decide +kernel) (Ls' := #[vR a1, vI (-1), vI 5, vI 5]) rfl (o_goto X20 hx hby d12_17 (pc := 17) (pc' := 5) (by decide) (by decide) (o_iloadN X20 hx hby d12_5 rfl (o_iloadN X20 hx hby d12_6 rfl (o_icmpY X20 hx hby d12_7 (pc := 7) (pc' := 20) (by decide +kernel) (by decide) (by decide) ?_))))))))
    exact X20.returnOut hx hret (hb hby d12_20) hr
  · exact ⟨rfl, N20, ((((((Keep.refl h0 [a1]).wr W7 (Or.inl (List.mem_of_getElem? (i := 0) rfl))).wr W11 (Or.inl (List.mem_of_getElem? (i := 0) rfl))).wr W14 (Or.inl (List.mem_of_getElem? (i := 0) rfl))).wr W17 (Or.inl (List.mem_of_getElem? (i := 0) rfl))).wr W20 (Or.inl (List.mem_of_getElem? (i := 0) rfl))), f21, V20⟩
def Q7_8 (Z : State) (a1 : Addr) (a2 : Addr) (a3 : Addr) (h0 : Heap) (n0 : Nat) (v : Option Value) (h : Heap) (L : List Loc) : Prop := (∃ (b28 : Addr) (b38 : Addr) (b5 : Addr) (k28 : ClassId) (k38 : ClassId) (k5 : ClassId), v = none ∧ Fr n0 L ∧ h0.size ≤ b28 ∧ b28 < h.size ∧ h0.size ≤ b38 ∧ b38 < h.size ∧ h0.size ≤ b5 ∧ b5 < h.size ∧ b28 ≠ b38 ∧ b28 ≠ b5 ∧ b38 ≠ b5 ∧ Keep h0 h [a1] ∧ Exa Z h a1 C_3 ∧ Fld Z h a1 C_3 "deck" "[I" (.ref b28) ∧ Fld Z h a1 C_3 "deckSize" "I" (.int 0) ∧ Fld Z h a1 C_3 "discard" "[I" (.ref b38) ∧ Fld Z h a1 C_3 "discardSize" "I" (.int 0) ∧ Fld Z h a1 C_3 "generator" C_4 (.ref a3) ∧ Fld Z h a1 C_3 "market" "[I" (.ref b5) ∧ Exa Z h b28 "[I" ∧ Arv Z h b28 k28 .int (0 : Int32) [] (.int (0 : Int32)) ∧ Exa Z h b38 "[I" ∧ Arv Z h b38 k38 .int (0 : Int32) [] (.int (0 : Int32)) ∧ Exa Z h b5 "[I" ∧ Arv Z h b5 k5 .int (5 : Int32) [(.int (-1)), (.int (-1)), (.int (-1)), (.int (-1)), (.int (-1))] (.int (0 : Int32)))
theorem rm7_8 (l : Launch) (Z : State) (a0 : Array Value) (hw : own_HW Z a0) (a1 : Addr) (a2 : Addr) (a3 : Addr) (h0 : Heap) (n0 : Nat) (O0 : Old Z n0 h0) (E_6 : Exa Z h0 a1 C_3) (F7 : Fld Z h0 a1 C_3 "deck" "[I" .null) (F8 : Fld Z h0 a1 C_3 "deckSize" "I" (.int 0)) (F9 : Fld Z h0 a1 C_3 "discard" "[I" .null) (F10 : Fld Z h0 a1 C_3 "discardSize" "I" (.int 0)) (F11 : Fld Z h0 a1 C_3 "generator" C_4 .null) (F12 : Fld Z h0 a1 C_3 "market" "[I" .null) (g_a1 : n0 ≤ a1) (E_19 : Exa Z h0 a2 C_1) (F20 : Fld Z h0 a2 C_1 "size" "I" (.int 0)) (hne21 : a2 ≠ a1) (F42 : Fld Z h0 a2 C_0 "modCount" "I" (.int 0)) (lt_a2 : a2 < h0.size) (lt_a1 : a1 < h0.size) : own_Met l Z M_13 bc7 5 none ({ frames := 3, cells := 4, slots := 9, locals := 38 } : Room) #[(.ref a1), (.ref a2), (.ref a3)] h0 (Q7_8 Z a1 a2 a3 h0 n0) := by
  refine own_body (L0 := #[vR a1, vR a2, vR a3, .unset, .unset]) (plainFor_of_name pn_6) (fun m => by first | (simp [entryFrame, mkF, argsToLocals, Value.category]; done) | rfl) fun p e s m below meth c s₁ EN hx hby hml hown hnm hret X0 hZ e0 hh pre0 fin => ?_
  have N0 := Fr.nil n0
  obtain ⟨T4, X4, e4, st4⟩ := initO X0 hx hZ hown (ww45 hw) (ww23 hw) (ww24 hw) e0 (g := (mkF m 1 #[vR a1, vR a2, vR a3, .unset, .unset] [(.ref a1)])) rfl (by rw [hml]; rfl) rfl (hb hby d7_1) (by decide) (W := 0) (by show 2 * 0 + _ ≤ _; exact Nat.le_of_eq rfl) (by decide)
  obtain ⟨T5, h5, k5, X5, e5, E5, A5, Ex5, st5⟩ := newPE (aty := .int) X4 hx hZ (ww46 hw) e4 (g := (mkF m 6 #[vR a1, vR a2, vR a3, .unset, .unset] [(.int 5), (.ref a1)])) rfl (hb hby d7_6) rfl (by decide +kernel) (cap := 5) (by decide +kernel) (by decide) (by decide) (by decide) (ad := "[I") (by decide +kernel)
  obtain ⟨b5, g5⟩ : ∃ z, z = h0.size := ⟨_, rfl⟩
  rw [← g5] at A5 Ex5 st5
  have O5 : Old Z n0 h5 := O0.ext E5
  have bd_b5 : h0.size ≤ b5 := Nat.le_of_eq g5.symm
  have g_b5 : n0 ≤ b5 := Nat.le_trans (own_z O0) bd_b5
  have sz_b5 : h0.size ≤ b5 := Nat.le_trans (Nat.le_refl _) bd_b5
  have lt_b5 : b5 < h5.size := A5.lt
  have V5 : Arv Z h5 b5 k5 .int (5 : Int32) [] (.int (0 : Int32)) := Arv.new A5 (by decide +kernel)
  have f13 : Fld Z h5 a1 C_3 "market" "[I" .null := (Fld.ext E5 F12)
  have f14 : Exa Z h5 a1 C_3 := (Exa.ext E5 E_6)
  obtain ⟨T15, h15, X15, e15, W15, st15⟩ := putF X5 hx hZ hown (host := "") (Or.inl (ww47 hw)) Via.refl e5 f13 f14 (Or.inr ⟨(ww48 hw), rfl, hnm⟩) (ww31 hw) (ty := (.array .int)) (by decide) rfl rfl (g := (mkF m 8 #[vR a1, vR a2, vR a3, .unset, .unset] [(.ref b5), (.ref a1)])) rfl rfl (hb hby d7_8)
  have O15 : Old Z n0 h15 := O5.wr W15 g_a1
  have Fw15 : Fld Z h15 a1 C_3 "market" "[I" (.ref b5) := Fld.same W15 f13
  have N15 := Fr.snoc X15 N0 g_a1
  have f16 : Fld Z h15 a1 C_3 "generator" C_4 .null := (Fld.other W15 (Fld.ext E5 F11) (Or.inr (own_sl4 hw)))
  have f17 : Exa Z h15 a1 C_3 := (Exa.wr W15 f14)
  obtain ⟨T18, h18, X18, e18, W18, st18⟩ := putF X15 hx hZ hown (host := "") (Or.inl (ww49 hw)) Via.refl e15 f16 f17 (Or.inr ⟨(ww50 hw), rfl, hnm⟩) (ww31 hw) (ty := (.object "com/example/railspan/railspan/game/Generator")) (by decide) rfl rfl (g := (mkF m 13 #[vR a1, vR a2, vR a3, .unset, .unset] [(.ref a3), (.ref a1)])) rfl rfl (hb hby d7_13)
  have O18 : Old Z n0 h18 := O15.wr W18 g_a1
  have Fw18 : Fld Z h18 a1 C_3 "generator" C_4 (.ref a3) := Fld.same W18 f16
  have N18 := Fr.snoc X18 N15 g_a1
  have f22 : Fld Z h18 a2 C_1 "size" "I" (.int 0) := (Fld.other W18 (Fld.other W15 (Fld.ext E5 F20) (Or.inl hne21)) (Or.inl hne21))
  have f24 : Exa Z h18 a2 C_1 := (Exa.wr W18 (Exa.wr W15 (Exa.ext E5 E_19)))
  obtain ⟨_, T23, L23, X23, hQ23, st23⟩ := own_cN X18 hx hZ hown (ww51 hw) (ww52 hw) (mvT hZ (ww53 hw)) (ww54 hw) (ww55 hw) (ww56 hw) (ww57 hw) (ww58 hw) (ww6 hw) (ww59 hw) f24 (rm8_9 l Z a0 hw a2 h18 n0 O18 f22) e18 pd_3 hml (hb hby d7_18) (Ls := #[vR a1, vR a2, vR a3, .unset, .unset]) (W := 1) (argsL := []) (rest := [(.ref a1)])
  obtain ⟨rfl, u26, u27⟩ := hQ23
  have N23 := Fr.app N18 u26
  obtain ⟨T28, h28, k28, X28, e28, E28, A28, Ex28, st28⟩ := newPE (aty := .int) X23 hx hZ (ww46 hw) u27 (g := (mkF m 23 #[vR a1, vR a2, vR a3, .unset, .unset] [(.int 0), (.ref a1)])) rfl (hb hby d7_23) rfl (by decide +kernel) (cap := 0) (by decide +kernel) (by decide) (by decide) (by decide) (ad := "[I") (by decide +kernel)
  obtain ⟨b28, g28⟩ : ∃ z, z = h18.size := ⟨_, rfl⟩
  rw [← g28] at A28 Ex28 st28
  have O28 : Old Z n0 h28 := O18.ext E28
  have bd_b28 : h18.size ≤ b28 := Nat.le_of_eq g28.symm
  have g_b28 : n0 ≤ b28 := Nat.le_trans (own_z O18) bd_b28
  have sz_b28 : h0.size ≤ b28 := Nat.le_trans (Nat.le_trans (Nat.le_trans E5.1 (Keep.of_wr W15).1) (Keep.of_wr W18).1) bd_b28
  have lt_b28 : b28 < h28.size := A28.lt
  have V28 : Arv Z h28 b28 k28 .int (0 : Int32) [] (.int (0 : Int32)) := Arv.new A28 (by decide +kernel)
  have f29 : Fld Z h28 a1 C_3 "deck" "[I" .null := (Fld.ext E28 (Fld.other W18 (Fld.other W15 (Fld.ext E5 F7) (Or.inr (own_sl5 hw))) (Or.inr (own_sl6 hw))))
  have f30 : Exa Z h28 a1 C_3 := (Exa.ext E28 (Exa.wr W18 f17))
  obtain ⟨T31, h31, X31, e31, W31, st31⟩ := putF X28 hx hZ hown (host := "") (Or.inl (ww62 hw)) Via.refl e28 f29 f30 (Or.inr ⟨(ww63 hw), rfl, hnm⟩) (ww31 hw) (ty := (.array .int)) (by decide) rfl rfl (g := (mkF m 25 #[vR a1, vR a2, vR a3, .unset, .unset] [(.ref b28), (.ref a1)])) rfl rfl (hb hby d7_25)
  have O31 : Old Z n0 h31 := O28.wr W31 g_a1
  have Fw31 : Fld Z h31 a1 C_3 "deck" "[I" (.ref b28) := Fld.same W31 f29
  have N31 := Fr.snoc X31 N23 g_a1
  have f32 : Fld Z h31 a2 C_1 "size" "I" (.int 0) := (Fld.other W31 (Fld.ext E28 f22) (Or.inl hne21))
  have f34 : Exa Z h31 a2 C_1 := (Exa.wr W31 (Exa.ext E28 f24))
  obtain ⟨_, T33, L33, X33, hQ33, st33⟩ := own_cN X31 hx hZ hown (ww51 hw) (ww52 hw) (mvT hZ (ww53 hw)) (ww54 hw) (ww55 hw) (ww56 hw) (ww57 hw) (ww58 hw) (ww6 hw) (ww59 hw) f34 (rm8_9 l Z a0 hw a2 h31 n0 O31 f32) e31 pd_3 hml (hb hby d7_30) (Ls := #[vR a1, vR a2, vR a3, .unset, .unset]) (W := 1) (argsL := []) (rest := [(.ref a1)])
  obtain ⟨rfl, u36, u37⟩ := hQ33
  have N33 := Fr.app N31 u36
  obtain ⟨T38, h38, k38, X38, e38, E38, A38, Ex38, st38⟩ := newPE (aty := .int) X33 hx hZ (ww46 hw) u37 (g := (mkF m 35 #[vR a1, vR a2, vR a3, .unset, .unset] [(.int 0), (.ref a1)])) rfl (hb hby d7_35) rfl (by decide +kernel) (cap := 0) (by decide +kernel) (by decide) (by decide) (by decide) (ad := "[I") (by decide +kernel)
  obtain ⟨b38, g38⟩ : ∃ z, z = h31.size := ⟨_, rfl⟩
  rw [← g38] at A38 Ex38 st38
  have O38 : Old Z n0 h38 := O31.ext E38
  have bd_b38 : h31.size ≤ b38 := Nat.le_of_eq g38.symm
  have g_b38 : n0 ≤ b38 := Nat.le_trans (own_z O31) bd_b38
  have sz_b38 : h0.size ≤ b38 := Nat.le_trans (Nat.le_trans (Nat.le_trans (Nat.le_trans (Nat.le_trans E5.1 (Keep.of_wr W15).1) (Keep.of_wr W18).1) E28.1) (Keep.of_wr W31).1) bd_b38
  have lt_b38 : b38 < h38.size := A38.lt
  have V38 : Arv Z h38 b38 k38 .int (0 : Int32) [] (.int (0 : Int32)) := Arv.new A38 (by decide +kernel)
  have f39 : Fld Z h38 a1 C_3 "discard" "[I" .null := (Fld.ext E38 (Fld.other W31 (Fld.ext E28 (Fld.other W18 (Fld.other W15 (Fld.ext E5 F9) (Or.inr (own_sl7 hw))) (Or.inr (own_sl8 hw)))) (Or.inr (own_sl9 hw))))
  have f40 : Exa Z h38 a1 C_3 := (Exa.ext E38 (Exa.wr W31 f30))
  obtain ⟨T41, h41, X41, e41, W41, st41⟩ := putF X38 hx hZ hown (host := "") (Or.inl (ww64 hw)) Via.refl e38 f39 f40 (Or.inr ⟨(ww65 hw), rfl, hnm⟩) (ww31 hw) (ty := (.array .int)) (by decide) rfl rfl (g := (mkF m 37 #[vR a1, vR a2, vR a3, .unset, .unset] [(.ref b38), (.ref a1)])) rfl rfl (hb hby d7_37)
  have O41 : Old Z n0 h41 := O38.wr W41 g_a1
  have Fw41 : Fld Z h41 a1 C_3 "discard" "[I" (.ref b38) := Fld.same W41 f39
  have N41 := Fr.snoc X41 N33 g_a1
  have f43 : Fld Z h41 a2 C_0 "modCount" "I" (.int 0) := (Fld.other W41 (Fld.ext E38 (Fld.other W31 (Fld.ext E28 (Fld.other W18 (Fld.other W15 (Fld.ext E5 F42) (Or.inl hne21)) (Or.inl hne21))) (Or.inl hne21))) (Or.inl hne21))
  have f45 : Exa Z h41 a2 C_1 := (Exa.wr W41 (Exa.ext E38 f34))
  obtain ⟨_, T44, L44, X44, hQ44, st44⟩ := own_cN X41 hx hZ hown (ww66 hw) (ww67 hw) (mvT hZ (ww68 hw)) (ww69 hw) (ww70 hw) (ww71 hw) (ww72 hw) (ww58 hw) (ww6 hw) (ww73 hw) f45 (rm9_10 l Z a0 hw a2 h41 n0 O41 f43 (own_t (own_t (own_t (own_t (own_t (own_t (own_t lt_a2 E5.1) (Keep.of_wr W15).1) (Keep.of_wr W18).1) E28.1) (Keep.of_wr W31).1) E38.1) (Keep.of_wr W41).1)) e41 pd_5 hml (hb hby d7_41) (Ls := #[vR a1, vR a2, vR a3, .unset, .unset]) (W := 0) (argsL := []) (rest := [])
  obtain ⟨b46, rfl, u48, u49, u50, Ku51, u52, u53, u54, u55, u56⟩ := hQ44
  have Ou51 : Old Z n0 T44.heap := O41.keep Ku51 all0
  have g_b46 : n0 ≤ b46 := Nat.le_trans (own_z O41) u49
  have sz_b46 : h0.size ≤ b46 := Nat.le_trans (Nat.le_trans (Nat.le_trans (Nat.le_trans (Nat.le_trans (Nat.le_trans (Nat.le_trans E5.1 (Keep.of_wr W15).1) (Keep.of_wr W18).1) E28.1) (Keep.of_wr W31).1) E38.1) (Keep.of_wr W41).1) u49
  have N44 := Fr.app N41 u48
  have f57 : Fld Z T44.heap a2 C_1 "size" "I" (.int 0) := ((Fld.other W41 (Fld.ext E38 f32) (Or.inl hne21)).keep Ku51 nin0)
  obtain ⟨_, T58, L58, X58, hQ58, st58⟩ := own_cN X44 hx hZ hown (ww90 hw) (ww91 hw) (mvT hZ (ww92 hw)) (ww93 hw) (ww94 hw) (ww95 hw) (ww96 hw) (ww97 hw) (ww76 hw) (ww98 hw) u52 (rm11_12 l Z a0 hw b46 a2 T44.heap n0 Ou51 u53 u56 f57) rfl pd_6 hml (hb hby d7_48) (Ls := #[vR a1, vR a2, vR a3, vR b46, .unset]) (W := 0) (argsL := []) (rest := [])
  obtain ⟨rfl, u60, u61⟩ := hQ58
  have N58 := Fr.app N44 u60
  have f62 : Fld Z T44.heap a1 C_3 "market" "[I" (.ref b5) := ((Fld.other W41 (Fld.ext E38 (Fld.other W31 (Fld.ext E28 (Fld.other W18 Fw15 (Or.inr (own_sl19 hw)))) (Or.inr (own_sl20 hw)))) (Or.inr (own_sl21 hw))).keep Ku51 nin0)
  obtain ⟨T63, X63, e63, st63⟩ := getF X58 hx hZ hown (host := "") (Or.inl (ww47 hw)) Via.refl u61 f62 (g := (mkF m 100 #[vR a1, vR a2, vR a3, vR b46, .unset] [(.ref a1)])) rfl rfl (hb hby d7_100)
  have f64 : Arv Z T44.heap b5 k5 .int (5 : Int32) [] (.int (0 : Int32)) := (((((((V5.other W15 (Ne.symm (own_n lt_a1 bd_b5))).other W18 (Ne.symm (own_n lt_a1 bd_b5))).ext E28).other W31 (Ne.symm (own_n lt_a1 bd_b5))).ext E38).other W41 (Ne.symm (own_n lt_a1 bd_b5))).keep Ku51 nin0)
  have f65 : Exa Z T44.heap b5 "[I" := ((Exa.wr W41 (Exa.ext E38 (Exa.wr W31 (Exa.ext E28 (Exa.wr W18 (Exa.wr W15 Ex5)))))).keep Ku51)
  obtain ⟨_, T66, L66, X66, hQ66, st66⟩ := own_cS X63 hx hZ hown (ww102 hw) (ww103 hw) (ww104 hw) (ww105 hw) (rm12_13 l Z a0 hw b5 k5 T44.heap n0 Ou51 f64 g_b5 f65) e63 pd_7 hml (hb hby d7_104) (Ls := #[vR a1, vR a2, vR a3, vR b46, .unset]) (W := 0) (argsL := [(.ref b5), (.int (-1))]) (rest := [])
  obtain ⟨rfl, u68, Ku69, u70, u71⟩ := hQ66
  have Ou69 : Old Z n0 T66.heap := Ou51.keep Ku69 (allS g_b5 all0)
  have N66 := Fr.app N58 u68
  have f72 : Exa Z T66.heap a1 C_3 := (((Exa.wr W41 f40).keep Ku51).keep Ku69)
  have f73 : Fld Z T66.heap a1 C_3 "deck" "[I" (.ref b28) := (((Fld.other W41 (Fld.ext E38 Fw31) (Or.inr (own_sl22 hw))).keep Ku51 nin0).keep Ku69 (ninS (own_n lt_a1 bd_b5) nin0))
  have f74 : Fld Z T66.heap a1 C_3 "deckSize" "I" (.int 0) := (((Fld.other W41 (Fld.ext E38 (Fld.other W31 (Fld.ext E28 (Fld.other W18 (Fld.other W15 (Fld.ext E5 F8) (Or.inr (own_sl23 hw))) (Or.inr (own_sl24 hw)))) (Or.inr (own_sl25 hw)))) (Or.inr (own_sl26 hw))).keep Ku51 nin0).keep Ku69 (ninS (own_n lt_a1 bd_b5) nin0))
  have f75 : Fld Z T66.heap a1 C_3 "discard" "[I" (.ref b38) := ((Fw41.keep Ku51 nin0).keep Ku69 (ninS (own_n lt_a1 bd_b5) nin0))
  have f76 : Fld Z T66.heap a1 C_3 "discardSize" "I" (.int 0) := (((Fld.other W41 (Fld.ext E38 (Fld.other W31 (Fld.ext E28 (Fld.other W18 (Fld.other W15 (Fld.ext E5 F10) (Or.inr (own_sl27 hw))) (Or.inr (own_sl28 hw)))) (Or.inr (own_sl29 hw)))) (Or.inr (own_sl30 hw))).keep Ku51 nin0).keep Ku69 (ninS (own_n lt_a1 bd_b5) nin0))
  have f77 : Fld Z T66.heap a1 C_3 "generator" C_4 (.ref a3) := (((Fld.other W41 (Fld.ext E38 (Fld.other W31 (Fld.ext E28 Fw18) (Or.inr (own_sl31 hw)))) (Or.inr (own_sl32 hw))).keep Ku51 nin0).keep Ku69 (ninS (own_n lt_a1 bd_b5) nin0))
  have f78 : Fld Z T66.heap a1 C_3 "market" "[I" (.ref b5) := (f62.keep Ku69 (ninS (own_n lt_a1 bd_b5) nin0))
  have f79 : Exa Z T66.heap b28 "[I" := (((Exa.wr W41 (Exa.ext E38 (Exa.wr W31 Ex28))).keep Ku51).keep Ku69)
  have ne80 : a1 ≠ b28 := (own_n (own_t (own_t (own_t lt_a1 E5.1) (Keep.of_wr W15).1) (Keep.of_wr W18).1) bd_b28)
  have ne81 : b5 ≠ b28 := (own_n (own_t (own_t lt_b5 (Keep.of_wr W15).1) (Keep.of_wr W18).1) bd_b28)
  have f82 : Arv Z T66.heap b28 k28 .int (0 : Int32) [] (.int (0 : Int32)) := (((((V28.other W31 (Ne.symm ne80)).ext E38).other W41 (Ne.symm ne80)).keep Ku51 nin0).keep Ku69 (ninS (Ne.symm ne81) nin0))
  have f83 : Exa Z T66.heap b38 "[I" := (((Exa.wr W41 Ex38).keep Ku51).keep Ku69)
  have ne84 : a1 ≠ b38 := (own_n (own_t (own_t (own_t (own_t (own_t lt_a1 E5.1) (Keep.of_wr W15).1) (Keep.of_wr W18).1) E28.1) (Keep.of_wr W31).1) bd_b38)
  have ne85 : b5 ≠ b38 := (own_n (own_t (own_t (own_t (own_t lt_b5 (Keep.of_wr W15).1) (Keep.of_wr W18).1) E28.1) (Keep.of_wr W31).1) bd_b38)
  have f86 : Arv Z T66.heap b38 k38 .int (0 : Int32) [] (.int (0 : Int32)) := (((V38.other W41 (Ne.symm ne84)).keep Ku51 nin0).keep Ku69 (ninS (Ne.symm ne85) nin0))
  have lt87 : b28 < T66.heap.size := (own_t (own_t (own_t (own_t (own_t lt_b28 (Keep.of_wr W31).1) E38.1) (Keep.of_wr W41).1) Ku51.1) Ku69.1)
  have lt88 : b5 < T66.heap.size := (own_t (own_t (own_t (own_t (own_t (own_t (own_t (own_t lt_b5 (Keep.of_wr W15).1) (Keep.of_wr W18).1) E28.1) (Keep.of_wr W31).1) E38.1) (Keep.of_wr W41).1) Ku51.1) Ku69.1)
  refine fin none _ _ _ _ X66 (fun _ => rfl) (fun fs hr => pre0 _ ?_) ?_ (by decide) (by decide)
  · refine o_aloadN X0 hx hby d7_0 rfl rfl (st4 _ (o_aloadN X4 hx hby d7_4 rfl rfl (o_iconst X4 hx hby d7_5 (x := 5) rfl (st5 _ (st15 _ (o_aloadN X15 hx hby d7_11 rfl rfl (o_aloadN X15 hx hby d7_12 rfl rfl (st18 _ (o_aloadN X18 hx hby d7_16 rfl rfl (o_aloadN X18 hx hby d7_17 rfl rfl (st23 _ (st28 _ (st31 _ (o_aloadN X31 hx hby d7_28 rfl rfl (o_aloadN X31 hx hby d7_29 rfl rfl (st33 _ (st38 _ (st41 _ (o_aloadN X41 hx hby d7_40 rfl rfl (st44 _ (o_astoreN X44 hx hby d7_46 rfl (Ls' := #[vR a1, vR a2, vR a3, vR b46, .unset]) rfl (o_aloadN X44 hx hby d7_47 rfl rfl (st58 _ (o_ifY X58 hx hby d7_53 (pc := 53) (pc' := 99) (by decide +kernel) (by decide) (by decide) (o_aloadN X58 hx hby d7_99 rfl rfl (st63 _ (o_iconst X63 hx hby d7_103 (x := -1) rfl (st66 _ ?_))))))))))))))))))))))))))))
    exact X66.returnOut hx hret (hb hby d7_107) hr
  · exact ⟨b28, b38, b5, k28, k38, k5, rfl, N66, sz_b28, lt87, sz_b38, (own_t (own_t (own_t lt_b38 (Keep.of_wr W41).1) Ku51.1) Ku69.1), sz_b5, lt88, (own_n (own_t lt_b28 (Keep.of_wr W31).1) bd_b38), (Ne.symm ne81), (Ne.symm ne85), ((((((((((Keep.refl h0 [a1]).ext E5).wr W15 (Or.inl (List.mem_of_getElem? (i := 0) rfl))).wr W18 (Or.inl (List.mem_of_getElem? (i := 0) rfl))).ext E28).wr W31 (Or.inl (List.mem_of_getElem? (i := 0) rfl))).ext E38).wr W41 (Or.inl (List.mem_of_getElem? (i := 0) rfl))).trans Ku51 all0).trans Ku69 (allS (Or.inr sz_b5) all0)), f72, f73, f74, f75, f76, f77, f78, f79, f82, f83, f86, u70, u71⟩
def Q13_14 (Z : State) (a1 : Addr) (h0 : Heap) (n0 : Nat) (v : Option Value) (h : Heap) (L : List Loc) : Prop := (v = some (.int (-1)) ∧ Fr n0 L ∧ h = h0)
theorem rm13_14 (l : Launch) (Z : State) (a0 : Array Value) (hw : own_HW Z a0) (a1 : Addr) (h0 : Heap) (n0 : Nat) (O0 : Old Z n0 h0) (F2 : Fld Z h0 a1 C_3 "deckSize" "I" (.int 0)) (F4 : Fld Z h0 a1 C_3 "discardSize" "I" (.int 0)) : own_Met l Z M_14 bc13 1 (some .int) ({ frames := 0, cells := 0, slots := 0, locals := 0 } : Room) #[(.ref a1)] h0 (Q13_14 Z a1 h0 n0) := by
  refine own_body (L0 := #[vR a1]) (plainFor_of_name pn_6) (fun m => by first | (simp [entryFrame, mkF, argsToLocals, Value.category]; done) | rfl) fun p e s m below meth c s₁ EN hx hby hml hown hnm hret X0 hZ e0 hh pre0 fin => ?_
  have N0 := Fr.nil n0
  obtain ⟨T3, X3, e3, st3⟩ := getF X0 hx hZ hown (host := "") (Or.inl (ww111 hw)) Via.refl e0 F2 (g := (mkF m 1 #[vR a1] [(.ref a1)])) rfl rfl (hb hby d13_1)
  obtain ⟨T5, X5, e5, st5⟩ := getF X3 hx hZ hown (host := "") (Or.inl (ww113 hw)) Via.refl e3 F4 (g := (mkF m 8 #[vR a1] [(.ref a1)])) rfl rfl (hb hby d13_8)
  refine fin (some (.int (-1))) _ _ _ _ X5 nofun (fun fs hr => pre0 _ ?_) (own_atH e5 ?_) (by decide) (by decide)
  · refine o_aloadN X0 hx hby d13_0 rfl rfl (st3 _ (o_ifN X3 hx hby d13_4 (by decide +kernel) (o_aloadN X3 hx hby d13_7 rfl rfl (st5 _ (o_ifN X5 hx hby d13_11 (by decide +kernel) (o_iconst X5 hx hby d13_14 (x := -1) rfl ?_))))))
    exact retI X5 hx hret (hb hby d13_15) hr
  · exact ⟨rfl, N0, rfl⟩
def Q14_15 (Z : State) (p1 : Int32) (a5 : Addr) (a12 : Addr) (a19 : Addr) (a24 : Addr) (h0 : Heap) (n0 : Nat) (v : Option Value) (h : Heap) (L : List Loc) : Prop := (∃ (gr_ : Addr) (go_0 : Int32), Exa Z Z.heap gr_ C_8 ∧ Fld Z Z.heap gr_ C_10 "ordinal" "I" (.int go_0) ∧ ¬ (go_0 = (-1 : Int32)) ∧ v = some (.ref gr_) ∧ Fr n0 L ∧ h = h0)
theorem rm14_15 (l : Launch) (Z : State) (a0 : Array Value) (hw : own_HW Z a0) (p1 : Int32) (a5 : Addr) (a12 : Addr) (a19 : Addr) (a24 : Addr) (h0 : Heap) (n0 : Nat) (O0 : Old Z n0 h0) (S_6 : Sta Z Z.heap C_8 "BLUE" C_9 (.ref a5)) (E_8 : Exa Z Z.heap a5 C_8) (F9 : Fld Z Z.heap a5 C_10 "ordinal" "I" (.int 0)) (S_13 : Sta Z Z.heap C_8 "LOCOMOTIVE" C_9 (.ref a12)) (E_15 : Exa Z Z.heap a12 C_8) (F16 : Fld Z Z.heap a12 C_10 "ordinal" "I" (.int 3)) (S_20 : Sta Z Z.heap C_8 "RED" C_9 (.ref a19)) (E_22 : Exa Z Z.heap a19 C_8) (F23 : Fld Z Z.heap a19 C_10 "ordinal" "I" (.int 6)) (S_25 : Sta Z Z.heap C_8 "YELLOW" C_9 (.ref a24)) (E_27 : Exa Z Z.heap a24 C_8) (F28 : Fld Z Z.heap a24 C_10 "ordinal" "I" (.int 8)) : own_Met l Z M_15 bc14 2 (some (.object "com/example/railspan/railspan/game/Card")) ({ frames := 0, cells := 0, slots := 0, locals := 0 } : Room) #[(.int p1)] h0 (Q14_15 Z p1 a5 a12 a19 a24 h0 n0) := by
  refine own_body (L0 := #[vI p1, .unset]) (plainFor_of_name pn_7) (fun m => by first | (simp [entryFrame, mkF, argsToLocals, Value.category]; done) | rfl) fun p e s m below meth c s₁ EN hx hby hml hown hnm hret X0 hZ e0 hh pre0 fin => ?_
  have N0 := Fr.nil n0
  obtain ⟨i2, hi2⟩ : ∃ z, z = (p1 &&& (3 : Int32)) := ⟨_, rfl⟩
  have pre3 : ∀ t, Steps p.tables e below (s₁.setTop (mkF m 5 #[vI p1, vI i2] [(.int i2)])) t → Steps p.tables e below EN t := by
    intro t kt
    refine pre0 t ?_
    refine o_iloadN X0 hx hby d14_0 rfl (o_iconst X0 hx hby d14_1 (x := 3) rfl (o_iand X0 hx hby d14_2 (z := i2) hi2.symm (o_istoreN X0 hx hby d14_3 (Ls' := #[vI p1, vI i2]) rfl (o_iloadN X0 hx hby d14_4 rfl ?_))))
    exact kt
  by_cases hc4 : i2 = (0 : Int32)
  · skip
    subst hc4
    obtain ⟨T7, X7, e7, st7⟩ := getS2 X0 hx hZ hown (host := "") (Or.inl (ww119 hw)) Via.refl e0 (Sta.ext O0.2 S_6) (g := (mkF m 8 #[vI p1, vI 0] [])) rfl (hb hby d14_8)
    refine fin (some (.ref a5)) _ _ _ _ X7 nofun (fun fs hr => pre3 _ ?_) (own_atH e7 ?_) (by decide) (by decide)
    · refine o_ifN X0 hx hby d14_5 (by decide +kernel) (st7 _ ?_)
      show Steps p.tables e below (T7.setTop (mkF m 11 #[vI p1, vI 0] [(.ref a5)])) _
      jvm_step X7.here [X7.here.top, hx, (hb hby d14_11), X7.method', hret, Value.isRef, FieldType.isReference]
      first | (intro acts; rw [hr _ acts rfl rfl rfl]) | rw [hr _ _ rfl rfl rfl]
      exact Steps.refl _
    · exact ⟨a5, (0 : Int32), E_8, F9, (by decide +kernel : ¬ ((0 : Int32) = (-1 : Int32))), rfl, N0, rfl⟩
  · skip
    have pre10 : ∀ t, Steps p.tables e below (s₁.setTop (mkF m 14 #[vI p1, vI i2] [(.int 1), (.int i2)])) t → Steps p.tables e below EN t := by
      intro t kt
      refine pre3 t ?_
      refine o_ifY X0 hx hby d14_5 (pc := 5) (pc' := 12) ((if0 _ _).trans (feq hc4).2) (by decide) (by decide) (o_iloadN X0 hx hby d14_12 rfl (o_iconst X0 hx hby d14_13 (x := 1) rfl ?_))
      exact kt
    by_cases hc11 : i2 = (1 : Int32)
    · skip
      subst hc11
      obtain ⟨T14, X14, e14, st14⟩ := getS2 X0 hx hZ hown (host := "") (Or.inl (ww211 hw)) Via.refl e0 (Sta.ext O0.2 S_13) (g := (mkF m 17 #[vI p1, vI 1] [])) rfl (hb hby d14_17)
      refine fin (some (.ref a12)) _ _ _ _ X14 nofun (fun fs hr => pre10 _ ?_) (own_atH e14 ?_) (by decide) (by decide)
      · refine o_icmpN X0 hx hby d14_14 (by decide +kernel) (st14 _ ?_)
        show Steps p.tables e below (T14.setTop (mkF m 20 #[vI p1, vI 1] [(.ref a12)])) _
        jvm_step X14.here [X14.here.top, hx, (hb hby d14_20), X14.method', hret, Value.isRef, FieldType.isReference]
        first | (intro acts; rw [hr _ acts rfl rfl rfl]) | rw [hr _ _ rfl rfl rfl]
        exact Steps.refl _
      · exact ⟨a12, (3 : Int32), E_15, F16, (by decide +kernel : ¬ ((3 : Int32) = (-1 : Int32))), rfl, N0, rfl⟩
    · skip
      have pre17 : ∀ t, Steps p.tables e below (s₁.setTop (mkF m 23 #[vI p1, vI i2] [(.int 2), (.int i2)])) t → Steps p.tables e below EN t := by
        intro t kt
        refine pre10 t ?_
        refine o_icmpY X0 hx hby d14_14 (pc := 14) (pc' := 21) (feq hc11).2 (by decide) (by decide) (o_iloadN X0 hx hby d14_21 rfl (o_iconst X0 hx hby d14_22 (x := 2) rfl ?_))
        exact kt
      by_cases hc18 : i2 = (2 : Int32)
      · skip
        subst hc18
        obtain ⟨T21, X21, e21, st21⟩ := getS2 X0 hx hZ hown (host := "") (Or.inl (ww159 hw)) Via.refl e0 (Sta.ext O0.2 S_20) (g := (mkF m 26 #[vI p1, vI 2] [])) rfl (hb hby d14_26)
        refine fin (some (.ref a19)) _ _ _ _ X21 nofun (fun fs hr => pre17 _ ?_) (own_atH e21 ?_) (by decide) (by decide)
        · refine o_icmpN X0 hx hby d14_23 (by decide +kernel) (st21 _ ?_)
          show Steps p.tables e below (T21.setTop (mkF m 29 #[vI p1, vI 2] [(.ref a19)])) _
          jvm_step X21.here [X21.here.top, hx, (hb hby d14_29), X21.method', hret, Value.isRef, FieldType.isReference]
          first | (intro acts; rw [hr _ acts rfl rfl rfl]) | rw [hr _ _ rfl rfl rfl]
          exact Steps.refl _
        · exact ⟨a19, (6 : Int32), E_22, F23, (by decide +kernel : ¬ ((6 : Int32) = (-1 : Int32))), rfl, N0, rfl⟩
      · skip
        obtain ⟨T26, X26, e26, st26⟩ := getS2 X0 hx hZ hown (host := "") (Or.inl (ww213 hw)) Via.refl e0 (Sta.ext O0.2 S_25) (g := (mkF m 30 #[vI p1, vI i2] [])) rfl (hb hby d14_30)
        refine fin (some (.ref a24)) _ _ _ _ X26 nofun (fun fs hr => pre17 _ ?_) (own_atH e26 ?_) (by decide) (by decide)
        · refine o_icmpY X0 hx hby d14_23 (pc := 23) (pc' := 30) (feq hc18).2 (by decide) (by decide) (st26 _ ?_)
          show Steps p.tables e below (T26.setTop (mkF m 33 #[vI p1, vI i2] [(.ref a24)])) _
          jvm_step X26.here [X26.here.top, hx, (hb hby d14_33), X26.method', hret, Value.isRef, FieldType.isReference]
          first | (intro acts; rw [hr _ acts rfl rfl rfl]) | rw [hr _ _ rfl rfl rfl]
          exact Steps.refl _
        · exact ⟨a24, (8 : Int32), E_27, F28, (by decide +kernel : ¬ ((8 : Int32) = (-1 : Int32))), rfl, N0, rfl⟩
def Q15_16 (Z : State) (a1 : Addr) (a2 : Addr) (h0 : Heap) (n0 : Nat) (v : Option Value) (h : Heap) (L : List Loc) : Prop := (v = none ∧ Fr n0 L ∧ h = h0)
theorem rm15_16 (l : Launch) (Z : State) (a0 : Array Value) (hw : own_HW Z a0) (a1 : Addr) (a2 : Addr) (h0 : Heap) (n0 : Nat) (O0 : Old Z n0 h0) : own_Met l Z M_16 bc15 4 none ({ frames := 0, cells := 0, slots := 0, locals := 0 } : Room) #[(.ref a1), (.ref a2), (.int 0)] h0 (Q15_16 Z a1 a2 h0 n0) := by
  refine own_body (L0 := #[vR a1, vR a2, vI 0, .unset]) (plainFor_of_name pn_6) (fun m => by first | (simp [entryFrame, mkF, argsToLocals, Value.category]; done) | rfl) fun p e s m below meth c s₁ EN hx hby hml hown hnm hret X0 hZ e0 hh pre0 fin => ?_
  have N0 := Fr.nil n0
  refine fin none _ _ _ _ X0 (fun _ => rfl) (fun fs hr => pre0 _ ?_) (own_atH e0 ?_) (by decide) (by decide)
  · refine o_iconst X0 hx hby d15_0 (x := 0) rfl (o_istoreN X0 hx hby d15_1 (Ls' := #[vR a1, vR a2, vI 0, vI 0]) rfl (o_iloadN X0 hx hby d15_2 rfl (o_iloadN X0 hx hby d15_3 rfl (o_icmpY X0 hx hby d15_4 (pc := 4) (pc' := 33) (by decide +kernel) (by decide) (by decide) ?_))))
    exact X0.returnOut hx hret (hb hby d15_33) hr
  · exact ⟨rfl, N0, rfl⟩
def Q16_17 (Z : State) (a1 : Addr) (h0 : Heap) (n0 : Nat) (v : Option Value) (h : Heap) (L : List Loc) : Prop := (v = some (.int 0) ∧ Fr n0 L ∧ h = h0)
theorem rm16_17 (l : Launch) (Z : State) (a0 : Array Value) (hw : own_HW Z a0) (a1 : Addr) (h0 : Heap) (n0 : Nat) (O0 : Old Z n0 h0) (F2 : Fld Z h0 a1 C_3 "deckSize" "I" (.int 0)) (F4 : Fld Z h0 a1 C_3 "discardSize" "I" (.int 0)) : own_Met l Z M_17 bc16 1 (some .boolean) ({ frames := 0, cells := 0, slots := 0, locals := 0 } : Room) #[(.ref a1)] h0 (Q16_17 Z a1 h0 n0) := by
  refine own_body (L0 := #[vR a1]) (plainFor_of_name pn_6) (fun m => by first | (simp [entryFrame, mkF, argsToLocals, Value.category]; done) | rfl) fun p e s m below meth c s₁ EN hx hby hml hown hnm hret X0 hZ e0 hh pre0 fin => ?_
  have N0 := Fr.nil n0
  obtain ⟨T3, X3, e3, st3⟩ := getF X0 hx hZ hown (host := "") (Or.inl (ww111 hw)) Via.refl e0 F2 (g := (mkF m 1 #[vR a1] [(.ref a1)])) rfl rfl (hb hby d16_1)
  obtain ⟨T5, X5, e5, st5⟩ := getF X3 hx hZ hown (host := "") (Or.inl (ww113 hw)) Via.refl e3 F4 (g := (mkF m 5 #[vR a1] [(.ref a1), (.int 0)])) rfl rfl (hb hby d16_5)
  refine fin (some (.int 0)) _ _ _ _ X5 nofun (fun fs hr => pre0 _ ?_) (own_atH e5 ?_) (by decide) (by decide)
  · refine o_aloadN X0 hx hby d16_0 rfl rfl (st3 _ (o_aloadN X3 hx hby d16_4 rfl rfl (st5 _ (o_iadd X5 hx hby d16_8 (z := (0 : Int32)) (by decide +kernel) (o_ifY X5 hx hby d16_9 (pc := 9) (pc' := 16) (by decide +kernel) (by decide) (by decide) (o_iconst X5 hx hby d16_16 (x := 0) rfl ?_))))))
    exact retN X5 hx (t := .boolean) hret (by simp) (hb hby d16_17) hr
  · exact ⟨rfl, N0, rfl⟩
def Q1_18 (Z : State) (p1 : Int32) (h0 : Heap) (n0 : Nat) (v : Option Value) (h : Heap) (L : List Loc) : Prop := ((1 : Int32) < p1 ∧ v = some (.int 1) ∧ Fr n0 L ∧ h = h0) ∨ (¬ ((1 : Int32) < p1) ∧ v = some (.int p1) ∧ Fr n0 L ∧ h = h0)
theorem rm1_18 (l : Launch) (Z : State) (a0 : Array Value) (hw : own_HW Z a0) (p1 : Int32) (h0 : Heap) (n0 : Nat) (O0 : Old Z n0 h0) : own_Met l Z M_0 bc1 2 (some .int) ({ frames := 0, cells := 0, slots := 0, locals := 0 } : Room) #[(.int p1), (.int 1)] h0 (Q1_18 Z p1 h0 n0) := by
  refine own_body (L0 := #[vI p1, vI 1]) (Jvm.Free.JP.mathPlain rfl (by decide +kernel)) (fun m => by first | (simp [entryFrame, mkF, argsToLocals, Value.category]; done) | rfl) fun p e s m below meth c s₁ EN hx hby hml hown hnm hret X0 hZ e0 hh pre0 fin => ?_
  have N0 := Fr.nil n0
  have pre2 : ∀ t, Steps p.tables e below (s₁.setTop (mkF m 2 #[vI p1, vI 1] [(.int 1), (.int p1)])) t → Steps p.tables e below EN t := by
    intro t kt
    refine pre0 t ?_
    refine o_iloadN X0 hx hby d1_0 rfl (o_iloadN X0 hx hby d1_1 rfl ?_)
    exact kt
  by_cases hc3 : (1 : Int32) < p1
  · skip
    refine fin (some (.int 1)) _ _ _ _ X0 nofun (fun fs hr => pre2 _ ?_) (own_atH e0 ?_) (by decide) (by decide)
    · refine o_icmpY X0 hx hby d1_2 (pc := 2) (pc' := 9) (tlt hc3).2.2.1 (by decide) (by decide) (o_iloadN X0 hx hby d1_9 rfl ?_)
      exact retI X0 hx hret (hb hby d1_10) hr
    · exact Or.inl (⟨hc3, rfl, N0, rfl⟩)
  · skip
    refine fin (some (.int p1)) _ _ _ _ X0 nofun (fun fs hr => pre2 _ ?_) (own_atH e0 ?_) (by decide) (by decide)
    · refine o_icmpN X0 hx hby d1_2 (flt hc3).2.2.1 (o_iloadN X0 hx hby d1_5 rfl (o_goto X0 hx hby d1_6 (pc := 6) (pc' := 10) (by decide) (by decide) ?_))
      exact retI X0 hx hret (hb hby d1_10) hr
    · exact Or.inr (⟨hc3, rfl, N0, rfl⟩)
def Q21_23 (Z : State)  (h0 : Heap) (n0 : Nat) (v : Option Value) (h : Heap) (L : List Loc) : Prop := (v = some (.int 10) ∧ Fr n0 L ∧ h = h0)
theorem rm21_23 (l : Launch) (Z : State) (a0 : Array Value) (hw : own_HW Z a0)  (h0 : Heap) (n0 : Nat) (O0 : Old Z n0 h0) : own_Met l Z M_18 bc21 2 (some .int) ({ frames := 0, cells := 0, slots := 0, locals := 0 } : Room) #[(.int 10), (.int 1)] h0 (Q21_23 Z  h0 n0) := by
  refine own_body (L0 := #[vI 10, vI 1]) (Jvm.Free.JP.mathPlain rfl (by decide +kernel)) (fun m => by first | (simp [entryFrame, mkF, argsToLocals, Value.category]; done) | rfl) fun p e s m below meth c s₁ EN hx hby hml hown hnm hret X0 hZ e0 hh pre0 fin => ?_
  have N0 := Fr.nil n0
  refine fin (some (.int 10)) _ _ _ _ X0 nofun (fun fs hr => pre0 _ ?_) (own_atH e0 ?_) (by decide) (by decide)
  · refine o_iloadN X0 hx hby d21_0 rfl (o_iloadN X0 hx hby d21_1 rfl (o_icmpN X0 hx hby d21_2 (by decide +kernel) (o_iloadN X0 hx hby d21_5 rfl (o_goto X0 hx hby d21_6 (pc := 6) (pc' := 10) (by decide) (by decide) ?_))))
    exact retI X0 hx hret (hb hby d21_10) hr
  · exact ⟨rfl, N0, rfl⟩
def Q20_22 (Z : State) (a1 : Addr) (a2 : Addr) (k5 : ClassId) (h0 : Heap) (n0 : Nat) (v : Option Value) (h : Heap) (L : List Loc) : Prop := (∃ (b15 : Addr) (k15 : ClassId), v = some (.ref b15) ∧ Fr n0 L ∧ h0.size ≤ b15 ∧ b15 < h.size ∧ Keep h0 h [a1] ∧ Exa Z h b15 C_2 ∧ Arv Z h b15 k15 (.object "java/lang/Object") (10 : Int32) [] .null ∧ Ovr Z k15 "java/lang/Object" ∧ Exa Z h a1 C_1 ∧ Fld Z h a1 C_1 "elementData" C_2 (.ref b15) ∧ Fld Z h a1 C_0 "modCount" "I" (.int 1) ∧ Fld Z h a1 C_1 "size" "I" (.int 0))
theorem rm20_22 (l : Launch) (Z : State) (a0 : Array Value) (hw : own_HW Z a0) (a1 : Addr) (a2 : Addr) (k5 : ClassId) (h0 : Heap) (n0 : Nat) (O0 : Old Z n0 h0) (F3 : Fld Z h0 a1 C_1 "elementData" C_2 (.ref a2)) (V6 : Arv Z Z.heap a2 k5 (.object "java/lang/Object") (0 : Int32) [] .null) (S_9 : Sta Z Z.heap C_1 "DEFAULTCAPACITY_EMPTY_ELEMENTDATA" C_2 (.ref a2)) (E_16 : Exa Z h0 a1 C_1) (F17 : Fld Z h0 a1 C_0 "modCount" "I" (.int 1)) (F18 : Fld Z h0 a1 C_1 "size" "I" (.int 0)) (g_a1 : n0 ≤ a1) (lt_a1 : a1 < h0.size) : own_Met l Z M_19 bc20 4 (some (.array (.object "java/lang/Object"))) ({ frames := 1, cells := 1, slots := 10, locals := 14 } : Room) #[(.ref a1), (.int 1)] h0 (Q20_22 Z a1 a2 k5 h0 n0) := by
  refine own_body (L0 := #[vR a1, vI 1, .unset, .unset]) (plainFor_of_name pn_2) (fun m => by first | (simp [entryFrame, mkF, argsToLocals, Value.category]; done) | rfl) fun p e s m below meth c s₁ EN hx hby hml hown hnm hret X0 hZ e0 hh pre0 fin => ?_
  have N0 := Fr.nil n0
  obtain ⟨T4, X4, e4, st4⟩ := getF X0 hx hZ hown (host := "") (Or.inl (ww28 hw)) Via.refl e0 F3 (g := (mkF m 1 #[vR a1, vI 1, .unset, .unset] [(.ref a1)])) rfl rfl (hb hby d20_1)
  obtain ⟨cl7, Ar7, -, Sz7, Nn7, -, -⟩ := id (V6.ext O0.2)
  obtain ⟨T8, X8, e8, st8⟩ := getF X4 hx hZ hown (host := "") (Or.inl (ww28 hw)) Via.refl e4 F3 (g := (mkF m 11 #[vR a1, vI 1, vI 0, .unset] [(.ref a1)])) rfl rfl (hb hby d20_11)
  obtain ⟨T10, X10, e10, st10⟩ := getS2 X8 hx hZ hown (host := "") (Or.inl (ww27 hw)) Via.refl e8 (Sta.ext O0.2 S_9) (g := (mkF m 14 #[vR a1, vI 1, vI 0, .unset] [(.ref a2)])) rfl (hb hby d20_14)
  obtain ⟨_, T11, L11, X11, hQ11, st11⟩ := own_cS X10 hx hZ hown (ww153 hw) (ww154 hw) (ww2 hw) (ww155 hw) (rm21_23 l Z a0 hw  h0 n0 O0) e10 pd_0 hml (hb hby d20_49) (Ls := #[vR a1, vI 1, vI 0, .unset]) (W := 1) (argsL := [(.int 10), (.int 1)]) (rest := [(.ref a1)])
  obtain ⟨rfl, u13, u14⟩ := hQ11
  have N11 := Fr.app N0 u13
  obtain ⟨T15, h15, k15, X15, e15, E15, A15, Ex15, Ov15, st15⟩ := newRE X11 hx hZ hown (ww156 hw) (ww157 hw) u14 (g := (mkF m 52 #[vR a1, vI 1, vI 0, .unset] [(.int 10), (.ref a1)])) rfl (hb hby d20_52) rfl (by decide +kernel) (cap := 10) (by decide +kernel) (by decide) (by decide) (by decide) (ad := "[Ljava/lang/Object;") (by decide +kernel)
  obtain ⟨b15, g15⟩ : ∃ z, z = h0.size := ⟨_, rfl⟩
  rw [← g15] at A15 Ex15 st15
  have O15 : Old Z n0 h15 := O0.ext E15
  have bd_b15 : h0.size ≤ b15 := Nat.le_of_eq g15.symm
  have g_b15 : n0 ≤ b15 := Nat.le_trans (own_z O0) bd_b15
  have sz_b15 : h0.size ≤ b15 := Nat.le_trans (Nat.le_refl _) bd_b15
  have lt_b15 : b15 < h15.size := A15.lt
  have V15 : Arv Z h15 b15 k15 (.object "java/lang/Object") (10 : Int32) [] .null := Arv.new A15 (by decide +kernel)
  have f19 : Fld Z h15 a1 C_1 "elementData" C_2 (.ref a2) := (Fld.ext E15 F3)
  have f20 : Exa Z h15 a1 C_1 := (Exa.ext E15 E_16)
  obtain ⟨T21, h21, X21, e21, W21, st21⟩ := putF X15 hx hZ hown (host := "") (Or.inl (ww28 hw)) Via.refl e15 f19 f20 (Or.inl (ww29 hw)) (ww5 hw) (ty := (.array (.object "java/lang/Object"))) (by decide) rfl rfl (g := (mkF m 56 #[vR a1, vI 1, vI 0, .unset] [(.ref b15), (.ref a1), (.ref b15)])) rfl rfl (hb hby d20_56)
  have O21 : Old Z n0 h21 := O15.wr W21 g_a1
  have Fw21 : Fld Z h21 a1 C_1 "elementData" C_2 (.ref b15) := Fld.same W21 f19
  have N21 := Fr.snoc X21 N11 g_a1
  have f22 : Exa Z h21 b15 C_2 := (Exa.wr W21 Ex15)
  have f23 : Arv Z h21 b15 k15 (.object "java/lang/Object") (10 : Int32) [] .null := (V15.other W21 (Ne.symm (own_n lt_a1 bd_b15)))
  have f24 : Exa Z h21 a1 C_1 := (Exa.wr W21 f20)
  have f25 : Fld Z h21 a1 C_0 "modCount" "I" (.int 1) := (Fld.other W21 (Fld.ext E15 F17) (Or.inr (own_sl2 hw)))
  have f26 : Fld Z h21 a1 C_1 "size" "I" (.int 0) := (Fld.other W21 (Fld.ext E15 F18) (Or.inr (own_sl3 hw)))
  refine fin (some (.ref b15)) _ _ _ _ X21 nofun (fun fs hr => pre0 _ ?_) (own_atH e21 ?_) (by decide) (by decide)
  · refine o_aloadN X0 hx hby d20_0 rfl rfl (st4 _ (X4.arraylength hx (by rw [e4]; exact Ar7.1) (State.isArrayOf_alike hZ.alike Ar7.2.1) (g := (mkF m 4 #[vR a1, vI 1, .unset, .unset] [(.ref a2)])) rfl rfl (hb hby d20_4) _ ?_))
    rw [len_of Sz7 Nn7]
    refine o_istoreN X4 hx hby d20_5 (Ls' := #[vR a1, vI 1, vI 0, .unset]) rfl (o_iloadN X4 hx hby d20_6 rfl (o_ifN X4 hx hby d20_7 (by decide +kernel) (o_aloadN X4 hx hby d20_10 rfl rfl (st8 _ (st10 _ (Jvm.RoadKit.acmp (g := (mkF m 17 #[vR a1, vI 1, vI 0, .unset] [(.ref a2), (.ref a2)])) X10 hx rfl rfl rfl (pc0 := 17) (pc' := 45) (same := true) rfl (hb hby d20_17) rfl (decide_eq_true rfl) (by decide) (by decide) (o_aloadN X10 hx hby d20_45 rfl rfl (o_bipush X10 hx hby d20_46 (x := 10) rfl (o_iloadN X10 hx hby d20_48 rfl (st11 _ (st15 _ (o_dupX1 X15 hx hby d20_55 rfl rfl (st21 _ ?_)))))))))))))
    show Steps p.tables e below (T21.setTop (mkF m 59 #[vR a1, vI 1, vI 0, .unset] [(.ref b15)])) _
    jvm_step X21.here [X21.here.top, hx, (hb hby d20_59), X21.method', hret, Value.isRef, FieldType.isReference]
    first | (intro acts; rw [hr _ acts rfl rfl rfl]) | rw [hr _ _ rfl rfl rfl]
    exact Steps.refl _
  · exact ⟨b15, k15, rfl, N21, sz_b15, (own_t lt_b15 (Keep.of_wr W21).1), (((Keep.refl h0 [a1]).ext E15).wr W21 (Or.inl (List.mem_of_getElem? (i := 0) rfl))), f22, f23, Ov15, f24, Fw21, f25, f26⟩
def Q19_21 (Z : State) (a1 : Addr) (a5 : Addr) (k7 : ClassId) (h0 : Heap) (n0 : Nat) (v : Option Value) (h : Heap) (L : List Loc) : Prop := (∃ (b12 : Addr) (k13 : ClassId), v = some (.ref b12) ∧ Fr n0 L ∧ h0.size ≤ b12 ∧ b12 < h.size ∧ Keep h0 h [a1] ∧ Exa Z h b12 C_2 ∧ Arv Z h b12 k13 (.object "java/lang/Object") (10 : Int32) [] .null ∧ Ovr Z k13 "java/lang/Object" ∧ Exa Z h a1 C_1 ∧ Fld Z h a1 C_1 "elementData" C_2 (.ref b12) ∧ Fld Z h a1 C_0 "modCount" "I" (.int 1) ∧ Fld Z h a1 C_1 "size" "I" (.int 0))
theorem rm19_21 (l : Launch) (Z : State) (a0 : Array Value) (hw : own_HW Z a0) (a1 : Addr) (a5 : Addr) (k7 : ClassId) (h0 : Heap) (n0 : Nat) (O0 : Old Z n0 h0) (F2 : Fld Z h0 a1 C_1 "size" "I" (.int 0)) (E_4 : Exa Z h0 a1 C_1) (F6 : Fld Z h0 a1 C_1 "elementData" C_2 (.ref a5)) (V8 : Arv Z Z.heap a5 k7 (.object "java/lang/Object") (0 : Int32) [] .null) (S_9 : Sta Z Z.heap C_1 "DEFAULTCAPACITY_EMPTY_ELEMENTDATA" C_2 (.ref a5)) (F10 : Fld Z h0 a1 C_0 "modCount" "I" (.int 1)) (g_a1 : n0 ≤ a1) (lt_a1 : a1 < h0.size) : own_Met l Z M_20 bc19 1 (some (.array (.object "java/lang/Object"))) ({ frames := 2, cells := 1, slots := 10, locals := 29 } : Room) #[(.ref a1)] h0 (Q19_21 Z a1 a5 k7 h0 n0) := by
  refine own_body (L0 := #[vR a1]) (plainFor_of_name pn_2) (fun m => by first | (simp [entryFrame, mkF, argsToLocals, Value.category]; done) | rfl) fun p e s m below meth c s₁ EN hx hby hml hown hnm hret X0 hZ e0 hh pre0 fin => ?_
  have N0 := Fr.nil n0
  obtain ⟨T3, X3, e3, st3⟩ := getF X0 hx hZ hown (host := "") (Or.inl (ww60 hw)) Via.refl e0 F2 (g := (mkF m 2 #[vR a1] [(.ref a1), (.ref a1)])) rfl rfl (hb hby d19_2)
  obtain ⟨_, T11, L11, X11, hQ11, st11⟩ := own_cP X3 hx hZ hown (ww148 hw) (ww149 hw) (mvT hZ (ww151 hw)) (ww150 hw) (ww6 hw) (ww152 hw) E_4 (rm20_22 l Z a0 hw a1 a5 k7 h0 n0 O0 F6 V8 S_9 E_4 F10 F2 g_a1 lt_a1) e3 pd_11 hml (hb hby d19_7) (Ls := #[vR a1]) (W := 0) (argsL := [(.int 1)]) (rest := [])
  obtain ⟨b12, k13, rfl, u15, u16, u17, Ku18, u19, u20, u21, u22, u23, u24, u25⟩ := hQ11
  have Ou18 : Old Z n0 T11.heap := O0.keep Ku18 (allS g_a1 all0)
  have g_b12 : n0 ≤ b12 := Nat.le_trans (own_z O0) u16
  have sz_b12 : h0.size ≤ b12 := Nat.le_trans (Nat.le_refl _) u16
  have N11 := Fr.app N0 u15
  refine fin (some (.ref b12)) _ _ _ _ X11 nofun (fun fs hr => pre0 _ ?_) ?_ (by decide) (by decide)
  · refine o_aloadN X0 hx hby d19_0 rfl rfl (o_aloadN X0 hx hby d19_1 rfl rfl (st3 _ (o_iconst X3 hx hby d19_5 (x := 1) rfl (o_iadd X3 hx hby d19_6 (z := (1 : Int32)) (by decide +kernel) (st11 _ ?_)))))
    show Steps p.tables e below (T11.setTop (mkF m 10 #[vR a1] [(.ref b12)])) _
    jvm_step X11.here [X11.here.top, hx, (hb hby d19_10), X11.method', hret, Value.isRef, FieldType.isReference]
    first | (intro acts; rw [hr _ acts rfl rfl rfl]) | rw [hr _ _ rfl rfl rfl]
    exact Steps.refl _
  · exact ⟨b12, k13, rfl, N11, sz_b12, u17, ((Keep.refl h0 [a1]).trans Ku18 (allS (Or.inl (List.mem_of_getElem? (i := 0) rfl)) all0)), u19, u20, u21, u22, u23, u24, u25⟩
def Q18_20 (Z : State) (a1 : Addr) (a2 : Addr) (a3 : Addr) (k4 : ClassId) (h0 : Heap) (n0 : Nat) (v : Option Value) (h : Heap) (L : List Loc) : Prop := (∃ (b13 : Addr) (k14 : ClassId), v = none ∧ Fr n0 L ∧ h0.size ≤ b13 ∧ b13 < h.size ∧ Keep h0 h [a1] ∧ Exa Z h a1 C_1 ∧ Fld Z h a1 C_1 "elementData" C_2 (.ref b13) ∧ Fld Z h a1 C_0 "modCount" "I" (.int 1) ∧ Fld Z h a1 C_1 "size" "I" (.int 1) ∧ Exa Z h b13 C_2 ∧ Arv Z h b13 k14 (.object "java/lang/Object") (10 : Int32) [(.ref a2)] .null ∧ Ovr Z k14 "java/lang/Object")
theorem rm18_20 (l : Launch) (Z : State) (a0 : Array Value) (hw : own_HW Z a0) (a1 : Addr) (a2 : Addr) (a3 : Addr) (k4 : ClassId) (h0 : Heap) (n0 : Nat) (O0 : Old Z n0 h0) (V5 : Arv Z Z.heap a3 k4 (.object "java/lang/Object") (0 : Int32) [] .null) (E_7 : Exa Z h0 a1 C_1) (F8 : Fld Z h0 a1 C_1 "size" "I" (.int 0)) (F9 : Fld Z h0 a1 C_1 "elementData" C_2 (.ref a3)) (S_10 : Sta Z Z.heap C_1 "DEFAULTCAPACITY_EMPTY_ELEMENTDATA" C_2 (.ref a3)) (F11 : Fld Z h0 a1 C_0 "modCount" "I" (.int 1)) (g_a1 : n0 ≤ a1) (lt_a1 : a1 < h0.size) (E_29 : Exa Z Z.heap a2 C_8) : own_Met l Z M_21 bc18 4 none ({ frames := 3, cells := 1, slots := 10, locals := 41 } : Room) #[(.ref a1), (.ref a2), (.ref a3), (.int 0)] h0 (Q18_20 Z a1 a2 a3 k4 h0 n0) := by
  refine own_body (L0 := #[vR a1, vR a2, vR a3, vI 0]) (plainFor_of_name pn_2) (fun m => by first | (simp [entryFrame, mkF, argsToLocals, Value.category]; done) | rfl) fun p e s m below meth c s₁ EN hx hby hml hown hnm hret X0 hZ e0 hh pre0 fin => ?_
  have N0 := Fr.nil n0
  obtain ⟨cl6, Ar6, -, Sz6, Nn6, -, -⟩ := id (V5.ext O0.2)
  obtain ⟨_, T12, L12, X12, hQ12, st12⟩ := own_cP X0 hx hZ hown (ww143 hw) (ww144 hw) (mvT hZ (ww146 hw)) (ww145 hw) (ww6 hw) (ww147 hw) E_7 (rm19_21 l Z a0 hw a1 a3 k4 h0 n0 O0 F8 E_7 F9 V5 S_10 F11 g_a1 lt_a1) e0 pd_12 hml (hb hby d18_7) (Ls := #[vR a1, vR a2, vR a3, vI 0]) (W := 0) (argsL := []) (rest := [])
  obtain ⟨b13, k14, rfl, u16, u17, u18, Ku19, u20, u21, u22, u23, u24, u25, u26⟩ := hQ12
  have Ou19 : Old Z n0 T12.heap := O0.keep Ku19 (allS g_a1 all0)
  have g_b13 : n0 ≤ b13 := Nat.le_trans (own_z O0) u17
  have sz_b13 : h0.size ≤ b13 := Nat.le_trans (Nat.le_refl _) u17
  have N12 := Fr.app N0 u16
  have Vp27 : Arv Z T12.heap b13 k14 (.object "java/lang/Object") (10 : Int32) [.null] .null := u21.pad (pad_rep [] .null 1)
  obtain ⟨cl28, Ar28, qk28, Sz28, Nn28, Hh28, Gg28⟩ := id Vp27
  have hin28 : ¬ ((0 : Int32) < 0 ∨ cl28.slots.size ≤ ((0 : Int32)).toNatClampNeg) := inb_of Sz28 ⟨by decide +kernel, by decide +kernel⟩
  obtain ⟨T30, h30, X30, e30, W30, st30⟩ := stR X12 hx hZ rfl Ar28 (j := (0 : Int32)) hin28 rfl (Sto.ofV Ar28 qk28 u22 (Ins.of_exa (Exa.ext Ou19.2 E_29) (ww158 hw))) (g := (mkF m 14 #[vR a1, vR a2, vR b13, vI 0] [(.ref a2), (.int 0), (.ref b13)])) rfl rfl (hb hby d18_14)
  have O30 : Old Z n0 h30 := Ou19.wr W30 g_b13
  have V30 : Arv Z h30 b13 k14 (.object "java/lang/Object") (10 : Int32) [(.ref a2)] .null := Arv.set Ar28 qk28 Sz28 Nn28 Hh28 Gg28 rfl W30 0 rfl (Nat.le_of_ble_eq_true rfl)
  have N30 := Fr.snoc X30 N12 g_b13
  have f31 : Fld Z h30 a1 C_1 "size" "I" (.int 0) := (Fld.other W30 u26 (Or.inl (own_n lt_a1 u17)))
  have f32 : Exa Z h30 a1 C_1 := (Exa.wr W30 u23)
  obtain ⟨T33, h33, X33, e33, W33, st33⟩ := putF X30 hx hZ hown (host := "") (Or.inl (ww60 hw)) Via.refl e30 f31 f32 (Or.inl (ww61 hw)) (ww5 hw) (ty := .int) (by decide) rfl rfl (g := (mkF m 19 #[vR a1, vR a2, vR b13, vI 0] [(.int 1), (.ref a1)])) rfl rfl (hb hby d18_19)
  have O33 : Old Z n0 h33 := O30.wr W33 g_a1
  have Fw33 : Fld Z h33 a1 C_1 "size" "I" (.int 1) := Fld.same W33 f31
  have N33 := Fr.snoc X33 N30 g_a1
  have f34 : Exa Z h33 a1 C_1 := (Exa.wr W33 f32)
  have f35 : Fld Z h33 a1 C_1 "elementData" C_2 (.ref b13) := (Fld.other W33 (Fld.other W30 u24 (Or.inl (own_n lt_a1 u17))) (Or.inr (own_sl33 hw)))
  have f36 : Fld Z h33 a1 C_0 "modCount" "I" (.int 1) := (Fld.other W33 (Fld.other W30 u25 (Or.inl (own_n lt_a1 u17))) (Or.inr (own_sl34 hw)))
  have f37 : Exa Z h33 b13 C_2 := (Exa.wr W33 (Exa.wr W30 u20))
  have f38 : Arv Z h33 b13 k14 (.object "java/lang/Object") (10 : Int32) [(.ref a2)] .null := (V30.other W33 (Ne.symm (own_n lt_a1 u17)))
  refine fin none _ _ _ _ X33 (fun _ => rfl) (fun fs hr => pre0 _ ?_) (own_atH e33 ?_) (by decide) (by decide)
  · refine o_iloadN X0 hx hby d18_0 rfl (o_aloadN X0 hx hby d18_1 rfl rfl (X0.arraylength hx (by rw [e0]; exact Ar6.1) (State.isArrayOf_alike hZ.alike Ar6.2.1) (g := (mkF m 2 #[vR a1, vR a2, vR a3, vI 0] [(.ref a3), (.int 0)])) rfl rfl (hb hby d18_2) _ ?_))
    rw [len_of Sz6 Nn6]
    refine o_icmpN X0 hx hby d18_3 (by decide +kernel) (o_aloadN X0 hx hby d18_6 rfl rfl (st12 _ (o_astoreN X12 hx hby d18_10 rfl (Ls' := #[vR a1, vR a2, vR b13, vI 0]) rfl (o_aloadN X12 hx hby d18_11 rfl rfl (o_iloadN X12 hx hby d18_12 rfl (o_aloadN X12 hx hby d18_13 rfl rfl (st30 _ (o_aloadN X30 hx hby d18_15 rfl rfl (o_iloadN X30 hx hby d18_16 rfl (o_iconst X30 hx hby d18_17 (x := 1) rfl (o_iadd X30 hx hby d18_18 (z := (1 : Int32)) (by decide +kernel) (st33 _ ?_))))))))))))
    exact X33.returnOut hx hret (hb hby d18_22) hr
  · exact ⟨b13, k14, rfl, N33, sz_b13, (own_t (own_t u18 (Keep.of_wr W30).1) (Keep.of_wr W33).1), ((((Keep.refl h0 [a1]).trans Ku19 (allS (Or.inl (List.mem_of_getElem? (i := 0) rfl)) all0)).wr W30 (Or.inr sz_b13)).wr W33 (Or.inl (List.mem_of_getElem? (i := 0) rfl))), f34, f35, f36, Fw33, f37, f38, u22⟩
def Q17_19 (Z : State) (a1 : Addr) (a2 : Addr) (a6 : Addr) (k14 : ClassId) (h0 : Heap) (n0 : Nat) (v : Option Value) (h : Heap) (L : List Loc) : Prop := (∃ (b20 : Addr) (k21 : ClassId), v = some (.int 1) ∧ Fr n0 L ∧ h0.size ≤ b20 ∧ b20 < h.size ∧ Keep h0 h [a1] ∧ Exa Z h a1 C_1 ∧ Fld Z h a1 C_1 "elementData" C_2 (.ref b20) ∧ Fld Z h a1 C_0 "modCount" "I" (.int 1) ∧ Fld Z h a1 C_1 "size" "I" (.int 1) ∧ Exa Z h b20 C_2 ∧ Arv Z h b20 k21 (.object "java/lang/Object") (10 : Int32) [(.ref a2)] .null ∧ Ovr Z k21 "java/lang/Object")
theorem rm17_19 (l : Launch) (Z : State) (a0 : Array Value) (hw : own_HW Z a0) (a1 : Addr) (a2 : Addr) (a6 : Addr) (k14 : ClassId) (h0 : Heap) (n0 : Nat) (O0 : Old Z n0 h0) (F3 : Fld Z h0 a1 C_0 "modCount" "I" (.int 0)) (E_5 : Exa Z h0 a1 C_1) (F7 : Fld Z h0 a1 C_1 "elementData" C_2 (.ref a6)) (F8 : Fld Z h0 a1 C_1 "size" "I" (.int 0)) (g_a1 : n0 ≤ a1) (V15 : Arv Z Z.heap a6 k14 (.object "java/lang/Object") (0 : Int32) [] .null) (S_16 : Sta Z Z.heap C_1 "DEFAULTCAPACITY_EMPTY_ELEMENTDATA" C_2 (.ref a6)) (E_17 : Exa Z Z.heap a2 C_8) (lt_a1 : a1 < h0.size) : own_Met l Z M_22 bc17 2 (some .boolean) ({ frames := 4, cells := 1, slots := 10, locals := 56 } : Room) #[(.ref a1), (.ref a2)] h0 (Q17_19 Z a1 a2 a6 k14 h0 n0) := by
  refine own_body (L0 := #[vR a1, vR a2]) (plainFor_of_name pn_2) (fun m => by first | (simp [entryFrame, mkF, argsToLocals, Value.category]; done) | rfl) fun p e s m below meth c s₁ EN hx hby hml hown hnm hret X0 hZ e0 hh pre0 fin => ?_
  have N0 := Fr.nil n0
  obtain ⟨T4, X4, e4, st4⟩ := getF X0 hx hZ hown (host := "") (Or.inl (ww137 hw)) (Via.of (ww87 hw)) e0 F3 (g := (mkF m 2 #[vR a1, vR a2] [(.ref a1), (.ref a1)])) rfl rfl (hb hby d17_2)
  obtain ⟨T9, h9, X9, e9, W9, st9⟩ := putF X4 hx hZ hown (host := "") (Or.inl (ww137 hw)) (Via.of (ww87 hw)) e4 F3 E_5 (Or.inl (ww26 hw)) (ww5 hw) (ty := .int) (by decide) rfl rfl (g := (mkF m 7 #[vR a1, vR a2] [(.int 1), (.ref a1)])) rfl rfl (hb hby d17_7)
  have O9 : Old Z n0 h9 := O0.wr W9 g_a1
  have Fw9 : Fld Z h9 a1 C_0 "modCount" "I" (.int 1) := Fld.same W9 F3
  have N9 := Fr.snoc X9 N0 g_a1
  have f10 : Fld Z h9 a1 C_1 "elementData" C_2 (.ref a6) := (Fld.other W9 F7 (Or.inr (own_sl0 hw)))
  obtain ⟨T11, X11, e11, st11⟩ := getF X9 hx hZ hown (host := "") (Or.inl (ww28 hw)) Via.refl e9 f10 (g := (mkF m 13 #[vR a1, vR a2] [(.ref a1), (.ref a2), (.ref a1)])) rfl rfl (hb hby d17_13)
  have f12 : Fld Z h9 a1 C_1 "size" "I" (.int 0) := (Fld.other W9 F8 (Or.inr (own_sl1 hw)))
  obtain ⟨T13, X13, e13, st13⟩ := getF X11 hx hZ hown (host := "") (Or.inl (ww60 hw)) Via.refl e11 f12 (g := (mkF m 17 #[vR a1, vR a2] [(.ref a1), (.ref a6), (.ref a2), (.ref a1)])) rfl rfl (hb hby d17_17)
  have f18 : Exa Z h9 a1 C_1 := (Exa.wr W9 E_5)
  obtain ⟨_, T19, L19, X19, hQ19, st19⟩ := own_cP X13 hx hZ hown (ww138 hw) (ww139 hw) (mvT hZ (ww141 hw)) (ww140 hw) (ww6 hw) (ww142 hw) f18 (rm18_20 l Z a0 hw a1 a2 a6 k14 h9 n0 O9 V15 f18 f12 f10 S_16 Fw9 g_a1 (own_t lt_a1 (Keep.of_wr W9).1) E_17) e13 pd_13 hml (hb hby d17_20) (Ls := #[vR a1, vR a2]) (W := 0) (argsL := [(.ref a2), (.ref a6), (.int 0)]) (rest := [])
  obtain ⟨b20, k21, rfl, u23, u24, u25, Ku26, u27, u28, u29, u30, u31, u32, u33⟩ := hQ19
  have Ou26 : Old Z n0 T19.heap := O9.keep Ku26 (allS g_a1 all0)
  have g_b20 : n0 ≤ b20 := Nat.le_trans (own_z O9) u24
  have sz_b20 : h0.size ≤ b20 := Nat.le_trans (Keep.of_wr W9).1 u24
  have N19 := Fr.app N9 u23
  refine fin (some (.int 1)) _ _ _ _ X19 nofun (fun fs hr => pre0 _ ?_) ?_ (by decide) (by decide)
  · refine o_aloadN X0 hx hby d17_0 rfl rfl (o_dup X0 hx hby d17_1 rfl (st4 _ (o_iconst X4 hx hby d17_5 (x := 1) rfl (o_iadd X4 hx hby d17_6 (z := (1 : Int32)) (by decide +kernel) (st9 _ (o_aloadN X9 hx hby d17_10 rfl rfl (o_aloadN X9 hx hby d17_11 rfl rfl (o_aloadN X9 hx hby d17_12 rfl rfl (st11 _ (o_aloadN X11 hx hby d17_16 rfl rfl (st13 _ (st19 _ (o_iconst X19 hx hby d17_23 (x := 1) rfl ?_)))))))))))))
    exact retN X19 hx (t := .boolean) hret (by simp) (hb hby d17_24) hr
  · exact ⟨b20, k21, rfl, N19, sz_b20, u25, (((Keep.refl h0 [a1]).wr W9 (Or.inl (List.mem_of_getElem? (i := 0) rfl))).trans Ku26 (allS (Or.inl (List.mem_of_getElem? (i := 0) rfl)) all0)), u27, u28, u29, u30, u31, u32, u33⟩
def Q8_25 (Z : State) (a1 : Addr) (h0 : Heap) (n0 : Nat) (v : Option Value) (h : Heap) (L : List Loc) : Prop := (v = some (.int 1) ∧ Fr n0 L ∧ h = h0)
theorem rm8_25 (l : Launch) (Z : State) (a0 : Array Value) (hw : own_HW Z a0) (a1 : Addr) (h0 : Heap) (n0 : Nat) (O0 : Old Z n0 h0) (F2 : Fld Z h0 a1 C_1 "size" "I" (.int 1)) : own_Met l Z M_5 bc8 1 (some .int) ({ frames := 0, cells := 0, slots := 0, locals := 0 } : Room) #[(.ref a1)] h0 (Q8_25 Z a1 h0 n0) := by
  refine own_body (L0 := #[vR a1]) (plainFor_of_name pn_2) (fun m => by first | (simp [entryFrame, mkF, argsToLocals, Value.category]; done) | rfl) fun p e s m below meth c s₁ EN hx hby hml hown hnm hret X0 hZ e0 hh pre0 fin => ?_
  have N0 := Fr.nil n0
  obtain ⟨T3, X3, e3, st3⟩ := getF X0 hx hZ hown (host := "") (Or.inl (ww60 hw)) Via.refl e0 F2 (g := (mkF m 1 #[vR a1] [(.ref a1)])) rfl rfl (hb hby d8_1)
  refine fin (some (.int 1)) _ _ _ _ X3 nofun (fun fs hr => pre0 _ ?_) (own_atH e3 ?_) (by decide) (by decide)
  · refine o_aloadN X0 hx hby d8_0 rfl rfl (st3 _ ?_)
    exact retI X3 hx hret (hb hby d8_4) hr
  · exact ⟨rfl, N0, rfl⟩
def Q10_27 (Z : State) (a1 : Addr) (a2 : Addr) (h0 : Heap) (n0 : Nat) (v : Option Value) (h : Heap) (L : List Loc) : Prop := (v = none ∧ Fr n0 L ∧ Keep h0 h [a1] ∧ Exa Z h a1 C_6 ∧ Fld Z h a1 C_6 "cursor" "I" (.int 0) ∧ Fld Z h a1 C_6 "expectedModCount" "I" (.int 1) ∧ Fld Z h a1 C_6 "lastRet" "I" (.int (-1)) ∧ Fld Z h a1 C_6 "this$0" C_7 (.ref a2))
theorem rm10_27 (l : Launch) (Z : State) (a0 : Array Value) (hw : own_HW Z a0) (a1 : Addr) (a2 : Addr) (h0 : Heap) (n0 : Nat) (O0 : Old Z n0 h0) (E_3 : Exa Z h0 a1 C_6) (F4 : Fld Z h0 a1 C_6 "cursor" "I" (.int 0)) (F5 : Fld Z h0 a1 C_6 "expectedModCount" "I" (.int 0)) (F6 : Fld Z h0 a1 C_6 "lastRet" "I" (.int 0)) (F7 : Fld Z h0 a1 C_6 "this$0" C_7 .null) (g_a1 : n0 ≤ a1) (F15 : Fld Z h0 a2 C_0 "modCount" "I" (.int 1)) (hne16 : a2 ≠ a1) : own_Met l Z M_7 bc10 2 none ({ frames := 1, cells := 0, slots := 0, locals := 12 } : Room) #[(.ref a1), (.ref a2)] h0 (Q10_27 Z a1 a2 h0 n0) := by
  refine own_body (L0 := #[vR a1, vR a2]) (plainFor_of_name pn_4) (fun m => by first | (simp [entryFrame, mkF, argsToLocals, Value.category]; done) | rfl) fun p e s m below meth c s₁ EN hx hby hml hown hnm hret X0 hZ e0 hh pre0 fin => ?_
  have N0 := Fr.nil n0
  obtain ⟨T8, h8, X8, e8, W8, st8⟩ := putF X0 hx hZ hown (host := "") (Or.inl (ww81 hw)) Via.refl e0 F7 E_3 (Or.inr ⟨(ww82 hw), rfl, hnm⟩) (ww75 hw) (ty := (.object "java/util/ArrayList")) (by decide) rfl rfl (g := (mkF m 2 #[vR a1, vR a2] [(.ref a2), (.ref a1)])) rfl rfl (hb hby d10_2)
  have O8 : Old Z n0 h8 := O0.wr W8 g_a1
  have Fw8 : Fld Z h8 a1 C_6 "this$0" C_7 (.ref a2) := Fld.same W8 F7
  have N8 := Fr.snoc X8 N0 g_a1
  obtain ⟨T9, X9, e9, st9⟩ := initO X8 hx hZ hown (ww83 hw) (ww23 hw) (ww24 hw) e8 (g := (mkF m 6 #[vR a1, vR a2] [(.ref a1)])) rfl (by rw [hml]; rfl) rfl (hb hby d10_6) (by decide) (W := 0) (by show 2 * 0 + _ ≤ _; exact Nat.le_of_eq rfl) (by decide)
  have f10 : Fld Z h8 a1 C_6 "lastRet" "I" (.int 0) := (Fld.other W8 F6 (Or.inr (own_sl10 hw)))
  have f11 : Exa Z h8 a1 C_6 := (Exa.wr W8 E_3)
  obtain ⟨T12, h12, X12, e12, W12, st12⟩ := putF X9 hx hZ hown (host := "") (Or.inl (ww84 hw)) Via.refl e9 f10 f11 (Or.inl (ww85 hw)) (ww75 hw) (ty := .int) (by decide) rfl rfl (g := (mkF m 11 #[vR a1, vR a2] [(.int (-1)), (.ref a1)])) rfl rfl (hb hby d10_11)
  have O12 : Old Z n0 h12 := O8.wr W12 g_a1
  have Fw12 : Fld Z h12 a1 C_6 "lastRet" "I" (.int (-1)) := Fld.same W12 f10
  have N12 := Fr.snoc X12 N8 g_a1
  have f13 : Fld Z h12 a1 C_6 "this$0" C_7 (.ref a2) := (Fld.other W12 Fw8 (Or.inr (own_sl11 hw)))
  obtain ⟨T14, X14, e14, st14⟩ := getF X12 hx hZ hown (host := "") (Or.inl (ww81 hw)) Via.refl e12 f13 (g := (mkF m 16 #[vR a1, vR a2] [(.ref a1), (.ref a1)])) rfl rfl (hb hby d10_16)
  have f17 : Fld Z h12 a2 C_0 "modCount" "I" (.int 1) := (Fld.other W12 (Fld.other W8 F15 (Or.inl hne16)) (Or.inl hne16))
  obtain ⟨T18, X18, e18, st18⟩ := getF X14 hx hZ hown (host := "") (Or.inl (ww86 hw)) (Via.of (ww87 hw)) e14 f17 (g := (mkF m 19 #[vR a1, vR a2] [(.ref a2), (.ref a1)])) rfl rfl (hb hby d10_19)
  have f19 : Fld Z h12 a1 C_6 "expectedModCount" "I" (.int 0) := (Fld.other W12 (Fld.other W8 F5 (Or.inr (own_sl12 hw))) (Or.inr (own_sl13 hw)))
  have f20 : Exa Z h12 a1 C_6 := (Exa.wr W12 f11)
  obtain ⟨T21, h21, X21, e21, W21, st21⟩ := putF X18 hx hZ hown (host := "") (Or.inl (ww88 hw)) Via.refl e18 f19 f20 (Or.inl (ww89 hw)) (ww75 hw) (ty := .int) (by decide) rfl rfl (g := (mkF m 22 #[vR a1, vR a2] [(.int 1), (.ref a1)])) rfl rfl (hb hby d10_22)
  have O21 : Old Z n0 h21 := O12.wr W21 g_a1
  have Fw21 : Fld Z h21 a1 C_6 "expectedModCount" "I" (.int 1) := Fld.same W21 f19
  have N21 := Fr.snoc X21 N12 g_a1
  have f22 : Exa Z h21 a1 C_6 := (Exa.wr W21 f20)
  have f23 : Fld Z h21 a1 C_6 "cursor" "I" (.int 0) := (Fld.other W21 (Fld.other W12 (Fld.other W8 F4 (Or.inr (own_sl14 hw))) (Or.inr (own_sl15 hw))) (Or.inr (own_sl16 hw)))
  have f24 : Fld Z h21 a1 C_6 "lastRet" "I" (.int (-1)) := (Fld.other W21 Fw12 (Or.inr (own_sl17 hw)))
  have f25 : Fld Z h21 a1 C_6 "this$0" C_7 (.ref a2) := (Fld.other W21 f13 (Or.inr (own_sl18 hw)))
  refine fin none _ _ _ _ X21 (fun _ => rfl) (fun fs hr => pre0 _ ?_) (own_atH e21 ?_) (by decide) (by decide)
  · refine o_aloadN X0 hx hby d10_0 rfl rfl (o_aloadN X0 hx hby d10_1 rfl rfl (st8 _ (o_aloadN X8 hx hby d10_5 rfl rfl (st9 _ (o_aloadN X9 hx hby d10_9 rfl rfl (o_iconst X9 hx hby d10_10 (x := -1) rfl (st12 _ (o_aloadN X12 hx hby d10_14 rfl rfl (o_aloadN X12 hx hby d10_15 rfl rfl (st14 _ (st18 _ (st21 _ ?_))))))))))))
    exact X21.returnOut hx hret (hb hby d10_25) hr
  · exact ⟨rfl, N21, ((((Keep.refl h0 [a1]).wr W8 (Or.inl (List.mem_of_getElem? (i := 0) rfl))).wr W12 (Or.inl (List.mem_of_getElem? (i := 0) rfl))).wr W21 (Or.inl (List.mem_of_getElem? (i := 0) rfl))), f22, f23, Fw21, f24, f25⟩
def Q9_26 (Z : State) (a1 : Addr) (h0 : Heap) (n0 : Nat) (v : Option Value) (h : Heap) (L : List Loc) : Prop := (∃ (b2 : Addr), v = some (.ref b2) ∧ Fr n0 L ∧ h0.size ≤ b2 ∧ b2 < h.size ∧ Keep h0 h [] ∧ Exa Z h b2 C_6 ∧ Fld Z h b2 C_6 "cursor" "I" (.int 0) ∧ Fld Z h b2 C_6 "expectedModCount" "I" (.int 1) ∧ Fld Z h b2 C_6 "lastRet" "I" (.int (-1)) ∧ Fld Z h b2 C_6 "this$0" C_7 (.ref a1))
theorem rm9_26 (l : Launch) (Z : State) (a0 : Array Value) (hw : own_HW Z a0) (a1 : Addr) (h0 : Heap) (n0 : Nat) (O0 : Old Z n0 h0) (F3 : Fld Z h0 a1 C_0 "modCount" "I" (.int 1)) (lt_a1 : a1 < h0.size) : own_Met l Z M_8 bc9 1 (some (.object "java/util/Iterator")) ({ frames := 2, cells := 1, slots := 4, locals := 26 } : Room) #[(.ref a1)] h0 (Q9_26 Z a1 h0 n0) := by
  refine own_body (L0 := #[vR a1]) (plainFor_of_name pn_2) (fun m => by first | (simp [entryFrame, mkF, argsToLocals, Value.category]; done) | rfl) fun p e s m below meth c s₁ EN hx hby hml hown hnm hret X0 hZ e0 hh pre0 fin => ?_
  have N0 := Fr.nil n0
  obtain ⟨T2, h2, X2, e2, E2, A2, D2, -, st2⟩ := newO X0 hx hZ hown (ww74 hw) (ww75 hw) (ww76 hw) e0 (g := (mkF m 0 #[vR a1] [])) rfl (hb hby d9_0) (by decide) (by decide)
  obtain ⟨b2, g2⟩ : ∃ z, z = h0.size := ⟨_, rfl⟩
  rw [← g2] at A2 D2 st2
  have O2 : Old Z n0 h2 := O0.ext E2
  have bd_b2 : h0.size ≤ b2 := Nat.le_of_eq g2.symm
  have g_b2 : n0 ≤ b2 := Nat.le_trans (own_z O0) bd_b2
  have sz_b2 : h0.size ≤ b2 := Nat.le_trans (Nat.le_refl _) bd_b2
  have lt_b2 : b2 < h2.size := A2.lt
  have D2_82 : Fld Z h2 b2 C_6 "this$0" C_7 .null := D2 (Or.inr (ww82 hw)) (ty := (.object "java/util/ArrayList")) (by decide)
  have D2_85 : Fld Z h2 b2 C_6 "lastRet" "I" (.int 0) := D2 (Or.inl (ww85 hw)) (ty := .int) (by decide)
  have D2_89 : Fld Z h2 b2 C_6 "expectedModCount" "I" (.int 0) := D2 (Or.inl (ww89 hw)) (ty := .int) (by decide)
  have D2_100 : Fld Z h2 b2 C_6 "cursor" "I" (.int 0) := D2 (Or.inl (ww100 hw)) (ty := .int) (by decide)
  have f4 : Fld Z h2 a1 C_0 "modCount" "I" (.int 1) := (Fld.ext E2 F3)
  obtain ⟨_, T5, L5, X5, hQ5, st5⟩ := own_cI X2 hx hZ hown (ww77 hw) (ww78 hw) (ww76 hw) (ww80 hw) (rm10_27 l Z a0 hw b2 a1 h2 n0 O2 A2 D2_100 D2_89 D2_85 D2_82 g_b2 f4 (own_n lt_a1 bd_b2)) e2 pd_4 hml (hb hby d9_5) (Ls := #[vR a1]) (W := 1) (argsL := [(.ref a1)]) (rest := [(.ref b2)]) (b := b2)
  obtain ⟨rfl, u7, Ku8, u9, u10, u11, u12, u13⟩ := hQ5
  have Ou8 : Old Z n0 T5.heap := O2.keep Ku8 (allS g_b2 all0)
  have N5 := Fr.app N0 u7
  refine fin (some (.ref b2)) _ _ _ _ X5 nofun (fun fs hr => pre0 _ ?_) ?_ (by decide) (by decide)
  · refine st2 _ (o_dup X2 hx hby d9_3 rfl (o_aloadN X2 hx hby d9_4 rfl rfl (st5 _ ?_)))
    show Steps p.tables e below (T5.setTop (mkF m 8 #[vR a1] [(.ref b2)])) _
    jvm_step X5.here [X5.here.top, hx, (hb hby d9_8), X5.method', hret, Value.isRef, FieldType.isReference]
    first | (intro acts; rw [hr _ acts rfl rfl rfl]) | rw [hr _ _ rfl rfl rfl]
    exact Steps.refl _
  · exact ⟨b2, rfl, N5, sz_b2, (own_t lt_b2 Ku8.1), (((Keep.refl h0 []).ext E2).trans Ku8 (allS (Or.inr sz_b2) all0)), u9, u10, u11, u12, u13⟩
def Q11_28 (Z : State) (a1 : Addr) (a4 : Addr) (h0 : Heap) (n0 : Nat) (v : Option Value) (h : Heap) (L : List Loc) : Prop := (v = some (.int 1) ∧ Fr n0 L ∧ h = h0)
theorem rm11_28 (l : Launch) (Z : State) (a0 : Array Value) (hw : own_HW Z a0) (a1 : Addr) (a4 : Addr) (h0 : Heap) (n0 : Nat) (O0 : Old Z n0 h0) (F2 : Fld Z h0 a1 C_6 "cursor" "I" (.int 0)) (F5 : Fld Z h0 a1 C_6 "this$0" C_7 (.ref a4)) (F7 : Fld Z h0 a4 C_1 "size" "I" (.int 1)) : own_Met l Z M_10 bc11 1 (some .boolean) ({ frames := 0, cells := 0, slots := 0, locals := 0 } : Room) #[(.ref a1)] h0 (Q11_28 Z a1 a4 h0 n0) := by
  refine own_body (L0 := #[vR a1]) (plainFor_of_name pn_4) (fun m => by first | (simp [entryFrame, mkF, argsToLocals, Value.category]; done) | rfl) fun p e s m below meth c s₁ EN hx hby hml hown hnm hret X0 hZ e0 hh pre0 fin => ?_
  have N0 := Fr.nil n0
  obtain ⟨T3, X3, e3, st3⟩ := getF X0 hx hZ hown (host := "") (Or.inl (ww99 hw)) Via.refl e0 F2 (g := (mkF m 1 #[vR a1] [(.ref a1)])) rfl rfl (hb hby d11_1)
  obtain ⟨T6, X6, e6, st6⟩ := getF X3 hx hZ hown (host := "") (Or.inl (ww81 hw)) Via.refl e3 F5 (g := (mkF m 5 #[vR a1] [(.ref a1), (.int 0)])) rfl rfl (hb hby d11_5)
  obtain ⟨T8, X8, e8, st8⟩ := getF X6 hx hZ hown (Or.inr (ww101 hw)) Via.refl e6 F7 (g := (mkF m 8 #[vR a1] [(.ref a4), (.int 0)])) rfl rfl (hb hby d11_8)
  refine fin (some (.int 1)) _ _ _ _ X8 nofun (fun fs hr => pre0 _ ?_) (own_atH e8 ?_) (by decide) (by decide)
  · refine o_aloadN X0 hx hby d11_0 rfl rfl (st3 _ (o_aloadN X3 hx hby d11_4 rfl rfl (st6 _ (st8 _ (o_icmpN X8 hx hby d11_11 (by decide +kernel) (o_iconst X8 hx hby d11_14 (x := 1) rfl (o_goto X8 hx hby d11_15 (pc := 15) (pc' := 19) (by decide) (by decide) ?_)))))))
    exact retN X8 hx (t := .boolean) hret (by simp) (hb hby d11_19) hr
  · exact ⟨rfl, N0, rfl⟩
def Q23_30 (Z : State) (a1 : Addr) (a2 : Addr) (h0 : Heap) (n0 : Nat) (v : Option Value) (h : Heap) (L : List Loc) : Prop := (v = none ∧ Fr n0 L ∧ h = h0)
theorem rm23_30 (l : Launch) (Z : State) (a0 : Array Value) (hw : own_HW Z a0) (a1 : Addr) (a2 : Addr) (h0 : Heap) (n0 : Nat) (O0 : Old Z n0 h0) (F3 : Fld Z h0 a1 C_6 "this$0" C_7 (.ref a2)) (F5 : Fld Z h0 a2 C_0 "modCount" "I" (.int 1)) (F7 : Fld Z h0 a1 C_6 "expectedModCount" "I" (.int 1)) : own_Met l Z M_23 bc23 1 none ({ frames := 0, cells := 0, slots := 0, locals := 0 } : Room) #[(.ref a1)] h0 (Q23_30 Z a1 a2 h0 n0) := by
  refine own_body (L0 := #[vR a1]) (plainFor_of_name pn_4) (fun m => by first | (simp [entryFrame, mkF, argsToLocals, Value.category]; done) | rfl) fun p e s m below meth c s₁ EN hx hby hml hown hnm hret X0 hZ e0 hh pre0 fin => ?_
  have N0 := Fr.nil n0
  obtain ⟨T4, X4, e4, st4⟩ := getF X0 hx hZ hown (host := "") (Or.inl (ww81 hw)) Via.refl e0 F3 (g := (mkF m 1 #[vR a1] [(.ref a1)])) rfl rfl (hb hby d23_1)
  obtain ⟨T6, X6, e6, st6⟩ := getF X4 hx hZ hown (host := "") (Or.inl (ww86 hw)) (Via.of (ww87 hw)) e4 F5 (g := (mkF m 4 #[vR a1] [(.ref a2)])) rfl rfl (hb hby d23_4)
  obtain ⟨T8, X8, e8, st8⟩ := getF X6 hx hZ hown (host := "") (Or.inl (ww88 hw)) Via.refl e6 F7 (g := (mkF m 8 #[vR a1] [(.ref a1), (.int 1)])) rfl rfl (hb hby d23_8)
  refine fin none _ _ _ _ X8 (fun _ => rfl) (fun fs hr => pre0 _ ?_) (own_atH e8 ?_) (by decide) (by decide)
  · refine o_aloadN X0 hx hby d23_0 rfl rfl (st4 _ (st6 _ (o_aloadN X6 hx hby d23_7 rfl rfl (st8 _ (o_icmpY X8 hx hby d23_11 (pc := 11) (pc' := 22) (by decide +kernel) (by decide) (by decide) ?_)))))
    exact X8.returnOut hx hret (hb hby d23_22) hr
  · exact ⟨rfl, N0, rfl⟩
def Q22_29 (Z : State) (a1 : Addr) (a3 : Addr) (a17 : Addr) (a20 : Addr) (k21 : ClassId) (h0 : Heap) (n0 : Nat) (v : Option Value) (h : Heap) (L : List Loc) : Prop := (v = some (.ref a20) ∧ Fr n0 L ∧ Keep h0 h [a1] ∧ Exa Z h a1 C_6 ∧ Fld Z h a1 C_6 "cursor" "I" (.int 1) ∧ Fld Z h a1 C_6 "expectedModCount" "I" (.int 1) ∧ Fld Z h a1 C_6 "lastRet" "I" (.int 0) ∧ Fld Z h a1 C_6 "this$0" C_7 (.ref a3))
theorem rm22_29 (l : Launch) (Z : State) (a0 : Array Value) (hw : own_HW Z a0) (a1 : Addr) (a3 : Addr) (a17 : Addr) (a20 : Addr) (k21 : ClassId) (h0 : Heap) (n0 : Nat) (O0 : Old Z n0 h0) (E_2 : Exa Z h0 a1 C_6) (F4 : Fld Z h0 a1 C_6 "this$0" C_7 (.ref a3)) (F5 : Fld Z h0 a3 C_0 "modCount" "I" (.int 1)) (F6 : Fld Z h0 a1 C_6 "expectedModCount" "I" (.int 1)) (F11 : Fld Z h0 a1 C_6 "cursor" "I" (.int 0)) (F14 : Fld Z h0 a3 C_1 "size" "I" (.int 1)) (F18 : Fld Z h0 a3 C_1 "elementData" C_2 (.ref a17)) (V22 : Arv Z h0 a17 k21 (.object "java/lang/Object") (10 : Int32) [(.ref a20)] .null) (F24 : Fld Z h0 a1 C_6 "lastRet" "I" (.int (-1))) (g_a1 : n0 ≤ a1) (hne29 : a17 ≠ a1) : own_Met l Z M_24 bc22 3 (some (.object "java/lang/Object")) ({ frames := 1, cells := 0, slots := 0, locals := 12 } : Room) #[(.ref a1)] h0 (Q22_29 Z a1 a3 a17 a20 k21 h0 n0) := by
  refine own_body (L0 := #[vR a1, .unset, .unset]) (plainFor_of_name pn_4) (fun m => by first | (simp [entryFrame, mkF, argsToLocals, Value.category]; done) | rfl) fun p e s m below meth c s₁ EN hx hby hml hown hnm hret X0 hZ e0 hh pre0 fin => ?_
  have N0 := Fr.nil n0
  obtain ⟨_, T7, L7, X7, hQ7, st7⟩ := own_cV X0 hx hZ hown (ww169 hw) (ww170 hw) (notFace_of_selects (args := #[]) (mvT hZ (ww172 hw))) (ww172 hw) (ww171 hw) (ww76 hw) (ww173 hw) E_2 (rm23_30 l Z a0 hw a1 a3 h0 n0 O0 F4 F5 F6) e0 pd_1 hml (hb hby d22_1) (Ls := #[vR a1, .unset, .unset]) (W := 0) (argsL := []) (rest := [])
  obtain ⟨rfl, u9, u10⟩ := hQ7
  have N7 := Fr.app N0 u9
  obtain ⟨T12, X12, e12, st12⟩ := getF X7 hx hZ hown (host := "") (Or.inl (ww99 hw)) Via.refl u10 F11 (g := (mkF m 5 #[vR a1, .unset, .unset] [(.ref a1)])) rfl rfl (hb hby d22_5)
  obtain ⟨T13, X13, e13, st13⟩ := getF X12 hx hZ hown (host := "") (Or.inl (ww81 hw)) Via.refl e12 F4 (g := (mkF m 11 #[vR a1, vI 0, .unset] [(.ref a1), (.int 0)])) rfl rfl (hb hby d22_11)
  obtain ⟨T15, X15, e15, st15⟩ := getF X13 hx hZ hown (Or.inr (ww101 hw)) Via.refl e13 F14 (g := (mkF m 14 #[vR a1, vI 0, .unset] [(.ref a3), (.int 0)])) rfl rfl (hb hby d22_14)
  obtain ⟨T16, X16, e16, st16⟩ := getF X15 hx hZ hown (host := "") (Or.inl (ww81 hw)) Via.refl e15 F4 (g := (mkF m 29 #[vR a1, vI 0, .unset] [(.ref a1)])) rfl rfl (hb hby d22_29)
  obtain ⟨T19, X19, e19, st19⟩ := getF X16 hx hZ hown (host := "") (Or.inl (ww174 hw)) Via.refl e16 F18 (g := (mkF m 32 #[vR a1, vI 0, .unset] [(.ref a3)])) rfl rfl (hb hby d22_32)
  obtain ⟨cl23, Ar23, -, Sz23, Nn23, -, -⟩ := id V22
  obtain ⟨T25, h25, X25, e25, W25, st25⟩ := putF X19 hx hZ hown (host := "") (Or.inl (ww99 hw)) Via.refl e19 F11 E_2 (Or.inl (ww100 hw)) (ww75 hw) (ty := .int) (by decide) rfl rfl (g := (mkF m 54 #[vR a1, vI 0, vR a17] [(.int 1), (.ref a1)])) rfl rfl (hb hby d22_54)
  have O25 : Old Z n0 h25 := O0.wr W25 g_a1
  have Fw25 : Fld Z h25 a1 C_6 "cursor" "I" (.int 1) := Fld.same W25 F11
  have N25 := Fr.snoc X25 N7 g_a1
  have f26 : Fld Z h25 a1 C_6 "lastRet" "I" (.int (-1)) := (Fld.other W25 F24 (Or.inr (own_sl35 hw)))
  have f27 : Exa Z h25 a1 C_6 := (Exa.wr W25 E_2)
  obtain ⟨T28, h28, X28, e28, W28, st28⟩ := putF X25 hx hZ hown (host := "") (Or.inl (ww84 hw)) Via.refl e25 f26 f27 (Or.inl (ww85 hw)) (ww75 hw) (ty := .int) (by decide) rfl rfl (g := (mkF m 61 #[vR a1, vI 0, vR a17] [(.int 0), (.ref a1), (.int 0), (.ref a17)])) rfl rfl (hb hby d22_61)
  have O28 : Old Z n0 h28 := O25.wr W28 g_a1
  have Fw28 : Fld Z h28 a1 C_6 "lastRet" "I" (.int 0) := Fld.same W28 f26
  have N28 := Fr.snoc X28 N25 g_a1
  have f30 : Arv Z h28 a17 k21 (.object "java/lang/Object") (10 : Int32) [(.ref a20)] .null := ((V22.other W25 hne29).other W28 hne29)
  obtain ⟨cl31, Ar31, -, Sz31, -, Hh31, -⟩ := id f30
  have hin31 : ¬ ((0 : Int32) < 0 ∨ cl31.slots.size ≤ ((0 : Int32)).toNatClampNeg) := inb_of Sz31 ⟨by decide +kernel, by decide +kernel⟩
  have hat31 : cl31.slots[((0 : Int32)).toNatClampNeg]? = some (.ref a20) := Has.at Hh31 hin31 rfl
  have f32 : Exa Z h28 a1 C_6 := (Exa.wr W28 f27)
  have f33 : Fld Z h28 a1 C_6 "cursor" "I" (.int 1) := (Fld.other W28 Fw25 (Or.inr (own_sl15 hw)))
  have f34 : Fld Z h28 a1 C_6 "expectedModCount" "I" (.int 1) := (Fld.other W28 (Fld.other W25 F6 (Or.inr (own_sl36 hw))) (Or.inr (own_sl13 hw)))
  have f35 : Fld Z h28 a1 C_6 "this$0" C_7 (.ref a3) := (Fld.other W28 (Fld.other W25 F4 (Or.inr (own_sl37 hw))) (Or.inr (own_sl11 hw)))
  refine fin (some (.ref a20)) _ _ _ _ X28 nofun (fun fs hr => pre0 _ ?_) (own_atH e28 ?_) (by decide) (by decide)
  · refine o_aloadN X0 hx hby d22_0 rfl rfl (st7 _ (o_aloadN X7 hx hby d22_4 rfl rfl (st12 _ (o_istoreN X12 hx hby d22_8 (Ls' := #[vR a1, vI 0, .unset]) rfl (o_iloadN X12 hx hby d22_9 rfl (o_aloadN X12 hx hby d22_10 rfl rfl (st13 _ (st15 _ (o_icmpY X15 hx hby d22_17 (pc := 17) (pc' := 28) (by decide +kernel) (by decide) (by decide) (o_aloadN X15 hx hby d22_28 rfl rfl (st16 _ (st19 _ (o_astoreN X19 hx hby d22_35 rfl (Ls' := #[vR a1, vI 0, vR a17]) rfl (o_iloadN X19 hx hby d22_36 rfl (o_aloadN X19 hx hby d22_37 rfl rfl (X19.arraylength hx (by rw [e19]; exact Ar23.1) (State.isArrayOf_alike hZ.alike Ar23.2.1) (g := (mkF m 38 #[vR a1, vI 0, vR a17] [(.ref a17), (.int 0)])) rfl rfl (hb hby d22_38) _ ?_))))))))))))))))
    rw [len_of Sz23 Nn23]
    refine o_icmpY X19 hx hby d22_39 (pc := 39) (pc' := 50) (by decide +kernel) (by decide) (by decide) (o_aloadN X19 hx hby d22_50 rfl rfl (o_iloadN X19 hx hby d22_51 rfl (o_iconst X19 hx hby d22_52 (x := 1) rfl (o_iadd X19 hx hby d22_53 (z := (1 : Int32)) (by decide +kernel) (st25 _ (o_aloadN X25 hx hby d22_57 rfl rfl (o_aloadN X25 hx hby d22_58 rfl rfl (o_iloadN X25 hx hby d22_59 rfl (o_dupX1 X25 hx hby d22_60 rfl rfl (st28 _ (X28.aaload hx (j := (0 : Int32)) (v := (.ref a20)) (by rw [e28]; exact Ar31.1) (State.isArrayOf_alike hZ.alike Ar31.2.1) rfl Ar31.2.2 hin31 hat31 (g := (mkF m 64 #[vR a1, vI 0, vR a17] [(.int 0), (.ref a17)])) rfl rfl (hb hby d22_64) _ ?_)))))))))))
    show Steps p.tables e below (T28.setTop (mkF m 65 #[vR a1, vI 0, vR a17] [(.ref a20)])) _
    jvm_step X28.here [X28.here.top, hx, (hb hby d22_65), X28.method', hret, Value.isRef, FieldType.isReference]
    first | (intro acts; rw [hr _ acts rfl rfl rfl]) | rw [hr _ _ rfl rfl rfl]
    exact Steps.refl _
  · exact ⟨rfl, N28, (((Keep.refl h0 [a1]).wr W25 (Or.inl (List.mem_of_getElem? (i := 0) rfl))).wr W28 (Or.inl (List.mem_of_getElem? (i := 0) rfl))), f32, f33, f34, Fw28, f35⟩
def Q24_31 (Z : State) (a1 : Addr) (p2 : Int32) (h0 : Heap) (n0 : Nat) (v : Option Value) (h : Heap) (L : List Loc) : Prop := (v = some (.int p2) ∧ Fr n0 L ∧ h = h0)
theorem rm24_31 (l : Launch) (Z : State) (a0 : Array Value) (hw : own_HW Z a0) (a1 : Addr) (p2 : Int32) (h0 : Heap) (n0 : Nat) (O0 : Old Z n0 h0) (F3 : Fld Z Z.heap a1 C_10 "ordinal" "I" (.int p2)) : own_Met l Z M_26 bc24 1 (some .int) ({ frames := 0, cells := 0, slots := 0, locals := 0 } : Room) #[(.ref a1)] h0 (Q24_31 Z a1 p2 h0 n0) := by
  refine own_body (L0 := #[vR a1]) (plainFor_of_name pn_8) (fun m => by first | (simp [entryFrame, mkF, argsToLocals, Value.category]; done) | rfl) fun p e s m below meth c s₁ EN hx hby hml hown hnm hret X0 hZ e0 hh pre0 fin => ?_
  have N0 := Fr.nil n0
  obtain ⟨T4, X4, e4, st4⟩ := getF X0 hx hZ hown (host := "") (Or.inl (ww184 hw)) Via.refl e0 (Fld.ext O0.2 F3) (g := (mkF m 1 #[vR a1] [(.ref a1)])) rfl rfl (hb hby d24_1)
  refine fin (some (.int p2)) _ _ _ _ X4 nofun (fun fs hr => pre0 _ ?_) (own_atH e4 ?_) (by decide) (by decide)
  · refine o_aloadN X0 hx hby d24_0 rfl rfl (st4 _ ?_)
    exact retI X4 hx hret (hb hby d24_4) hr
  · exact ⟨rfl, N0, rfl⟩
def Q11_32 (Z : State) (a1 : Addr) (a4 : Addr) (h0 : Heap) (n0 : Nat) (v : Option Value) (h : Heap) (L : List Loc) : Prop := (v = some (.int 0) ∧ Fr n0 L ∧ h = h0)
theorem rm11_32 (l : Launch) (Z : State) (a0 : Array Value) (hw : own_HW Z a0) (a1 : Addr) (a4 : Addr) (h0 : Heap) (n0 : Nat) (O0 : Old Z n0 h0) (F2 : Fld Z h0 a1 C_6 "cursor" "I" (.int 1)) (F5 : Fld Z h0 a1 C_6 "this$0" C_7 (.ref a4)) (F7 : Fld Z h0 a4 C_1 "size" "I" (.int 1)) : own_Met l Z M_10 bc11 1 (some .boolean) ({ frames := 0, cells := 0, slots := 0, locals := 0 } : Room) #[(.ref a1)] h0 (Q11_32 Z a1 a4 h0 n0) := by
  refine own_body (L0 := #[vR a1]) (plainFor_of_name pn_4) (fun m => by first | (simp [entryFrame, mkF, argsToLocals, Value.category]; done) | rfl) fun p e s m below meth c s₁ EN hx hby hml hown hnm hret X0 hZ e0 hh pre0 fin => ?_
  have N0 := Fr.nil n0
  obtain ⟨T3, X3, e3, st3⟩ := getF X0 hx hZ hown (host := "") (Or.inl (ww99 hw)) Via.refl e0 F2 (g := (mkF m 1 #[vR a1] [(.ref a1)])) rfl rfl (hb hby d11_1)
  obtain ⟨T6, X6, e6, st6⟩ := getF X3 hx hZ hown (host := "") (Or.inl (ww81 hw)) Via.refl e3 F5 (g := (mkF m 5 #[vR a1] [(.ref a1), (.int 1)])) rfl rfl (hb hby d11_5)
  obtain ⟨T8, X8, e8, st8⟩ := getF X6 hx hZ hown (Or.inr (ww101 hw)) Via.refl e6 F7 (g := (mkF m 8 #[vR a1] [(.ref a4), (.int 1)])) rfl rfl (hb hby d11_8)
  refine fin (some (.int 0)) _ _ _ _ X8 nofun (fun fs hr => pre0 _ ?_) (own_atH e8 ?_) (by decide) (by decide)
  · refine o_aloadN X0 hx hby d11_0 rfl rfl (st3 _ (o_aloadN X3 hx hby d11_4 rfl rfl (st6 _ (st8 _ (o_icmpY X8 hx hby d11_11 (pc := 11) (pc' := 18) (by decide +kernel) (by decide) (by decide) (o_iconst X8 hx hby d11_18 (x := 0) rfl ?_))))))
    exact retN X8 hx (t := .boolean) hret (by simp) (hb hby d11_19) hr
  · exact ⟨rfl, N0, rfl⟩
def Q7_24 (Z : State) (a1 : Addr) (a2 : Addr) (a3 : Addr) (a62 : Addr) (a64 : Addr) (k65 : ClassId) (p95 : Int32) (h0 : Heap) (n0 : Nat) (v : Option Value) (h : Heap) (L : List Loc) : Prop := (∃ (b28 : Addr) (b38 : Addr) (b5 : Addr) (k28 : ClassId) (k38 : ClassId) (k5 : ClassId), v = none ∧ Fr n0 L ∧ h0.size ≤ b28 ∧ b28 < h.size ∧ h0.size ≤ b38 ∧ b38 < h.size ∧ h0.size ≤ b5 ∧ b5 < h.size ∧ b28 ≠ b38 ∧ b28 ≠ b5 ∧ b38 ≠ b5 ∧ Keep h0 h [a1] ∧ Exa Z h a1 C_3 ∧ Fld Z h a1 C_3 "deck" "[I" (.ref b28) ∧ Fld Z h a1 C_3 "deckSize" "I" (.int 1) ∧ Fld Z h a1 C_3 "discard" "[I" (.ref b38) ∧ Fld Z h a1 C_3 "discardSize" "I" (.int 0) ∧ Fld Z h a1 C_3 "generator" C_4 (.ref a3) ∧ Fld Z h a1 C_3 "market" "[I" (.ref b5) ∧ Exa Z h b28 "[I" ∧ Arv Z h b28 k28 .int (1 : Int32) [(.int p95)] (.int (0 : Int32)) ∧ Exa Z h b38 "[I" ∧ Arv Z h b38 k38 .int (1 : Int32) [] (.int (0 : Int32)) ∧ Exa Z h b5 "[I" ∧ Arv Z h b5 k5 .int (5 : Int32) [(.int (-1)), (.int (-1)), (.int (-1)), (.int (-1)), (.int (-1))] (.int (0 : Int32)))
theorem rm7_24 (l : Launch) (Z : State) (a0 : Array Value) (hw : own_HW Z a0) (a1 : Addr) (a2 : Addr) (a3 : Addr) (a62 : Addr) (a64 : Addr) (k65 : ClassId) (p95 : Int32) (h0 : Heap) (n0 : Nat) (O0 : Old Z n0 h0) (E_6 : Exa Z h0 a1 C_3) (F7 : Fld Z h0 a1 C_3 "deck" "[I" .null) (F8 : Fld Z h0 a1 C_3 "deckSize" "I" (.int 0)) (F9 : Fld Z h0 a1 C_3 "discard" "[I" .null) (F10 : Fld Z h0 a1 C_3 "discardSize" "I" (.int 0)) (F11 : Fld Z h0 a1 C_3 "generator" C_4 .null) (F12 : Fld Z h0 a1 C_3 "market" "[I" .null) (g_a1 : n0 ≤ a1) (E_19 : Exa Z h0 a2 C_1) (F20 : Fld Z h0 a2 C_1 "size" "I" (.int 1)) (hne21 : a2 ≠ a1) (F42 : Fld Z h0 a2 C_0 "modCount" "I" (.int 1)) (lt_a2 : a2 < h0.size) (F63 : Fld Z h0 a2 C_1 "elementData" C_2 (.ref a62)) (V66 : Arv Z h0 a62 k65 (.object "java/lang/Object") (10 : Int32) [(.ref a64)] .null) (lt_a62 : a62 < h0.size) (hne70 : a62 ≠ a1) (E_81 : Exa Z Z.heap a64 C_8) (lt_a1 : a1 < h0.size) (F96 : Fld Z Z.heap a64 C_10 "ordinal" "I" (.int p95)) : own_Met l Z M_13 bc7 5 none ({ frames := 3, cells := 4, slots := 11, locals := 38 } : Room) #[(.ref a1), (.ref a2), (.ref a3)] h0 (Q7_24 Z a1 a2 a3 a62 a64 k65 p95 h0 n0) := by
  refine own_body (L0 := #[vR a1, vR a2, vR a3, .unset, .unset]) (plainFor_of_name pn_6) (fun m => by first | (simp [entryFrame, mkF, argsToLocals, Value.category]; done) | rfl) fun p e s m below meth c s₁ EN hx hby hml hown hnm hret X0 hZ e0 hh pre0 fin => ?_
  have N0 := Fr.nil n0
  obtain ⟨T4, X4, e4, st4⟩ := initO X0 hx hZ hown (ww45 hw) (ww23 hw) (ww24 hw) e0 (g := (mkF m 1 #[vR a1, vR a2, vR a3, .unset, .unset] [(.ref a1)])) rfl (by rw [hml]; rfl) rfl (hb hby d7_1) (by decide) (W := 0) (by show 2 * 0 + _ ≤ _; exact Nat.le_of_eq rfl) (by decide)
  obtain ⟨T5, h5, k5, X5, e5, E5, A5, Ex5, st5⟩ := newPE (aty := .int) X4 hx hZ (ww46 hw) e4 (g := (mkF m 6 #[vR a1, vR a2, vR a3, .unset, .unset] [(.int 5), (.ref a1)])) rfl (hb hby d7_6) rfl (by decide +kernel) (cap := 5) (by decide +kernel) (by decide) (by decide) (by decide) (ad := "[I") (by decide +kernel)
  obtain ⟨b5, g5⟩ : ∃ z, z = h0.size := ⟨_, rfl⟩
  rw [← g5] at A5 Ex5 st5
  have O5 : Old Z n0 h5 := O0.ext E5
  have bd_b5 : h0.size ≤ b5 := Nat.le_of_eq g5.symm
  have g_b5 : n0 ≤ b5 := Nat.le_trans (own_z O0) bd_b5
  have sz_b5 : h0.size ≤ b5 := Nat.le_trans (Nat.le_refl _) bd_b5
  have lt_b5 : b5 < h5.size := A5.lt
  have V5 : Arv Z h5 b5 k5 .int (5 : Int32) [] (.int (0 : Int32)) := Arv.new A5 (by decide +kernel)
  have f13 : Fld Z h5 a1 C_3 "market" "[I" .null := (Fld.ext E5 F12)
  have f14 : Exa Z h5 a1 C_3 := (Exa.ext E5 E_6)
  obtain ⟨T15, h15, X15, e15, W15, st15⟩ := putF X5 hx hZ hown (host := "") (Or.inl (ww47 hw)) Via.refl e5 f13 f14 (Or.inr ⟨(ww48 hw), rfl, hnm⟩) (ww31 hw) (ty := (.array .int)) (by decide) rfl rfl (g := (mkF m 8 #[vR a1, vR a2, vR a3, .unset, .unset] [(.ref b5), (.ref a1)])) rfl rfl (hb hby d7_8)
  have O15 : Old Z n0 h15 := O5.wr W15 g_a1
  have Fw15 : Fld Z h15 a1 C_3 "market" "[I" (.ref b5) := Fld.same W15 f13
  have N15 := Fr.snoc X15 N0 g_a1
  have f16 : Fld Z h15 a1 C_3 "generator" C_4 .null := (Fld.other W15 (Fld.ext E5 F11) (Or.inr (own_sl4 hw)))
  have f17 : Exa Z h15 a1 C_3 := (Exa.wr W15 f14)
  obtain ⟨T18, h18, X18, e18, W18, st18⟩ := putF X15 hx hZ hown (host := "") (Or.inl (ww49 hw)) Via.refl e15 f16 f17 (Or.inr ⟨(ww50 hw), rfl, hnm⟩) (ww31 hw) (ty := (.object "com/example/railspan/railspan/game/Generator")) (by decide) rfl rfl (g := (mkF m 13 #[vR a1, vR a2, vR a3, .unset, .unset] [(.ref a3), (.ref a1)])) rfl rfl (hb hby d7_13)
  have O18 : Old Z n0 h18 := O15.wr W18 g_a1
  have Fw18 : Fld Z h18 a1 C_3 "generator" C_4 (.ref a3) := Fld.same W18 f16
  have N18 := Fr.snoc X18 N15 g_a1
  have f22 : Fld Z h18 a2 C_1 "size" "I" (.int 1) := (Fld.other W18 (Fld.other W15 (Fld.ext E5 F20) (Or.inl hne21)) (Or.inl hne21))
  have f24 : Exa Z h18 a2 C_1 := (Exa.wr W18 (Exa.wr W15 (Exa.ext E5 E_19)))
  obtain ⟨_, T23, L23, X23, hQ23, st23⟩ := own_cN X18 hx hZ hown (ww51 hw) (ww52 hw) (mvT hZ (ww53 hw)) (ww54 hw) (ww55 hw) (ww56 hw) (ww57 hw) (ww58 hw) (ww6 hw) (ww59 hw) f24 (rm8_25 l Z a0 hw a2 h18 n0 O18 f22) e18 pd_3 hml (hb hby d7_18) (Ls := #[vR a1, vR a2, vR a3, .unset, .unset]) (W := 1) (argsL := []) (rest := [(.ref a1)])
  obtain ⟨rfl, u26, u27⟩ := hQ23
  have N23 := Fr.app N18 u26
  obtain ⟨T28, h28, k28, X28, e28, E28, A28, Ex28, st28⟩ := newPE (aty := .int) X23 hx hZ (ww46 hw) u27 (g := (mkF m 23 #[vR a1, vR a2, vR a3, .unset, .unset] [(.int 1), (.ref a1)])) rfl (hb hby d7_23) rfl (by decide +kernel) (cap := 1) (by decide +kernel) (by decide) (by decide) (by decide) (ad := "[I") (by decide +kernel)
  obtain ⟨b28, g28⟩ : ∃ z, z = h18.size := ⟨_, rfl⟩
  rw [← g28] at A28 Ex28 st28
  have O28 : Old Z n0 h28 := O18.ext E28
  have bd_b28 : h18.size ≤ b28 := Nat.le_of_eq g28.symm
  have g_b28 : n0 ≤ b28 := Nat.le_trans (own_z O18) bd_b28
  have sz_b28 : h0.size ≤ b28 := Nat.le_trans (Nat.le_trans (Nat.le_trans E5.1 (Keep.of_wr W15).1) (Keep.of_wr W18).1) bd_b28
  have lt_b28 : b28 < h28.size := A28.lt
  have V28 : Arv Z h28 b28 k28 .int (1 : Int32) [] (.int (0 : Int32)) := Arv.new A28 (by decide +kernel)
  have f29 : Fld Z h28 a1 C_3 "deck" "[I" .null := (Fld.ext E28 (Fld.other W18 (Fld.other W15 (Fld.ext E5 F7) (Or.inr (own_sl5 hw))) (Or.inr (own_sl6 hw))))
  have f30 : Exa Z h28 a1 C_3 := (Exa.ext E28 (Exa.wr W18 f17))
  obtain ⟨T31, h31, X31, e31, W31, st31⟩ := putF X28 hx hZ hown (host := "") (Or.inl (ww62 hw)) Via.refl e28 f29 f30 (Or.inr ⟨(ww63 hw), rfl, hnm⟩) (ww31 hw) (ty := (.array .int)) (by decide) rfl rfl (g := (mkF m 25 #[vR a1, vR a2, vR a3, .unset, .unset] [(.ref b28), (.ref a1)])) rfl rfl (hb hby d7_25)
  have O31 : Old Z n0 h31 := O28.wr W31 g_a1
  have Fw31 : Fld Z h31 a1 C_3 "deck" "[I" (.ref b28) := Fld.same W31 f29
  have N31 := Fr.snoc X31 N23 g_a1
  have f32 : Fld Z h31 a2 C_1 "size" "I" (.int 1) := (Fld.other W31 (Fld.ext E28 f22) (Or.inl hne21))
  have f34 : Exa Z h31 a2 C_1 := (Exa.wr W31 (Exa.ext E28 f24))
  obtain ⟨_, T33, L33, X33, hQ33, st33⟩ := own_cN X31 hx hZ hown (ww51 hw) (ww52 hw) (mvT hZ (ww53 hw)) (ww54 hw) (ww55 hw) (ww56 hw) (ww57 hw) (ww58 hw) (ww6 hw) (ww59 hw) f34 (rm8_25 l Z a0 hw a2 h31 n0 O31 f32) e31 pd_3 hml (hb hby d7_30) (Ls := #[vR a1, vR a2, vR a3, .unset, .unset]) (W := 1) (argsL := []) (rest := [(.ref a1)])
  obtain ⟨rfl, u36, u37⟩ := hQ33
  have N33 := Fr.app N31 u36
  obtain ⟨T38, h38, k38, X38, e38, E38, A38, Ex38, st38⟩ := newPE (aty := .int) X33 hx hZ (ww46 hw) u37 (g := (mkF m 35 #[vR a1, vR a2, vR a3, .unset, .unset] [(.int 1), (.ref a1)])) rfl (hb hby d7_35) rfl (by decide +kernel) (cap := 1) (by decide +kernel) (by decide) (by decide) (by decide) (ad := "[I") (by decide +kernel)
  obtain ⟨b38, g38⟩ : ∃ z, z = h31.size := ⟨_, rfl⟩
  rw [← g38] at A38 Ex38 st38
  have O38 : Old Z n0 h38 := O31.ext E38
  have bd_b38 : h31.size ≤ b38 := Nat.le_of_eq g38.symm
  have g_b38 : n0 ≤ b38 := Nat.le_trans (own_z O31) bd_b38
  have sz_b38 : h0.size ≤ b38 := Nat.le_trans (Nat.le_trans (Nat.le_trans (Nat.le_trans (Nat.le_trans E5.1 (Keep.of_wr W15).1) (Keep.of_wr W18).1) E28.1) (Keep.of_wr W31).1) bd_b38
  have lt_b38 : b38 < h38.size := A38.lt
  have V38 : Arv Z h38 b38 k38 .int (1 : Int32) [] (.int (0 : Int32)) := Arv.new A38 (by decide +kernel)
  have f39 : Fld Z h38 a1 C_3 "discard" "[I" .null := (Fld.ext E38 (Fld.other W31 (Fld.ext E28 (Fld.other W18 (Fld.other W15 (Fld.ext E5 F9) (Or.inr (own_sl7 hw))) (Or.inr (own_sl8 hw)))) (Or.inr (own_sl9 hw))))
  have f40 : Exa Z h38 a1 C_3 := (Exa.ext E38 (Exa.wr W31 f30))
  obtain ⟨T41, h41, X41, e41, W41, st41⟩ := putF X38 hx hZ hown (host := "") (Or.inl (ww64 hw)) Via.refl e38 f39 f40 (Or.inr ⟨(ww65 hw), rfl, hnm⟩) (ww31 hw) (ty := (.array .int)) (by decide) rfl rfl (g := (mkF m 37 #[vR a1, vR a2, vR a3, .unset, .unset] [(.ref b38), (.ref a1)])) rfl rfl (hb hby d7_37)
  have O41 : Old Z n0 h41 := O38.wr W41 g_a1
  have Fw41 : Fld Z h41 a1 C_3 "discard" "[I" (.ref b38) := Fld.same W41 f39
  have N41 := Fr.snoc X41 N33 g_a1
  have f43 : Fld Z h41 a2 C_0 "modCount" "I" (.int 1) := (Fld.other W41 (Fld.ext E38 (Fld.other W31 (Fld.ext E28 (Fld.other W18 (Fld.other W15 (Fld.ext E5 F42) (Or.inl hne21)) (Or.inl hne21))) (Or.inl hne21))) (Or.inl hne21))
  have f45 : Exa Z h41 a2 C_1 := (Exa.wr W41 (Exa.ext E38 f34))
  obtain ⟨_, T44, L44, X44, hQ44, st44⟩ := own_cN X41 hx hZ hown (ww66 hw) (ww67 hw) (mvT hZ (ww68 hw)) (ww69 hw) (ww70 hw) (ww71 hw) (ww72 hw) (ww58 hw) (ww6 hw) (ww73 hw) f45 (rm9_26 l Z a0 hw a2 h41 n0 O41 f43 (own_t (own_t (own_t (own_t (own_t (own_t (own_t lt_a2 E5.1) (Keep.of_wr W15).1) (Keep.of_wr W18).1) E28.1) (Keep.of_wr W31).1) E38.1) (Keep.of_wr W41).1)) e41 pd_5 hml (hb hby d7_41) (Ls := #[vR a1, vR a2, vR a3, .unset, .unset]) (W := 0) (argsL := []) (rest := [])
  obtain ⟨b46, rfl, u48, u49, u50, Ku51, u52, u53, u54, u55, u56⟩ := hQ44
  have Ou51 : Old Z n0 T44.heap := O41.keep Ku51 all0
  have g_b46 : n0 ≤ b46 := Nat.le_trans (own_z O41) u49
  have sz_b46 : h0.size ≤ b46 := Nat.le_trans (Nat.le_trans (Nat.le_trans (Nat.le_trans (Nat.le_trans (Nat.le_trans (Nat.le_trans E5.1 (Keep.of_wr W15).1) (Keep.of_wr W18).1) E28.1) (Keep.of_wr W31).1) E38.1) (Keep.of_wr W41).1) u49
  have N44 := Fr.app N41 u48
  have f57 : Fld Z T44.heap a2 C_1 "size" "I" (.int 1) := ((Fld.other W41 (Fld.ext E38 f32) (Or.inl hne21)).keep Ku51 nin0)
  obtain ⟨_, T58, L58, X58, hQ58, st58⟩ := own_cN X44 hx hZ hown (ww90 hw) (ww91 hw) (mvT hZ (ww92 hw)) (ww93 hw) (ww94 hw) (ww95 hw) (ww96 hw) (ww97 hw) (ww76 hw) (ww98 hw) u52 (rm11_28 l Z a0 hw b46 a2 T44.heap n0 Ou51 u53 u56 f57) rfl pd_6 hml (hb hby d7_48) (Ls := #[vR a1, vR a2, vR a3, vR b46, .unset]) (W := 0) (argsL := []) (rest := [])
  obtain ⟨rfl, u60, u61⟩ := hQ58
  have N58 := Fr.app N44 u60
  have ne67 : a62 ≠ b46 := (own_n (own_t (own_t (own_t (own_t (own_t (own_t (own_t lt_a62 E5.1) (Keep.of_wr W15).1) (Keep.of_wr W18).1) E28.1) (Keep.of_wr W31).1) E38.1) (Keep.of_wr W41).1) u49)
  have f68 : Fld Z T44.heap a2 C_0 "modCount" "I" (.int 1) := (f43.keep Ku51 nin0)
  have f69 : Fld Z T44.heap a2 C_1 "elementData" C_2 (.ref a62) := ((Fld.other W41 (Fld.ext E38 (Fld.other W31 (Fld.ext E28 (Fld.other W18 (Fld.other W15 (Fld.ext E5 F63) (Or.inl hne21)) (Or.inl hne21))) (Or.inl hne21))) (Or.inl hne21)).keep Ku51 nin0)
  have f71 : Arv Z T44.heap a62 k65 (.object "java/lang/Object") (10 : Int32) [(.ref a64)] .null := ((((((((V66.ext E5).other W15 hne70).other W18 hne70).ext E28).other W31 hne70).ext E38).other W41 hne70).keep Ku51 nin0)
  obtain ⟨_, T72, L72, X72, hQ72, st72⟩ := own_cN X58 hx hZ hown (ww161 hw) (ww162 hw) (mvT hZ (ww163 hw)) (ww164 hw) (ww165 hw) (ww166 hw) (ww167 hw) (ww97 hw) (ww76 hw) (ww168 hw) u52 (rm22_29 l Z a0 hw b46 a2 a62 a64 k65 T44.heap n0 Ou51 u52 u56 f68 u54 u53 f57 f69 f71 u55 g_b46 ne67) u61 pd_15 hml (hb hby d7_57) (Ls := #[vR a1, vR a2, vR a3, vR b46, .unset]) (W := 0) (argsL := []) (rest := [])
  obtain ⟨rfl, u74, Ku75, u76, u77, u78, u79, u80⟩ := hQ72
  have Ou75 : Old Z n0 T72.heap := Ou51.keep Ku75 (allS g_b46 all0)
  have N72 := Fr.app N58 u74
  obtain ⟨T82, X82, e82, st82⟩ := castY X72 hx hZ hown (ww175 hw) rfl (Ins.self (Exa.ext Ou75.2 E_81)) (g := (mkF m 62 #[vR a1, vR a2, vR a3, vR b46, .unset] [(.ref a64)])) rfl rfl (hb hby d7_62)
  have ne83 : a1 ≠ b46 := (own_n (own_t (own_t (own_t (own_t (own_t (own_t (own_t lt_a1 E5.1) (Keep.of_wr W15).1) (Keep.of_wr W18).1) E28.1) (Keep.of_wr W31).1) E38.1) (Keep.of_wr W41).1) u49)
  have f84 : Fld Z T72.heap a1 C_3 "deck" "[I" (.ref b28) := (((Fld.other W41 (Fld.ext E38 Fw31) (Or.inr (own_sl22 hw))).keep Ku51 nin0).keep Ku75 (ninS ne83 nin0))
  obtain ⟨T85, X85, e85, st85⟩ := getF X82 hx hZ hown (host := "") (Or.inl (ww62 hw)) Via.refl e82 f84 (g := (mkF m 68 #[vR a1, vR a2, vR a3, vR b46, vR a64] [(.ref a1)])) rfl rfl (hb hby d7_68)
  obtain ⟨T86, X86, e86, st86⟩ := getF X85 hx hZ hown (host := "") (Or.inl (ww62 hw)) Via.refl e85 f84 (g := (mkF m 72 #[vR a1, vR a2, vR a3, vR b46, vR a64] [(.ref a1), (.ref b28)])) rfl rfl (hb hby d7_72)
  have ne87 : a1 ≠ b28 := (own_n (own_t (own_t (own_t lt_a1 E5.1) (Keep.of_wr W15).1) (Keep.of_wr W18).1) bd_b28)
  have ne88 : b28 ≠ b46 := (own_n (own_t (own_t (own_t lt_b28 (Keep.of_wr W31).1) E38.1) (Keep.of_wr W41).1) u49)
  have f89 : Arv Z T72.heap b28 k28 .int (1 : Int32) [] (.int (0 : Int32)) := (((((V28.other W31 (Ne.symm ne87)).ext E38).other W41 (Ne.symm ne87)).keep Ku51 nin0).keep Ku75 (ninS ne88 nin0))
  obtain ⟨cl90, Ar90, -, Sz90, Nn90, -, -⟩ := id f89
  have f91 : Fld Z T72.heap a1 C_3 "deckSize" "I" (.int 0) := (((Fld.other W41 (Fld.ext E38 (Fld.other W31 (Fld.ext E28 (Fld.other W18 (Fld.other W15 (Fld.ext E5 F8) (Or.inr (own_sl23 hw))) (Or.inr (own_sl24 hw)))) (Or.inr (own_sl25 hw)))) (Or.inr (own_sl26 hw))).keep Ku51 nin0).keep Ku75 (ninS ne83 nin0))
  obtain ⟨T92, X92, e92, st92⟩ := getF X86 hx hZ hown (host := "") (Or.inl (ww111 hw)) Via.refl e86 f91 (g := (mkF m 80 #[vR a1, vR a2, vR a3, vR b46, vR a64] [(.ref a1), (.ref a1), (.int 0), (.ref b28)])) rfl rfl (hb hby d7_80)
  have f93 : Exa Z T72.heap a1 C_3 := (((Exa.wr W41 f40).keep Ku51).keep Ku75)
  obtain ⟨T94, h94, X94, e94, W94, st94⟩ := putF X92 hx hZ hown (host := "") (Or.inl (ww111 hw)) Via.refl e92 f91 f93 (Or.inl (ww112 hw)) (ww31 hw) (ty := .int) (by decide) rfl rfl (g := (mkF m 86 #[vR a1, vR a2, vR a3, vR b46, vR a64] [(.int 1), (.ref a1), (.int 0), (.int 0), (.ref b28)])) rfl rfl (hb hby d7_86)
  have O94 : Old Z n0 h94 := Ou75.wr W94 g_a1
  have Fw94 : Fld Z h94 a1 C_3 "deckSize" "I" (.int 1) := Fld.same W94 f91
  have N94 := Fr.snoc X94 N72 g_a1
  obtain ⟨_, T97, L97, X97, hQ97, st97⟩ := own_cU X94 hx hZ hown (ww177 hw) (ww178 hw) (ww179 hw) (ww181 hw) (ww180 hw) (ww182 hw) (ww183 hw) (Exa.ext O94.2 E_81) (rm24_31 l Z a0 hw a64 p95 h94 n0 O94 F96) e94 pd_3 hml (hb hby d7_92) (Ls := #[vR a1, vR a2, vR a3, vR b46, vR a64]) (W := 2) (argsL := []) (rest := [(.int 0), (.ref b28)])
  obtain ⟨rfl, u99, u100⟩ := hQ97
  have N97 := Fr.app N94 u99
  have f101 : Arv Z h94 b28 k28 .int (1 : Int32) [] (.int (0 : Int32)) := (f89.other W94 (Ne.symm ne87))
  have Vp102 : Arv Z h94 b28 k28 .int (1 : Int32) [(.int 0)] (.int (0 : Int32)) := f101.pad (pad_rep [] (.int (0 : Int32)) 1)
  obtain ⟨cl103, Ar103, qk103, Sz103, Nn103, Hh103, Gg103⟩ := id Vp102
  have hin103 : ¬ ((0 : Int32) < 0 ∨ cl103.slots.size ≤ ((0 : Int32)).toNatClampNeg) := inb_of Sz103 ⟨by decide +kernel, by decide +kernel⟩
  obtain ⟨T104, h104, X104, e104, W104, st104⟩ := stI X97 hx hZ u100 Ar103 (j := (0 : Int32)) hin103 (g := (mkF m 95 #[vR a1, vR a2, vR a3, vR b46, vR a64] [(.int p95), (.int 0), (.ref b28)])) rfl rfl (hb hby d7_95)
  have O104 : Old Z n0 h104 := O94.wr W104 g_b28
  have V104 : Arv Z h104 b28 k28 .int (1 : Int32) [(.int p95)] (.int (0 : Int32)) := Arv.set Ar103 qk103 Sz103 Nn103 Hh103 Gg103 rfl W104 0 rfl (Nat.le_of_ble_eq_true rfl)
  have N104 := Fr.snoc X104 N97 g_b28
  have f105 : Fld Z h104 b46 C_6 "cursor" "I" (.int 1) := (Fld.other W104 (Fld.other W94 u77 (Or.inl (Ne.symm ne83))) (Or.inl (Ne.symm ne88)))
  have f106 : Fld Z h104 b46 C_6 "this$0" C_7 (.ref a2) := (Fld.other W104 (Fld.other W94 u80 (Or.inl (Ne.symm ne83))) (Or.inl (Ne.symm ne88)))
  have ne107 : a2 ≠ b46 := (own_n (own_t (own_t (own_t (own_t (own_t (own_t (own_t lt_a2 E5.1) (Keep.of_wr W15).1) (Keep.of_wr W18).1) E28.1) (Keep.of_wr W31).1) E38.1) (Keep.of_wr W41).1) u49)
  have ne108 : a2 ≠ b28 := (own_n (own_t (own_t (own_t lt_a2 E5.1) (Keep.of_wr W15).1) (Keep.of_wr W18).1) bd_b28)
  have f109 : Fld Z h104 a2 C_1 "size" "I" (.int 1) := (Fld.other W104 (Fld.other W94 (f57.keep Ku75 (ninS ne107 nin0)) (Or.inl hne21)) (Or.inl ne108))
  have f111 : Exa Z h104 b46 C_6 := (Exa.wr W104 (Exa.wr W94 u76))
  obtain ⟨_, T110, L110, X110, hQ110, st110⟩ := own_cN X104 hx hZ hown (ww90 hw) (ww91 hw) (mvT hZ (ww92 hw)) (ww93 hw) (ww94 hw) (ww95 hw) (ww96 hw) (ww97 hw) (ww76 hw) (ww98 hw) f111 (rm11_32 l Z a0 hw b46 a2 h104 n0 O104 f105 f106 f109) e104 pd_6 hml (hb hby d7_48) (Ls := #[vR a1, vR a2, vR a3, vR b46, vR a64]) (W := 0) (argsL := []) (rest := [])
  obtain ⟨rfl, u113, u114⟩ := hQ110
  have N110 := Fr.app N104 u113
  have f115 : Fld Z h104 a1 C_3 "market" "[I" (.ref b5) := (Fld.other W104 (Fld.other W94 (((Fld.other W41 (Fld.ext E38 (Fld.other W31 (Fld.ext E28 (Fld.other W18 Fw15 (Or.inr (own_sl19 hw)))) (Or.inr (own_sl20 hw)))) (Or.inr (own_sl21 hw))).keep Ku51 nin0).keep Ku75 (ninS ne83 nin0)) (Or.inr (own_sl38 hw))) (Or.inl ne87))
  obtain ⟨T116, X116, e116, st116⟩ := getF X110 hx hZ hown (host := "") (Or.inl (ww47 hw)) Via.refl u114 f115 (g := (mkF m 100 #[vR a1, vR a2, vR a3, vR b46, vR a64] [(.ref a1)])) rfl rfl (hb hby d7_100)
  have ne117 : b5 ≠ b46 := (own_n (own_t (own_t (own_t (own_t (own_t (own_t lt_b5 (Keep.of_wr W15).1) (Keep.of_wr W18).1) E28.1) (Keep.of_wr W31).1) E38.1) (Keep.of_wr W41).1) u49)
  have ne118 : b5 ≠ b28 := (own_n (own_t (own_t lt_b5 (Keep.of_wr W15).1) (Keep.of_wr W18).1) bd_b28)
  have f119 : Arv Z h104 b5 k5 .int (5 : Int32) [] (.int (0 : Int32)) := ((((((((((V5.other W15 (Ne.symm (own_n lt_a1 bd_b5))).other W18 (Ne.symm (own_n lt_a1 bd_b5))).ext E28).other W31 (Ne.symm (own_n lt_a1 bd_b5))).ext E38).other W41 (Ne.symm (own_n lt_a1 bd_b5))).keep Ku51 nin0).keep Ku75 (ninS ne117 nin0)).other W94 (Ne.symm (own_n lt_a1 bd_b5))).other W104 ne118)
  have f120 : Exa Z h104 b5 "[I" := (Exa.wr W104 (Exa.wr W94 (((Exa.wr W41 (Exa.ext E38 (Exa.wr W31 (Exa.ext E28 (Exa.wr W18 (Exa.wr W15 Ex5)))))).keep Ku51).keep Ku75)))
  obtain ⟨_, T121, L121, X121, hQ121, st121⟩ := own_cS X116 hx hZ hown (ww102 hw) (ww103 hw) (ww104 hw) (ww105 hw) (rm12_13 l Z a0 hw b5 k5 h104 n0 O104 f119 g_b5 f120) e116 pd_7 hml (hb hby d7_104) (Ls := #[vR a1, vR a2, vR a3, vR b46, vR a64]) (W := 0) (argsL := [(.ref b5), (.int (-1))]) (rest := [])
  obtain ⟨rfl, u123, Ku124, u125, u126⟩ := hQ121
  have Ou124 : Old Z n0 T121.heap := O104.keep Ku124 (allS g_b5 all0)
  have N121 := Fr.app N110 u123
  have f127 : Exa Z T121.heap a1 C_3 := ((Exa.wr W104 (Exa.wr W94 f93)).keep Ku124)
  have f128 : Fld Z T121.heap a1 C_3 "deck" "[I" (.ref b28) := ((Fld.other W104 (Fld.other W94 f84 (Or.inr (own_sl39 hw))) (Or.inl ne87)).keep Ku124 (ninS (own_n lt_a1 bd_b5) nin0))
  have f129 : Fld Z T121.heap a1 C_3 "deckSize" "I" (.int 1) := ((Fld.other W104 Fw94 (Or.inl ne87)).keep Ku124 (ninS (own_n lt_a1 bd_b5) nin0))
  have f130 : Fld Z T121.heap a1 C_3 "discard" "[I" (.ref b38) := ((Fld.other W104 (Fld.other W94 ((Fw41.keep Ku51 nin0).keep Ku75 (ninS ne83 nin0)) (Or.inr (own_sl40 hw))) (Or.inl ne87)).keep Ku124 (ninS (own_n lt_a1 bd_b5) nin0))
  have f131 : Fld Z T121.heap a1 C_3 "discardSize" "I" (.int 0) := ((Fld.other W104 (Fld.other W94 (((Fld.other W41 (Fld.ext E38 (Fld.other W31 (Fld.ext E28 (Fld.other W18 (Fld.other W15 (Fld.ext E5 F10) (Or.inr (own_sl27 hw))) (Or.inr (own_sl28 hw)))) (Or.inr (own_sl29 hw)))) (Or.inr (own_sl30 hw))).keep Ku51 nin0).keep Ku75 (ninS ne83 nin0)) (Or.inr (own_sl41 hw))) (Or.inl ne87)).keep Ku124 (ninS (own_n lt_a1 bd_b5) nin0))
  have f132 : Fld Z T121.heap a1 C_3 "generator" C_4 (.ref a3) := ((Fld.other W104 (Fld.other W94 (((Fld.other W41 (Fld.ext E38 (Fld.other W31 (Fld.ext E28 Fw18) (Or.inr (own_sl31 hw)))) (Or.inr (own_sl32 hw))).keep Ku51 nin0).keep Ku75 (ninS ne83 nin0)) (Or.inr (own_sl42 hw))) (Or.inl ne87)).keep Ku124 (ninS (own_n lt_a1 bd_b5) nin0))
  have f133 : Fld Z T121.heap a1 C_3 "market" "[I" (.ref b5) := (f115.keep Ku124 (ninS (own_n lt_a1 bd_b5) nin0))
  have f134 : Exa Z T121.heap b28 "[I" := ((Exa.wr W104 (Exa.wr W94 (((Exa.wr W41 (Exa.ext E38 (Exa.wr W31 Ex28))).keep Ku51).keep Ku75))).keep Ku124)
  have f135 : Arv Z T121.heap b28 k28 .int (1 : Int32) [(.int p95)] (.int (0 : Int32)) := (V104.keep Ku124 (ninS (Ne.symm ne118) nin0))
  have f136 : Exa Z T121.heap b38 "[I" := ((Exa.wr W104 (Exa.wr W94 (((Exa.wr W41 Ex38).keep Ku51).keep Ku75))).keep Ku124)
  have ne137 : a1 ≠ b38 := (own_n (own_t (own_t (own_t (own_t (own_t lt_a1 E5.1) (Keep.of_wr W15).1) (Keep.of_wr W18).1) E28.1) (Keep.of_wr W31).1) bd_b38)
  have ne138 : b5 ≠ b38 := (own_n (own_t (own_t (own_t (own_t lt_b5 (Keep.of_wr W15).1) (Keep.of_wr W18).1) E28.1) (Keep.of_wr W31).1) bd_b38)
  have f139 : Arv Z T121.heap b38 k38 .int (1 : Int32) [] (.int (0 : Int32)) := ((((((V38.other W41 (Ne.symm ne137)).keep Ku51 nin0).keep Ku75 (ninS (own_n (own_t lt_b38 (Keep.of_wr W41).1) u49) nin0)).other W94 (Ne.symm ne137)).other W104 (Ne.symm (own_n (own_t lt_b28 (Keep.of_wr W31).1) bd_b38))).keep Ku124 (ninS (Ne.symm ne138) nin0))
  have lt140 : b28 < T121.heap.size := (own_t (own_t (own_t (own_t (own_t (own_t (own_t (own_t lt_b28 (Keep.of_wr W31).1) E38.1) (Keep.of_wr W41).1) Ku51.1) Ku75.1) (Keep.of_wr W94).1) (Keep.of_wr W104).1) Ku124.1)
  have lt141 : b38 < T121.heap.size := (own_t (own_t (own_t (own_t (own_t (own_t lt_b38 (Keep.of_wr W41).1) Ku51.1) Ku75.1) (Keep.of_wr W94).1) (Keep.of_wr W104).1) Ku124.1)
  have lt142 : b5 < T121.heap.size := (own_t (own_t (own_t (own_t (own_t (own_t (own_t (own_t (own_t (own_t (own_t lt_b5 (Keep.of_wr W15).1) (Keep.of_wr W18).1) E28.1) (Keep.of_wr W31).1) E38.1) (Keep.of_wr W41).1) Ku51.1) Ku75.1) (Keep.of_wr W94).1) (Keep.of_wr W104).1) Ku124.1)
  refine fin none _ _ _ _ X121 (fun _ => rfl) (fun fs hr => pre0 _ ?_) ?_ (by decide) (by decide)
  · refine o_aloadN X0 hx hby d7_0 rfl rfl (st4 _ (o_aloadN X4 hx hby d7_4 rfl rfl (o_iconst X4 hx hby d7_5 (x := 5) rfl (st5 _ (st15 _ (o_aloadN X15 hx hby d7_11 rfl rfl (o_aloadN X15 hx hby d7_12 rfl rfl (st18 _ (o_aloadN X18 hx hby d7_16 rfl rfl (o_aloadN X18 hx hby d7_17 rfl rfl (st23 _ (st28 _ (st31 _ (o_aloadN X31 hx hby d7_28 rfl rfl (o_aloadN X31 hx hby d7_29 rfl rfl (st33 _ (st38 _ (st41 _ (o_aloadN X41 hx hby d7_40 rfl rfl (st44 _ (o_astoreN X44 hx hby d7_46 rfl (Ls' := #[vR a1, vR a2, vR a3, vR b46, .unset]) rfl (o_aloadN X44 hx hby d7_47 rfl rfl (st58 _ (o_ifN X58 hx hby d7_53 (by decide +kernel) (o_aloadN X58 hx hby d7_56 rfl rfl (st72 _ (st82 _ (o_astore X82 hx hby d7_65 rfl (Ls' := #[vR a1, vR a2, vR a3, vR b46, vR a64]) rfl (o_aloadN X82 hx hby d7_67 rfl rfl (st85 _ (o_aloadN X85 hx hby d7_71 rfl rfl (st86 _ (X86.arraylength hx (by rw [e86]; exact Ar90.1) (State.isArrayOf_alike hZ.alike Ar90.2.1) (g := (mkF m 75 #[vR a1, vR a2, vR a3, vR b46, vR a64] [(.ref b28), (.ref b28)])) rfl rfl (hb hby d7_75) _ ?_)))))))))))))))))))))))))))))))))
    rw [len_of Sz90 Nn90]
    refine o_iconst X86 hx hby d7_76 (x := 1) rfl (o_isub X86 hx hby d7_77 (z := (0 : Int32)) (by decide +kernel) (o_aloadN X86 hx hby d7_78 rfl rfl (o_dup X86 hx hby d7_79 rfl (st92 _ (o_dupX1 X92 hx hby d7_83 rfl rfl (o_iconst X92 hx hby d7_84 (x := 1) rfl (o_iadd X92 hx hby d7_85 (z := (1 : Int32)) (by decide +kernel) (st94 _ (o_isub X94 hx hby d7_89 (z := (0 : Int32)) (by decide +kernel) (o_aload X94 hx hby d7_90 rfl rfl (st97 _ (st104 _ (o_goto X104 hx hby d7_96 (pc := 96) (pc' := 47) (by decide) (by decide) (o_aloadN X104 hx hby d7_47 rfl rfl (st110 _ (o_ifY X110 hx hby d7_53 (pc := 53) (pc' := 99) (by decide +kernel) (by decide) (by decide) (o_aloadN X110 hx hby d7_99 rfl rfl (st116 _ (o_iconst X116 hx hby d7_103 (x := -1) rfl (st121 _ ?_))))))))))))))))))))
    exact X121.returnOut hx hret (hb hby d7_107) hr
  · exact ⟨b28, b38, b5, k28, k38, k5, rfl, N121, sz_b28, lt140, sz_b38, lt141, sz_b5, lt142, (own_n (own_t lt_b28 (Keep.of_wr W31).1) bd_b38), (Ne.symm ne118), (Ne.symm ne138), (((((((((((((Keep.refl h0 [a1]).ext E5).wr W15 (Or.inl (List.mem_of_getElem? (i := 0) rfl))).wr W18 (Or.inl (List.mem_of_getElem? (i := 0) rfl))).ext E28).wr W31 (Or.inl (List.mem_of_getElem? (i := 0) rfl))).ext E38).wr W41 (Or.inl (List.mem_of_getElem? (i := 0) rfl))).trans Ku51 all0).trans Ku75 (allS (Or.inr sz_b46) all0)).wr W94 (Or.inl (List.mem_of_getElem? (i := 0) rfl))).wr W104 (Or.inr sz_b28)).trans Ku124 (allS (Or.inr sz_b5) all0)), f127, f128, f129, f130, f131, f132, f133, f134, f135, f136, f139, u125, u126⟩
def Q16_33 (Z : State) (a1 : Addr) (h0 : Heap) (n0 : Nat) (v : Option Value) (h : Heap) (L : List Loc) : Prop := (v = some (.int 1) ∧ Fr n0 L ∧ h = h0)
theorem rm16_33 (l : Launch) (Z : State) (a0 : Array Value) (hw : own_HW Z a0) (a1 : Addr) (h0 : Heap) (n0 : Nat) (O0 : Old Z n0 h0) (F2 : Fld Z h0 a1 C_3 "deckSize" "I" (.int 1)) (F4 : Fld Z h0 a1 C_3 "discardSize" "I" (.int 0)) : own_Met l Z M_17 bc16 1 (some .boolean) ({ frames := 0, cells := 0, slots := 0, locals := 0 } : Room) #[(.ref a1)] h0 (Q16_33 Z a1 h0 n0) := by
  refine own_body (L0 := #[vR a1]) (plainFor_of_name pn_6) (fun m => by first | (simp [entryFrame, mkF, argsToLocals, Value.category]; done) | rfl) fun p e s m below meth c s₁ EN hx hby hml hown hnm hret X0 hZ e0 hh pre0 fin => ?_
  have N0 := Fr.nil n0
  obtain ⟨T3, X3, e3, st3⟩ := getF X0 hx hZ hown (host := "") (Or.inl (ww111 hw)) Via.refl e0 F2 (g := (mkF m 1 #[vR a1] [(.ref a1)])) rfl rfl (hb hby d16_1)
  obtain ⟨T5, X5, e5, st5⟩ := getF X3 hx hZ hown (host := "") (Or.inl (ww113 hw)) Via.refl e3 F4 (g := (mkF m 5 #[vR a1] [(.ref a1), (.int 1)])) rfl rfl (hb hby d16_5)
  refine fin (some (.int 1)) _ _ _ _ X5 nofun (fun fs hr => pre0 _ ?_) (own_atH e5 ?_) (by decide) (by decide)
  · refine o_aloadN X0 hx hby d16_0 rfl rfl (st3 _ (o_aloadN X3 hx hby d16_4 rfl rfl (st5 _ (o_iadd X5 hx hby d16_8 (z := (1 : Int32)) (by decide +kernel) (o_ifN X5 hx hby d16_9 (by decide +kernel) (o_iconst X5 hx hby d16_12 (x := 1) rfl (o_goto X5 hx hby d16_13 (pc := 13) (pc' := 17) (by decide) (by decide) ?_)))))))
    exact retN X5 hx (t := .boolean) hret (by simp) (hb hby d16_17) hr
  · exact ⟨rfl, N0, rfl⟩
def Q13_34 (Z : State) (a1 : Addr) (a4 : Addr) (a9 : Addr) (p11 : Int32) (a13 : Addr) (a15 : Addr) (p18 : Int32) (k19 : ClassId) (h0 : Heap) (n0 : Nat) (v : Option Value) (h : Heap) (L : List Loc) : Prop := (v = some (.int p18) ∧ Fr n0 L ∧ Keep h0 h [a1] ∧ Exa Z h a1 C_3 ∧ Fld Z h a1 C_3 "deck" "[I" (.ref a4) ∧ Fld Z h a1 C_3 "deckSize" "I" (.int 0) ∧ Fld Z h a1 C_3 "discard" "[I" (.ref a9) ∧ Fld Z h a1 C_3 "discardSize" "I" (.int p11) ∧ Fld Z h a1 C_3 "generator" C_4 (.ref a13) ∧ Fld Z h a1 C_3 "market" "[I" (.ref a15))
theorem rm13_34 (l : Launch) (Z : State) (a0 : Array Value) (hw : own_HW Z a0) (a1 : Addr) (a4 : Addr) (a9 : Addr) (p11 : Int32) (a13 : Addr) (a15 : Addr) (p18 : Int32) (k19 : ClassId) (h0 : Heap) (n0 : Nat) (O0 : Old Z n0 h0) (F2 : Fld Z h0 a1 C_3 "deckSize" "I" (.int 1)) (F5 : Fld Z h0 a1 C_3 "deck" "[I" (.ref a4)) (E_8 : Exa Z h0 a1 C_3) (F10 : Fld Z h0 a1 C_3 "discard" "[I" (.ref a9)) (F12 : Fld Z h0 a1 C_3 "discardSize" "I" (.int p11)) (F14 : Fld Z h0 a1 C_3 "generator" C_4 (.ref a13)) (F16 : Fld Z h0 a1 C_3 "market" "[I" (.ref a15)) (g_a1 : n0 ≤ a1) (V20 : Arv Z h0 a4 k19 .int (1 : Int32) [(.int p18)] (.int (0 : Int32))) (hne21 : a4 ≠ a1) : own_Met l Z M_14 bc13 1 (some .int) ({ frames := 0, cells := 0, slots := 0, locals := 0 } : Room) #[(.ref a1)] h0 (Q13_34 Z a1 a4 a9 p11 a13 a15 p18 k19 h0 n0) := by
  refine own_body (L0 := #[vR a1]) (plainFor_of_name pn_6) (fun m => by first | (simp [entryFrame, mkF, argsToLocals, Value.category]; done) | rfl) fun p e s m below meth c s₁ EN hx hby hml hown hnm hret X0 hZ e0 hh pre0 fin => ?_
  have N0 := Fr.nil n0
  obtain ⟨T3, X3, e3, st3⟩ := getF X0 hx hZ hown (host := "") (Or.inl (ww111 hw)) Via.refl e0 F2 (g := (mkF m 1 #[vR a1] [(.ref a1)])) rfl rfl (hb hby d13_1)
  obtain ⟨T6, X6, e6, st6⟩ := getF X3 hx hZ hown (host := "") (Or.inl (ww62 hw)) Via.refl e3 F5 (g := (mkF m 62 #[vR a1] [(.ref a1)])) rfl rfl (hb hby d13_62)
  obtain ⟨T7, X7, e7, st7⟩ := getF X6 hx hZ hown (host := "") (Or.inl (ww111 hw)) Via.refl e6 F2 (g := (mkF m 67 #[vR a1] [(.ref a1), (.ref a1), (.ref a4)])) rfl rfl (hb hby d13_67)
  obtain ⟨T17, h17, X17, e17, W17, st17⟩ := putF X7 hx hZ hown (host := "") (Or.inl (ww111 hw)) Via.refl e7 F2 E_8 (Or.inl (ww112 hw)) (ww31 hw) (ty := .int) (by decide) rfl rfl (g := (mkF m 73 #[vR a1] [(.int 0), (.ref a1), (.int 0), (.ref a4)])) rfl rfl (hb hby d13_73)
  have O17 : Old Z n0 h17 := O0.wr W17 g_a1
  have Fw17 : Fld Z h17 a1 C_3 "deckSize" "I" (.int 0) := Fld.same W17 F2
  have N17 := Fr.snoc X17 N0 g_a1
  have f22 : Arv Z h17 a4 k19 .int (1 : Int32) [(.int p18)] (.int (0 : Int32)) := (V20.other W17 hne21)
  obtain ⟨cl23, Ar23, -, Sz23, -, Hh23, -⟩ := id f22
  have hin23 : ¬ ((0 : Int32) < 0 ∨ cl23.slots.size ≤ ((0 : Int32)).toNatClampNeg) := inb_of Sz23 ⟨by decide +kernel, by decide +kernel⟩
  have hat23 : cl23.slots[((0 : Int32)).toNatClampNeg]? = some (.int p18) := Has.at Hh23 hin23 rfl
  have f24 : Exa Z h17 a1 C_3 := (Exa.wr W17 E_8)
  have f25 : Fld Z h17 a1 C_3 "deck" "[I" (.ref a4) := (Fld.other W17 F5 (Or.inr (own_sl39 hw)))
  have f26 : Fld Z h17 a1 C_3 "discard" "[I" (.ref a9) := (Fld.other W17 F10 (Or.inr (own_sl40 hw)))
  have f27 : Fld Z h17 a1 C_3 "discardSize" "I" (.int p11) := (Fld.other W17 F12 (Or.inr (own_sl41 hw)))
  have f28 : Fld Z h17 a1 C_3 "generator" C_4 (.ref a13) := (Fld.other W17 F14 (Or.inr (own_sl42 hw)))
  have f29 : Fld Z h17 a1 C_3 "market" "[I" (.ref a15) := (Fld.other W17 F16 (Or.inr (own_sl38 hw)))
  refine fin (some (.int p18)) _ _ _ _ X17 nofun (fun fs hr => pre0 _ ?_) (own_atH e17 ?_) (by decide) (by decide)
  · refine o_aloadN X0 hx hby d13_0 rfl rfl (st3 _ (o_ifY X3 hx hby d13_4 (pc := 4) (pc' := 61) (by decide +kernel) (by decide) (by decide) (o_aloadN X3 hx hby d13_61 rfl rfl (st6 _ (o_aloadN X6 hx hby d13_65 rfl rfl (o_dup X6 hx hby d13_66 rfl (st7 _ (o_iconst X7 hx hby d13_70 (x := 1) rfl (o_isub X7 hx hby d13_71 (z := (0 : Int32)) (by decide +kernel) (o_dupX1 X7 hx hby d13_72 rfl rfl (st17 _ (X17.iaload hx (j := (0 : Int32)) (v := (.int p18)) (by rw [e17]; exact Ar23.1) (State.isArrayOf_alike hZ.alike Ar23.2.1) Ar23.2.2 hin23 hat23 (g := (mkF m 76 #[vR a1] [(.int 0), (.ref a4)])) rfl rfl (hb hby d13_76) _ ?_))))))))))))
    exact retI X17 hx hret (hb hby d13_77) hr
  · exact ⟨rfl, N17, ((Keep.refl h0 [a1]).wr W17 (Or.inl (List.mem_of_getElem? (i := 0) rfl))), f24, f25, Fw17, f26, f27, f28, f29⟩
def Q15_35 (Z : State) (a1 : Addr) (a2 : Addr) (a3 : Addr) (a9 : Addr) (p11 : Int32) (a13 : Addr) (a15 : Addr) (p19 : Int32) (k25 : ClassId) (h0 : Heap) (n0 : Nat) (v : Option Value) (h : Heap) (L : List Loc) : Prop := (v = none ∧ Fr n0 L ∧ Keep h0 h [a1, a3] ∧ Exa Z h a1 C_3 ∧ Fld Z h a1 C_3 "deck" "[I" (.ref a9) ∧ Fld Z h a1 C_3 "deckSize" "I" (.int p11) ∧ Fld Z h a1 C_3 "discard" "[I" (.ref a3) ∧ Fld Z h a1 C_3 "discardSize" "I" (.int 1) ∧ Fld Z h a1 C_3 "generator" C_4 (.ref a13) ∧ Fld Z h a1 C_3 "market" "[I" (.ref a15) ∧ Exa Z h a3 "[I" ∧ Arv Z h a3 k25 .int (1 : Int32) [(.int p19)] (.int (0 : Int32)))
theorem rm15_35 (l : Launch) (Z : State) (a0 : Array Value) (hw : own_HW Z a0) (a1 : Addr) (a2 : Addr) (a3 : Addr) (a9 : Addr) (p11 : Int32) (a13 : Addr) (a15 : Addr) (p19 : Int32) (k25 : ClassId) (h0 : Heap) (n0 : Nat) (O0 : Old Z n0 h0) (F4 : Fld Z h0 a1 C_3 "discard" "[I" (.ref a3)) (F6 : Fld Z h0 a1 C_3 "discardSize" "I" (.int 0)) (E_8 : Exa Z h0 a1 C_3) (F10 : Fld Z h0 a1 C_3 "deck" "[I" (.ref a9)) (F12 : Fld Z h0 a1 C_3 "deckSize" "I" (.int p11)) (F14 : Fld Z h0 a1 C_3 "generator" C_4 (.ref a13)) (F16 : Fld Z h0 a1 C_3 "market" "[I" (.ref a15)) (g_a1 : n0 ≤ a1) (E_18 : Exa Z Z.heap a2 C_8) (F20 : Fld Z Z.heap a2 C_10 "ordinal" "I" (.int p19)) (V26 : Arv Z h0 a3 k25 .int (1 : Int32) [] (.int (0 : Int32))) (hne27 : a3 ≠ a1) (g_a3 : n0 ≤ a3) (E_32 : Exa Z h0 a3 "[I") : own_Met l Z M_16 bc15 4 none ({ frames := 1, cells := 0, slots := 0, locals := 14 } : Room) #[(.ref a1), (.ref a2), (.int 1)] h0 (Q15_35 Z a1 a2 a3 a9 p11 a13 a15 p19 k25 h0 n0) := by
  refine own_body (L0 := #[vR a1, vR a2, vI 1, .unset]) (plainFor_of_name pn_6) (fun m => by first | (simp [entryFrame, mkF, argsToLocals, Value.category]; done) | rfl) fun p e s m below meth c s₁ EN hx hby hml hown hnm hret X0 hZ e0 hh pre0 fin => ?_
  have N0 := Fr.nil n0
  obtain ⟨T5, X5, e5, st5⟩ := getF X0 hx hZ hown (host := "") (Or.inl (ww64 hw)) Via.refl e0 F4 (g := (mkF m 8 #[vR a1, vR a2, vI 1, vI 0] [(.ref a1)])) rfl rfl (hb hby d15_8)
  obtain ⟨T7, X7, e7, st7⟩ := getF X5 hx hZ hown (host := "") (Or.inl (ww113 hw)) Via.refl e5 F6 (g := (mkF m 13 #[vR a1, vR a2, vI 1, vI 0] [(.ref a1), (.ref a1), (.ref a3)])) rfl rfl (hb hby d15_13)
  obtain ⟨T17, h17, X17, e17, W17, st17⟩ := putF X7 hx hZ hown (host := "") (Or.inl (ww113 hw)) Via.refl e7 F6 E_8 (Or.inl (ww114 hw)) (ww31 hw) (ty := .int) (by decide) rfl rfl (g := (mkF m 19 #[vR a1, vR a2, vI 1, vI 0] [(.int 1), (.ref a1), (.int 0), (.ref a3)])) rfl rfl (hb hby d15_19)
  have O17 : Old Z n0 h17 := O0.wr W17 g_a1
  have Fw17 : Fld Z h17 a1 C_3 "discardSize" "I" (.int 1) := Fld.same W17 F6
  have N17 := Fr.snoc X17 N0 g_a1
  obtain ⟨_, T21, L21, X21, hQ21, st21⟩ := own_cU X17 hx hZ hown (ww177 hw) (ww178 hw) (ww179 hw) (ww181 hw) (ww180 hw) (ww182 hw) (ww183 hw) (Exa.ext O17.2 E_18) (rm24_31 l Z a0 hw a2 p19 h17 n0 O17 F20) e17 pd_3 hml (hb hby d15_23) (Ls := #[vR a1, vR a2, vI 1, vI 0]) (W := 2) (argsL := []) (rest := [(.int 0), (.ref a3)])
  obtain ⟨rfl, u23, u24⟩ := hQ21
  have N21 := Fr.app N17 u23
  have f28 : Arv Z h17 a3 k25 .int (1 : Int32) [] (.int (0 : Int32)) := (V26.other W17 hne27)
  have Vp29 : Arv Z h17 a3 k25 .int (1 : Int32) [(.int 0)] (.int (0 : Int32)) := f28.pad (pad_rep [] (.int (0 : Int32)) 1)
  obtain ⟨cl30, Ar30, qk30, Sz30, Nn30, Hh30, Gg30⟩ := id Vp29
  have hin30 : ¬ ((0 : Int32) < 0 ∨ cl30.slots.size ≤ ((0 : Int32)).toNatClampNeg) := inb_of Sz30 ⟨by decide +kernel, by decide +kernel⟩
  obtain ⟨T31, h31, X31, e31, W31, st31⟩ := stI X21 hx hZ u24 Ar30 (j := (0 : Int32)) hin30 (g := (mkF m 26 #[vR a1, vR a2, vI 1, vI 0] [(.int p19), (.int 0), (.ref a3)])) rfl rfl (hb hby d15_26)
  have O31 : Old Z n0 h31 := O17.wr W31 g_a3
  have V31 : Arv Z h31 a3 k25 .int (1 : Int32) [(.int p19)] (.int (0 : Int32)) := Arv.set Ar30 qk30 Sz30 Nn30 Hh30 Gg30 rfl W31 0 rfl (Nat.le_of_ble_eq_true rfl)
  have N31 := Fr.snoc X31 N21 g_a3
  have f33 : Exa Z h31 a1 C_3 := (Exa.wr W31 (Exa.wr W17 E_8))
  have f34 : Fld Z h31 a1 C_3 "deck" "[I" (.ref a9) := (Fld.other W31 (Fld.other W17 F10 (Or.inr (own_sl43 hw))) (Or.inl (Ne.symm hne27)))
  have f35 : Fld Z h31 a1 C_3 "deckSize" "I" (.int p11) := (Fld.other W31 (Fld.other W17 F12 (Or.inr (own_sl44 hw))) (Or.inl (Ne.symm hne27)))
  have f36 : Fld Z h31 a1 C_3 "discard" "[I" (.ref a3) := (Fld.other W31 (Fld.other W17 F4 (Or.inr (own_sl45 hw))) (Or.inl (Ne.symm hne27)))
  have f37 : Fld Z h31 a1 C_3 "discardSize" "I" (.int 1) := (Fld.other W31 Fw17 (Or.inl (Ne.symm hne27)))
  have f38 : Fld Z h31 a1 C_3 "generator" C_4 (.ref a13) := (Fld.other W31 (Fld.other W17 F14 (Or.inr (own_sl46 hw))) (Or.inl (Ne.symm hne27)))
  have f39 : Fld Z h31 a1 C_3 "market" "[I" (.ref a15) := (Fld.other W31 (Fld.other W17 F16 (Or.inr (own_sl47 hw))) (Or.inl (Ne.symm hne27)))
  have f40 : Exa Z h31 a3 "[I" := (Exa.wr W31 (Exa.wr W17 E_32))
  refine fin none _ _ _ _ X31 (fun _ => rfl) (fun fs hr => pre0 _ ?_) (own_atH e31 ?_) (by decide) (by decide)
  · refine o_iconst X0 hx hby d15_0 (x := 0) rfl (o_istoreN X0 hx hby d15_1 (Ls' := #[vR a1, vR a2, vI 1, vI 0]) rfl (o_iloadN X0 hx hby d15_2 rfl (o_iloadN X0 hx hby d15_3 rfl (o_icmpN X0 hx hby d15_4 (by decide +kernel) (o_aloadN X0 hx hby d15_7 rfl rfl (st5 _ (o_aloadN X5 hx hby d15_11 rfl rfl (o_dup X5 hx hby d15_12 rfl (st7 _ (o_dupX1 X7 hx hby d15_16 rfl rfl (o_iconst X7 hx hby d15_17 (x := 1) rfl (o_iadd X7 hx hby d15_18 (z := (1 : Int32)) (by decide +kernel) (st17 _ (o_aloadN X17 hx hby d15_22 rfl rfl (st21 _ (st31 _ (o_iinc X31 hx hby d15_27 rfl (z := (1 : Int32)) (k' := 1) rfl (by decide +kernel) (Ls' := #[vR a1, vR a2, vI 1, vI 1]) rfl (o_goto X31 hx hby d15_30 (pc := 30) (pc' := 2) (by decide) (by decide) (o_iloadN X31 hx hby d15_2 rfl (o_iloadN X31 hx hby d15_3 rfl (o_icmpY X31 hx hby d15_4 (pc := 4) (pc' := 33) (by decide +kernel) (by decide) (by decide) ?_)))))))))))))))))))))
    exact X31.returnOut hx hret (hb hby d15_33) hr
  · exact ⟨rfl, N31, (((Keep.refl h0 [a1, a3]).wr W17 (Or.inl (List.mem_of_getElem? (i := 0) rfl))).wr W31 (Or.inl (List.mem_of_getElem? (i := 1) rfl))), f33, f34, f35, f36, f37, f38, f39, f40, V31⟩
def Q16_36 (Z : State) (a1 : Addr) (h0 : Heap) (n0 : Nat) (v : Option Value) (h : Heap) (L : List Loc) : Prop := (v = some (.int 1) ∧ Fr n0 L ∧ h = h0)
theorem rm16_36 (l : Launch) (Z : State) (a0 : Array Value) (hw : own_HW Z a0) (a1 : Addr) (h0 : Heap) (n0 : Nat) (O0 : Old Z n0 h0) (F2 : Fld Z h0 a1 C_3 "deckSize" "I" (.int 0)) (F4 : Fld Z h0 a1 C_3 "discardSize" "I" (.int 1)) : own_Met l Z M_17 bc16 1 (some .boolean) ({ frames := 0, cells := 0, slots := 0, locals := 0 } : Room) #[(.ref a1)] h0 (Q16_36 Z a1 h0 n0) := by
  refine own_body (L0 := #[vR a1]) (plainFor_of_name pn_6) (fun m => by first | (simp [entryFrame, mkF, argsToLocals, Value.category]; done) | rfl) fun p e s m below meth c s₁ EN hx hby hml hown hnm hret X0 hZ e0 hh pre0 fin => ?_
  have N0 := Fr.nil n0
  obtain ⟨T3, X3, e3, st3⟩ := getF X0 hx hZ hown (host := "") (Or.inl (ww111 hw)) Via.refl e0 F2 (g := (mkF m 1 #[vR a1] [(.ref a1)])) rfl rfl (hb hby d16_1)
  obtain ⟨T5, X5, e5, st5⟩ := getF X3 hx hZ hown (host := "") (Or.inl (ww113 hw)) Via.refl e3 F4 (g := (mkF m 5 #[vR a1] [(.ref a1), (.int 0)])) rfl rfl (hb hby d16_5)
  refine fin (some (.int 1)) _ _ _ _ X5 nofun (fun fs hr => pre0 _ ?_) (own_atH e5 ?_) (by decide) (by decide)
  · refine o_aloadN X0 hx hby d16_0 rfl rfl (st3 _ (o_aloadN X3 hx hby d16_4 rfl rfl (st5 _ (o_iadd X5 hx hby d16_8 (z := (1 : Int32)) (by decide +kernel) (o_ifN X5 hx hby d16_9 (by decide +kernel) (o_iconst X5 hx hby d16_12 (x := 1) rfl (o_goto X5 hx hby d16_13 (pc := 13) (pc' := 17) (by decide) (by decide) ?_)))))))
    exact retN X5 hx (t := .boolean) hret (by simp) (hb hby d16_17) hr
  · exact ⟨rfl, N0, rfl⟩
def Q25_38 (Z : State) (a1 : Addr) (a2 : Addr) (h0 : Heap) (n0 : Nat) (v : Option Value) (h : Heap) (L : List Loc) : Prop := (v = none ∧ Fr n0 L ∧ h = h0)
theorem rm25_38 (l : Launch) (Z : State) (a0 : Array Value) (hw : own_HW Z a0) (a1 : Addr) (a2 : Addr) (h0 : Heap) (n0 : Nat) (O0 : Old Z n0 h0) : own_Met l Z M_28 bc25 6 none ({ frames := 0, cells := 0, slots := 0, locals := 0 } : Room) #[(.ref a1), (.ref a2), (.int 1)] h0 (Q25_38 Z a1 a2 h0 n0) := by
  refine own_body (L0 := #[vR a1, vR a2, vI 1, .unset, .unset, .unset]) (plainFor_of_name pn_3) (fun m => by first | (simp [entryFrame, mkF, argsToLocals, Value.category]; done) | rfl) fun p e s m below meth c s₁ EN hx hby hml hown hnm hret X0 hZ e0 hh pre0 fin => ?_
  have N0 := Fr.nil n0
  refine fin none _ _ _ _ X0 (fun _ => rfl) (fun fs hr => pre0 _ ?_) (own_atH e0 ?_) (by decide) (by decide)
  · refine o_iloadN X0 hx hby d25_0 rfl (o_iconst X0 hx hby d25_1 (x := 1) rfl (o_isub X0 hx hby d25_2 (z := (0 : Int32)) (by decide +kernel) (o_istoreN X0 hx hby d25_3 (Ls' := #[vR a1, vR a2, vI 1, vI 0, .unset, .unset]) rfl (o_iloadN X0 hx hby d25_4 rfl (o_ifY X0 hx hby d25_5 (pc := 5) (pc' := 41) (by decide +kernel) (by decide) (by decide) ?_)))))
    exact X0.returnOut hx hret (hb hby d25_41) hr
  · exact ⟨rfl, N0, rfl⟩
def Q13_37 (Z : State) (a1 : Addr) (a6 : Addr) (a9 : Addr) (p13 : Int32) (k14 : ClassId) (p16 : Int32) (k17 : ClassId) (a25 : Addr) (a27 : Addr) (h0 : Heap) (n0 : Nat) (v : Option Value) (h : Heap) (L : List Loc) : Prop := (v = some (.int p13) ∧ Fr n0 L ∧ Keep h0 h [a9, a1] ∧ Exa Z h a9 "[I" ∧ Arv Z h a9 k17 .int (1 : Int32) [(.int p13)] (.int (0 : Int32)) ∧ Exa Z h a1 C_3 ∧ Fld Z h a1 C_3 "deck" "[I" (.ref a9) ∧ Fld Z h a1 C_3 "deckSize" "I" (.int 0) ∧ Fld Z h a1 C_3 "discard" "[I" (.ref a6) ∧ Fld Z h a1 C_3 "discardSize" "I" (.int 0) ∧ Fld Z h a1 C_3 "generator" C_4 (.ref a25) ∧ Fld Z h a1 C_3 "market" "[I" (.ref a27))
theorem rm13_37 (l : Launch) (Z : State) (a0 : Array Value) (hw : own_HW Z a0) (a1 : Addr) (a6 : Addr) (a9 : Addr) (p13 : Int32) (k14 : ClassId) (p16 : Int32) (k17 : ClassId) (a25 : Addr) (a27 : Addr) (h0 : Heap) (n0 : Nat) (O0 : Old Z n0 h0) (F2 : Fld Z h0 a1 C_3 "deckSize" "I" (.int 0)) (F4 : Fld Z h0 a1 C_3 "discardSize" "I" (.int 1)) (F7 : Fld Z h0 a1 C_3 "discard" "[I" (.ref a6)) (F10 : Fld Z h0 a1 C_3 "deck" "[I" (.ref a9)) (V15 : Arv Z h0 a6 k14 .int (1 : Int32) [(.int p13)] (.int (0 : Int32))) (V18 : Arv Z h0 a9 k17 .int (1 : Int32) [(.int p16)] (.int (0 : Int32))) (E_19 : Exa Z h0 a9 "[I") (g_a9 : n0 ≤ a9) (hne21 : a1 ≠ a9) (E_24 : Exa Z h0 a1 C_3) (F26 : Fld Z h0 a1 C_3 "generator" C_4 (.ref a25)) (F28 : Fld Z h0 a1 C_3 "market" "[I" (.ref a27)) (g_a1 : n0 ≤ a1) (E_41 : Exa Z h0 a25 C_5) : own_Met l Z M_14 bc13 1 (some .int) ({ frames := 1, cells := 0, slots := 0, locals := 18 } : Room) #[(.ref a1)] h0 (Q13_37 Z a1 a6 a9 p13 k14 p16 k17 a25 a27 h0 n0) := by
  refine own_body (L0 := #[vR a1]) (plainFor_of_name pn_6) (fun m => by first | (simp [entryFrame, mkF, argsToLocals, Value.category]; done) | rfl) fun p e s m below meth c s₁ EN hx hby hml hown hnm hret X0 hZ e0 hh pre0 fin => ?_
  have N0 := Fr.nil n0
  obtain ⟨T3, X3, e3, st3⟩ := getF X0 hx hZ hown (host := "") (Or.inl (ww111 hw)) Via.refl e0 F2 (g := (mkF m 1 #[vR a1] [(.ref a1)])) rfl rfl (hb hby d13_1)
  obtain ⟨T5, X5, e5, st5⟩ := getF X3 hx hZ hown (host := "") (Or.inl (ww113 hw)) Via.refl e3 F4 (g := (mkF m 8 #[vR a1] [(.ref a1)])) rfl rfl (hb hby d13_8)
  obtain ⟨T8, X8, e8, st8⟩ := getF X5 hx hZ hown (host := "") (Or.inl (ww64 hw)) Via.refl e5 F7 (g := (mkF m 17 #[vR a1] [(.ref a1)])) rfl rfl (hb hby d13_17)
  obtain ⟨T11, X11, e11, st11⟩ := getF X8 hx hZ hown (host := "") (Or.inl (ww62 hw)) Via.refl e8 F10 (g := (mkF m 22 #[vR a1] [(.ref a1), (.int 0), (.ref a6)])) rfl rfl (hb hby d13_22)
  obtain ⟨T12, X12, e12, st12⟩ := getF X11 hx hZ hown (host := "") (Or.inl (ww113 hw)) Via.refl e11 F4 (g := (mkF m 27 #[vR a1] [(.ref a1), (.int 0), (.ref a9), (.int 0), (.ref a6)])) rfl rfl (hb hby d13_27)
  obtain ⟨T20, h20, L20, X20, e20, N20, Ku20, V20, st20⟩ := cpA X12 hx hZ hown (ww186 hw) (ww189 hw) (ww187 hw) (ww188 hw) e12 (sp := (0 : Int32)) (dp := (0 : Int32)) (nn := (1 : Int32)) (us := [(.int p13)]) V15 V18 (Or.inl ⟨rfl, rfl⟩) (by decide +kernel) (by decide +kernel) (by decide +kernel) (by decide +kernel) (by decide +kernel) rfl (Nat.le_of_ble_eq_true rfl) N0 g_a9 (g := (mkF m 30 #[vR a1] [(.int 1), (.int 0), (.ref a9), (.int 0), (.ref a6)])) rfl (by rw [hml]; rfl) rfl (hb hby d13_30) (by decide) (W := 0) (by show 2 * 0 + _ ≤ _; exact Nat.le_of_eq rfl) (by decide +kernel)
  have Ou20 : Old Z n0 h20 := O0.keep Ku20 (allS g_a9 all0)
  have Vc20 : Arv Z h20 a9 k17 .int (1 : Int32) [(.int p13)] (.int (0 : Int32)) := V20
  have f22 : Fld Z h20 a1 C_3 "discardSize" "I" (.int 1) := (F4.keep Ku20 (ninS hne21 nin0))
  obtain ⟨T23, X23, e23, st23⟩ := getF X20 hx hZ hown (host := "") (Or.inl (ww113 hw)) Via.refl e20 f22 (g := (mkF m 35 #[vR a1] [(.ref a1), (.ref a1)])) rfl rfl (hb hby d13_35)
  have f29 : Fld Z h20 a1 C_3 "deckSize" "I" (.int 0) := (F2.keep Ku20 (ninS hne21 nin0))
  have f30 : Exa Z h20 a1 C_3 := (E_24.keep Ku20)
  obtain ⟨T31, h31, X31, e31, W31, st31⟩ := putF X23 hx hZ hown (host := "") (Or.inl (ww111 hw)) Via.refl e23 f29 f30 (Or.inl (ww112 hw)) (ww31 hw) (ty := .int) (by decide) rfl rfl (g := (mkF m 38 #[vR a1] [(.int 1), (.ref a1)])) rfl rfl (hb hby d13_38)
  have O31 : Old Z n0 h31 := Ou20.wr W31 g_a1
  have Fw31 : Fld Z h31 a1 C_3 "deckSize" "I" (.int 1) := Fld.same W31 f29
  have N31 := Fr.snoc X31 N20 g_a1
  have f32 : Fld Z h31 a1 C_3 "discardSize" "I" (.int 1) := (Fld.other W31 f22 (Or.inr (own_sl41 hw)))
  have f33 : Exa Z h31 a1 C_3 := (Exa.wr W31 f30)
  obtain ⟨T34, h34, X34, e34, W34, st34⟩ := putF X31 hx hZ hown (host := "") (Or.inl (ww113 hw)) Via.refl e31 f32 f33 (Or.inl (ww114 hw)) (ww31 hw) (ty := .int) (by decide) rfl rfl (g := (mkF m 43 #[vR a1] [(.int 0), (.ref a1)])) rfl rfl (hb hby d13_43)
  have O34 : Old Z n0 h34 := O31.wr W34 g_a1
  have Fw34 : Fld Z h34 a1 C_3 "discardSize" "I" (.int 0) := Fld.same W34 f32
  have N34 := Fr.snoc X34 N31 g_a1
  have f35 : Fld Z h34 a1 C_3 "generator" C_4 (.ref a25) := (Fld.other W34 (Fld.other W31 (F26.keep Ku20 (ninS hne21 nin0)) (Or.inr (own_sl42 hw))) (Or.inr (own_sl46 hw)))
  obtain ⟨T36, X36, e36, st36⟩ := getF X34 hx hZ hown (host := "") (Or.inl (ww49 hw)) Via.refl e34 f35 (g := (mkF m 47 #[vR a1] [(.ref a1)])) rfl rfl (hb hby d13_47)
  have f37 : Fld Z h34 a1 C_3 "deck" "[I" (.ref a9) := (Fld.other W34 (Fld.other W31 (F10.keep Ku20 (ninS hne21 nin0)) (Or.inr (own_sl39 hw))) (Or.inr (own_sl43 hw)))
  obtain ⟨T38, X38, e38, st38⟩ := getF X36 hx hZ hown (host := "") (Or.inl (ww62 hw)) Via.refl e36 f37 (g := (mkF m 51 #[vR a1] [(.ref a1), (.ref a25)])) rfl rfl (hb hby d13_51)
  have f39 : Fld Z h34 a1 C_3 "deckSize" "I" (.int 1) := (Fld.other W34 Fw31 (Or.inr (own_sl44 hw)))
  obtain ⟨T40, X40, e40, st40⟩ := getF X38 hx hZ hown (host := "") (Or.inl (ww111 hw)) Via.refl e38 f39 (g := (mkF m 55 #[vR a1] [(.ref a1), (.ref a9), (.ref a25)])) rfl rfl (hb hby d13_55)
  have f43 : Exa Z h34 a25 C_5 := (Exa.wr W34 (Exa.wr W31 (E_41.keep Ku20)))
  obtain ⟨_, T42, L42, X42, hQ42, st42⟩ := own_cV X40 hx hZ hown (ww190 hw) (ww191 hw) (notFace_of_selects (args := #[]) (mvT hZ (ww193 hw))) (ww193 hw) (ww192 hw) (ww35 hw) (ww194 hw) f43 (rm25_38 l Z a0 hw a25 a9 h34 n0 O34) e40 pd_7 hml (hb hby d13_58) (Ls := #[vR a1]) (W := 0) (argsL := [(.ref a9), (.int 1)]) (rest := [])
  obtain ⟨rfl, u45, u46⟩ := hQ42
  have N42 := Fr.app N34 u45
  obtain ⟨T47, X47, e47, st47⟩ := getF X42 hx hZ hown (host := "") (Or.inl (ww62 hw)) Via.refl u46 f37 (g := (mkF m 62 #[vR a1] [(.ref a1)])) rfl rfl (hb hby d13_62)
  obtain ⟨T48, X48, e48, st48⟩ := getF X47 hx hZ hown (host := "") (Or.inl (ww111 hw)) Via.refl e47 f39 (g := (mkF m 67 #[vR a1] [(.ref a1), (.ref a1), (.ref a9)])) rfl rfl (hb hby d13_67)
  have f49 : Exa Z h34 a1 C_3 := (Exa.wr W34 f33)
  obtain ⟨T50, h50, X50, e50, W50, st50⟩ := putF X48 hx hZ hown (host := "") (Or.inl (ww111 hw)) Via.refl e48 f39 f49 (Or.inl (ww112 hw)) (ww31 hw) (ty := .int) (by decide) rfl rfl (g := (mkF m 73 #[vR a1] [(.int 0), (.ref a1), (.int 0), (.ref a9)])) rfl rfl (hb hby d13_73)
  have O50 : Old Z n0 h50 := O34.wr W50 g_a1
  have Fw50 : Fld Z h50 a1 C_3 "deckSize" "I" (.int 0) := Fld.same W50 f39
  have N50 := Fr.snoc X50 N42 g_a1
  have f51 : Arv Z h50 a9 k17 .int (1 : Int32) [(.int p13)] (.int (0 : Int32)) := (((Vc20.other W31 (Ne.symm hne21)).other W34 (Ne.symm hne21)).other W50 (Ne.symm hne21))
  obtain ⟨cl52, Ar52, -, Sz52, -, Hh52, -⟩ := id f51
  have hin52 : ¬ ((0 : Int32) < 0 ∨ cl52.slots.size ≤ ((0 : Int32)).toNatClampNeg) := inb_of Sz52 ⟨by decide +kernel, by decide +kernel⟩
  have hat52 : cl52.slots[((0 : Int32)).toNatClampNeg]? = some (.int p13) := Has.at Hh52 hin52 rfl
  have f53 : Exa Z h50 a9 "[I" := (Exa.wr W50 (Exa.wr W34 (Exa.wr W31 (E_19.keep Ku20))))
  have f54 : Exa Z h50 a1 C_3 := (Exa.wr W50 f49)
  have f55 : Fld Z h50 a1 C_3 "deck" "[I" (.ref a9) := (Fld.other W50 f37 (Or.inr (own_sl39 hw)))
  have f56 : Fld Z h50 a1 C_3 "discard" "[I" (.ref a6) := (Fld.other W50 (Fld.other W34 (Fld.other W31 (F7.keep Ku20 (ninS hne21 nin0)) (Or.inr (own_sl40 hw))) (Or.inr (own_sl45 hw))) (Or.inr (own_sl40 hw)))
  have f57 : Fld Z h50 a1 C_3 "discardSize" "I" (.int 0) := (Fld.other W50 Fw34 (Or.inr (own_sl41 hw)))
  have f58 : Fld Z h50 a1 C_3 "generator" C_4 (.ref a25) := (Fld.other W50 f35 (Or.inr (own_sl42 hw)))
  have f59 : Fld Z h50 a1 C_3 "market" "[I" (.ref a27) := (Fld.other W50 (Fld.other W34 (Fld.other W31 (F28.keep Ku20 (ninS hne21 nin0)) (Or.inr (own_sl38 hw))) (Or.inr (own_sl47 hw))) (Or.inr (own_sl38 hw)))
  refine fin (some (.int p13)) _ _ _ _ X50 nofun (fun fs hr => pre0 _ ?_) (own_atH e50 ?_) (by decide) (by decide)
  · refine o_aloadN X0 hx hby d13_0 rfl rfl (st3 _ (o_ifN X3 hx hby d13_4 (by decide +kernel) (o_aloadN X3 hx hby d13_7 rfl rfl (st5 _ (o_ifY X5 hx hby d13_11 (pc := 11) (pc' := 16) (by decide +kernel) (by decide) (by decide) (o_aloadN X5 hx hby d13_16 rfl rfl (st8 _ (o_iconst X8 hx hby d13_20 (x := 0) rfl (o_aloadN X8 hx hby d13_21 rfl rfl (st11 _ (o_iconst X11 hx hby d13_25 (x := 0) rfl (o_aloadN X11 hx hby d13_26 rfl rfl (st12 _ (st20 _ (o_aloadN X20 hx hby d13_33 rfl rfl (o_aloadN X20 hx hby d13_34 rfl rfl (st23 _ (st31 _ (o_aloadN X31 hx hby d13_41 rfl rfl (o_iconst X31 hx hby d13_42 (x := 0) rfl (st34 _ (o_aloadN X34 hx hby d13_46 rfl rfl (st36 _ (o_aloadN X36 hx hby d13_50 rfl rfl (st38 _ (o_aloadN X38 hx hby d13_54 rfl rfl (st40 _ (st42 _ (o_aloadN X42 hx hby d13_61 rfl rfl (st47 _ (o_aloadN X47 hx hby d13_65 rfl rfl (o_dup X47 hx hby d13_66 rfl (st48 _ (o_iconst X48 hx hby d13_70 (x := 1) rfl (o_isub X48 hx hby d13_71 (z := (0 : Int32)) (by decide +kernel) (o_dupX1 X48 hx hby d13_72 rfl rfl (st50 _ (X50.iaload hx (j := (0 : Int32)) (v := (.int p13)) (by rw [e50]; exact Ar52.1) (State.isArrayOf_alike hZ.alike Ar52.2.1) Ar52.2.2 hin52 hat52 (g := (mkF m 76 #[vR a1] [(.int 0), (.ref a9)])) rfl rfl (hb hby d13_76) _ ?_))))))))))))))))))))))))))))))))))))))
    exact retI X50 hx hret (hb hby d13_77) hr
  · exact ⟨rfl, N50, (((((Keep.refl h0 [a9, a1]).trans Ku20 (allS (Or.inl (List.mem_of_getElem? (i := 0) rfl)) all0)).wr W31 (Or.inl (List.mem_of_getElem? (i := 1) rfl))).wr W34 (Or.inl (List.mem_of_getElem? (i := 1) rfl))).wr W50 (Or.inl (List.mem_of_getElem? (i := 1) rfl))), f53, f51, f54, f55, Fw50, f56, f57, f58, f59⟩
def Q1_39 (Z : State) (p1 : Int32) (h0 : Heap) (n0 : Nat) (v : Option Value) (h : Heap) (L : List Loc) : Prop := ((2 : Int32) < p1 ∧ v = some (.int 2) ∧ Fr n0 L ∧ h = h0) ∨ (¬ ((2 : Int32) < p1) ∧ v = some (.int p1) ∧ Fr n0 L ∧ h = h0)
theorem rm1_39 (l : Launch) (Z : State) (a0 : Array Value) (hw : own_HW Z a0) (p1 : Int32) (h0 : Heap) (n0 : Nat) (O0 : Old Z n0 h0) : own_Met l Z M_0 bc1 2 (some .int) ({ frames := 0, cells := 0, slots := 0, locals := 0 } : Room) #[(.int p1), (.int 2)] h0 (Q1_39 Z p1 h0 n0) := by
  refine own_body (L0 := #[vI p1, vI 2]) (Jvm.Free.JP.mathPlain rfl (by decide +kernel)) (fun m => by first | (simp [entryFrame, mkF, argsToLocals, Value.category]; done) | rfl) fun p e s m below meth c s₁ EN hx hby hml hown hnm hret X0 hZ e0 hh pre0 fin => ?_
  have N0 := Fr.nil n0
  have pre2 : ∀ t, Steps p.tables e below (s₁.setTop (mkF m 2 #[vI p1, vI 2] [(.int 2), (.int p1)])) t → Steps p.tables e below EN t := by
    intro t kt
    refine pre0 t ?_
    refine o_iloadN X0 hx hby d1_0 rfl (o_iloadN X0 hx hby d1_1 rfl ?_)
    exact kt
  by_cases hc3 : (2 : Int32) < p1
  · skip
    refine fin (some (.int 2)) _ _ _ _ X0 nofun (fun fs hr => pre2 _ ?_) (own_atH e0 ?_) (by decide) (by decide)
    · refine o_icmpY X0 hx hby d1_2 (pc := 2) (pc' := 9) (tlt hc3).2.2.1 (by decide) (by decide) (o_iloadN X0 hx hby d1_9 rfl ?_)
      exact retI X0 hx hret (hb hby d1_10) hr
    · exact Or.inl (⟨hc3, rfl, N0, rfl⟩)
  · skip
    refine fin (some (.int p1)) _ _ _ _ X0 nofun (fun fs hr => pre2 _ ?_) (own_atH e0 ?_) (by decide) (by decide)
    · refine o_icmpN X0 hx hby d1_2 (flt hc3).2.2.1 (o_iloadN X0 hx hby d1_5 rfl (o_goto X0 hx hby d1_6 (pc := 6) (pc' := 10) (by decide) (by decide) ?_))
      exact retI X0 hx hret (hb hby d1_10) hr
    · exact Or.inr (⟨hc3, rfl, N0, rfl⟩)
def Q18_41 (Z : State) (a1 : Addr) (a2 : Addr) (a3 : Addr) (a4 : Addr) (k5 : ClassId) (h0 : Heap) (n0 : Nat) (v : Option Value) (h : Heap) (L : List Loc) : Prop := (v = none ∧ Fr n0 L ∧ Keep h0 h [a3, a1] ∧ Exa Z h a3 C_2 ∧ Arv Z h a3 k5 (.object "java/lang/Object") (10 : Int32) [(.ref a4), (.ref a2)] .null ∧ Ovr Z k5 "java/lang/Object" ∧ Exa Z h a1 C_1 ∧ Fld Z h a1 C_1 "elementData" C_2 (.ref a3) ∧ Fld Z h a1 C_0 "modCount" "I" (.int 2) ∧ Fld Z h a1 C_1 "size" "I" (.int 2))
theorem rm18_41 (l : Launch) (Z : State) (a0 : Array Value) (hw : own_HW Z a0) (a1 : Addr) (a2 : Addr) (a3 : Addr) (a4 : Addr) (k5 : ClassId) (h0 : Heap) (n0 : Nat) (O0 : Old Z n0 h0) (V6 : Arv Z h0 a3 k5 (.object "java/lang/Object") (10 : Int32) [(.ref a4)] .null) (Ov10 : Ovr Z k5 "java/lang/Object") (E_11 : Exa Z Z.heap a2 C_8) (g_a3 : n0 ≤ a3) (E_13 : Exa Z h0 a3 C_2) (E_14 : Exa Z h0 a1 C_1) (F15 : Fld Z h0 a1 C_1 "elementData" C_2 (.ref a3)) (F16 : Fld Z h0 a1 C_0 "modCount" "I" (.int 2)) (F17 : Fld Z h0 a1 C_1 "size" "I" (.int 1)) (hne18 : a1 ≠ a3) (g_a1 : n0 ≤ a1) : own_Met l Z M_21 bc18 4 none ({ frames := 0, cells := 0, slots := 0, locals := 0 } : Room) #[(.ref a1), (.ref a2), (.ref a3), (.int 1)] h0 (Q18_41 Z a1 a2 a3 a4 k5 h0 n0) := by
  refine own_body (L0 := #[vR a1, vR a2, vR a3, vI 1]) (plainFor_of_name pn_2) (fun m => by first | (simp [entryFrame, mkF, argsToLocals, Value.category]; done) | rfl) fun p e s m below meth c s₁ EN hx hby hml hown hnm hret X0 hZ e0 hh pre0 fin => ?_
  have N0 := Fr.nil n0
  obtain ⟨cl7, Ar7, -, Sz7, Nn7, -, -⟩ := id V6
  have Vp8 : Arv Z h0 a3 k5 (.object "java/lang/Object") (10 : Int32) [(.ref a4), .null] .null := V6.pad (pad_rep [(.ref a4)] .null 1)
  obtain ⟨cl9, Ar9, qk9, Sz9, Nn9, Hh9, Gg9⟩ := id Vp8
  have hin9 : ¬ ((1 : Int32) < 0 ∨ cl9.slots.size ≤ ((1 : Int32)).toNatClampNeg) := inb_of Sz9 ⟨by decide +kernel, by decide +kernel⟩
  obtain ⟨T12, h12, X12, e12, W12, st12⟩ := stR X0 hx hZ e0 Ar9 (j := (1 : Int32)) hin9 rfl (Sto.ofV Ar9 qk9 Ov10 (Ins.of_exa (Exa.ext O0.2 E_11) (ww158 hw))) (g := (mkF m 14 #[vR a1, vR a2, vR a3, vI 1] [(.ref a2), (.int 1), (.ref a3)])) rfl rfl (hb hby d18_14)
  have O12 : Old Z n0 h12 := O0.wr W12 g_a3
  have V12 : Arv Z h12 a3 k5 (.object "java/lang/Object") (10 : Int32) [(.ref a4), (.ref a2)] .null := Arv.set Ar9 qk9 Sz9 Nn9 Hh9 Gg9 rfl W12 1 rfl (Nat.le_of_ble_eq_true rfl)
  have N12 := Fr.snoc X12 N0 g_a3
  have f19 : Fld Z h12 a1 C_1 "size" "I" (.int 1) := (Fld.other W12 F17 (Or.inl hne18))
  have f20 : Exa Z h12 a1 C_1 := (Exa.wr W12 E_14)
  obtain ⟨T21, h21, X21, e21, W21, st21⟩ := putF X12 hx hZ hown (host := "") (Or.inl (ww60 hw)) Via.refl e12 f19 f20 (Or.inl (ww61 hw)) (ww5 hw) (ty := .int) (by decide) rfl rfl (g := (mkF m 19 #[vR a1, vR a2, vR a3, vI 1] [(.int 2), (.ref a1)])) rfl rfl (hb hby d18_19)
  have O21 : Old Z n0 h21 := O12.wr W21 g_a1
  have Fw21 : Fld Z h21 a1 C_1 "size" "I" (.int 2) := Fld.same W21 f19
  have N21 := Fr.snoc X21 N12 g_a1
  have f22 : Exa Z h21 a3 C_2 := (Exa.wr W21 (Exa.wr W12 E_13))
  have f23 : Arv Z h21 a3 k5 (.object "java/lang/Object") (10 : Int32) [(.ref a4), (.ref a2)] .null := (V12.other W21 (Ne.symm hne18))
  have f24 : Exa Z h21 a1 C_1 := (Exa.wr W21 f20)
  have f25 : Fld Z h21 a1 C_1 "elementData" C_2 (.ref a3) := (Fld.other W21 (Fld.other W12 F15 (Or.inl hne18)) (Or.inr (own_sl33 hw)))
  have f26 : Fld Z h21 a1 C_0 "modCount" "I" (.int 2) := (Fld.other W21 (Fld.other W12 F16 (Or.inl hne18)) (Or.inr (own_sl34 hw)))
  refine fin none _ _ _ _ X21 (fun _ => rfl) (fun fs hr => pre0 _ ?_) (own_atH e21 ?_) (by decide) (by decide)
  · refine o_iloadN X0 hx hby d18_0 rfl (o_aloadN X0 hx hby d18_1 rfl rfl (X0.arraylength hx (by rw [e0]; exact Ar7.1) (State.isArrayOf_alike hZ.alike Ar7.2.1) (g := (mkF m 2 #[vR a1, vR a2, vR a3, vI 1] [(.ref a3), (.int 1)])) rfl rfl (hb hby d18_2) _ ?_))
    rw [len_of Sz7 Nn7]
    refine o_icmpY X0 hx hby d18_3 (pc := 3) (pc' := 11) (by decide +kernel) (by decide) (by decide) (o_aloadN X0 hx hby d18_11 rfl rfl (o_iloadN X0 hx hby d18_12 rfl (o_aloadN X0 hx hby d18_13 rfl rfl (st12 _ (o_aloadN X12 hx hby d18_15 rfl rfl (o_iloadN X12 hx hby d18_16 rfl (o_iconst X12 hx hby d18_17 (x := 1) rfl (o_iadd X12 hx hby d18_18 (z := (2 : Int32)) (by decide +kernel) (st21 _ ?_)))))))))
    exact X21.returnOut hx hret (hb hby d18_22) hr
  · exact ⟨rfl, N21, (((Keep.refl h0 [a3, a1]).wr W12 (Or.inl (List.mem_of_getElem? (i := 0) rfl))).wr W21 (Or.inl (List.mem_of_getElem? (i := 1) rfl))), f22, f23, Ov10, f24, f25, f26, Fw21⟩
def Q17_40 (Z : State) (a1 : Addr) (a2 : Addr) (a6 : Addr) (a14 : Addr) (k15 : ClassId) (h0 : Heap) (n0 : Nat) (v : Option Value) (h : Heap) (L : List Loc) : Prop := (v = some (.int 1) ∧ Fr n0 L ∧ Keep h0 h [a1, a6] ∧ Exa Z h a1 C_1 ∧ Fld Z h a1 C_1 "elementData" C_2 (.ref a6) ∧ Fld Z h a1 C_0 "modCount" "I" (.int 2) ∧ Fld Z h a1 C_1 "size" "I" (.int 2) ∧ Exa Z h a6 C_2 ∧ Arv Z h a6 k15 (.object "java/lang/Object") (10 : Int32) [(.ref a14), (.ref a2)] .null ∧ Ovr Z k15 "java/lang/Object")
theorem rm17_40 (l : Launch) (Z : State) (a0 : Array Value) (hw : own_HW Z a0) (a1 : Addr) (a2 : Addr) (a6 : Addr) (a14 : Addr) (k15 : ClassId) (h0 : Heap) (n0 : Nat) (O0 : Old Z n0 h0) (F3 : Fld Z h0 a1 C_0 "modCount" "I" (.int 1)) (E_5 : Exa Z h0 a1 C_1) (F7 : Fld Z h0 a1 C_1 "elementData" C_2 (.ref a6)) (F8 : Fld Z h0 a1 C_1 "size" "I" (.int 1)) (g_a1 : n0 ≤ a1) (V16 : Arv Z h0 a6 k15 (.object "java/lang/Object") (10 : Int32) [(.ref a14)] .null) (Ov17 : Ovr Z k15 "java/lang/Object") (E_18 : Exa Z Z.heap a2 C_8) (E_19 : Exa Z h0 a6 C_2) (hne20 : a1 ≠ a6) (g_a6 : n0 ≤ a6) : own_Met l Z M_22 bc17 2 (some .boolean) ({ frames := 1, cells := 0, slots := 0, locals := 15 } : Room) #[(.ref a1), (.ref a2)] h0 (Q17_40 Z a1 a2 a6 a14 k15 h0 n0) := by
  refine own_body (L0 := #[vR a1, vR a2]) (plainFor_of_name pn_2) (fun m => by first | (simp [entryFrame, mkF, argsToLocals, Value.category]; done) | rfl) fun p e s m below meth c s₁ EN hx hby hml hown hnm hret X0 hZ e0 hh pre0 fin => ?_
  have N0 := Fr.nil n0
  obtain ⟨T4, X4, e4, st4⟩ := getF X0 hx hZ hown (host := "") (Or.inl (ww137 hw)) (Via.of (ww87 hw)) e0 F3 (g := (mkF m 2 #[vR a1, vR a2] [(.ref a1), (.ref a1)])) rfl rfl (hb hby d17_2)
  obtain ⟨T9, h9, X9, e9, W9, st9⟩ := putF X4 hx hZ hown (host := "") (Or.inl (ww137 hw)) (Via.of (ww87 hw)) e4 F3 E_5 (Or.inl (ww26 hw)) (ww5 hw) (ty := .int) (by decide) rfl rfl (g := (mkF m 7 #[vR a1, vR a2] [(.int 2), (.ref a1)])) rfl rfl (hb hby d17_7)
  have O9 : Old Z n0 h9 := O0.wr W9 g_a1
  have Fw9 : Fld Z h9 a1 C_0 "modCount" "I" (.int 2) := Fld.same W9 F3
  have N9 := Fr.snoc X9 N0 g_a1
  have f10 : Fld Z h9 a1 C_1 "elementData" C_2 (.ref a6) := (Fld.other W9 F7 (Or.inr (own_sl0 hw)))
  obtain ⟨T11, X11, e11, st11⟩ := getF X9 hx hZ hown (host := "") (Or.inl (ww28 hw)) Via.refl e9 f10 (g := (mkF m 13 #[vR a1, vR a2] [(.ref a1), (.ref a2), (.ref a1)])) rfl rfl (hb hby d17_13)
  have f12 : Fld Z h9 a1 C_1 "size" "I" (.int 1) := (Fld.other W9 F8 (Or.inr (own_sl1 hw)))
  obtain ⟨T13, X13, e13, st13⟩ := getF X11 hx hZ hown (host := "") (Or.inl (ww60 hw)) Via.refl e11 f12 (g := (mkF m 17 #[vR a1, vR a2] [(.ref a1), (.ref a6), (.ref a2), (.ref a1)])) rfl rfl (hb hby d17_17)
  have f21 : Arv Z h9 a6 k15 (.object "java/lang/Object") (10 : Int32) [(.ref a14)] .null := (V16.other W9 (Ne.symm hne20))
  have f22 : Exa Z h9 a6 C_2 := (Exa.wr W9 E_19)
  have f23 : Exa Z h9 a1 C_1 := (Exa.wr W9 E_5)
  obtain ⟨_, T24, L24, X24, hQ24, st24⟩ := own_cP X13 hx hZ hown (ww138 hw) (ww139 hw) (mvT hZ (ww141 hw)) (ww140 hw) (ww6 hw) (ww142 hw) f23 (rm18_41 l Z a0 hw a1 a2 a6 a14 k15 h9 n0 O9 f21 Ov17 E_18 g_a6 f22 f23 f10 Fw9 f12 hne20 g_a1) e13 pd_13 hml (hb hby d17_20) (Ls := #[vR a1, vR a2]) (W := 0) (argsL := [(.ref a2), (.ref a6), (.int 1)]) (rest := [])
  obtain ⟨rfl, u26, Ku27, u28, u29, u30, u31, u32, u33, u34⟩ := hQ24
  have Ou27 : Old Z n0 T24.heap := O9.keep Ku27 (allS g_a6 (allS g_a1 all0))
  have N24 := Fr.app N9 u26
  refine fin (some (.int 1)) _ _ _ _ X24 nofun (fun fs hr => pre0 _ ?_) ?_ (by decide) (by decide)
  · refine o_aloadN X0 hx hby d17_0 rfl rfl (o_dup X0 hx hby d17_1 rfl (st4 _ (o_iconst X4 hx hby d17_5 (x := 1) rfl (o_iadd X4 hx hby d17_6 (z := (2 : Int32)) (by decide +kernel) (st9 _ (o_aloadN X9 hx hby d17_10 rfl rfl (o_aloadN X9 hx hby d17_11 rfl rfl (o_aloadN X9 hx hby d17_12 rfl rfl (st11 _ (o_aloadN X11 hx hby d17_16 rfl rfl (st13 _ (st24 _ (o_iconst X24 hx hby d17_23 (x := 1) rfl ?_)))))))))))))
    exact retN X24 hx (t := .boolean) hret (by simp) (hb hby d17_24) hr
  · exact ⟨rfl, N24, (((Keep.refl h0 [a1, a6]).wr W9 (Or.inl (List.mem_of_getElem? (i := 0) rfl))).trans Ku27 (allS (Or.inl (List.mem_of_getElem? (i := 1) rfl)) (allS (Or.inl (List.mem_of_getElem? (i := 0) rfl)) all0))), u31, u32, u33, u34, u28, u29, u30⟩
def Q8_43 (Z : State) (a1 : Addr) (h0 : Heap) (n0 : Nat) (v : Option Value) (h : Heap) (L : List Loc) : Prop := (v = some (.int 2) ∧ Fr n0 L ∧ h = h0)
theorem rm8_43 (l : Launch) (Z : State) (a0 : Array Value) (hw : own_HW Z a0) (a1 : Addr) (h0 : Heap) (n0 : Nat) (O0 : Old Z n0 h0) (F2 : Fld Z h0 a1 C_1 "size" "I" (.int 2)) : own_Met l Z M_5 bc8 1 (some .int) ({ frames := 0, cells := 0, slots := 0, locals := 0 } : Room) #[(.ref a1)] h0 (Q8_43 Z a1 h0 n0) := by
  refine own_body (L0 := #[vR a1]) (plainFor_of_name pn_2) (fun m => by first | (simp [entryFrame, mkF, argsToLocals, Value.category]; done) | rfl) fun p e s m below meth c s₁ EN hx hby hml hown hnm hret X0 hZ e0 hh pre0 fin => ?_
  have N0 := Fr.nil n0
  obtain ⟨T3, X3, e3, st3⟩ := getF X0 hx hZ hown (host := "") (Or.inl (ww60 hw)) Via.refl e0 F2 (g := (mkF m 1 #[vR a1] [(.ref a1)])) rfl rfl (hb hby d8_1)
  refine fin (some (.int 2)) _ _ _ _ X3 nofun (fun fs hr => pre0 _ ?_) (own_atH e3 ?_) (by decide) (by decide)
  · refine o_aloadN X0 hx hby d8_0 rfl rfl (st3 _ ?_)
    exact retI X3 hx hret (hb hby d8_4) hr
  · exact ⟨rfl, N0, rfl⟩
def Q10_45 (Z : State) (a1 : Addr) (a2 : Addr) (h0 : Heap) (n0 : Nat) (v : Option Value) (h : Heap) (L : List Loc) : Prop := (v = none ∧ Fr n0 L ∧ Keep h0 h [a1] ∧ Exa Z h a1 C_6 ∧ Fld Z h a1 C_6 "cursor" "I" (.int 0) ∧ Fld Z h a1 C_6 "expectedModCount" "I" (.int 2) ∧ Fld Z h a1 C_6 "lastRet" "I" (.int (-1)) ∧ Fld Z h a1 C_6 "this$0" C_7 (.ref a2))
theorem rm10_45 (l : Launch) (Z : State) (a0 : Array Value) (hw : own_HW Z a0) (a1 : Addr) (a2 : Addr) (h0 : Heap) (n0 : Nat) (O0 : Old Z n0 h0) (E_3 : Exa Z h0 a1 C_6) (F4 : Fld Z h0 a1 C_6 "cursor" "I" (.int 0)) (F5 : Fld Z h0 a1 C_6 "expectedModCount" "I" (.int 0)) (F6 : Fld Z h0 a1 C_6 "lastRet" "I" (.int 0)) (F7 : Fld Z h0 a1 C_6 "this$0" C_7 .null) (g_a1 : n0 ≤ a1) (F15 : Fld Z h0 a2 C_0 "modCount" "I" (.int 2)) (hne16 : a2 ≠ a1) : own_Met l Z M_7 bc10 2 none ({ frames := 1, cells := 0, slots := 0, locals := 12 } : Room) #[(.ref a1), (.ref a2)] h0 (Q10_45 Z a1 a2 h0 n0) := by
  refine own_body (L0 := #[vR a1, vR a2]) (plainFor_of_name pn_4) (fun m => by first | (simp [entryFrame, mkF, argsToLocals, Value.category]; done) | rfl) fun p e s m below meth c s₁ EN hx hby hml hown hnm hret X0 hZ e0 hh pre0 fin => ?_
  have N0 := Fr.nil n0
  obtain ⟨T8, h8, X8, e8, W8, st8⟩ := putF X0 hx hZ hown (host := "") (Or.inl (ww81 hw)) Via.refl e0 F7 E_3 (Or.inr ⟨(ww82 hw), rfl, hnm⟩) (ww75 hw) (ty := (.object "java/util/ArrayList")) (by decide) rfl rfl (g := (mkF m 2 #[vR a1, vR a2] [(.ref a2), (.ref a1)])) rfl rfl (hb hby d10_2)
  have O8 : Old Z n0 h8 := O0.wr W8 g_a1
  have Fw8 : Fld Z h8 a1 C_6 "this$0" C_7 (.ref a2) := Fld.same W8 F7
  have N8 := Fr.snoc X8 N0 g_a1
  obtain ⟨T9, X9, e9, st9⟩ := initO X8 hx hZ hown (ww83 hw) (ww23 hw) (ww24 hw) e8 (g := (mkF m 6 #[vR a1, vR a2] [(.ref a1)])) rfl (by rw [hml]; rfl) rfl (hb hby d10_6) (by decide) (W := 0) (by show 2 * 0 + _ ≤ _; exact Nat.le_of_eq rfl) (by decide)
  have f10 : Fld Z h8 a1 C_6 "lastRet" "I" (.int 0) := (Fld.other W8 F6 (Or.inr (own_sl10 hw)))
  have f11 : Exa Z h8 a1 C_6 := (Exa.wr W8 E_3)
  obtain ⟨T12, h12, X12, e12, W12, st12⟩ := putF X9 hx hZ hown (host := "") (Or.inl (ww84 hw)) Via.refl e9 f10 f11 (Or.inl (ww85 hw)) (ww75 hw) (ty := .int) (by decide) rfl rfl (g := (mkF m 11 #[vR a1, vR a2] [(.int (-1)), (.ref a1)])) rfl rfl (hb hby d10_11)
  have O12 : Old Z n0 h12 := O8.wr W12 g_a1
  have Fw12 : Fld Z h12 a1 C_6 "lastRet" "I" (.int (-1)) := Fld.same W12 f10
  have N12 := Fr.snoc X12 N8 g_a1
  have f13 : Fld Z h12 a1 C_6 "this$0" C_7 (.ref a2) := (Fld.other W12 Fw8 (Or.inr (own_sl11 hw)))
  obtain ⟨T14, X14, e14, st14⟩ := getF X12 hx hZ hown (host := "") (Or.inl (ww81 hw)) Via.refl e12 f13 (g := (mkF m 16 #[vR a1, vR a2] [(.ref a1), (.ref a1)])) rfl rfl (hb hby d10_16)
  have f17 : Fld Z h12 a2 C_0 "modCount" "I" (.int 2) := (Fld.other W12 (Fld.other W8 F15 (Or.inl hne16)) (Or.inl hne16))
  obtain ⟨T18, X18, e18, st18⟩ := getF X14 hx hZ hown (host := "") (Or.inl (ww86 hw)) (Via.of (ww87 hw)) e14 f17 (g := (mkF m 19 #[vR a1, vR a2] [(.ref a2), (.ref a1)])) rfl rfl (hb hby d10_19)
  have f19 : Fld Z h12 a1 C_6 "expectedModCount" "I" (.int 0) := (Fld.other W12 (Fld.other W8 F5 (Or.inr (own_sl12 hw))) (Or.inr (own_sl13 hw)))
  have f20 : Exa Z h12 a1 C_6 := (Exa.wr W12 f11)
  obtain ⟨T21, h21, X21, e21, W21, st21⟩ := putF X18 hx hZ hown (host := "") (Or.inl (ww88 hw)) Via.refl e18 f19 f20 (Or.inl (ww89 hw)) (ww75 hw) (ty := .int) (by decide) rfl rfl (g := (mkF m 22 #[vR a1, vR a2] [(.int 2), (.ref a1)])) rfl rfl (hb hby d10_22)
  have O21 : Old Z n0 h21 := O12.wr W21 g_a1
  have Fw21 : Fld Z h21 a1 C_6 "expectedModCount" "I" (.int 2) := Fld.same W21 f19
  have N21 := Fr.snoc X21 N12 g_a1
  have f22 : Exa Z h21 a1 C_6 := (Exa.wr W21 f20)
  have f23 : Fld Z h21 a1 C_6 "cursor" "I" (.int 0) := (Fld.other W21 (Fld.other W12 (Fld.other W8 F4 (Or.inr (own_sl14 hw))) (Or.inr (own_sl15 hw))) (Or.inr (own_sl16 hw)))
  have f24 : Fld Z h21 a1 C_6 "lastRet" "I" (.int (-1)) := (Fld.other W21 Fw12 (Or.inr (own_sl17 hw)))
  have f25 : Fld Z h21 a1 C_6 "this$0" C_7 (.ref a2) := (Fld.other W21 f13 (Or.inr (own_sl18 hw)))
  refine fin none _ _ _ _ X21 (fun _ => rfl) (fun fs hr => pre0 _ ?_) (own_atH e21 ?_) (by decide) (by decide)
  · refine o_aloadN X0 hx hby d10_0 rfl rfl (o_aloadN X0 hx hby d10_1 rfl rfl (st8 _ (o_aloadN X8 hx hby d10_5 rfl rfl (st9 _ (o_aloadN X9 hx hby d10_9 rfl rfl (o_iconst X9 hx hby d10_10 (x := -1) rfl (st12 _ (o_aloadN X12 hx hby d10_14 rfl rfl (o_aloadN X12 hx hby d10_15 rfl rfl (st14 _ (st18 _ (st21 _ ?_))))))))))))
    exact X21.returnOut hx hret (hb hby d10_25) hr
  · exact ⟨rfl, N21, ((((Keep.refl h0 [a1]).wr W8 (Or.inl (List.mem_of_getElem? (i := 0) rfl))).wr W12 (Or.inl (List.mem_of_getElem? (i := 0) rfl))).wr W21 (Or.inl (List.mem_of_getElem? (i := 0) rfl))), f22, f23, Fw21, f24, f25⟩
def Q9_44 (Z : State) (a1 : Addr) (h0 : Heap) (n0 : Nat) (v : Option Value) (h : Heap) (L : List Loc) : Prop := (∃ (b2 : Addr), v = some (.ref b2) ∧ Fr n0 L ∧ h0.size ≤ b2 ∧ b2 < h.size ∧ Keep h0 h [] ∧ Exa Z h b2 C_6 ∧ Fld Z h b2 C_6 "cursor" "I" (.int 0) ∧ Fld Z h b2 C_6 "expectedModCount" "I" (.int 2) ∧ Fld Z h b2 C_6 "lastRet" "I" (.int (-1)) ∧ Fld Z h b2 C_6 "this$0" C_7 (.ref a1))
theorem rm9_44 (l : Launch) (Z : State) (a0 : Array Value) (hw : own_HW Z a0) (a1 : Addr) (h0 : Heap) (n0 : Nat) (O0 : Old Z n0 h0) (F3 : Fld Z h0 a1 C_0 "modCount" "I" (.int 2)) (lt_a1 : a1 < h0.size) : own_Met l Z M_8 bc9 1 (some (.object "java/util/Iterator")) ({ frames := 2, cells := 1, slots := 4, locals := 26 } : Room) #[(.ref a1)] h0 (Q9_44 Z a1 h0 n0) := by
  refine own_body (L0 := #[vR a1]) (plainFor_of_name pn_2) (fun m => by first | (simp [entryFrame, mkF, argsToLocals, Value.category]; done) | rfl) fun p e s m below meth c s₁ EN hx hby hml hown hnm hret X0 hZ e0 hh pre0 fin => ?_
  have N0 := Fr.nil n0
  obtain ⟨T2, h2, X2, e2, E2, A2, D2, -, st2⟩ := newO X0 hx hZ hown (ww74 hw) (ww75 hw) (ww76 hw) e0 (g := (mkF m 0 #[vR a1] [])) rfl (hb hby d9_0) (by decide) (by decide)
  obtain ⟨b2, g2⟩ : ∃ z, z = h0.size := ⟨_, rfl⟩
  rw [← g2] at A2 D2 st2
  have O2 : Old Z n0 h2 := O0.ext E2
  have bd_b2 : h0.size ≤ b2 := Nat.le_of_eq g2.symm
  have g_b2 : n0 ≤ b2 := Nat.le_trans (own_z O0) bd_b2
  have sz_b2 : h0.size ≤ b2 := Nat.le_trans (Nat.le_refl _) bd_b2
  have lt_b2 : b2 < h2.size := A2.lt
  have D2_82 : Fld Z h2 b2 C_6 "this$0" C_7 .null := D2 (Or.inr (ww82 hw)) (ty := (.object "java/util/ArrayList")) (by decide)
  have D2_85 : Fld Z h2 b2 C_6 "lastRet" "I" (.int 0) := D2 (Or.inl (ww85 hw)) (ty := .int) (by decide)
  have D2_89 : Fld Z h2 b2 C_6 "expectedModCount" "I" (.int 0) := D2 (Or.inl (ww89 hw)) (ty := .int) (by decide)
  have D2_100 : Fld Z h2 b2 C_6 "cursor" "I" (.int 0) := D2 (Or.inl (ww100 hw)) (ty := .int) (by decide)
  have f4 : Fld Z h2 a1 C_0 "modCount" "I" (.int 2) := (Fld.ext E2 F3)
  obtain ⟨_, T5, L5, X5, hQ5, st5⟩ := own_cI X2 hx hZ hown (ww77 hw) (ww78 hw) (ww76 hw) (ww80 hw) (rm10_45 l Z a0 hw b2 a1 h2 n0 O2 A2 D2_100 D2_89 D2_85 D2_82 g_b2 f4 (own_n lt_a1 bd_b2)) e2 pd_4 hml (hb hby d9_5) (Ls := #[vR a1]) (W := 1) (argsL := [(.ref a1)]) (rest := [(.ref b2)]) (b := b2)
  obtain ⟨rfl, u7, Ku8, u9, u10, u11, u12, u13⟩ := hQ5
  have Ou8 : Old Z n0 T5.heap := O2.keep Ku8 (allS g_b2 all0)
  have N5 := Fr.app N0 u7
  refine fin (some (.ref b2)) _ _ _ _ X5 nofun (fun fs hr => pre0 _ ?_) ?_ (by decide) (by decide)
  · refine st2 _ (o_dup X2 hx hby d9_3 rfl (o_aloadN X2 hx hby d9_4 rfl rfl (st5 _ ?_)))
    show Steps p.tables e below (T5.setTop (mkF m 8 #[vR a1] [(.ref b2)])) _
    jvm_step X5.here [X5.here.top, hx, (hb hby d9_8), X5.method', hret, Value.isRef, FieldType.isReference]
    first | (intro acts; rw [hr _ acts rfl rfl rfl]) | rw [hr _ _ rfl rfl rfl]
    exact Steps.refl _
  · exact ⟨b2, rfl, N5, sz_b2, (own_t lt_b2 Ku8.1), (((Keep.refl h0 []).ext E2).trans Ku8 (allS (Or.inr sz_b2) all0)), u9, u10, u11, u12, u13⟩
def Q11_46 (Z : State) (a1 : Addr) (a4 : Addr) (h0 : Heap) (n0 : Nat) (v : Option Value) (h : Heap) (L : List Loc) : Prop := (v = some (.int 1) ∧ Fr n0 L ∧ h = h0)
theorem rm11_46 (l : Launch) (Z : State) (a0 : Array Value) (hw : own_HW Z a0) (a1 : Addr) (a4 : Addr) (h0 : Heap) (n0 : Nat) (O0 : Old Z n0 h0) (F2 : Fld Z h0 a1 C_6 "cursor" "I" (.int 0)) (F5 : Fld Z h0 a1 C_6 "this$0" C_7 (.ref a4)) (F7 : Fld Z h0 a4 C_1 "size" "I" (.int 2)) : own_Met l Z M_10 bc11 1 (some .boolean) ({ frames := 0, cells := 0, slots := 0, locals := 0 } : Room) #[(.ref a1)] h0 (Q11_46 Z a1 a4 h0 n0) := by
  refine own_body (L0 := #[vR a1]) (plainFor_of_name pn_4) (fun m => by first | (simp [entryFrame, mkF, argsToLocals, Value.category]; done) | rfl) fun p e s m below meth c s₁ EN hx hby hml hown hnm hret X0 hZ e0 hh pre0 fin => ?_
  have N0 := Fr.nil n0
  obtain ⟨T3, X3, e3, st3⟩ := getF X0 hx hZ hown (host := "") (Or.inl (ww99 hw)) Via.refl e0 F2 (g := (mkF m 1 #[vR a1] [(.ref a1)])) rfl rfl (hb hby d11_1)
  obtain ⟨T6, X6, e6, st6⟩ := getF X3 hx hZ hown (host := "") (Or.inl (ww81 hw)) Via.refl e3 F5 (g := (mkF m 5 #[vR a1] [(.ref a1), (.int 0)])) rfl rfl (hb hby d11_5)
  obtain ⟨T8, X8, e8, st8⟩ := getF X6 hx hZ hown (Or.inr (ww101 hw)) Via.refl e6 F7 (g := (mkF m 8 #[vR a1] [(.ref a4), (.int 0)])) rfl rfl (hb hby d11_8)
  refine fin (some (.int 1)) _ _ _ _ X8 nofun (fun fs hr => pre0 _ ?_) (own_atH e8 ?_) (by decide) (by decide)
  · refine o_aloadN X0 hx hby d11_0 rfl rfl (st3 _ (o_aloadN X3 hx hby d11_4 rfl rfl (st6 _ (st8 _ (o_icmpN X8 hx hby d11_11 (by decide +kernel) (o_iconst X8 hx hby d11_14 (x := 1) rfl (o_goto X8 hx hby d11_15 (pc := 15) (pc' := 19) (by decide) (by decide) ?_)))))))
    exact retN X8 hx (t := .boolean) hret (by simp) (hb hby d11_19) hr
  · exact ⟨rfl, N0, rfl⟩
def Q23_48 (Z : State) (a1 : Addr) (a2 : Addr) (h0 : Heap) (n0 : Nat) (v : Option Value) (h : Heap) (L : List Loc) : Prop := (v = none ∧ Fr n0 L ∧ h = h0)
theorem rm23_48 (l : Launch) (Z : State) (a0 : Array Value) (hw : own_HW Z a0) (a1 : Addr) (a2 : Addr) (h0 : Heap) (n0 : Nat) (O0 : Old Z n0 h0) (F3 : Fld Z h0 a1 C_6 "this$0" C_7 (.ref a2)) (F5 : Fld Z h0 a2 C_0 "modCount" "I" (.int 2)) (F7 : Fld Z h0 a1 C_6 "expectedModCount" "I" (.int 2)) : own_Met l Z M_23 bc23 1 none ({ frames := 0, cells := 0, slots := 0, locals := 0 } : Room) #[(.ref a1)] h0 (Q23_48 Z a1 a2 h0 n0) := by
  refine own_body (L0 := #[vR a1]) (plainFor_of_name pn_4) (fun m => by first | (simp [entryFrame, mkF, argsToLocals, Value.category]; done) | rfl) fun p e s m below meth c s₁ EN hx hby hml hown hnm hret X0 hZ e0 hh pre0 fin => ?_
  have N0 := Fr.nil n0
  obtain ⟨T4, X4, e4, st4⟩ := getF X0 hx hZ hown (host := "") (Or.inl (ww81 hw)) Via.refl e0 F3 (g := (mkF m 1 #[vR a1] [(.ref a1)])) rfl rfl (hb hby d23_1)
  obtain ⟨T6, X6, e6, st6⟩ := getF X4 hx hZ hown (host := "") (Or.inl (ww86 hw)) (Via.of (ww87 hw)) e4 F5 (g := (mkF m 4 #[vR a1] [(.ref a2)])) rfl rfl (hb hby d23_4)
  obtain ⟨T8, X8, e8, st8⟩ := getF X6 hx hZ hown (host := "") (Or.inl (ww88 hw)) Via.refl e6 F7 (g := (mkF m 8 #[vR a1] [(.ref a1), (.int 2)])) rfl rfl (hb hby d23_8)
  refine fin none _ _ _ _ X8 (fun _ => rfl) (fun fs hr => pre0 _ ?_) (own_atH e8 ?_) (by decide) (by decide)
  · refine o_aloadN X0 hx hby d23_0 rfl rfl (st4 _ (st6 _ (o_aloadN X6 hx hby d23_7 rfl rfl (st8 _ (o_icmpY X8 hx hby d23_11 (pc := 11) (pc' := 22) (by decide +kernel) (by decide) (by decide) ?_)))))
    exact X8.returnOut hx hret (hb hby d23_22) hr
  · exact ⟨rfl, N0, rfl⟩
def Q22_47 (Z : State) (a1 : Addr) (a3 : Addr) (a17 : Addr) (a20 : Addr) (a21 : Addr) (k22 : ClassId) (h0 : Heap) (n0 : Nat) (v : Option Value) (h : Heap) (L : List Loc) : Prop := (v = some (.ref a20) ∧ Fr n0 L ∧ Keep h0 h [a1] ∧ Exa Z h a1 C_6 ∧ Fld Z h a1 C_6 "cursor" "I" (.int 1) ∧ Fld Z h a1 C_6 "expectedModCount" "I" (.int 2) ∧ Fld Z h a1 C_6 "lastRet" "I" (.int 0) ∧ Fld Z h a1 C_6 "this$0" C_7 (.ref a3))
theorem rm22_47 (l : Launch) (Z : State) (a0 : Array Value) (hw : own_HW Z a0) (a1 : Addr) (a3 : Addr) (a17 : Addr) (a20 : Addr) (a21 : Addr) (k22 : ClassId) (h0 : Heap) (n0 : Nat) (O0 : Old Z n0 h0) (E_2 : Exa Z h0 a1 C_6) (F4 : Fld Z h0 a1 C_6 "this$0" C_7 (.ref a3)) (F5 : Fld Z h0 a3 C_0 "modCount" "I" (.int 2)) (F6 : Fld Z h0 a1 C_6 "expectedModCount" "I" (.int 2)) (F11 : Fld Z h0 a1 C_6 "cursor" "I" (.int 0)) (F14 : Fld Z h0 a3 C_1 "size" "I" (.int 2)) (F18 : Fld Z h0 a3 C_1 "elementData" C_2 (.ref a17)) (V23 : Arv Z h0 a17 k22 (.object "java/lang/Object") (10 : Int32) [(.ref a20), (.ref a21)] .null) (F25 : Fld Z h0 a1 C_6 "lastRet" "I" (.int (-1))) (g_a1 : n0 ≤ a1) (hne30 : a17 ≠ a1) : own_Met l Z M_24 bc22 3 (some (.object "java/lang/Object")) ({ frames := 1, cells := 0, slots := 0, locals := 12 } : Room) #[(.ref a1)] h0 (Q22_47 Z a1 a3 a17 a20 a21 k22 h0 n0) := by
  refine own_body (L0 := #[vR a1, .unset, .unset]) (plainFor_of_name pn_4) (fun m => by first | (simp [entryFrame, mkF, argsToLocals, Value.category]; done) | rfl) fun p e s m below meth c s₁ EN hx hby hml hown hnm hret X0 hZ e0 hh pre0 fin => ?_
  have N0 := Fr.nil n0
  obtain ⟨_, T7, L7, X7, hQ7, st7⟩ := own_cV X0 hx hZ hown (ww169 hw) (ww170 hw) (notFace_of_selects (args := #[]) (mvT hZ (ww172 hw))) (ww172 hw) (ww171 hw) (ww76 hw) (ww173 hw) E_2 (rm23_48 l Z a0 hw a1 a3 h0 n0 O0 F4 F5 F6) e0 pd_1 hml (hb hby d22_1) (Ls := #[vR a1, .unset, .unset]) (W := 0) (argsL := []) (rest := [])
  obtain ⟨rfl, u9, u10⟩ := hQ7
  have N7 := Fr.app N0 u9
  obtain ⟨T12, X12, e12, st12⟩ := getF X7 hx hZ hown (host := "") (Or.inl (ww99 hw)) Via.refl u10 F11 (g := (mkF m 5 #[vR a1, .unset, .unset] [(.ref a1)])) rfl rfl (hb hby d22_5)
  obtain ⟨T13, X13, e13, st13⟩ := getF X12 hx hZ hown (host := "") (Or.inl (ww81 hw)) Via.refl e12 F4 (g := (mkF m 11 #[vR a1, vI 0, .unset] [(.ref a1), (.int 0)])) rfl rfl (hb hby d22_11)
  obtain ⟨T15, X15, e15, st15⟩ := getF X13 hx hZ hown (Or.inr (ww101 hw)) Via.refl e13 F14 (g := (mkF m 14 #[vR a1, vI 0, .unset] [(.ref a3), (.int 0)])) rfl rfl (hb hby d22_14)
  obtain ⟨T16, X16, e16, st16⟩ := getF X15 hx hZ hown (host := "") (Or.inl (ww81 hw)) Via.refl e15 F4 (g := (mkF m 29 #[vR a1, vI 0, .unset] [(.ref a1)])) rfl rfl (hb hby d22_29)
  obtain ⟨T19, X19, e19, st19⟩ := getF X16 hx hZ hown (host := "") (Or.inl (ww174 hw)) Via.refl e16 F18 (g := (mkF m 32 #[vR a1, vI 0, .unset] [(.ref a3)])) rfl rfl (hb hby d22_32)
  obtain ⟨cl24, Ar24, -, Sz24, Nn24, -, -⟩ := id V23
  obtain ⟨T26, h26, X26, e26, W26, st26⟩ := putF X19 hx hZ hown (host := "") (Or.inl (ww99 hw)) Via.refl e19 F11 E_2 (Or.inl (ww100 hw)) (ww75 hw) (ty := .int) (by decide) rfl rfl (g := (mkF m 54 #[vR a1, vI 0, vR a17] [(.int 1), (.ref a1)])) rfl rfl (hb hby d22_54)
  have O26 : Old Z n0 h26 := O0.wr W26 g_a1
  have Fw26 : Fld Z h26 a1 C_6 "cursor" "I" (.int 1) := Fld.same W26 F11
  have N26 := Fr.snoc X26 N7 g_a1
  have f27 : Fld Z h26 a1 C_6 "lastRet" "I" (.int (-1)) := (Fld.other W26 F25 (Or.inr (own_sl35 hw)))
  have f28 : Exa Z h26 a1 C_6 := (Exa.wr W26 E_2)
  obtain ⟨T29, h29, X29, e29, W29, st29⟩ := putF X26 hx hZ hown (host := "") (Or.inl (ww84 hw)) Via.refl e26 f27 f28 (Or.inl (ww85 hw)) (ww75 hw) (ty := .int) (by decide) rfl rfl (g := (mkF m 61 #[vR a1, vI 0, vR a17] [(.int 0), (.ref a1), (.int 0), (.ref a17)])) rfl rfl (hb hby d22_61)
  have O29 : Old Z n0 h29 := O26.wr W29 g_a1
  have Fw29 : Fld Z h29 a1 C_6 "lastRet" "I" (.int 0) := Fld.same W29 f27
  have N29 := Fr.snoc X29 N26 g_a1
  have f31 : Arv Z h29 a17 k22 (.object "java/lang/Object") (10 : Int32) [(.ref a20), (.ref a21)] .null := ((V23.other W26 hne30).other W29 hne30)
  obtain ⟨cl32, Ar32, -, Sz32, -, Hh32, -⟩ := id f31
  have hin32 : ¬ ((0 : Int32) < 0 ∨ cl32.slots.size ≤ ((0 : Int32)).toNatClampNeg) := inb_of Sz32 ⟨by decide +kernel, by decide +kernel⟩
  have hat32 : cl32.slots[((0 : Int32)).toNatClampNeg]? = some (.ref a20) := Has.at Hh32 hin32 rfl
  have f33 : Exa Z h29 a1 C_6 := (Exa.wr W29 f28)
  have f34 : Fld Z h29 a1 C_6 "cursor" "I" (.int 1) := (Fld.other W29 Fw26 (Or.inr (own_sl15 hw)))
  have f35 : Fld Z h29 a1 C_6 "expectedModCount" "I" (.int 2) := (Fld.other W29 (Fld.other W26 F6 (Or.inr (own_sl36 hw))) (Or.inr (own_sl13 hw)))
  have f36 : Fld Z h29 a1 C_6 "this$0" C_7 (.ref a3) := (Fld.other W29 (Fld.other W26 F4 (Or.inr (own_sl37 hw))) (Or.inr (own_sl11 hw)))
  refine fin (some (.ref a20)) _ _ _ _ X29 nofun (fun fs hr => pre0 _ ?_) (own_atH e29 ?_) (by decide) (by decide)
  · refine o_aloadN X0 hx hby d22_0 rfl rfl (st7 _ (o_aloadN X7 hx hby d22_4 rfl rfl (st12 _ (o_istoreN X12 hx hby d22_8 (Ls' := #[vR a1, vI 0, .unset]) rfl (o_iloadN X12 hx hby d22_9 rfl (o_aloadN X12 hx hby d22_10 rfl rfl (st13 _ (st15 _ (o_icmpY X15 hx hby d22_17 (pc := 17) (pc' := 28) (by decide +kernel) (by decide) (by decide) (o_aloadN X15 hx hby d22_28 rfl rfl (st16 _ (st19 _ (o_astoreN X19 hx hby d22_35 rfl (Ls' := #[vR a1, vI 0, vR a17]) rfl (o_iloadN X19 hx hby d22_36 rfl (o_aloadN X19 hx hby d22_37 rfl rfl (X19.arraylength hx (by rw [e19]; exact Ar24.1) (State.isArrayOf_alike hZ.alike Ar24.2.1) (g := (mkF m 38 #[vR a1, vI 0, vR a17] [(.ref a17), (.int 0)])) rfl rfl (hb hby d22_38) _ ?_))))))))))))))))
    rw [len_of Sz24 Nn24]
    refine o_icmpY X19 hx hby d22_39 (pc := 39) (pc' := 50) (by decide +kernel) (by decide) (by decide) (o_aloadN X19 hx hby d22_50 rfl rfl (o_iloadN X19 hx hby d22_51 rfl (o_iconst X19 hx hby d22_52 (x := 1) rfl (o_iadd X19 hx hby d22_53 (z := (1 : Int32)) (by decide +kernel) (st26 _ (o_aloadN X26 hx hby d22_57 rfl rfl (o_aloadN X26 hx hby d22_58 rfl rfl (o_iloadN X26 hx hby d22_59 rfl (o_dupX1 X26 hx hby d22_60 rfl rfl (st29 _ (X29.aaload hx (j := (0 : Int32)) (v := (.ref a20)) (by rw [e29]; exact Ar32.1) (State.isArrayOf_alike hZ.alike Ar32.2.1) rfl Ar32.2.2 hin32 hat32 (g := (mkF m 64 #[vR a1, vI 0, vR a17] [(.int 0), (.ref a17)])) rfl rfl (hb hby d22_64) _ ?_)))))))))))
    show Steps p.tables e below (T29.setTop (mkF m 65 #[vR a1, vI 0, vR a17] [(.ref a20)])) _
    jvm_step X29.here [X29.here.top, hx, (hb hby d22_65), X29.method', hret, Value.isRef, FieldType.isReference]
    first | (intro acts; rw [hr _ acts rfl rfl rfl]) | rw [hr _ _ rfl rfl rfl]
    exact Steps.refl _
  · exact ⟨rfl, N29, (((Keep.refl h0 [a1]).wr W26 (Or.inl (List.mem_of_getElem? (i := 0) rfl))).wr W29 (Or.inl (List.mem_of_getElem? (i := 0) rfl))), f33, f34, f35, Fw29, f36⟩
def Q11_49 (Z : State) (a1 : Addr) (a4 : Addr) (h0 : Heap) (n0 : Nat) (v : Option Value) (h : Heap) (L : List Loc) : Prop := (v = some (.int 1) ∧ Fr n0 L ∧ h = h0)
theorem rm11_49 (l : Launch) (Z : State) (a0 : Array Value) (hw : own_HW Z a0) (a1 : Addr) (a4 : Addr) (h0 : Heap) (n0 : Nat) (O0 : Old Z n0 h0) (F2 : Fld Z h0 a1 C_6 "cursor" "I" (.int 1)) (F5 : Fld Z h0 a1 C_6 "this$0" C_7 (.ref a4)) (F7 : Fld Z h0 a4 C_1 "size" "I" (.int 2)) : own_Met l Z M_10 bc11 1 (some .boolean) ({ frames := 0, cells := 0, slots := 0, locals := 0 } : Room) #[(.ref a1)] h0 (Q11_49 Z a1 a4 h0 n0) := by
  refine own_body (L0 := #[vR a1]) (plainFor_of_name pn_4) (fun m => by first | (simp [entryFrame, mkF, argsToLocals, Value.category]; done) | rfl) fun p e s m below meth c s₁ EN hx hby hml hown hnm hret X0 hZ e0 hh pre0 fin => ?_
  have N0 := Fr.nil n0
  obtain ⟨T3, X3, e3, st3⟩ := getF X0 hx hZ hown (host := "") (Or.inl (ww99 hw)) Via.refl e0 F2 (g := (mkF m 1 #[vR a1] [(.ref a1)])) rfl rfl (hb hby d11_1)
  obtain ⟨T6, X6, e6, st6⟩ := getF X3 hx hZ hown (host := "") (Or.inl (ww81 hw)) Via.refl e3 F5 (g := (mkF m 5 #[vR a1] [(.ref a1), (.int 1)])) rfl rfl (hb hby d11_5)
  obtain ⟨T8, X8, e8, st8⟩ := getF X6 hx hZ hown (Or.inr (ww101 hw)) Via.refl e6 F7 (g := (mkF m 8 #[vR a1] [(.ref a4), (.int 1)])) rfl rfl (hb hby d11_8)
  refine fin (some (.int 1)) _ _ _ _ X8 nofun (fun fs hr => pre0 _ ?_) (own_atH e8 ?_) (by decide) (by decide)
  · refine o_aloadN X0 hx hby d11_0 rfl rfl (st3 _ (o_aloadN X3 hx hby d11_4 rfl rfl (st6 _ (st8 _ (o_icmpN X8 hx hby d11_11 (by decide +kernel) (o_iconst X8 hx hby d11_14 (x := 1) rfl (o_goto X8 hx hby d11_15 (pc := 15) (pc' := 19) (by decide) (by decide) ?_)))))))
    exact retN X8 hx (t := .boolean) hret (by simp) (hb hby d11_19) hr
  · exact ⟨rfl, N0, rfl⟩
def Q22_50 (Z : State) (a1 : Addr) (a3 : Addr) (a17 : Addr) (a20 : Addr) (a21 : Addr) (k22 : ClassId) (h0 : Heap) (n0 : Nat) (v : Option Value) (h : Heap) (L : List Loc) : Prop := (v = some (.ref a21) ∧ Fr n0 L ∧ Keep h0 h [a1] ∧ Exa Z h a1 C_6 ∧ Fld Z h a1 C_6 "cursor" "I" (.int 2) ∧ Fld Z h a1 C_6 "expectedModCount" "I" (.int 2) ∧ Fld Z h a1 C_6 "lastRet" "I" (.int 1) ∧ Fld Z h a1 C_6 "this$0" C_7 (.ref a3))
theorem rm22_50 (l : Launch) (Z : State) (a0 : Array Value) (hw : own_HW Z a0) (a1 : Addr) (a3 : Addr) (a17 : Addr) (a20 : Addr) (a21 : Addr) (k22 : ClassId) (h0 : Heap) (n0 : Nat) (O0 : Old Z n0 h0) (E_2 : Exa Z h0 a1 C_6) (F4 : Fld Z h0 a1 C_6 "this$0" C_7 (.ref a3)) (F5 : Fld Z h0 a3 C_0 "modCount" "I" (.int 2)) (F6 : Fld Z h0 a1 C_6 "expectedModCount" "I" (.int 2)) (F11 : Fld Z h0 a1 C_6 "cursor" "I" (.int 1)) (F14 : Fld Z h0 a3 C_1 "size" "I" (.int 2)) (F18 : Fld Z h0 a3 C_1 "elementData" C_2 (.ref a17)) (V23 : Arv Z h0 a17 k22 (.object "java/lang/Object") (10 : Int32) [(.ref a20), (.ref a21)] .null) (F25 : Fld Z h0 a1 C_6 "lastRet" "I" (.int 0)) (g_a1 : n0 ≤ a1) (hne30 : a17 ≠ a1) : own_Met l Z M_24 bc22 3 (some (.object "java/lang/Object")) ({ frames := 1, cells := 0, slots := 0, locals := 12 } : Room) #[(.ref a1)] h0 (Q22_50 Z a1 a3 a17 a20 a21 k22 h0 n0) := by
  refine own_body (L0 := #[vR a1, .unset, .unset]) (plainFor_of_name pn_4) (fun m => by first | (simp [entryFrame, mkF, argsToLocals, Value.category]; done) | rfl) fun p e s m below meth c s₁ EN hx hby hml hown hnm hret X0 hZ e0 hh pre0 fin => ?_
  have N0 := Fr.nil n0
  obtain ⟨_, T7, L7, X7, hQ7, st7⟩ := own_cV X0 hx hZ hown (ww169 hw) (ww170 hw) (notFace_of_selects (args := #[]) (mvT hZ (ww172 hw))) (ww172 hw) (ww171 hw) (ww76 hw) (ww173 hw) E_2 (rm23_48 l Z a0 hw a1 a3 h0 n0 O0 F4 F5 F6) e0 pd_1 hml (hb hby d22_1) (Ls := #[vR a1, .unset, .unset]) (W := 0) (argsL := []) (rest := [])
  obtain ⟨rfl, u9, u10⟩ := hQ7
  have N7 := Fr.app N0 u9
  obtain ⟨T12, X12, e12, st12⟩ := getF X7 hx hZ hown (host := "") (Or.inl (ww99 hw)) Via.refl u10 F11 (g := (mkF m 5 #[vR a1, .unset, .unset] [(.ref a1)])) rfl rfl (hb hby d22_5)
  obtain ⟨T13, X13, e13, st13⟩ := getF X12 hx hZ hown (host := "") (Or.inl (ww81 hw)) Via.refl e12 F4 (g := (mkF m 11 #[vR a1, vI 1, .unset] [(.ref a1), (.int 1)])) rfl rfl (hb hby d22_11)
  obtain ⟨T15, X15, e15, st15⟩ := getF X13 hx hZ hown (Or.inr (ww101 hw)) Via.refl e13 F14 (g := (mkF m 14 #[vR a1, vI 1, .unset] [(.ref a3), (.int 1)])) rfl rfl (hb hby d22_14)
  obtain ⟨T16, X16, e16, st16⟩ := getF X15 hx hZ hown (host := "") (Or.inl (ww81 hw)) Via.refl e15 F4 (g := (mkF m 29 #[vR a1, vI 1, .unset] [(.ref a1)])) rfl rfl (hb hby d22_29)
  obtain ⟨T19, X19, e19, st19⟩ := getF X16 hx hZ hown (host := "") (Or.inl (ww174 hw)) Via.refl e16 F18 (g := (mkF m 32 #[vR a1, vI 1, .unset] [(.ref a3)])) rfl rfl (hb hby d22_32)
  obtain ⟨cl24, Ar24, -, Sz24, Nn24, -, -⟩ := id V23
  obtain ⟨T26, h26, X26, e26, W26, st26⟩ := putF X19 hx hZ hown (host := "") (Or.inl (ww99 hw)) Via.refl e19 F11 E_2 (Or.inl (ww100 hw)) (ww75 hw) (ty := .int) (by decide) rfl rfl (g := (mkF m 54 #[vR a1, vI 1, vR a17] [(.int 2), (.ref a1)])) rfl rfl (hb hby d22_54)
  have O26 : Old Z n0 h26 := O0.wr W26 g_a1
  have Fw26 : Fld Z h26 a1 C_6 "cursor" "I" (.int 2) := Fld.same W26 F11
  have N26 := Fr.snoc X26 N7 g_a1
  have f27 : Fld Z h26 a1 C_6 "lastRet" "I" (.int 0) := (Fld.other W26 F25 (Or.inr (own_sl35 hw)))
  have f28 : Exa Z h26 a1 C_6 := (Exa.wr W26 E_2)
  obtain ⟨T29, h29, X29, e29, W29, st29⟩ := putF X26 hx hZ hown (host := "") (Or.inl (ww84 hw)) Via.refl e26 f27 f28 (Or.inl (ww85 hw)) (ww75 hw) (ty := .int) (by decide) rfl rfl (g := (mkF m 61 #[vR a1, vI 1, vR a17] [(.int 1), (.ref a1), (.int 1), (.ref a17)])) rfl rfl (hb hby d22_61)
  have O29 : Old Z n0 h29 := O26.wr W29 g_a1
  have Fw29 : Fld Z h29 a1 C_6 "lastRet" "I" (.int 1) := Fld.same W29 f27
  have N29 := Fr.snoc X29 N26 g_a1
  have f31 : Arv Z h29 a17 k22 (.object "java/lang/Object") (10 : Int32) [(.ref a20), (.ref a21)] .null := ((V23.other W26 hne30).other W29 hne30)
  obtain ⟨cl32, Ar32, -, Sz32, -, Hh32, -⟩ := id f31
  have hin32 : ¬ ((1 : Int32) < 0 ∨ cl32.slots.size ≤ ((1 : Int32)).toNatClampNeg) := inb_of Sz32 ⟨by decide +kernel, by decide +kernel⟩
  have hat32 : cl32.slots[((1 : Int32)).toNatClampNeg]? = some (.ref a21) := Has.at Hh32 hin32 rfl
  have f33 : Exa Z h29 a1 C_6 := (Exa.wr W29 f28)
  have f34 : Fld Z h29 a1 C_6 "cursor" "I" (.int 2) := (Fld.other W29 Fw26 (Or.inr (own_sl15 hw)))
  have f35 : Fld Z h29 a1 C_6 "expectedModCount" "I" (.int 2) := (Fld.other W29 (Fld.other W26 F6 (Or.inr (own_sl36 hw))) (Or.inr (own_sl13 hw)))
  have f36 : Fld Z h29 a1 C_6 "this$0" C_7 (.ref a3) := (Fld.other W29 (Fld.other W26 F4 (Or.inr (own_sl37 hw))) (Or.inr (own_sl11 hw)))
  refine fin (some (.ref a21)) _ _ _ _ X29 nofun (fun fs hr => pre0 _ ?_) (own_atH e29 ?_) (by decide) (by decide)
  · refine o_aloadN X0 hx hby d22_0 rfl rfl (st7 _ (o_aloadN X7 hx hby d22_4 rfl rfl (st12 _ (o_istoreN X12 hx hby d22_8 (Ls' := #[vR a1, vI 1, .unset]) rfl (o_iloadN X12 hx hby d22_9 rfl (o_aloadN X12 hx hby d22_10 rfl rfl (st13 _ (st15 _ (o_icmpY X15 hx hby d22_17 (pc := 17) (pc' := 28) (by decide +kernel) (by decide) (by decide) (o_aloadN X15 hx hby d22_28 rfl rfl (st16 _ (st19 _ (o_astoreN X19 hx hby d22_35 rfl (Ls' := #[vR a1, vI 1, vR a17]) rfl (o_iloadN X19 hx hby d22_36 rfl (o_aloadN X19 hx hby d22_37 rfl rfl (X19.arraylength hx (by rw [e19]; exact Ar24.1) (State.isArrayOf_alike hZ.alike Ar24.2.1) (g := (mkF m 38 #[vR a1, vI 1, vR a17] [(.ref a17), (.int 1)])) rfl rfl (hb hby d22_38) _ ?_))))))))))))))))
    rw [len_of Sz24 Nn24]
    refine o_icmpY X19 hx hby d22_39 (pc := 39) (pc' := 50) (by decide +kernel) (by decide) (by decide) (o_aloadN X19 hx hby d22_50 rfl rfl (o_iloadN X19 hx hby d22_51 rfl (o_iconst X19 hx hby d22_52 (x := 1) rfl (o_iadd X19 hx hby d22_53 (z := (2 : Int32)) (by decide +kernel) (st26 _ (o_aloadN X26 hx hby d22_57 rfl rfl (o_aloadN X26 hx hby d22_58 rfl rfl (o_iloadN X26 hx hby d22_59 rfl (o_dupX1 X26 hx hby d22_60 rfl rfl (st29 _ (X29.aaload hx (j := (1 : Int32)) (v := (.ref a21)) (by rw [e29]; exact Ar32.1) (State.isArrayOf_alike hZ.alike Ar32.2.1) rfl Ar32.2.2 hin32 hat32 (g := (mkF m 64 #[vR a1, vI 1, vR a17] [(.int 1), (.ref a17)])) rfl rfl (hb hby d22_64) _ ?_)))))))))))
    show Steps p.tables e below (T29.setTop (mkF m 65 #[vR a1, vI 1, vR a17] [(.ref a21)])) _
    jvm_step X29.here [X29.here.top, hx, (hb hby d22_65), X29.method', hret, Value.isRef, FieldType.isReference]
    first | (intro acts; rw [hr _ acts rfl rfl rfl]) | rw [hr _ _ rfl rfl rfl]
    exact Steps.refl _
  · exact ⟨rfl, N29, (((Keep.refl h0 [a1]).wr W26 (Or.inl (List.mem_of_getElem? (i := 0) rfl))).wr W29 (Or.inl (List.mem_of_getElem? (i := 0) rfl))), f33, f34, f35, Fw29, f36⟩
def Q11_51 (Z : State) (a1 : Addr) (a4 : Addr) (h0 : Heap) (n0 : Nat) (v : Option Value) (h : Heap) (L : List Loc) : Prop := (v = some (.int 0) ∧ Fr n0 L ∧ h = h0)
theorem rm11_51 (l : Launch) (Z : State) (a0 : Array Value) (hw : own_HW Z a0) (a1 : Addr) (a4 : Addr) (h0 : Heap) (n0 : Nat) (O0 : Old Z n0 h0) (F2 : Fld Z h0 a1 C_6 "cursor" "I" (.int 2)) (F5 : Fld Z h0 a1 C_6 "this$0" C_7 (.ref a4)) (F7 : Fld Z h0 a4 C_1 "size" "I" (.int 2)) : own_Met l Z M_10 bc11 1 (some .boolean) ({ frames := 0, cells := 0, slots := 0, locals := 0 } : Room) #[(.ref a1)] h0 (Q11_51 Z a1 a4 h0 n0) := by
  refine own_body (L0 := #[vR a1]) (plainFor_of_name pn_4) (fun m => by first | (simp [entryFrame, mkF, argsToLocals, Value.category]; done) | rfl) fun p e s m below meth c s₁ EN hx hby hml hown hnm hret X0 hZ e0 hh pre0 fin => ?_
  have N0 := Fr.nil n0
  obtain ⟨T3, X3, e3, st3⟩ := getF X0 hx hZ hown (host := "") (Or.inl (ww99 hw)) Via.refl e0 F2 (g := (mkF m 1 #[vR a1] [(.ref a1)])) rfl rfl (hb hby d11_1)
  obtain ⟨T6, X6, e6, st6⟩ := getF X3 hx hZ hown (host := "") (Or.inl (ww81 hw)) Via.refl e3 F5 (g := (mkF m 5 #[vR a1] [(.ref a1), (.int 2)])) rfl rfl (hb hby d11_5)
  obtain ⟨T8, X8, e8, st8⟩ := getF X6 hx hZ hown (Or.inr (ww101 hw)) Via.refl e6 F7 (g := (mkF m 8 #[vR a1] [(.ref a4), (.int 2)])) rfl rfl (hb hby d11_8)
  refine fin (some (.int 0)) _ _ _ _ X8 nofun (fun fs hr => pre0 _ ?_) (own_atH e8 ?_) (by decide) (by decide)
  · refine o_aloadN X0 hx hby d11_0 rfl rfl (st3 _ (o_aloadN X3 hx hby d11_4 rfl rfl (st6 _ (st8 _ (o_icmpY X8 hx hby d11_11 (pc := 11) (pc' := 18) (by decide +kernel) (by decide) (by decide) (o_iconst X8 hx hby d11_18 (x := 0) rfl ?_))))))
    exact retN X8 hx (t := .boolean) hret (by simp) (hb hby d11_19) hr
  · exact ⟨rfl, N0, rfl⟩
def Q7_42 (Z : State) (a1 : Addr) (a2 : Addr) (a3 : Addr) (a62 : Addr) (a64 : Addr) (a65 : Addr) (k66 : ClassId) (p96 : Int32) (p142 : Int32) (h0 : Heap) (n0 : Nat) (v : Option Value) (h : Heap) (L : List Loc) : Prop := (∃ (b28 : Addr) (b38 : Addr) (b5 : Addr) (k28 : ClassId) (k38 : ClassId) (k5 : ClassId), v = none ∧ Fr n0 L ∧ h0.size ≤ b28 ∧ b28 < h.size ∧ h0.size ≤ b38 ∧ b38 < h.size ∧ h0.size ≤ b5 ∧ b5 < h.size ∧ b28 ≠ b38 ∧ b28 ≠ b5 ∧ b38 ≠ b5 ∧ Keep h0 h [a1] ∧ Exa Z h a1 C_3 ∧ Fld Z h a1 C_3 "deck" "[I" (.ref b28) ∧ Fld Z h a1 C_3 "deckSize" "I" (.int 2) ∧ Fld Z h a1 C_3 "discard" "[I" (.ref b38) ∧ Fld Z h a1 C_3 "discardSize" "I" (.int 0) ∧ Fld Z h a1 C_3 "generator" C_4 (.ref a3) ∧ Fld Z h a1 C_3 "market" "[I" (.ref b5) ∧ Exa Z h b28 "[I" ∧ Arv Z h b28 k28 .int (2 : Int32) [(.int p142), (.int p96)] (.int (0 : Int32)) ∧ Exa Z h b38 "[I" ∧ Arv Z h b38 k38 .int (2 : Int32) [] (.int (0 : Int32)) ∧ Exa Z h b5 "[I" ∧ Arv Z h b5 k5 .int (5 : Int32) [(.int (-1)), (.int (-1)), (.int (-1)), (.int (-1)), (.int (-1))] (.int (0 : Int32)))
theorem rm7_42 (l : Launch) (Z : State) (a0 : Array Value) (hw : own_HW Z a0) (a1 : Addr) (a2 : Addr) (a3 : Addr) (a62 : Addr) (a64 : Addr) (a65 : Addr) (k66 : ClassId) (p96 : Int32) (p142 : Int32) (h0 : Heap) (n0 : Nat) (O0 : Old Z n0 h0) (E_6 : Exa Z h0 a1 C_3) (F7 : Fld Z h0 a1 C_3 "deck" "[I" .null) (F8 : Fld Z h0 a1 C_3 "deckSize" "I" (.int 0)) (F9 : Fld Z h0 a1 C_3 "discard" "[I" .null) (F10 : Fld Z h0 a1 C_3 "discardSize" "I" (.int 0)) (F11 : Fld Z h0 a1 C_3 "generator" C_4 .null) (F12 : Fld Z h0 a1 C_3 "market" "[I" .null) (g_a1 : n0 ≤ a1) (E_19 : Exa Z h0 a2 C_1) (F20 : Fld Z h0 a2 C_1 "size" "I" (.int 2)) (hne21 : a2 ≠ a1) (F42 : Fld Z h0 a2 C_0 "modCount" "I" (.int 2)) (lt_a2 : a2 < h0.size) (F63 : Fld Z h0 a2 C_1 "elementData" C_2 (.ref a62)) (V67 : Arv Z h0 a62 k66 (.object "java/lang/Object") (10 : Int32) [(.ref a64), (.ref a65)] .null) (lt_a62 : a62 < h0.size) (hne71 : a62 ≠ a1) (E_82 : Exa Z Z.heap a64 C_8) (lt_a1 : a1 < h0.size) (F97 : Fld Z Z.heap a64 C_10 "ordinal" "I" (.int p96)) (E_131 : Exa Z Z.heap a65 C_8) (F143 : Fld Z Z.heap a65 C_10 "ordinal" "I" (.int p142)) : own_Met l Z M_13 bc7 5 none ({ frames := 3, cells := 4, slots := 13, locals := 38 } : Room) #[(.ref a1), (.ref a2), (.ref a3)] h0 (Q7_42 Z a1 a2 a3 a62 a64 a65 k66 p96 p142 h0 n0) := by
  refine own_body (L0 := #[vR a1, vR a2, vR a3, .unset, .unset]) (plainFor_of_name pn_6) (fun m => by first | (simp [entryFrame, mkF, argsToLocals, Value.category]; done) | rfl) fun p e s m below meth c s₁ EN hx hby hml hown hnm hret X0 hZ e0 hh pre0 fin => ?_
  have N0 := Fr.nil n0
  obtain ⟨T4, X4, e4, st4⟩ := initO X0 hx hZ hown (ww45 hw) (ww23 hw) (ww24 hw) e0 (g := (mkF m 1 #[vR a1, vR a2, vR a3, .unset, .unset] [(.ref a1)])) rfl (by rw [hml]; rfl) rfl (hb hby d7_1) (by decide) (W := 0) (by show 2 * 0 + _ ≤ _; exact Nat.le_of_eq rfl) (by decide)
  obtain ⟨T5, h5, k5, X5, e5, E5, A5, Ex5, st5⟩ := newPE (aty := .int) X4 hx hZ (ww46 hw) e4 (g := (mkF m 6 #[vR a1, vR a2, vR a3, .unset, .unset] [(.int 5), (.ref a1)])) rfl (hb hby d7_6) rfl (by decide +kernel) (cap := 5) (by decide +kernel) (by decide) (by decide) (by decide) (ad := "[I") (by decide +kernel)
  obtain ⟨b5, g5⟩ : ∃ z, z = h0.size := ⟨_, rfl⟩
  rw [← g5] at A5 Ex5 st5
  have O5 : Old Z n0 h5 := O0.ext E5
  have bd_b5 : h0.size ≤ b5 := Nat.le_of_eq g5.symm
  have g_b5 : n0 ≤ b5 := Nat.le_trans (own_z O0) bd_b5
  have sz_b5 : h0.size ≤ b5 := Nat.le_trans (Nat.le_refl _) bd_b5
  have lt_b5 : b5 < h5.size := A5.lt
  have V5 : Arv Z h5 b5 k5 .int (5 : Int32) [] (.int (0 : Int32)) := Arv.new A5 (by decide +kernel)
  have f13 : Fld Z h5 a1 C_3 "market" "[I" .null := (Fld.ext E5 F12)
  have f14 : Exa Z h5 a1 C_3 := (Exa.ext E5 E_6)
  obtain ⟨T15, h15, X15, e15, W15, st15⟩ := putF X5 hx hZ hown (host := "") (Or.inl (ww47 hw)) Via.refl e5 f13 f14 (Or.inr ⟨(ww48 hw), rfl, hnm⟩) (ww31 hw) (ty := (.array .int)) (by decide) rfl rfl (g := (mkF m 8 #[vR a1, vR a2, vR a3, .unset, .unset] [(.ref b5), (.ref a1)])) rfl rfl (hb hby d7_8)
  have O15 : Old Z n0 h15 := O5.wr W15 g_a1
  have Fw15 : Fld Z h15 a1 C_3 "market" "[I" (.ref b5) := Fld.same W15 f13
  have N15 := Fr.snoc X15 N0 g_a1
  have f16 : Fld Z h15 a1 C_3 "generator" C_4 .null := (Fld.other W15 (Fld.ext E5 F11) (Or.inr (own_sl4 hw)))
  have f17 : Exa Z h15 a1 C_3 := (Exa.wr W15 f14)
  obtain ⟨T18, h18, X18, e18, W18, st18⟩ := putF X15 hx hZ hown (host := "") (Or.inl (ww49 hw)) Via.refl e15 f16 f17 (Or.inr ⟨(ww50 hw), rfl, hnm⟩) (ww31 hw) (ty := (.object "com/example/railspan/railspan/game/Generator")) (by decide) rfl rfl (g := (mkF m 13 #[vR a1, vR a2, vR a3, .unset, .unset] [(.ref a3), (.ref a1)])) rfl rfl (hb hby d7_13)
  have O18 : Old Z n0 h18 := O15.wr W18 g_a1
  have Fw18 : Fld Z h18 a1 C_3 "generator" C_4 (.ref a3) := Fld.same W18 f16
  have N18 := Fr.snoc X18 N15 g_a1
  have f22 : Fld Z h18 a2 C_1 "size" "I" (.int 2) := (Fld.other W18 (Fld.other W15 (Fld.ext E5 F20) (Or.inl hne21)) (Or.inl hne21))
  have f24 : Exa Z h18 a2 C_1 := (Exa.wr W18 (Exa.wr W15 (Exa.ext E5 E_19)))
  obtain ⟨_, T23, L23, X23, hQ23, st23⟩ := own_cN X18 hx hZ hown (ww51 hw) (ww52 hw) (mvT hZ (ww53 hw)) (ww54 hw) (ww55 hw) (ww56 hw) (ww57 hw) (ww58 hw) (ww6 hw) (ww59 hw) f24 (rm8_43 l Z a0 hw a2 h18 n0 O18 f22) e18 pd_3 hml (hb hby d7_18) (Ls := #[vR a1, vR a2, vR a3, .unset, .unset]) (W := 1) (argsL := []) (rest := [(.ref a1)])
  obtain ⟨rfl, u26, u27⟩ := hQ23
  have N23 := Fr.app N18 u26
  obtain ⟨T28, h28, k28, X28, e28, E28, A28, Ex28, st28⟩ := newPE (aty := .int) X23 hx hZ (ww46 hw) u27 (g := (mkF m 23 #[vR a1, vR a2, vR a3, .unset, .unset] [(.int 2), (.ref a1)])) rfl (hb hby d7_23) rfl (by decide +kernel) (cap := 2) (by decide +kernel) (by decide) (by decide) (by decide) (ad := "[I") (by decide +kernel)
  obtain ⟨b28, g28⟩ : ∃ z, z = h18.size := ⟨_, rfl⟩
  rw [← g28] at A28 Ex28 st28
  have O28 : Old Z n0 h28 := O18.ext E28
  have bd_b28 : h18.size ≤ b28 := Nat.le_of_eq g28.symm
  have g_b28 : n0 ≤ b28 := Nat.le_trans (own_z O18) bd_b28
  have sz_b28 : h0.size ≤ b28 := Nat.le_trans (Nat.le_trans (Nat.le_trans E5.1 (Keep.of_wr W15).1) (Keep.of_wr W18).1) bd_b28
  have lt_b28 : b28 < h28.size := A28.lt
  have V28 : Arv Z h28 b28 k28 .int (2 : Int32) [] (.int (0 : Int32)) := Arv.new A28 (by decide +kernel)
  have f29 : Fld Z h28 a1 C_3 "deck" "[I" .null := (Fld.ext E28 (Fld.other W18 (Fld.other W15 (Fld.ext E5 F7) (Or.inr (own_sl5 hw))) (Or.inr (own_sl6 hw))))
  have f30 : Exa Z h28 a1 C_3 := (Exa.ext E28 (Exa.wr W18 f17))
  obtain ⟨T31, h31, X31, e31, W31, st31⟩ := putF X28 hx hZ hown (host := "") (Or.inl (ww62 hw)) Via.refl e28 f29 f30 (Or.inr ⟨(ww63 hw), rfl, hnm⟩) (ww31 hw) (ty := (.array .int)) (by decide) rfl rfl (g := (mkF m 25 #[vR a1, vR a2, vR a3, .unset, .unset] [(.ref b28), (.ref a1)])) rfl rfl (hb hby d7_25)
  have O31 : Old Z n0 h31 := O28.wr W31 g_a1
  have Fw31 : Fld Z h31 a1 C_3 "deck" "[I" (.ref b28) := Fld.same W31 f29
  have N31 := Fr.snoc X31 N23 g_a1
  have f32 : Fld Z h31 a2 C_1 "size" "I" (.int 2) := (Fld.other W31 (Fld.ext E28 f22) (Or.inl hne21))
  have f34 : Exa Z h31 a2 C_1 := (Exa.wr W31 (Exa.ext E28 f24))
  obtain ⟨_, T33, L33, X33, hQ33, st33⟩ := own_cN X31 hx hZ hown (ww51 hw) (ww52 hw) (mvT hZ (ww53 hw)) (ww54 hw) (ww55 hw) (ww56 hw) (ww57 hw) (ww58 hw) (ww6 hw) (ww59 hw) f34 (rm8_43 l Z a0 hw a2 h31 n0 O31 f32) e31 pd_3 hml (hb hby d7_30) (Ls := #[vR a1, vR a2, vR a3, .unset, .unset]) (W := 1) (argsL := []) (rest := [(.ref a1)])
  obtain ⟨rfl, u36, u37⟩ := hQ33
  have N33 := Fr.app N31 u36
  obtain ⟨T38, h38, k38, X38, e38, E38, A38, Ex38, st38⟩ := newPE (aty := .int) X33 hx hZ (ww46 hw) u37 (g := (mkF m 35 #[vR a1, vR a2, vR a3, .unset, .unset] [(.int 2), (.ref a1)])) rfl (hb hby d7_35) rfl (by decide +kernel) (cap := 2) (by decide +kernel) (by decide) (by decide) (by decide) (ad := "[I") (by decide +kernel)
  obtain ⟨b38, g38⟩ : ∃ z, z = h31.size := ⟨_, rfl⟩
  rw [← g38] at A38 Ex38 st38
  have O38 : Old Z n0 h38 := O31.ext E38
  have bd_b38 : h31.size ≤ b38 := Nat.le_of_eq g38.symm
  have g_b38 : n0 ≤ b38 := Nat.le_trans (own_z O31) bd_b38
  have sz_b38 : h0.size ≤ b38 := Nat.le_trans (Nat.le_trans (Nat.le_trans (Nat.le_trans (Nat.le_trans E5.1 (Keep.of_wr W15).1) (Keep.of_wr W18).1) E28.1) (Keep.of_wr W31).1) bd_b38
  have lt_b38 : b38 < h38.size := A38.lt
  have V38 : Arv Z h38 b38 k38 .int (2 : Int32) [] (.int (0 : Int32)) := Arv.new A38 (by decide +kernel)
  have f39 : Fld Z h38 a1 C_3 "discard" "[I" .null := (Fld.ext E38 (Fld.other W31 (Fld.ext E28 (Fld.other W18 (Fld.other W15 (Fld.ext E5 F9) (Or.inr (own_sl7 hw))) (Or.inr (own_sl8 hw)))) (Or.inr (own_sl9 hw))))
  have f40 : Exa Z h38 a1 C_3 := (Exa.ext E38 (Exa.wr W31 f30))
  obtain ⟨T41, h41, X41, e41, W41, st41⟩ := putF X38 hx hZ hown (host := "") (Or.inl (ww64 hw)) Via.refl e38 f39 f40 (Or.inr ⟨(ww65 hw), rfl, hnm⟩) (ww31 hw) (ty := (.array .int)) (by decide) rfl rfl (g := (mkF m 37 #[vR a1, vR a2, vR a3, .unset, .unset] [(.ref b38), (.ref a1)])) rfl rfl (hb hby d7_37)
  have O41 : Old Z n0 h41 := O38.wr W41 g_a1
  have Fw41 : Fld Z h41 a1 C_3 "discard" "[I" (.ref b38) := Fld.same W41 f39
  have N41 := Fr.snoc X41 N33 g_a1
  have f43 : Fld Z h41 a2 C_0 "modCount" "I" (.int 2) := (Fld.other W41 (Fld.ext E38 (Fld.other W31 (Fld.ext E28 (Fld.other W18 (Fld.other W15 (Fld.ext E5 F42) (Or.inl hne21)) (Or.inl hne21))) (Or.inl hne21))) (Or.inl hne21))
  have f45 : Exa Z h41 a2 C_1 := (Exa.wr W41 (Exa.ext E38 f34))
  obtain ⟨_, T44, L44, X44, hQ44, st44⟩ := own_cN X41 hx hZ hown (ww66 hw) (ww67 hw) (mvT hZ (ww68 hw)) (ww69 hw) (ww70 hw) (ww71 hw) (ww72 hw) (ww58 hw) (ww6 hw) (ww73 hw) f45 (rm9_44 l Z a0 hw a2 h41 n0 O41 f43 (own_t (own_t (own_t (own_t (own_t (own_t (own_t lt_a2 E5.1) (Keep.of_wr W15).1) (Keep.of_wr W18).1) E28.1) (Keep.of_wr W31).1) E38.1) (Keep.of_wr W41).1)) e41 pd_5 hml (hb hby d7_41) (Ls := #[vR a1, vR a2, vR a3, .unset, .unset]) (W := 0) (argsL := []) (rest := [])
  obtain ⟨b46, rfl, u48, u49, u50, Ku51, u52, u53, u54, u55, u56⟩ := hQ44
  have Ou51 : Old Z n0 T44.heap := O41.keep Ku51 all0
  have g_b46 : n0 ≤ b46 := Nat.le_trans (own_z O41) u49
  have sz_b46 : h0.size ≤ b46 := Nat.le_trans (Nat.le_trans (Nat.le_trans (Nat.le_trans (Nat.le_trans (Nat.le_trans (Nat.le_trans E5.1 (Keep.of_wr W15).1) (Keep.of_wr W18).1) E28.1) (Keep.of_wr W31).1) E38.1) (Keep.of_wr W41).1) u49
  have N44 := Fr.app N41 u48
  have f57 : Fld Z T44.heap a2 C_1 "size" "I" (.int 2) := ((Fld.other W41 (Fld.ext E38 f32) (Or.inl hne21)).keep Ku51 nin0)
  obtain ⟨_, T58, L58, X58, hQ58, st58⟩ := own_cN X44 hx hZ hown (ww90 hw) (ww91 hw) (mvT hZ (ww92 hw)) (ww93 hw) (ww94 hw) (ww95 hw) (ww96 hw) (ww97 hw) (ww76 hw) (ww98 hw) u52 (rm11_46 l Z a0 hw b46 a2 T44.heap n0 Ou51 u53 u56 f57) rfl pd_6 hml (hb hby d7_48) (Ls := #[vR a1, vR a2, vR a3, vR b46, .unset]) (W := 0) (argsL := []) (rest := [])
  obtain ⟨rfl, u60, u61⟩ := hQ58
  have N58 := Fr.app N44 u60
  have ne68 : a62 ≠ b46 := (own_n (own_t (own_t (own_t (own_t (own_t (own_t (own_t lt_a62 E5.1) (Keep.of_wr W15).1) (Keep.of_wr W18).1) E28.1) (Keep.of_wr W31).1) E38.1) (Keep.of_wr W41).1) u49)
  have f69 : Fld Z T44.heap a2 C_0 "modCount" "I" (.int 2) := (f43.keep Ku51 nin0)
  have f70 : Fld Z T44.heap a2 C_1 "elementData" C_2 (.ref a62) := ((Fld.other W41 (Fld.ext E38 (Fld.other W31 (Fld.ext E28 (Fld.other W18 (Fld.other W15 (Fld.ext E5 F63) (Or.inl hne21)) (Or.inl hne21))) (Or.inl hne21))) (Or.inl hne21)).keep Ku51 nin0)
  have f72 : Arv Z T44.heap a62 k66 (.object "java/lang/Object") (10 : Int32) [(.ref a64), (.ref a65)] .null := ((((((((V67.ext E5).other W15 hne71).other W18 hne71).ext E28).other W31 hne71).ext E38).other W41 hne71).keep Ku51 nin0)
  obtain ⟨_, T73, L73, X73, hQ73, st73⟩ := own_cN X58 hx hZ hown (ww161 hw) (ww162 hw) (mvT hZ (ww163 hw)) (ww164 hw) (ww165 hw) (ww166 hw) (ww167 hw) (ww97 hw) (ww76 hw) (ww168 hw) u52 (rm22_47 l Z a0 hw b46 a2 a62 a64 a65 k66 T44.heap n0 Ou51 u52 u56 f69 u54 u53 f57 f70 f72 u55 g_b46 ne68) u61 pd_15 hml (hb hby d7_57) (Ls := #[vR a1, vR a2, vR a3, vR b46, .unset]) (W := 0) (argsL := []) (rest := [])
  obtain ⟨rfl, u75, Ku76, u77, u78, u79, u80, u81⟩ := hQ73
  have Ou76 : Old Z n0 T73.heap := Ou51.keep Ku76 (allS g_b46 all0)
  have N73 := Fr.app N58 u75
  obtain ⟨T83, X83, e83, st83⟩ := castY X73 hx hZ hown (ww175 hw) rfl (Ins.self (Exa.ext Ou76.2 E_82)) (g := (mkF m 62 #[vR a1, vR a2, vR a3, vR b46, .unset] [(.ref a64)])) rfl rfl (hb hby d7_62)
  have ne84 : a1 ≠ b46 := (own_n (own_t (own_t (own_t (own_t (own_t (own_t (own_t lt_a1 E5.1) (Keep.of_wr W15).1) (Keep.of_wr W18).1) E28.1) (Keep.of_wr W31).1) E38.1) (Keep.of_wr W41).1) u49)
  have f85 : Fld Z T73.heap a1 C_3 "deck" "[I" (.ref b28) := (((Fld.other W41 (Fld.ext E38 Fw31) (Or.inr (own_sl22 hw))).keep Ku51 nin0).keep Ku76 (ninS ne84 nin0))
  obtain ⟨T86, X86, e86, st86⟩ := getF X83 hx hZ hown (host := "") (Or.inl (ww62 hw)) Via.refl e83 f85 (g := (mkF m 68 #[vR a1, vR a2, vR a3, vR b46, vR a64] [(.ref a1)])) rfl rfl (hb hby d7_68)
  obtain ⟨T87, X87, e87, st87⟩ := getF X86 hx hZ hown (host := "") (Or.inl (ww62 hw)) Via.refl e86 f85 (g := (mkF m 72 #[vR a1, vR a2, vR a3, vR b46, vR a64] [(.ref a1), (.ref b28)])) rfl rfl (hb hby d7_72)
  have ne88 : a1 ≠ b28 := (own_n (own_t (own_t (own_t lt_a1 E5.1) (Keep.of_wr W15).1) (Keep.of_wr W18).1) bd_b28)
  have ne89 : b28 ≠ b46 := (own_n (own_t (own_t (own_t lt_b28 (Keep.of_wr W31).1) E38.1) (Keep.of_wr W41).1) u49)
  have f90 : Arv Z T73.heap b28 k28 .int (2 : Int32) [] (.int (0 : Int32)) := (((((V28.other W31 (Ne.symm ne88)).ext E38).other W41 (Ne.symm ne88)).keep Ku51 nin0).keep Ku76 (ninS ne89 nin0))
  obtain ⟨cl91, Ar91, -, Sz91, Nn91, -, -⟩ := id f90
  have f92 : Fld Z T73.heap a1 C_3 "deckSize" "I" (.int 0) := (((Fld.other W41 (Fld.ext E38 (Fld.other W31 (Fld.ext E28 (Fld.other W18 (Fld.other W15 (Fld.ext E5 F8) (Or.inr (own_sl23 hw))) (Or.inr (own_sl24 hw)))) (Or.inr (own_sl25 hw)))) (Or.inr (own_sl26 hw))).keep Ku51 nin0).keep Ku76 (ninS ne84 nin0))
  obtain ⟨T93, X93, e93, st93⟩ := getF X87 hx hZ hown (host := "") (Or.inl (ww111 hw)) Via.refl e87 f92 (g := (mkF m 80 #[vR a1, vR a2, vR a3, vR b46, vR a64] [(.ref a1), (.ref a1), (.int 1), (.ref b28)])) rfl rfl (hb hby d7_80)
  have f94 : Exa Z T73.heap a1 C_3 := (((Exa.wr W41 f40).keep Ku51).keep Ku76)
  obtain ⟨T95, h95, X95, e95, W95, st95⟩ := putF X93 hx hZ hown (host := "") (Or.inl (ww111 hw)) Via.refl e93 f92 f94 (Or.inl (ww112 hw)) (ww31 hw) (ty := .int) (by decide) rfl rfl (g := (mkF m 86 #[vR a1, vR a2, vR a3, vR b46, vR a64] [(.int 1), (.ref a1), (.int 0), (.int 1), (.ref b28)])) rfl rfl (hb hby d7_86)
  have O95 : Old Z n0 h95 := Ou76.wr W95 g_a1
  have Fw95 : Fld Z h95 a1 C_3 "deckSize" "I" (.int 1) := Fld.same W95 f92
  have N95 := Fr.snoc X95 N73 g_a1
  obtain ⟨_, T98, L98, X98, hQ98, st98⟩ := own_cU X95 hx hZ hown (ww177 hw) (ww178 hw) (ww179 hw) (ww181 hw) (ww180 hw) (ww182 hw) (ww183 hw) (Exa.ext O95.2 E_82) (rm24_31 l Z a0 hw a64 p96 h95 n0 O95 F97) e95 pd_3 hml (hb hby d7_92) (Ls := #[vR a1, vR a2, vR a3, vR b46, vR a64]) (W := 2) (argsL := []) (rest := [(.int 1), (.ref b28)])
  obtain ⟨rfl, u100, u101⟩ := hQ98
  have N98 := Fr.app N95 u100
  have f102 : Arv Z h95 b28 k28 .int (2 : Int32) [] (.int (0 : Int32)) := (f90.other W95 (Ne.symm ne88))
  have Vp103 : Arv Z h95 b28 k28 .int (2 : Int32) [(.int 0), (.int 0)] (.int (0 : Int32)) := f102.pad (pad_rep [] (.int (0 : Int32)) 2)
  obtain ⟨cl104, Ar104, qk104, Sz104, Nn104, Hh104, Gg104⟩ := id Vp103
  have hin104 : ¬ ((1 : Int32) < 0 ∨ cl104.slots.size ≤ ((1 : Int32)).toNatClampNeg) := inb_of Sz104 ⟨by decide +kernel, by decide +kernel⟩
  obtain ⟨T105, h105, X105, e105, W105, st105⟩ := stI X98 hx hZ u101 Ar104 (j := (1 : Int32)) hin104 (g := (mkF m 95 #[vR a1, vR a2, vR a3, vR b46, vR a64] [(.int p96), (.int 1), (.ref b28)])) rfl rfl (hb hby d7_95)
  have O105 : Old Z n0 h105 := O95.wr W105 g_b28
  have V105 : Arv Z h105 b28 k28 .int (2 : Int32) [(.int 0), (.int p96)] (.int (0 : Int32)) := Arv.set Ar104 qk104 Sz104 Nn104 Hh104 Gg104 rfl W105 1 rfl (Nat.le_of_ble_eq_true rfl)
  have N105 := Fr.snoc X105 N98 g_b28
  have f106 : Fld Z h105 b46 C_6 "cursor" "I" (.int 1) := (Fld.other W105 (Fld.other W95 u78 (Or.inl (Ne.symm ne84))) (Or.inl (Ne.symm ne89)))
  have f107 : Fld Z h105 b46 C_6 "this$0" C_7 (.ref a2) := (Fld.other W105 (Fld.other W95 u81 (Or.inl (Ne.symm ne84))) (Or.inl (Ne.symm ne89)))
  have ne108 : a2 ≠ b46 := (own_n (own_t (own_t (own_t (own_t (own_t (own_t (own_t lt_a2 E5.1) (Keep.of_wr W15).1) (Keep.of_wr W18).1) E28.1) (Keep.of_wr W31).1) E38.1) (Keep.of_wr W41).1) u49)
  have ne109 : a2 ≠ b28 := (own_n (own_t (own_t (own_t lt_a2 E5.1) (Keep.of_wr W15).1) (Keep.of_wr W18).1) bd_b28)
  have f110 : Fld Z h105 a2 C_1 "size" "I" (.int 2) := (Fld.other W105 (Fld.other W95 (f57.keep Ku76 (ninS ne108 nin0)) (Or.inl hne21)) (Or.inl ne109))
  have f112 : Exa Z h105 b46 C_6 := (Exa.wr W105 (Exa.wr W95 u77))
  obtain ⟨_, T111, L111, X111, hQ111, st111⟩ := own_cN X105 hx hZ hown (ww90 hw) (ww91 hw) (mvT hZ (ww92 hw)) (ww93 hw) (ww94 hw) (ww95 hw) (ww96 hw) (ww97 hw) (ww76 hw) (ww98 hw) f112 (rm11_49 l Z a0 hw b46 a2 h105 n0 O105 f106 f107 f110) e105 pd_6 hml (hb hby d7_48) (Ls := #[vR a1, vR a2, vR a3, vR b46, vR a64]) (W := 0) (argsL := []) (rest := [])
  obtain ⟨rfl, u114, u115⟩ := hQ111
  have N111 := Fr.app N105 u114
  have f116 : Fld Z h105 a2 C_0 "modCount" "I" (.int 2) := (Fld.other W105 (Fld.other W95 (f69.keep Ku76 (ninS ne108 nin0)) (Or.inl hne21)) (Or.inl ne109))
  have f117 : Fld Z h105 b46 C_6 "expectedModCount" "I" (.int 2) := (Fld.other W105 (Fld.other W95 u79 (Or.inl (Ne.symm ne84))) (Or.inl (Ne.symm ne89)))
  have f118 : Fld Z h105 a2 C_1 "elementData" C_2 (.ref a62) := (Fld.other W105 (Fld.other W95 (f70.keep Ku76 (ninS ne108 nin0)) (Or.inl hne21)) (Or.inl ne109))
  have ne119 : a62 ≠ b28 := (own_n (own_t (own_t (own_t lt_a62 E5.1) (Keep.of_wr W15).1) (Keep.of_wr W18).1) bd_b28)
  have f120 : Arv Z h105 a62 k66 (.object "java/lang/Object") (10 : Int32) [(.ref a64), (.ref a65)] .null := (((f72.keep Ku76 (ninS ne68 nin0)).other W95 hne71).other W105 ne119)
  have f121 : Fld Z h105 b46 C_6 "lastRet" "I" (.int 0) := (Fld.other W105 (Fld.other W95 u80 (Or.inl (Ne.symm ne84))) (Or.inl (Ne.symm ne89)))
  obtain ⟨_, T122, L122, X122, hQ122, st122⟩ := own_cN X111 hx hZ hown (ww161 hw) (ww162 hw) (mvT hZ (ww163 hw)) (ww164 hw) (ww165 hw) (ww166 hw) (ww167 hw) (ww97 hw) (ww76 hw) (ww168 hw) f112 (rm22_50 l Z a0 hw b46 a2 a62 a64 a65 k66 h105 n0 O105 f112 f107 f116 f117 f106 f110 f118 f120 f121 g_b46 ne68) u115 pd_15 hml (hb hby d7_57) (Ls := #[vR a1, vR a2, vR a3, vR b46, vR a64]) (W := 0) (argsL := []) (rest := [])
  obtain ⟨rfl, u124, Ku125, u126, u127, u128, u129, u130⟩ := hQ122
  have Ou125 : Old Z n0 T122.heap := O105.keep Ku125 (allS g_b46 all0)
  have N122 := Fr.app N111 u124
  obtain ⟨T132, X132, e132, st132⟩ := castY X122 hx hZ hown (ww175 hw) rfl (Ins.self (Exa.ext Ou125.2 E_131)) (g := (mkF m 62 #[vR a1, vR a2, vR a3, vR b46, vR a64] [(.ref a65)])) rfl rfl (hb hby d7_62)
  have f133 : Fld Z T122.heap a1 C_3 "deck" "[I" (.ref b28) := ((Fld.other W105 (Fld.other W95 f85 (Or.inr (own_sl39 hw))) (Or.inl ne88)).keep Ku125 (ninS ne84 nin0))
  obtain ⟨T134, X134, e134, st134⟩ := getF X132 hx hZ hown (host := "") (Or.inl (ww62 hw)) Via.refl e132 f133 (g := (mkF m 68 #[vR a1, vR a2, vR a3, vR b46, vR a65] [(.ref a1)])) rfl rfl (hb hby d7_68)
  obtain ⟨T135, X135, e135, st135⟩ := getF X134 hx hZ hown (host := "") (Or.inl (ww62 hw)) Via.refl e134 f133 (g := (mkF m 72 #[vR a1, vR a2, vR a3, vR b46, vR a65] [(.ref a1), (.ref b28)])) rfl rfl (hb hby d7_72)
  have f136 : Arv Z T122.heap b28 k28 .int (2 : Int32) [(.int 0), (.int p96)] (.int (0 : Int32)) := (V105.keep Ku125 (ninS ne89 nin0))
  obtain ⟨cl137, Ar137, -, Sz137, Nn137, -, -⟩ := id f136
  have f138 : Fld Z T122.heap a1 C_3 "deckSize" "I" (.int 1) := ((Fld.other W105 Fw95 (Or.inl ne88)).keep Ku125 (ninS ne84 nin0))
  obtain ⟨T139, X139, e139, st139⟩ := getF X135 hx hZ hown (host := "") (Or.inl (ww111 hw)) Via.refl e135 f138 (g := (mkF m 80 #[vR a1, vR a2, vR a3, vR b46, vR a65] [(.ref a1), (.ref a1), (.int 1), (.ref b28)])) rfl rfl (hb hby d7_80)
  have f140 : Exa Z T122.heap a1 C_3 := ((Exa.wr W105 (Exa.wr W95 f94)).keep Ku125)
  obtain ⟨T141, h141, X141, e141, W141, st141⟩ := putF X139 hx hZ hown (host := "") (Or.inl (ww111 hw)) Via.refl e139 f138 f140 (Or.inl (ww112 hw)) (ww31 hw) (ty := .int) (by decide) rfl rfl (g := (mkF m 86 #[vR a1, vR a2, vR a3, vR b46, vR a65] [(.int 2), (.ref a1), (.int 1), (.int 1), (.ref b28)])) rfl rfl (hb hby d7_86)
  have O141 : Old Z n0 h141 := Ou125.wr W141 g_a1
  have Fw141 : Fld Z h141 a1 C_3 "deckSize" "I" (.int 2) := Fld.same W141 f138
  have N141 := Fr.snoc X141 N122 g_a1
  obtain ⟨_, T144, L144, X144, hQ144, st144⟩ := own_cU X141 hx hZ hown (ww177 hw) (ww178 hw) (ww179 hw) (ww181 hw) (ww180 hw) (ww182 hw) (ww183 hw) (Exa.ext O141.2 E_131) (rm24_31 l Z a0 hw a65 p142 h141 n0 O141 F143) e141 pd_3 hml (hb hby d7_92) (Ls := #[vR a1, vR a2, vR a3, vR b46, vR a65]) (W := 2) (argsL := []) (rest := [(.int 0), (.ref b28)])
  obtain ⟨rfl, u146, u147⟩ := hQ144
  have N144 := Fr.app N141 u146
  have f148 : Arv Z h141 b28 k28 .int (2 : Int32) [(.int 0), (.int p96)] (.int (0 : Int32)) := (f136.other W141 (Ne.symm ne88))
  obtain ⟨cl149, Ar149, qk149, Sz149, Nn149, Hh149, Gg149⟩ := id f148
  have hin149 : ¬ ((0 : Int32) < 0 ∨ cl149.slots.size ≤ ((0 : Int32)).toNatClampNeg) := inb_of Sz149 ⟨by decide +kernel, by decide +kernel⟩
  obtain ⟨T150, h150, X150, e150, W150, st150⟩ := stI X144 hx hZ u147 Ar149 (j := (0 : Int32)) hin149 (g := (mkF m 95 #[vR a1, vR a2, vR a3, vR b46, vR a65] [(.int p142), (.int 0), (.ref b28)])) rfl rfl (hb hby d7_95)
  have O150 : Old Z n0 h150 := O141.wr W150 g_b28
  have V150 : Arv Z h150 b28 k28 .int (2 : Int32) [(.int p142), (.int p96)] (.int (0 : Int32)) := Arv.set Ar149 qk149 Sz149 Nn149 Hh149 Gg149 rfl W150 0 rfl (Nat.le_of_ble_eq_true rfl)
  have N150 := Fr.snoc X150 N144 g_b28
  have f151 : Fld Z h150 b46 C_6 "cursor" "I" (.int 2) := (Fld.other W150 (Fld.other W141 u127 (Or.inl (Ne.symm ne84))) (Or.inl (Ne.symm ne89)))
  have f152 : Fld Z h150 b46 C_6 "this$0" C_7 (.ref a2) := (Fld.other W150 (Fld.other W141 u130 (Or.inl (Ne.symm ne84))) (Or.inl (Ne.symm ne89)))
  have f153 : Fld Z h150 a2 C_1 "size" "I" (.int 2) := (Fld.other W150 (Fld.other W141 (f110.keep Ku125 (ninS ne108 nin0)) (Or.inl hne21)) (Or.inl ne109))
  have f155 : Exa Z h150 b46 C_6 := (Exa.wr W150 (Exa.wr W141 u126))
  obtain ⟨_, T154, L154, X154, hQ154, st154⟩ := own_cN X150 hx hZ hown (ww90 hw) (ww91 hw) (mvT hZ (ww92 hw)) (ww93 hw) (ww94 hw) (ww95 hw) (ww96 hw) (ww97 hw) (ww76 hw) (ww98 hw) f155 (rm11_51 l Z a0 hw b46 a2 h150 n0 O150 f151 f152 f153) e150 pd_6 hml (hb hby d7_48) (Ls := #[vR a1, vR a2, vR a3, vR b46, vR a65]) (W := 0) (argsL := []) (rest := [])
  obtain ⟨rfl, u157, u158⟩ := hQ154
  have N154 := Fr.app N150 u157
  have f159 : Fld Z h150 a1 C_3 "market" "[I" (.ref b5) := (Fld.other W150 (Fld.other W141 ((Fld.other W105 (Fld.other W95 (((Fld.other W41 (Fld.ext E38 (Fld.other W31 (Fld.ext E28 (Fld.other W18 Fw15 (Or.inr (own_sl19 hw)))) (Or.inr (own_sl20 hw)))) (Or.inr (own_sl21 hw))).keep Ku51 nin0).keep Ku76 (ninS ne84 nin0)) (Or.inr (own_sl38 hw))) (Or.inl ne88)).keep Ku125 (ninS ne84 nin0)) (Or.inr (own_sl38 hw))) (Or.inl ne88))
  obtain ⟨T160, X160, e160, st160⟩ := getF X154 hx hZ hown (host := "") (Or.inl (ww47 hw)) Via.refl u158 f159 (g := (mkF m 100 #[vR a1, vR a2, vR a3, vR b46, vR a65] [(.ref a1)])) rfl rfl (hb hby d7_100)
  have ne161 : b5 ≠ b46 := (own_n (own_t (own_t (own_t (own_t (own_t (own_t lt_b5 (Keep.of_wr W15).1) (Keep.of_wr W18).1) E28.1) (Keep.of_wr W31).1) E38.1) (Keep.of_wr W41).1) u49)
  have ne162 : b5 ≠ b28 := (own_n (own_t (own_t lt_b5 (Keep.of_wr W15).1) (Keep.of_wr W18).1) bd_b28)
  have f163 : Arv Z h150 b5 k5 .int (5 : Int32) [] (.int (0 : Int32)) := (((((((((((((V5.other W15 (Ne.symm (own_n lt_a1 bd_b5))).other W18 (Ne.symm (own_n lt_a1 bd_b5))).ext E28).other W31 (Ne.symm (own_n lt_a1 bd_b5))).ext E38).other W41 (Ne.symm (own_n lt_a1 bd_b5))).keep Ku51 nin0).keep Ku76 (ninS ne161 nin0)).other W95 (Ne.symm (own_n lt_a1 bd_b5))).other W105 ne162).keep Ku125 (ninS ne161 nin0)).other W141 (Ne.symm (own_n lt_a1 bd_b5))).other W150 ne162)
  have f164 : Exa Z h150 b5 "[I" := (Exa.wr W150 (Exa.wr W141 ((Exa.wr W105 (Exa.wr W95 (((Exa.wr W41 (Exa.ext E38 (Exa.wr W31 (Exa.ext E28 (Exa.wr W18 (Exa.wr W15 Ex5)))))).keep Ku51).keep Ku76))).keep Ku125)))
  obtain ⟨_, T165, L165, X165, hQ165, st165⟩ := own_cS X160 hx hZ hown (ww102 hw) (ww103 hw) (ww104 hw) (ww105 hw) (rm12_13 l Z a0 hw b5 k5 h150 n0 O150 f163 g_b5 f164) e160 pd_7 hml (hb hby d7_104) (Ls := #[vR a1, vR a2, vR a3, vR b46, vR a65]) (W := 0) (argsL := [(.ref b5), (.int (-1))]) (rest := [])
  obtain ⟨rfl, u167, Ku168, u169, u170⟩ := hQ165
  have Ou168 : Old Z n0 T165.heap := O150.keep Ku168 (allS g_b5 all0)
  have N165 := Fr.app N154 u167
  have f171 : Exa Z T165.heap a1 C_3 := ((Exa.wr W150 (Exa.wr W141 f140)).keep Ku168)
  have f172 : Fld Z T165.heap a1 C_3 "deck" "[I" (.ref b28) := ((Fld.other W150 (Fld.other W141 f133 (Or.inr (own_sl39 hw))) (Or.inl ne88)).keep Ku168 (ninS (own_n lt_a1 bd_b5) nin0))
  have f173 : Fld Z T165.heap a1 C_3 "deckSize" "I" (.int 2) := ((Fld.other W150 Fw141 (Or.inl ne88)).keep Ku168 (ninS (own_n lt_a1 bd_b5) nin0))
  have f174 : Fld Z T165.heap a1 C_3 "discard" "[I" (.ref b38) := ((Fld.other W150 (Fld.other W141 ((Fld.other W105 (Fld.other W95 ((Fw41.keep Ku51 nin0).keep Ku76 (ninS ne84 nin0)) (Or.inr (own_sl40 hw))) (Or.inl ne88)).keep Ku125 (ninS ne84 nin0)) (Or.inr (own_sl40 hw))) (Or.inl ne88)).keep Ku168 (ninS (own_n lt_a1 bd_b5) nin0))
  have f175 : Fld Z T165.heap a1 C_3 "discardSize" "I" (.int 0) := ((Fld.other W150 (Fld.other W141 ((Fld.other W105 (Fld.other W95 (((Fld.other W41 (Fld.ext E38 (Fld.other W31 (Fld.ext E28 (Fld.other W18 (Fld.other W15 (Fld.ext E5 F10) (Or.inr (own_sl27 hw))) (Or.inr (own_sl28 hw)))) (Or.inr (own_sl29 hw)))) (Or.inr (own_sl30 hw))).keep Ku51 nin0).keep Ku76 (ninS ne84 nin0)) (Or.inr (own_sl41 hw))) (Or.inl ne88)).keep Ku125 (ninS ne84 nin0)) (Or.inr (own_sl41 hw))) (Or.inl ne88)).keep Ku168 (ninS (own_n lt_a1 bd_b5) nin0))
  have f176 : Fld Z T165.heap a1 C_3 "generator" C_4 (.ref a3) := ((Fld.other W150 (Fld.other W141 ((Fld.other W105 (Fld.other W95 (((Fld.other W41 (Fld.ext E38 (Fld.other W31 (Fld.ext E28 Fw18) (Or.inr (own_sl31 hw)))) (Or.inr (own_sl32 hw))).keep Ku51 nin0).keep Ku76 (ninS ne84 nin0)) (Or.inr (own_sl42 hw))) (Or.inl ne88)).keep Ku125 (ninS ne84 nin0)) (Or.inr (own_sl42 hw))) (Or.inl ne88)).keep Ku168 (ninS (own_n lt_a1 bd_b5) nin0))
  have f177 : Fld Z T165.heap a1 C_3 "market" "[I" (.ref b5) := (f159.keep Ku168 (ninS (own_n lt_a1 bd_b5) nin0))
  have f178 : Exa Z T165.heap b28 "[I" := ((Exa.wr W150 (Exa.wr W141 ((Exa.wr W105 (Exa.wr W95 (((Exa.wr W41 (Exa.ext E38 (Exa.wr W31 Ex28))).keep Ku51).keep Ku76))).keep Ku125))).keep Ku168)
  have f179 : Arv Z T165.heap b28 k28 .int (2 : Int32) [(.int p142), (.int p96)] (.int (0 : Int32)) := (V150.keep Ku168 (ninS (Ne.symm ne162) nin0))
  have f180 : Exa Z T165.heap b38 "[I" := ((Exa.wr W150 (Exa.wr W141 ((Exa.wr W105 (Exa.wr W95 (((Exa.wr W41 Ex38).keep Ku51).keep Ku76))).keep Ku125))).keep Ku168)
  have ne181 : a1 ≠ b38 := (own_n (own_t (own_t (own_t (own_t (own_t lt_a1 E5.1) (Keep.of_wr W15).1) (Keep.of_wr W18).1) E28.1) (Keep.of_wr W31).1) bd_b38)
  have ne182 : b5 ≠ b38 := (own_n (own_t (own_t (own_t (own_t lt_b5 (Keep.of_wr W15).1) (Keep.of_wr W18).1) E28.1) (Keep.of_wr W31).1) bd_b38)
  have f183 : Arv Z T165.heap b38 k38 .int (2 : Int32) [] (.int (0 : Int32)) := (((((((((V38.other W41 (Ne.symm ne181)).keep Ku51 nin0).keep Ku76 (ninS (own_n (own_t lt_b38 (Keep.of_wr W41).1) u49) nin0)).other W95 (Ne.symm ne181)).other W105 (Ne.symm (own_n (own_t lt_b28 (Keep.of_wr W31).1) bd_b38))).keep Ku125 (ninS (own_n (own_t lt_b38 (Keep.of_wr W41).1) u49) nin0)).other W141 (Ne.symm ne181)).other W150 (Ne.symm (own_n (own_t lt_b28 (Keep.of_wr W31).1) bd_b38))).keep Ku168 (ninS (Ne.symm ne182) nin0))
  have lt184 : b28 < T165.heap.size := (own_t (own_t (own_t (own_t (own_t (own_t (own_t (own_t (own_t (own_t (own_t lt_b28 (Keep.of_wr W31).1) E38.1) (Keep.of_wr W41).1) Ku51.1) Ku76.1) (Keep.of_wr W95).1) (Keep.of_wr W105).1) Ku125.1) (Keep.of_wr W141).1) (Keep.of_wr W150).1) Ku168.1)
  have lt185 : b38 < T165.heap.size := (own_t (own_t (own_t (own_t (own_t (own_t (own_t (own_t (own_t lt_b38 (Keep.of_wr W41).1) Ku51.1) Ku76.1) (Keep.of_wr W95).1) (Keep.of_wr W105).1) Ku125.1) (Keep.of_wr W141).1) (Keep.of_wr W150).1) Ku168.1)
  have lt186 : b5 < T165.heap.size := (own_t (own_t (own_t (own_t (own_t (own_t (own_t (own_t (own_t (own_t (own_t (own_t (own_t (own_t lt_b5 (Keep.of_wr W15).1) (Keep.of_wr W18).1) E28.1) (Keep.of_wr W31).1) E38.1) (Keep.of_wr W41).1) Ku51.1) Ku76.1) (Keep.of_wr W95).1) (Keep.of_wr W105).1) Ku125.1) (Keep.of_wr W141).1) (Keep.of_wr W150).1) Ku168.1)
  refine fin none _ _ _ _ X165 (fun _ => rfl) (fun fs hr => pre0 _ ?_) ?_ (by decide) (by decide)
  · refine o_aloadN X0 hx hby d7_0 rfl rfl (st4 _ (o_aloadN X4 hx hby d7_4 rfl rfl (o_iconst X4 hx hby d7_5 (x := 5) rfl (st5 _ (st15 _ (o_aloadN X15 hx hby d7_11 rfl rfl (o_aloadN X15 hx hby d7_12 rfl rfl (st18 _ (o_aloadN X18 hx hby d7_16 rfl rfl (o_aloadN X18 hx hby d7_17 rfl rfl (st23 _ (st28 _ (st31 _ (o_aloadN X31 hx hby d7_28 rfl rfl (o_aloadN X31 hx hby d7_29 rfl rfl (st33 _ (st38 _ (st41 _ (o_aloadN X41 hx hby d7_40 rfl rfl (st44 _ (o_astoreN X44 hx hby d7_46 rfl (Ls' := #[vR a1, vR a2, vR a3, vR b46, .unset]) rfl (o_aloadN X44 hx hby d7_47 rfl rfl (st58 _ (o_ifN X58 hx hby d7_53 (by decide +kernel) (o_aloadN X58 hx hby d7_56 rfl rfl (st73 _ (st83 _ (o_astore X83 hx hby d7_65 rfl (Ls' := #[vR a1, vR a2, vR a3, vR b46, vR a64]) rfl (o_aloadN X83 hx hby d7_67 rfl rfl (st86 _ (o_aloadN X86 hx hby d7_71 rfl rfl (st87 _ (X87.arraylength hx (by rw [e87]; exact Ar91.1) (State.isArrayOf_alike hZ.alike Ar91.2.1) (g := (mkF m 75 #[vR a1, vR a2, vR a3, vR b46, vR a64] [(.ref b28), (.ref b28)])) rfl rfl (hb hby d7_75) _ ?_)))))))))))))))))))))))))))))))))
    rw [len_of Sz91 Nn91]
    refine o_iconst X87 hx hby d7_76 (x := 1) rfl (o_isub X87 hx hby d7_77 (z := (1 : Int32)) (by decide +kernel) (o_aloadN X87 hx hby d7_78 rfl rfl (o_dup X87 hx hby d7_79 rfl (st93 _ (o_dupX1 X93 hx hby d7_83 rfl rfl (o_iconst X93 hx hby d7_84 (x := 1) rfl (o_iadd X93 hx hby d7_85 (z := (1 : Int32)) (by decide +kernel) (st95 _ (o_isub X95 hx hby d7_89 (z := (1 : Int32)) (by decide +kernel) (o_aload X95 hx hby d7_90 rfl rfl (st98 _ (st105 _ (o_goto X105 hx hby d7_96 (pc := 96) (pc' := 47) (by decide) (by decide) (o_aloadN X105 hx hby d7_47 rfl rfl (st111 _ (o_ifN X111 hx hby d7_53 (by decide +kernel) (o_aloadN X111 hx hby d7_56 rfl rfl (st122 _ (st132 _ (o_astore X132 hx hby d7_65 rfl (Ls' := #[vR a1, vR a2, vR a3, vR b46, vR a65]) rfl (o_aloadN X132 hx hby d7_67 rfl rfl (st134 _ (o_aloadN X134 hx hby d7_71 rfl rfl (st135 _ (X135.arraylength hx (by rw [e135]; exact Ar137.1) (State.isArrayOf_alike hZ.alike Ar137.2.1) (g := (mkF m 75 #[vR a1, vR a2, vR a3, vR b46, vR a65] [(.ref b28), (.ref b28)])) rfl rfl (hb hby d7_75) _ ?_)))))))))))))))))))))))))
    rw [len_of Sz137 Nn137]
    refine o_iconst X135 hx hby d7_76 (x := 1) rfl (o_isub X135 hx hby d7_77 (z := (1 : Int32)) (by decide +kernel) (o_aloadN X135 hx hby d7_78 rfl rfl (o_dup X135 hx hby d7_79 rfl (st139 _ (o_dupX1 X139 hx hby d7_83 rfl rfl (o_iconst X139 hx hby d7_84 (x := 1) rfl (o_iadd X139 hx hby d7_85 (z := (2 : Int32)) (by decide +kernel) (st141 _ (o_isub X141 hx hby d7_89 (z := (0 : Int32)) (by decide +kernel) (o_aload X141 hx hby d7_90 rfl rfl (st144 _ (st150 _ (o_goto X150 hx hby d7_96 (pc := 96) (pc' := 47) (by decide) (by decide) (o_aloadN X150 hx hby d7_47 rfl rfl (st154 _ (o_ifY X154 hx hby d7_53 (pc := 53) (pc' := 99) (by decide +kernel) (by decide) (by decide) (o_aloadN X154 hx hby d7_99 rfl rfl (st160 _ (o_iconst X160 hx hby d7_103 (x := -1) rfl (st165 _ ?_))))))))))))))))))))
    exact X165.returnOut hx hret (hb hby d7_107) hr
  · exact ⟨b28, b38, b5, k28, k38, k5, rfl, N165, sz_b28, lt184, sz_b38, lt185, sz_b5, lt186, (own_n (own_t lt_b28 (Keep.of_wr W31).1) bd_b38), (Ne.symm ne162), (Ne.symm ne182), ((((((((((((((((Keep.refl h0 [a1]).ext E5).wr W15 (Or.inl (List.mem_of_getElem? (i := 0) rfl))).wr W18 (Or.inl (List.mem_of_getElem? (i := 0) rfl))).ext E28).wr W31 (Or.inl (List.mem_of_getElem? (i := 0) rfl))).ext E38).wr W41 (Or.inl (List.mem_of_getElem? (i := 0) rfl))).trans Ku51 all0).trans Ku76 (allS (Or.inr sz_b46) all0)).wr W95 (Or.inl (List.mem_of_getElem? (i := 0) rfl))).wr W105 (Or.inr sz_b28)).trans Ku125 (allS (Or.inr sz_b46) all0)).wr W141 (Or.inl (List.mem_of_getElem? (i := 0) rfl))).wr W150 (Or.inr sz_b28)).trans Ku168 (allS (Or.inr sz_b5) all0)), f171, f172, f173, f174, f175, f176, f177, f178, f179, f180, f183, u169, u170⟩
def Q16_52 (Z : State) (a1 : Addr) (h0 : Heap) (n0 : Nat) (v : Option Value) (h : Heap) (L : List Loc) : Prop := (v = some (.int 1) ∧ Fr n0 L ∧ h = h0)
theorem rm16_52 (l : Launch) (Z : State) (a0 : Array Value) (hw : own_HW Z a0) (a1 : Addr) (h0 : Heap) (n0 : Nat) (O0 : Old Z n0 h0) (F2 : Fld Z h0 a1 C_3 "deckSize" "I" (.int 2)) (F4 : Fld Z h0 a1 C_3 "discardSize" "I" (.int 0)) : own_Met l Z M_17 bc16 1 (some .boolean) ({ frames := 0, cells := 0, slots := 0, locals := 0 } : Room) #[(.ref a1)] h0 (Q16_52 Z a1 h0 n0) := by
  refine own_body (L0 := #[vR a1]) (plainFor_of_name pn_6) (fun m => by first | (simp [entryFrame, mkF, argsToLocals, Value.category]; done) | rfl) fun p e s m below meth c s₁ EN hx hby hml hown hnm hret X0 hZ e0 hh pre0 fin => ?_
  have N0 := Fr.nil n0
  obtain ⟨T3, X3, e3, st3⟩ := getF X0 hx hZ hown (host := "") (Or.inl (ww111 hw)) Via.refl e0 F2 (g := (mkF m 1 #[vR a1] [(.ref a1)])) rfl rfl (hb hby d16_1)
  obtain ⟨T5, X5, e5, st5⟩ := getF X3 hx hZ hown (host := "") (Or.inl (ww113 hw)) Via.refl e3 F4 (g := (mkF m 5 #[vR a1] [(.ref a1), (.int 2)])) rfl rfl (hb hby d16_5)
  refine fin (some (.int 1)) _ _ _ _ X5 nofun (fun fs hr => pre0 _ ?_) (own_atH e5 ?_) (by decide) (by decide)
  · refine o_aloadN X0 hx hby d16_0 rfl rfl (st3 _ (o_aloadN X3 hx hby d16_4 rfl rfl (st5 _ (o_iadd X5 hx hby d16_8 (z := (2 : Int32)) (by decide +kernel) (o_ifN X5 hx hby d16_9 (by decide +kernel) (o_iconst X5 hx hby d16_12 (x := 1) rfl (o_goto X5 hx hby d16_13 (pc := 13) (pc' := 17) (by decide) (by decide) ?_)))))))
    exact retN X5 hx (t := .boolean) hret (by simp) (hb hby d16_17) hr
  · exact ⟨rfl, N0, rfl⟩
def Q13_53 (Z : State) (a1 : Addr) (a4 : Addr) (a9 : Addr) (p11 : Int32) (a13 : Addr) (a15 : Addr) (p18 : Int32) (p19 : Int32) (k20 : ClassId) (h0 : Heap) (n0 : Nat) (v : Option Value) (h : Heap) (L : List Loc) : Prop := (v = some (.int p19) ∧ Fr n0 L ∧ Keep h0 h [a1] ∧ Exa Z h a1 C_3 ∧ Fld Z h a1 C_3 "deck" "[I" (.ref a4) ∧ Fld Z h a1 C_3 "deckSize" "I" (.int 1) ∧ Fld Z h a1 C_3 "discard" "[I" (.ref a9) ∧ Fld Z h a1 C_3 "discardSize" "I" (.int p11) ∧ Fld Z h a1 C_3 "generator" C_4 (.ref a13) ∧ Fld Z h a1 C_3 "market" "[I" (.ref a15))
theorem rm13_53 (l : Launch) (Z : State) (a0 : Array Value) (hw : own_HW Z a0) (a1 : Addr) (a4 : Addr) (a9 : Addr) (p11 : Int32) (a13 : Addr) (a15 : Addr) (p18 : Int32) (p19 : Int32) (k20 : ClassId) (h0 : Heap) (n0 : Nat) (O0 : Old Z n0 h0) (F2 : Fld Z h0 a1 C_3 "deckSize" "I" (.int 2)) (F5 : Fld Z h0 a1 C_3 "deck" "[I" (.ref a4)) (E_8 : Exa Z h0 a1 C_3) (F10 : Fld Z h0 a1 C_3 "discard" "[I" (.ref a9)) (F12 : Fld Z h0 a1 C_3 "discardSize" "I" (.int p11)) (F14 : Fld Z h0 a1 C_3 "generator" C_4 (.ref a13)) (F16 : Fld Z h0 a1 C_3 "market" "[I" (.ref a15)) (g_a1 : n0 ≤ a1) (V21 : Arv Z h0 a4 k20 .int (2 : Int32) [(.int p18), (.int p19)] (.int (0 : Int32))) (hne22 : a4 ≠ a1) : own_Met l Z M_14 bc13 1 (some .int) ({ frames := 0, cells := 0, slots := 0, locals := 0 } : Room) #[(.ref a1)] h0 (Q13_53 Z a1 a4 a9 p11 a13 a15 p18 p19 k20 h0 n0) := by
  refine own_body (L0 := #[vR a1]) (plainFor_of_name pn_6) (fun m => by first | (simp [entryFrame, mkF, argsToLocals, Value.category]; done) | rfl) fun p e s m below meth c s₁ EN hx hby hml hown hnm hret X0 hZ e0 hh pre0 fin => ?_
  have N0 := Fr.nil n0
  obtain ⟨T3, X3, e3, st3⟩ := getF X0 hx hZ hown (host := "") (Or.inl (ww111 hw)) Via.refl e0 F2 (g := (mkF m 1 #[vR a1] [(.ref a1)])) rfl rfl (hb hby d13_1)
  obtain ⟨T6, X6, e6, st6⟩ := getF X3 hx hZ hown (host := "") (Or.inl (ww62 hw)) Via.refl e3 F5 (g := (mkF m 62 #[vR a1] [(.ref a1)])) rfl rfl (hb hby d13_62)
  obtain ⟨T7, X7, e7, st7⟩ := getF X6 hx hZ hown (host := "") (Or.inl (ww111 hw)) Via.refl e6 F2 (g := (mkF m 67 #[vR a1] [(.ref a1), (.ref a1), (.ref a4)])) rfl rfl (hb hby d13_67)
  obtain ⟨T17, h17, X17, e17, W17, st17⟩ := putF X7 hx hZ hown (host := "") (Or.inl (ww111 hw)) Via.refl e7 F2 E_8 (Or.inl (ww112 hw)) (ww31 hw) (ty := .int) (by decide) rfl rfl (g := (mkF m 73 #[vR a1] [(.int 1), (.ref a1), (.int 1), (.ref a4)])) rfl rfl (hb hby d13_73)
  have O17 : Old Z n0 h17 := O0.wr W17 g_a1
  have Fw17 : Fld Z h17 a1 C_3 "deckSize" "I" (.int 1) := Fld.same W17 F2
  have N17 := Fr.snoc X17 N0 g_a1
  have f23 : Arv Z h17 a4 k20 .int (2 : Int32) [(.int p18), (.int p19)] (.int (0 : Int32)) := (V21.other W17 hne22)
  obtain ⟨cl24, Ar24, -, Sz24, -, Hh24, -⟩ := id f23
  have hin24 : ¬ ((1 : Int32) < 0 ∨ cl24.slots.size ≤ ((1 : Int32)).toNatClampNeg) := inb_of Sz24 ⟨by decide +kernel, by decide +kernel⟩
  have hat24 : cl24.slots[((1 : Int32)).toNatClampNeg]? = some (.int p19) := Has.at Hh24 hin24 rfl
  have f25 : Exa Z h17 a1 C_3 := (Exa.wr W17 E_8)
  have f26 : Fld Z h17 a1 C_3 "deck" "[I" (.ref a4) := (Fld.other W17 F5 (Or.inr (own_sl39 hw)))
  have f27 : Fld Z h17 a1 C_3 "discard" "[I" (.ref a9) := (Fld.other W17 F10 (Or.inr (own_sl40 hw)))
  have f28 : Fld Z h17 a1 C_3 "discardSize" "I" (.int p11) := (Fld.other W17 F12 (Or.inr (own_sl41 hw)))
  have f29 : Fld Z h17 a1 C_3 "generator" C_4 (.ref a13) := (Fld.other W17 F14 (Or.inr (own_sl42 hw)))
  have f30 : Fld Z h17 a1 C_3 "market" "[I" (.ref a15) := (Fld.other W17 F16 (Or.inr (own_sl38 hw)))
  refine fin (some (.int p19)) _ _ _ _ X17 nofun (fun fs hr => pre0 _ ?_) (own_atH e17 ?_) (by decide) (by decide)
  · refine o_aloadN X0 hx hby d13_0 rfl rfl (st3 _ (o_ifY X3 hx hby d13_4 (pc := 4) (pc' := 61) (by decide +kernel) (by decide) (by decide) (o_aloadN X3 hx hby d13_61 rfl rfl (st6 _ (o_aloadN X6 hx hby d13_65 rfl rfl (o_dup X6 hx hby d13_66 rfl (st7 _ (o_iconst X7 hx hby d13_70 (x := 1) rfl (o_isub X7 hx hby d13_71 (z := (1 : Int32)) (by decide +kernel) (o_dupX1 X7 hx hby d13_72 rfl rfl (st17 _ (X17.iaload hx (j := (1 : Int32)) (v := (.int p19)) (by rw [e17]; exact Ar24.1) (State.isArrayOf_alike hZ.alike Ar24.2.1) Ar24.2.2 hin24 hat24 (g := (mkF m 76 #[vR a1] [(.int 1), (.ref a4)])) rfl rfl (hb hby d13_76) _ ?_))))))))))))
    exact retI X17 hx hret (hb hby d13_77) hr
  · exact ⟨rfl, N17, ((Keep.refl h0 [a1]).wr W17 (Or.inl (List.mem_of_getElem? (i := 0) rfl))), f25, f26, Fw17, f27, f28, f29, f30⟩
def Q13_54 (Z : State) (a1 : Addr) (a4 : Addr) (a9 : Addr) (p11 : Int32) (a13 : Addr) (a15 : Addr) (p18 : Int32) (p19 : Int32) (k20 : ClassId) (h0 : Heap) (n0 : Nat) (v : Option Value) (h : Heap) (L : List Loc) : Prop := (v = some (.int p18) ∧ Fr n0 L ∧ Keep h0 h [a1] ∧ Exa Z h a1 C_3 ∧ Fld Z h a1 C_3 "deck" "[I" (.ref a4) ∧ Fld Z h a1 C_3 "deckSize" "I" (.int 0) ∧ Fld Z h a1 C_3 "discard" "[I" (.ref a9) ∧ Fld Z h a1 C_3 "discardSize" "I" (.int p11) ∧ Fld Z h a1 C_3 "generator" C_4 (.ref a13) ∧ Fld Z h a1 C_3 "market" "[I" (.ref a15))
theorem rm13_54 (l : Launch) (Z : State) (a0 : Array Value) (hw : own_HW Z a0) (a1 : Addr) (a4 : Addr) (a9 : Addr) (p11 : Int32) (a13 : Addr) (a15 : Addr) (p18 : Int32) (p19 : Int32) (k20 : ClassId) (h0 : Heap) (n0 : Nat) (O0 : Old Z n0 h0) (F2 : Fld Z h0 a1 C_3 "deckSize" "I" (.int 1)) (F5 : Fld Z h0 a1 C_3 "deck" "[I" (.ref a4)) (E_8 : Exa Z h0 a1 C_3) (F10 : Fld Z h0 a1 C_3 "discard" "[I" (.ref a9)) (F12 : Fld Z h0 a1 C_3 "discardSize" "I" (.int p11)) (F14 : Fld Z h0 a1 C_3 "generator" C_4 (.ref a13)) (F16 : Fld Z h0 a1 C_3 "market" "[I" (.ref a15)) (g_a1 : n0 ≤ a1) (V21 : Arv Z h0 a4 k20 .int (2 : Int32) [(.int p18), (.int p19)] (.int (0 : Int32))) (hne22 : a4 ≠ a1) : own_Met l Z M_14 bc13 1 (some .int) ({ frames := 0, cells := 0, slots := 0, locals := 0 } : Room) #[(.ref a1)] h0 (Q13_54 Z a1 a4 a9 p11 a13 a15 p18 p19 k20 h0 n0) := by
  refine own_body (L0 := #[vR a1]) (plainFor_of_name pn_6) (fun m => by first | (simp [entryFrame, mkF, argsToLocals, Value.category]; done) | rfl) fun p e s m below meth c s₁ EN hx hby hml hown hnm hret X0 hZ e0 hh pre0 fin => ?_
  have N0 := Fr.nil n0
  obtain ⟨T3, X3, e3, st3⟩ := getF X0 hx hZ hown (host := "") (Or.inl (ww111 hw)) Via.refl e0 F2 (g := (mkF m 1 #[vR a1] [(.ref a1)])) rfl rfl (hb hby d13_1)
  obtain ⟨T6, X6, e6, st6⟩ := getF X3 hx hZ hown (host := "") (Or.inl (ww62 hw)) Via.refl e3 F5 (g := (mkF m 62 #[vR a1] [(.ref a1)])) rfl rfl (hb hby d13_62)
  obtain ⟨T7, X7, e7, st7⟩ := getF X6 hx hZ hown (host := "") (Or.inl (ww111 hw)) Via.refl e6 F2 (g := (mkF m 67 #[vR a1] [(.ref a1), (.ref a1), (.ref a4)])) rfl rfl (hb hby d13_67)
  obtain ⟨T17, h17, X17, e17, W17, st17⟩ := putF X7 hx hZ hown (host := "") (Or.inl (ww111 hw)) Via.refl e7 F2 E_8 (Or.inl (ww112 hw)) (ww31 hw) (ty := .int) (by decide) rfl rfl (g := (mkF m 73 #[vR a1] [(.int 0), (.ref a1), (.int 0), (.ref a4)])) rfl rfl (hb hby d13_73)
  have O17 : Old Z n0 h17 := O0.wr W17 g_a1
  have Fw17 : Fld Z h17 a1 C_3 "deckSize" "I" (.int 0) := Fld.same W17 F2
  have N17 := Fr.snoc X17 N0 g_a1
  have f23 : Arv Z h17 a4 k20 .int (2 : Int32) [(.int p18), (.int p19)] (.int (0 : Int32)) := (V21.other W17 hne22)
  obtain ⟨cl24, Ar24, -, Sz24, -, Hh24, -⟩ := id f23
  have hin24 : ¬ ((0 : Int32) < 0 ∨ cl24.slots.size ≤ ((0 : Int32)).toNatClampNeg) := inb_of Sz24 ⟨by decide +kernel, by decide +kernel⟩
  have hat24 : cl24.slots[((0 : Int32)).toNatClampNeg]? = some (.int p18) := Has.at Hh24 hin24 rfl
  have f25 : Exa Z h17 a1 C_3 := (Exa.wr W17 E_8)
  have f26 : Fld Z h17 a1 C_3 "deck" "[I" (.ref a4) := (Fld.other W17 F5 (Or.inr (own_sl39 hw)))
  have f27 : Fld Z h17 a1 C_3 "discard" "[I" (.ref a9) := (Fld.other W17 F10 (Or.inr (own_sl40 hw)))
  have f28 : Fld Z h17 a1 C_3 "discardSize" "I" (.int p11) := (Fld.other W17 F12 (Or.inr (own_sl41 hw)))
  have f29 : Fld Z h17 a1 C_3 "generator" C_4 (.ref a13) := (Fld.other W17 F14 (Or.inr (own_sl42 hw)))
  have f30 : Fld Z h17 a1 C_3 "market" "[I" (.ref a15) := (Fld.other W17 F16 (Or.inr (own_sl38 hw)))
  refine fin (some (.int p18)) _ _ _ _ X17 nofun (fun fs hr => pre0 _ ?_) (own_atH e17 ?_) (by decide) (by decide)
  · refine o_aloadN X0 hx hby d13_0 rfl rfl (st3 _ (o_ifY X3 hx hby d13_4 (pc := 4) (pc' := 61) (by decide +kernel) (by decide) (by decide) (o_aloadN X3 hx hby d13_61 rfl rfl (st6 _ (o_aloadN X6 hx hby d13_65 rfl rfl (o_dup X6 hx hby d13_66 rfl (st7 _ (o_iconst X7 hx hby d13_70 (x := 1) rfl (o_isub X7 hx hby d13_71 (z := (0 : Int32)) (by decide +kernel) (o_dupX1 X7 hx hby d13_72 rfl rfl (st17 _ (X17.iaload hx (j := (0 : Int32)) (v := (.int p18)) (by rw [e17]; exact Ar24.1) (State.isArrayOf_alike hZ.alike Ar24.2.1) Ar24.2.2 hin24 hat24 (g := (mkF m 76 #[vR a1] [(.int 0), (.ref a4)])) rfl rfl (hb hby d13_76) _ ?_))))))))))))
    exact retI X17 hx hret (hb hby d13_77) hr
  · exact ⟨rfl, N17, ((Keep.refl h0 [a1]).wr W17 (Or.inl (List.mem_of_getElem? (i := 0) rfl))), f25, f26, Fw17, f27, f28, f29, f30⟩
def Q15_55 (Z : State) (a1 : Addr) (a2 : Addr) (a3 : Addr) (a9 : Addr) (p11 : Int32) (a13 : Addr) (a15 : Addr) (p19 : Int32) (k25 : ClassId) (h0 : Heap) (n0 : Nat) (v : Option Value) (h : Heap) (L : List Loc) : Prop := (v = none ∧ Fr n0 L ∧ Keep h0 h [a1, a3] ∧ Exa Z h a1 C_3 ∧ Fld Z h a1 C_3 "deck" "[I" (.ref a9) ∧ Fld Z h a1 C_3 "deckSize" "I" (.int p11) ∧ Fld Z h a1 C_3 "discard" "[I" (.ref a3) ∧ Fld Z h a1 C_3 "discardSize" "I" (.int 1) ∧ Fld Z h a1 C_3 "generator" C_4 (.ref a13) ∧ Fld Z h a1 C_3 "market" "[I" (.ref a15) ∧ Exa Z h a3 "[I" ∧ Arv Z h a3 k25 .int (2 : Int32) [(.int p19)] (.int (0 : Int32)))
theorem rm15_55 (l : Launch) (Z : State) (a0 : Array Value) (hw : own_HW Z a0) (a1 : Addr) (a2 : Addr) (a3 : Addr) (a9 : Addr) (p11 : Int32) (a13 : Addr) (a15 : Addr) (p19 : Int32) (k25 : ClassId) (h0 : Heap) (n0 : Nat) (O0 : Old Z n0 h0) (F4 : Fld Z h0 a1 C_3 "discard" "[I" (.ref a3)) (F6 : Fld Z h0 a1 C_3 "discardSize" "I" (.int 0)) (E_8 : Exa Z h0 a1 C_3) (F10 : Fld Z h0 a1 C_3 "deck" "[I" (.ref a9)) (F12 : Fld Z h0 a1 C_3 "deckSize" "I" (.int p11)) (F14 : Fld Z h0 a1 C_3 "generator" C_4 (.ref a13)) (F16 : Fld Z h0 a1 C_3 "market" "[I" (.ref a15)) (g_a1 : n0 ≤ a1) (E_18 : Exa Z Z.heap a2 C_8) (F20 : Fld Z Z.heap a2 C_10 "ordinal" "I" (.int p19)) (V26 : Arv Z h0 a3 k25 .int (2 : Int32) [] (.int (0 : Int32))) (hne27 : a3 ≠ a1) (g_a3 : n0 ≤ a3) (E_32 : Exa Z h0 a3 "[I") : own_Met l Z M_16 bc15 4 none ({ frames := 1, cells := 0, slots := 0, locals := 14 } : Room) #[(.ref a1), (.ref a2), (.int 1)] h0 (Q15_55 Z a1 a2 a3 a9 p11 a13 a15 p19 k25 h0 n0) := by
  refine own_body (L0 := #[vR a1, vR a2, vI 1, .unset]) (plainFor_of_name pn_6) (fun m => by first | (simp [entryFrame, mkF, argsToLocals, Value.category]; done) | rfl) fun p e s m below meth c s₁ EN hx hby hml hown hnm hret X0 hZ e0 hh pre0 fin => ?_
  have N0 := Fr.nil n0
  obtain ⟨T5, X5, e5, st5⟩ := getF X0 hx hZ hown (host := "") (Or.inl (ww64 hw)) Via.refl e0 F4 (g := (mkF m 8 #[vR a1, vR a2, vI 1, vI 0] [(.ref a1)])) rfl rfl (hb hby d15_8)
  obtain ⟨T7, X7, e7, st7⟩ := getF X5 hx hZ hown (host := "") (Or.inl (ww113 hw)) Via.refl e5 F6 (g := (mkF m 13 #[vR a1, vR a2, vI 1, vI 0] [(.ref a1), (.ref a1), (.ref a3)])) rfl rfl (hb hby d15_13)
  obtain ⟨T17, h17, X17, e17, W17, st17⟩ := putF X7 hx hZ hown (host := "") (Or.inl (ww113 hw)) Via.refl e7 F6 E_8 (Or.inl (ww114 hw)) (ww31 hw) (ty := .int) (by decide) rfl rfl (g := (mkF m 19 #[vR a1, vR a2, vI 1, vI 0] [(.int 1), (.ref a1), (.int 0), (.ref a3)])) rfl rfl (hb hby d15_19)
  have O17 : Old Z n0 h17 := O0.wr W17 g_a1
  have Fw17 : Fld Z h17 a1 C_3 "discardSize" "I" (.int 1) := Fld.same W17 F6
  have N17 := Fr.snoc X17 N0 g_a1
  obtain ⟨_, T21, L21, X21, hQ21, st21⟩ := own_cU X17 hx hZ hown (ww177 hw) (ww178 hw) (ww179 hw) (ww181 hw) (ww180 hw) (ww182 hw) (ww183 hw) (Exa.ext O17.2 E_18) (rm24_31 l Z a0 hw a2 p19 h17 n0 O17 F20) e17 pd_3 hml (hb hby d15_23) (Ls := #[vR a1, vR a2, vI 1, vI 0]) (W := 2) (argsL := []) (rest := [(.int 0), (.ref a3)])
  obtain ⟨rfl, u23, u24⟩ := hQ21
  have N21 := Fr.app N17 u23
  have f28 : Arv Z h17 a3 k25 .int (2 : Int32) [] (.int (0 : Int32)) := (V26.other W17 hne27)
  have Vp29 : Arv Z h17 a3 k25 .int (2 : Int32) [(.int 0)] (.int (0 : Int32)) := f28.pad (pad_rep [] (.int (0 : Int32)) 1)
  obtain ⟨cl30, Ar30, qk30, Sz30, Nn30, Hh30, Gg30⟩ := id Vp29
  have hin30 : ¬ ((0 : Int32) < 0 ∨ cl30.slots.size ≤ ((0 : Int32)).toNatClampNeg) := inb_of Sz30 ⟨by decide +kernel, by decide +kernel⟩
  obtain ⟨T31, h31, X31, e31, W31, st31⟩ := stI X21 hx hZ u24 Ar30 (j := (0 : Int32)) hin30 (g := (mkF m 26 #[vR a1, vR a2, vI 1, vI 0] [(.int p19), (.int 0), (.ref a3)])) rfl rfl (hb hby d15_26)
  have O31 : Old Z n0 h31 := O17.wr W31 g_a3
  have V31 : Arv Z h31 a3 k25 .int (2 : Int32) [(.int p19)] (.int (0 : Int32)) := Arv.set Ar30 qk30 Sz30 Nn30 Hh30 Gg30 rfl W31 0 rfl (Nat.le_of_ble_eq_true rfl)
  have N31 := Fr.snoc X31 N21 g_a3
  have f33 : Exa Z h31 a1 C_3 := (Exa.wr W31 (Exa.wr W17 E_8))
  have f34 : Fld Z h31 a1 C_3 "deck" "[I" (.ref a9) := (Fld.other W31 (Fld.other W17 F10 (Or.inr (own_sl43 hw))) (Or.inl (Ne.symm hne27)))
  have f35 : Fld Z h31 a1 C_3 "deckSize" "I" (.int p11) := (Fld.other W31 (Fld.other W17 F12 (Or.inr (own_sl44 hw))) (Or.inl (Ne.symm hne27)))
  have f36 : Fld Z h31 a1 C_3 "discard" "[I" (.ref a3) := (Fld.other W31 (Fld.other W17 F4 (Or.inr (own_sl45 hw))) (Or.inl (Ne.symm hne27)))
  have f37 : Fld Z h31 a1 C_3 "discardSize" "I" (.int 1) := (Fld.other W31 Fw17 (Or.inl (Ne.symm hne27)))
  have f38 : Fld Z h31 a1 C_3 "generator" C_4 (.ref a13) := (Fld.other W31 (Fld.other W17 F14 (Or.inr (own_sl46 hw))) (Or.inl (Ne.symm hne27)))
  have f39 : Fld Z h31 a1 C_3 "market" "[I" (.ref a15) := (Fld.other W31 (Fld.other W17 F16 (Or.inr (own_sl47 hw))) (Or.inl (Ne.symm hne27)))
  have f40 : Exa Z h31 a3 "[I" := (Exa.wr W31 (Exa.wr W17 E_32))
  refine fin none _ _ _ _ X31 (fun _ => rfl) (fun fs hr => pre0 _ ?_) (own_atH e31 ?_) (by decide) (by decide)
  · refine o_iconst X0 hx hby d15_0 (x := 0) rfl (o_istoreN X0 hx hby d15_1 (Ls' := #[vR a1, vR a2, vI 1, vI 0]) rfl (o_iloadN X0 hx hby d15_2 rfl (o_iloadN X0 hx hby d15_3 rfl (o_icmpN X0 hx hby d15_4 (by decide +kernel) (o_aloadN X0 hx hby d15_7 rfl rfl (st5 _ (o_aloadN X5 hx hby d15_11 rfl rfl (o_dup X5 hx hby d15_12 rfl (st7 _ (o_dupX1 X7 hx hby d15_16 rfl rfl (o_iconst X7 hx hby d15_17 (x := 1) rfl (o_iadd X7 hx hby d15_18 (z := (1 : Int32)) (by decide +kernel) (st17 _ (o_aloadN X17 hx hby d15_22 rfl rfl (st21 _ (st31 _ (o_iinc X31 hx hby d15_27 rfl (z := (1 : Int32)) (k' := 1) rfl (by decide +kernel) (Ls' := #[vR a1, vR a2, vI 1, vI 1]) rfl (o_goto X31 hx hby d15_30 (pc := 30) (pc' := 2) (by decide) (by decide) (o_iloadN X31 hx hby d15_2 rfl (o_iloadN X31 hx hby d15_3 rfl (o_icmpY X31 hx hby d15_4 (pc := 4) (pc' := 33) (by decide +kernel) (by decide) (by decide) ?_)))))))))))))))))))))
    exact X31.returnOut hx hret (hb hby d15_33) hr
  · exact ⟨rfl, N31, (((Keep.refl h0 [a1, a3]).wr W17 (Or.inl (List.mem_of_getElem? (i := 0) rfl))).wr W31 (Or.inl (List.mem_of_getElem? (i := 1) rfl))), f33, f34, f35, f36, f37, f38, f39, f40, V31⟩
def Q16_56 (Z : State) (a1 : Addr) (h0 : Heap) (n0 : Nat) (v : Option Value) (h : Heap) (L : List Loc) : Prop := (v = some (.int 1) ∧ Fr n0 L ∧ h = h0)
theorem rm16_56 (l : Launch) (Z : State) (a0 : Array Value) (hw : own_HW Z a0) (a1 : Addr) (h0 : Heap) (n0 : Nat) (O0 : Old Z n0 h0) (F2 : Fld Z h0 a1 C_3 "deckSize" "I" (.int 1)) (F4 : Fld Z h0 a1 C_3 "discardSize" "I" (.int 1)) : own_Met l Z M_17 bc16 1 (some .boolean) ({ frames := 0, cells := 0, slots := 0, locals := 0 } : Room) #[(.ref a1)] h0 (Q16_56 Z a1 h0 n0) := by
  refine own_body (L0 := #[vR a1]) (plainFor_of_name pn_6) (fun m => by first | (simp [entryFrame, mkF, argsToLocals, Value.category]; done) | rfl) fun p e s m below meth c s₁ EN hx hby hml hown hnm hret X0 hZ e0 hh pre0 fin => ?_
  have N0 := Fr.nil n0
  obtain ⟨T3, X3, e3, st3⟩ := getF X0 hx hZ hown (host := "") (Or.inl (ww111 hw)) Via.refl e0 F2 (g := (mkF m 1 #[vR a1] [(.ref a1)])) rfl rfl (hb hby d16_1)
  obtain ⟨T5, X5, e5, st5⟩ := getF X3 hx hZ hown (host := "") (Or.inl (ww113 hw)) Via.refl e3 F4 (g := (mkF m 5 #[vR a1] [(.ref a1), (.int 1)])) rfl rfl (hb hby d16_5)
  refine fin (some (.int 1)) _ _ _ _ X5 nofun (fun fs hr => pre0 _ ?_) (own_atH e5 ?_) (by decide) (by decide)
  · refine o_aloadN X0 hx hby d16_0 rfl rfl (st3 _ (o_aloadN X3 hx hby d16_4 rfl rfl (st5 _ (o_iadd X5 hx hby d16_8 (z := (2 : Int32)) (by decide +kernel) (o_ifN X5 hx hby d16_9 (by decide +kernel) (o_iconst X5 hx hby d16_12 (x := 1) rfl (o_goto X5 hx hby d16_13 (pc := 13) (pc' := 17) (by decide) (by decide) ?_)))))))
    exact retN X5 hx (t := .boolean) hret (by simp) (hb hby d16_17) hr
  · exact ⟨rfl, N0, rfl⟩
def Q13_57 (Z : State) (a1 : Addr) (a6 : Addr) (a9 : Addr) (p13 : Int32) (k14 : ClassId) (p16 : Int32) (p17 : Int32) (k18 : ClassId) (a26 : Addr) (a28 : Addr) (h0 : Heap) (n0 : Nat) (v : Option Value) (h : Heap) (L : List Loc) : Prop := (v = some (.int p13) ∧ Fr n0 L ∧ Keep h0 h [a9, a1] ∧ Exa Z h a9 "[I" ∧ Arv Z h a9 k18 .int (2 : Int32) [(.int p13), (.int p17)] (.int (0 : Int32)) ∧ Exa Z h a1 C_3 ∧ Fld Z h a1 C_3 "deck" "[I" (.ref a9) ∧ Fld Z h a1 C_3 "deckSize" "I" (.int 0) ∧ Fld Z h a1 C_3 "discard" "[I" (.ref a6) ∧ Fld Z h a1 C_3 "discardSize" "I" (.int 0) ∧ Fld Z h a1 C_3 "generator" C_4 (.ref a26) ∧ Fld Z h a1 C_3 "market" "[I" (.ref a28))
theorem rm13_57 (l : Launch) (Z : State) (a0 : Array Value) (hw : own_HW Z a0) (a1 : Addr) (a6 : Addr) (a9 : Addr) (p13 : Int32) (k14 : ClassId) (p16 : Int32) (p17 : Int32) (k18 : ClassId) (a26 : Addr) (a28 : Addr) (h0 : Heap) (n0 : Nat) (O0 : Old Z n0 h0) (F2 : Fld Z h0 a1 C_3 "deckSize" "I" (.int 0)) (F4 : Fld Z h0 a1 C_3 "discardSize" "I" (.int 1)) (F7 : Fld Z h0 a1 C_3 "discard" "[I" (.ref a6)) (F10 : Fld Z h0 a1 C_3 "deck" "[I" (.ref a9)) (V15 : Arv Z h0 a6 k14 .int (2 : Int32) [(.int p13)] (.int (0 : Int32))) (V19 : Arv Z h0 a9 k18 .int (2 : Int32) [(.int p16), (.int p17)] (.int (0 : Int32))) (E_20 : Exa Z h0 a9 "[I") (g_a9 : n0 ≤ a9) (hne22 : a1 ≠ a9) (E_25 : Exa Z h0 a1 C_3) (F27 : Fld Z h0 a1 C_3 "generator" C_4 (.ref a26)) (F29 : Fld Z h0 a1 C_3 "market" "[I" (.ref a28)) (g_a1 : n0 ≤ a1) (E_42 : Exa Z h0 a26 C_5) : own_Met l Z M_14 bc13 1 (some .int) ({ frames := 1, cells := 0, slots := 0, locals := 18 } : Room) #[(.ref a1)] h0 (Q13_57 Z a1 a6 a9 p13 k14 p16 p17 k18 a26 a28 h0 n0) := by
  refine own_body (L0 := #[vR a1]) (plainFor_of_name pn_6) (fun m => by first | (simp [entryFrame, mkF, argsToLocals, Value.category]; done) | rfl) fun p e s m below meth c s₁ EN hx hby hml hown hnm hret X0 hZ e0 hh pre0 fin => ?_
  have N0 := Fr.nil n0
  obtain ⟨T3, X3, e3, st3⟩ := getF X0 hx hZ hown (host := "") (Or.inl (ww111 hw)) Via.refl e0 F2 (g := (mkF m 1 #[vR a1] [(.ref a1)])) rfl rfl (hb hby d13_1)
  obtain ⟨T5, X5, e5, st5⟩ := getF X3 hx hZ hown (host := "") (Or.inl (ww113 hw)) Via.refl e3 F4 (g := (mkF m 8 #[vR a1] [(.ref a1)])) rfl rfl (hb hby d13_8)
  obtain ⟨T8, X8, e8, st8⟩ := getF X5 hx hZ hown (host := "") (Or.inl (ww64 hw)) Via.refl e5 F7 (g := (mkF m 17 #[vR a1] [(.ref a1)])) rfl rfl (hb hby d13_17)
  obtain ⟨T11, X11, e11, st11⟩ := getF X8 hx hZ hown (host := "") (Or.inl (ww62 hw)) Via.refl e8 F10 (g := (mkF m 22 #[vR a1] [(.ref a1), (.int 0), (.ref a6)])) rfl rfl (hb hby d13_22)
  obtain ⟨T12, X12, e12, st12⟩ := getF X11 hx hZ hown (host := "") (Or.inl (ww113 hw)) Via.refl e11 F4 (g := (mkF m 27 #[vR a1] [(.ref a1), (.int 0), (.ref a9), (.int 0), (.ref a6)])) rfl rfl (hb hby d13_27)
  obtain ⟨T21, h21, L21, X21, e21, N21, Ku21, V21, st21⟩ := cpA X12 hx hZ hown (ww186 hw) (ww189 hw) (ww187 hw) (ww188 hw) e12 (sp := (0 : Int32)) (dp := (0 : Int32)) (nn := (1 : Int32)) (us := [(.int p13)]) V15 V19 (Or.inl ⟨rfl, rfl⟩) (by decide +kernel) (by decide +kernel) (by decide +kernel) (by decide +kernel) (by decide +kernel) rfl (Nat.le_of_ble_eq_true rfl) N0 g_a9 (g := (mkF m 30 #[vR a1] [(.int 1), (.int 0), (.ref a9), (.int 0), (.ref a6)])) rfl (by rw [hml]; rfl) rfl (hb hby d13_30) (by decide) (W := 0) (by show 2 * 0 + _ ≤ _; exact Nat.le_of_eq rfl) (by decide +kernel)
  have Ou21 : Old Z n0 h21 := O0.keep Ku21 (allS g_a9 all0)
  have Vc21 : Arv Z h21 a9 k18 .int (2 : Int32) [(.int p13), (.int p17)] (.int (0 : Int32)) := V21
  have f23 : Fld Z h21 a1 C_3 "discardSize" "I" (.int 1) := (F4.keep Ku21 (ninS hne22 nin0))
  obtain ⟨T24, X24, e24, st24⟩ := getF X21 hx hZ hown (host := "") (Or.inl (ww113 hw)) Via.refl e21 f23 (g := (mkF m 35 #[vR a1] [(.ref a1), (.ref a1)])) rfl rfl (hb hby d13_35)
  have f30 : Fld Z h21 a1 C_3 "deckSize" "I" (.int 0) := (F2.keep Ku21 (ninS hne22 nin0))
  have f31 : Exa Z h21 a1 C_3 := (E_25.keep Ku21)
  obtain ⟨T32, h32, X32, e32, W32, st32⟩ := putF X24 hx hZ hown (host := "") (Or.inl (ww111 hw)) Via.refl e24 f30 f31 (Or.inl (ww112 hw)) (ww31 hw) (ty := .int) (by decide) rfl rfl (g := (mkF m 38 #[vR a1] [(.int 1), (.ref a1)])) rfl rfl (hb hby d13_38)
  have O32 : Old Z n0 h32 := Ou21.wr W32 g_a1
  have Fw32 : Fld Z h32 a1 C_3 "deckSize" "I" (.int 1) := Fld.same W32 f30
  have N32 := Fr.snoc X32 N21 g_a1
  have f33 : Fld Z h32 a1 C_3 "discardSize" "I" (.int 1) := (Fld.other W32 f23 (Or.inr (own_sl41 hw)))
  have f34 : Exa Z h32 a1 C_3 := (Exa.wr W32 f31)
  obtain ⟨T35, h35, X35, e35, W35, st35⟩ := putF X32 hx hZ hown (host := "") (Or.inl (ww113 hw)) Via.refl e32 f33 f34 (Or.inl (ww114 hw)) (ww31 hw) (ty := .int) (by decide) rfl rfl (g := (mkF m 43 #[vR a1] [(.int 0), (.ref a1)])) rfl rfl (hb hby d13_43)
  have O35 : Old Z n0 h35 := O32.wr W35 g_a1
  have Fw35 : Fld Z h35 a1 C_3 "discardSize" "I" (.int 0) := Fld.same W35 f33
  have N35 := Fr.snoc X35 N32 g_a1
  have f36 : Fld Z h35 a1 C_3 "generator" C_4 (.ref a26) := (Fld.other W35 (Fld.other W32 (F27.keep Ku21 (ninS hne22 nin0)) (Or.inr (own_sl42 hw))) (Or.inr (own_sl46 hw)))
  obtain ⟨T37, X37, e37, st37⟩ := getF X35 hx hZ hown (host := "") (Or.inl (ww49 hw)) Via.refl e35 f36 (g := (mkF m 47 #[vR a1] [(.ref a1)])) rfl rfl (hb hby d13_47)
  have f38 : Fld Z h35 a1 C_3 "deck" "[I" (.ref a9) := (Fld.other W35 (Fld.other W32 (F10.keep Ku21 (ninS hne22 nin0)) (Or.inr (own_sl39 hw))) (Or.inr (own_sl43 hw)))
  obtain ⟨T39, X39, e39, st39⟩ := getF X37 hx hZ hown (host := "") (Or.inl (ww62 hw)) Via.refl e37 f38 (g := (mkF m 51 #[vR a1] [(.ref a1), (.ref a26)])) rfl rfl (hb hby d13_51)
  have f40 : Fld Z h35 a1 C_3 "deckSize" "I" (.int 1) := (Fld.other W35 Fw32 (Or.inr (own_sl44 hw)))
  obtain ⟨T41, X41, e41, st41⟩ := getF X39 hx hZ hown (host := "") (Or.inl (ww111 hw)) Via.refl e39 f40 (g := (mkF m 55 #[vR a1] [(.ref a1), (.ref a9), (.ref a26)])) rfl rfl (hb hby d13_55)
  have f44 : Exa Z h35 a26 C_5 := (Exa.wr W35 (Exa.wr W32 (E_42.keep Ku21)))
  obtain ⟨_, T43, L43, X43, hQ43, st43⟩ := own_cV X41 hx hZ hown (ww190 hw) (ww191 hw) (notFace_of_selects (args := #[]) (mvT hZ (ww193 hw))) (ww193 hw) (ww192 hw) (ww35 hw) (ww194 hw) f44 (rm25_38 l Z a0 hw a26 a9 h35 n0 O35) e41 pd_7 hml (hb hby d13_58) (Ls := #[vR a1]) (W := 0) (argsL := [(.ref a9), (.int 1)]) (rest := [])
  obtain ⟨rfl, u46, u47⟩ := hQ43
  have N43 := Fr.app N35 u46
  obtain ⟨T48, X48, e48, st48⟩ := getF X43 hx hZ hown (host := "") (Or.inl (ww62 hw)) Via.refl u47 f38 (g := (mkF m 62 #[vR a1] [(.ref a1)])) rfl rfl (hb hby d13_62)
  obtain ⟨T49, X49, e49, st49⟩ := getF X48 hx hZ hown (host := "") (Or.inl (ww111 hw)) Via.refl e48 f40 (g := (mkF m 67 #[vR a1] [(.ref a1), (.ref a1), (.ref a9)])) rfl rfl (hb hby d13_67)
  have f50 : Exa Z h35 a1 C_3 := (Exa.wr W35 f34)
  obtain ⟨T51, h51, X51, e51, W51, st51⟩ := putF X49 hx hZ hown (host := "") (Or.inl (ww111 hw)) Via.refl e49 f40 f50 (Or.inl (ww112 hw)) (ww31 hw) (ty := .int) (by decide) rfl rfl (g := (mkF m 73 #[vR a1] [(.int 0), (.ref a1), (.int 0), (.ref a9)])) rfl rfl (hb hby d13_73)
  have O51 : Old Z n0 h51 := O35.wr W51 g_a1
  have Fw51 : Fld Z h51 a1 C_3 "deckSize" "I" (.int 0) := Fld.same W51 f40
  have N51 := Fr.snoc X51 N43 g_a1
  have f52 : Arv Z h51 a9 k18 .int (2 : Int32) [(.int p13), (.int p17)] (.int (0 : Int32)) := (((Vc21.other W32 (Ne.symm hne22)).other W35 (Ne.symm hne22)).other W51 (Ne.symm hne22))
  obtain ⟨cl53, Ar53, -, Sz53, -, Hh53, -⟩ := id f52
  have hin53 : ¬ ((0 : Int32) < 0 ∨ cl53.slots.size ≤ ((0 : Int32)).toNatClampNeg) := inb_of Sz53 ⟨by decide +kernel, by decide +kernel⟩
  have hat53 : cl53.slots[((0 : Int32)).toNatClampNeg]? = some (.int p13) := Has.at Hh53 hin53 rfl
  have f54 : Exa Z h51 a9 "[I" := (Exa.wr W51 (Exa.wr W35 (Exa.wr W32 (E_20.keep Ku21))))
  have f55 : Exa Z h51 a1 C_3 := (Exa.wr W51 f50)
  have f56 : Fld Z h51 a1 C_3 "deck" "[I" (.ref a9) := (Fld.other W51 f38 (Or.inr (own_sl39 hw)))
  have f57 : Fld Z h51 a1 C_3 "discard" "[I" (.ref a6) := (Fld.other W51 (Fld.other W35 (Fld.other W32 (F7.keep Ku21 (ninS hne22 nin0)) (Or.inr (own_sl40 hw))) (Or.inr (own_sl45 hw))) (Or.inr (own_sl40 hw)))
  have f58 : Fld Z h51 a1 C_3 "discardSize" "I" (.int 0) := (Fld.other W51 Fw35 (Or.inr (own_sl41 hw)))
  have f59 : Fld Z h51 a1 C_3 "generator" C_4 (.ref a26) := (Fld.other W51 f36 (Or.inr (own_sl42 hw)))
  have f60 : Fld Z h51 a1 C_3 "market" "[I" (.ref a28) := (Fld.other W51 (Fld.other W35 (Fld.other W32 (F29.keep Ku21 (ninS hne22 nin0)) (Or.inr (own_sl38 hw))) (Or.inr (own_sl47 hw))) (Or.inr (own_sl38 hw)))
  refine fin (some (.int p13)) _ _ _ _ X51 nofun (fun fs hr => pre0 _ ?_) (own_atH e51 ?_) (by decide) (by decide)
  · refine o_aloadN X0 hx hby d13_0 rfl rfl (st3 _ (o_ifN X3 hx hby d13_4 (by decide +kernel) (o_aloadN X3 hx hby d13_7 rfl rfl (st5 _ (o_ifY X5 hx hby d13_11 (pc := 11) (pc' := 16) (by decide +kernel) (by decide) (by decide) (o_aloadN X5 hx hby d13_16 rfl rfl (st8 _ (o_iconst X8 hx hby d13_20 (x := 0) rfl (o_aloadN X8 hx hby d13_21 rfl rfl (st11 _ (o_iconst X11 hx hby d13_25 (x := 0) rfl (o_aloadN X11 hx hby d13_26 rfl rfl (st12 _ (st21 _ (o_aloadN X21 hx hby d13_33 rfl rfl (o_aloadN X21 hx hby d13_34 rfl rfl (st24 _ (st32 _ (o_aloadN X32 hx hby d13_41 rfl rfl (o_iconst X32 hx hby d13_42 (x := 0) rfl (st35 _ (o_aloadN X35 hx hby d13_46 rfl rfl (st37 _ (o_aloadN X37 hx hby d13_50 rfl rfl (st39 _ (o_aloadN X39 hx hby d13_54 rfl rfl (st41 _ (st43 _ (o_aloadN X43 hx hby d13_61 rfl rfl (st48 _ (o_aloadN X48 hx hby d13_65 rfl rfl (o_dup X48 hx hby d13_66 rfl (st49 _ (o_iconst X49 hx hby d13_70 (x := 1) rfl (o_isub X49 hx hby d13_71 (z := (0 : Int32)) (by decide +kernel) (o_dupX1 X49 hx hby d13_72 rfl rfl (st51 _ (X51.iaload hx (j := (0 : Int32)) (v := (.int p13)) (by rw [e51]; exact Ar53.1) (State.isArrayOf_alike hZ.alike Ar53.2.1) Ar53.2.2 hin53 hat53 (g := (mkF m 76 #[vR a1] [(.int 0), (.ref a9)])) rfl rfl (hb hby d13_76) _ ?_))))))))))))))))))))))))))))))))))))))
    exact retI X51 hx hret (hb hby d13_77) hr
  · exact ⟨rfl, N51, (((((Keep.refl h0 [a9, a1]).trans Ku21 (allS (Or.inl (List.mem_of_getElem? (i := 0) rfl)) all0)).wr W32 (Or.inl (List.mem_of_getElem? (i := 1) rfl))).wr W35 (Or.inl (List.mem_of_getElem? (i := 1) rfl))).wr W51 (Or.inl (List.mem_of_getElem? (i := 1) rfl))), f54, f52, f55, f56, Fw51, f57, f58, f59, f60⟩
def Q15_58 (Z : State) (a1 : Addr) (a2 : Addr) (a3 : Addr) (a9 : Addr) (p11 : Int32) (a13 : Addr) (a15 : Addr) (p19 : Int32) (k25 : ClassId) (h0 : Heap) (n0 : Nat) (v : Option Value) (h : Heap) (L : List Loc) : Prop := (v = none ∧ Fr n0 L ∧ Keep h0 h [a1, a3] ∧ Exa Z h a1 C_3 ∧ Fld Z h a1 C_3 "deck" "[I" (.ref a9) ∧ Fld Z h a1 C_3 "deckSize" "I" (.int p11) ∧ Fld Z h a1 C_3 "discard" "[I" (.ref a3) ∧ Fld Z h a1 C_3 "discardSize" "I" (.int 2) ∧ Fld Z h a1 C_3 "generator" C_4 (.ref a13) ∧ Fld Z h a1 C_3 "market" "[I" (.ref a15) ∧ Exa Z h a3 "[I" ∧ Arv Z h a3 k25 .int (2 : Int32) [(.int p19), (.int p19)] (.int (0 : Int32)))
theorem rm15_58 (l : Launch) (Z : State) (a0 : Array Value) (hw : own_HW Z a0) (a1 : Addr) (a2 : Addr) (a3 : Addr) (a9 : Addr) (p11 : Int32) (a13 : Addr) (a15 : Addr) (p19 : Int32) (k25 : ClassId) (h0 : Heap) (n0 : Nat) (O0 : Old Z n0 h0) (F4 : Fld Z h0 a1 C_3 "discard" "[I" (.ref a3)) (F6 : Fld Z h0 a1 C_3 "discardSize" "I" (.int 0)) (E_8 : Exa Z h0 a1 C_3) (F10 : Fld Z h0 a1 C_3 "deck" "[I" (.ref a9)) (F12 : Fld Z h0 a1 C_3 "deckSize" "I" (.int p11)) (F14 : Fld Z h0 a1 C_3 "generator" C_4 (.ref a13)) (F16 : Fld Z h0 a1 C_3 "market" "[I" (.ref a15)) (g_a1 : n0 ≤ a1) (E_18 : Exa Z Z.heap a2 C_8) (F20 : Fld Z Z.heap a2 C_10 "ordinal" "I" (.int p19)) (V26 : Arv Z h0 a3 k25 .int (2 : Int32) [] (.int (0 : Int32))) (hne27 : a3 ≠ a1) (g_a3 : n0 ≤ a3) (E_32 : Exa Z h0 a3 "[I") : own_Met l Z M_16 bc15 4 none ({ frames := 1, cells := 0, slots := 0, locals := 14 } : Room) #[(.ref a1), (.ref a2), (.int 2)] h0 (Q15_58 Z a1 a2 a3 a9 p11 a13 a15 p19 k25 h0 n0) := by
  refine own_body (L0 := #[vR a1, vR a2, vI 2, .unset]) (plainFor_of_name pn_6) (fun m => by first | (simp [entryFrame, mkF, argsToLocals, Value.category]; done) | rfl) fun p e s m below meth c s₁ EN hx hby hml hown hnm hret X0 hZ e0 hh pre0 fin => ?_
  have N0 := Fr.nil n0
  obtain ⟨T5, X5, e5, st5⟩ := getF X0 hx hZ hown (host := "") (Or.inl (ww64 hw)) Via.refl e0 F4 (g := (mkF m 8 #[vR a1, vR a2, vI 2, vI 0] [(.ref a1)])) rfl rfl (hb hby d15_8)
  obtain ⟨T7, X7, e7, st7⟩ := getF X5 hx hZ hown (host := "") (Or.inl (ww113 hw)) Via.refl e5 F6 (g := (mkF m 13 #[vR a1, vR a2, vI 2, vI 0] [(.ref a1), (.ref a1), (.ref a3)])) rfl rfl (hb hby d15_13)
  obtain ⟨T17, h17, X17, e17, W17, st17⟩ := putF X7 hx hZ hown (host := "") (Or.inl (ww113 hw)) Via.refl e7 F6 E_8 (Or.inl (ww114 hw)) (ww31 hw) (ty := .int) (by decide) rfl rfl (g := (mkF m 19 #[vR a1, vR a2, vI 2, vI 0] [(.int 1), (.ref a1), (.int 0), (.ref a3)])) rfl rfl (hb hby d15_19)
  have O17 : Old Z n0 h17 := O0.wr W17 g_a1
  have Fw17 : Fld Z h17 a1 C_3 "discardSize" "I" (.int 1) := Fld.same W17 F6
  have N17 := Fr.snoc X17 N0 g_a1
  obtain ⟨_, T21, L21, X21, hQ21, st21⟩ := own_cU X17 hx hZ hown (ww177 hw) (ww178 hw) (ww179 hw) (ww181 hw) (ww180 hw) (ww182 hw) (ww183 hw) (Exa.ext O17.2 E_18) (rm24_31 l Z a0 hw a2 p19 h17 n0 O17 F20) e17 pd_3 hml (hb hby d15_23) (Ls := #[vR a1, vR a2, vI 2, vI 0]) (W := 2) (argsL := []) (rest := [(.int 0), (.ref a3)])
  obtain ⟨rfl, u23, u24⟩ := hQ21
  have N21 := Fr.app N17 u23
  have f28 : Arv Z h17 a3 k25 .int (2 : Int32) [] (.int (0 : Int32)) := (V26.other W17 hne27)
  have Vp29 : Arv Z h17 a3 k25 .int (2 : Int32) [(.int 0)] (.int (0 : Int32)) := f28.pad (pad_rep [] (.int (0 : Int32)) 1)
  obtain ⟨cl30, Ar30, qk30, Sz30, Nn30, Hh30, Gg30⟩ := id Vp29
  have hin30 : ¬ ((0 : Int32) < 0 ∨ cl30.slots.size ≤ ((0 : Int32)).toNatClampNeg) := inb_of Sz30 ⟨by decide +kernel, by decide +kernel⟩
  obtain ⟨T31, h31, X31, e31, W31, st31⟩ := stI X21 hx hZ u24 Ar30 (j := (0 : Int32)) hin30 (g := (mkF m 26 #[vR a1, vR a2, vI 2, vI 0] [(.int p19), (.int 0), (.ref a3)])) rfl rfl (hb hby d15_26)
  have O31 : Old Z n0 h31 := O17.wr W31 g_a3
  have V31 : Arv Z h31 a3 k25 .int (2 : Int32) [(.int p19)] (.int (0 : Int32)) := Arv.set Ar30 qk30 Sz30 Nn30 Hh30 Gg30 rfl W31 0 rfl (Nat.le_of_ble_eq_true rfl)
  have N31 := Fr.snoc X31 N21 g_a3
  have f33 : Fld Z h31 a1 C_3 "discard" "[I" (.ref a3) := (Fld.other W31 (Fld.other W17 F4 (Or.inr (own_sl45 hw))) (Or.inl (Ne.symm hne27)))
  obtain ⟨T34, X34, e34, st34⟩ := getF X31 hx hZ hown (host := "") (Or.inl (ww64 hw)) Via.refl e31 f33 (g := (mkF m 8 #[vR a1, vR a2, vI 2, vI 1] [(.ref a1)])) rfl rfl (hb hby d15_8)
  have f35 : Fld Z h31 a1 C_3 "discardSize" "I" (.int 1) := (Fld.other W31 Fw17 (Or.inl (Ne.symm hne27)))
  obtain ⟨T36, X36, e36, st36⟩ := getF X34 hx hZ hown (host := "") (Or.inl (ww113 hw)) Via.refl e34 f35 (g := (mkF m 13 #[vR a1, vR a2, vI 2, vI 1] [(.ref a1), (.ref a1), (.ref a3)])) rfl rfl (hb hby d15_13)
  have f37 : Exa Z h31 a1 C_3 := (Exa.wr W31 (Exa.wr W17 E_8))
  obtain ⟨T38, h38, X38, e38, W38, st38⟩ := putF X36 hx hZ hown (host := "") (Or.inl (ww113 hw)) Via.refl e36 f35 f37 (Or.inl (ww114 hw)) (ww31 hw) (ty := .int) (by decide) rfl rfl (g := (mkF m 19 #[vR a1, vR a2, vI 2, vI 1] [(.int 2), (.ref a1), (.int 1), (.ref a3)])) rfl rfl (hb hby d15_19)
  have O38 : Old Z n0 h38 := O31.wr W38 g_a1
  have Fw38 : Fld Z h38 a1 C_3 "discardSize" "I" (.int 2) := Fld.same W38 f35
  have N38 := Fr.snoc X38 N31 g_a1
  obtain ⟨_, T39, L39, X39, hQ39, st39⟩ := own_cU X38 hx hZ hown (ww177 hw) (ww178 hw) (ww179 hw) (ww181 hw) (ww180 hw) (ww182 hw) (ww183 hw) (Exa.ext O38.2 E_18) (rm24_31 l Z a0 hw a2 p19 h38 n0 O38 F20) e38 pd_3 hml (hb hby d15_23) (Ls := #[vR a1, vR a2, vI 2, vI 1]) (W := 2) (argsL := []) (rest := [(.int 1), (.ref a3)])
  obtain ⟨rfl, u41, u42⟩ := hQ39
  have N39 := Fr.app N38 u41
  have f43 : Arv Z h38 a3 k25 .int (2 : Int32) [(.int p19)] (.int (0 : Int32)) := (V31.other W38 hne27)
  have Vp44 : Arv Z h38 a3 k25 .int (2 : Int32) [(.int p19), (.int 0)] (.int (0 : Int32)) := f43.pad (pad_rep [(.int p19)] (.int (0 : Int32)) 1)
  obtain ⟨cl45, Ar45, qk45, Sz45, Nn45, Hh45, Gg45⟩ := id Vp44
  have hin45 : ¬ ((1 : Int32) < 0 ∨ cl45.slots.size ≤ ((1 : Int32)).toNatClampNeg) := inb_of Sz45 ⟨by decide +kernel, by decide +kernel⟩
  obtain ⟨T46, h46, X46, e46, W46, st46⟩ := stI X39 hx hZ u42 Ar45 (j := (1 : Int32)) hin45 (g := (mkF m 26 #[vR a1, vR a2, vI 2, vI 1] [(.int p19), (.int 1), (.ref a3)])) rfl rfl (hb hby d15_26)
  have O46 : Old Z n0 h46 := O38.wr W46 g_a3
  have V46 : Arv Z h46 a3 k25 .int (2 : Int32) [(.int p19), (.int p19)] (.int (0 : Int32)) := Arv.set Ar45 qk45 Sz45 Nn45 Hh45 Gg45 rfl W46 1 rfl (Nat.le_of_ble_eq_true rfl)
  have N46 := Fr.snoc X46 N39 g_a3
  have f47 : Exa Z h46 a1 C_3 := (Exa.wr W46 (Exa.wr W38 f37))
  have f48 : Fld Z h46 a1 C_3 "deck" "[I" (.ref a9) := (Fld.other W46 (Fld.other W38 (Fld.other W31 (Fld.other W17 F10 (Or.inr (own_sl43 hw))) (Or.inl (Ne.symm hne27))) (Or.inr (own_sl43 hw))) (Or.inl (Ne.symm hne27)))
  have f49 : Fld Z h46 a1 C_3 "deckSize" "I" (.int p11) := (Fld.other W46 (Fld.other W38 (Fld.other W31 (Fld.other W17 F12 (Or.inr (own_sl44 hw))) (Or.inl (Ne.symm hne27))) (Or.inr (own_sl44 hw))) (Or.inl (Ne.symm hne27)))
  have f50 : Fld Z h46 a1 C_3 "discard" "[I" (.ref a3) := (Fld.other W46 (Fld.other W38 f33 (Or.inr (own_sl45 hw))) (Or.inl (Ne.symm hne27)))
  have f51 : Fld Z h46 a1 C_3 "discardSize" "I" (.int 2) := (Fld.other W46 Fw38 (Or.inl (Ne.symm hne27)))
  have f52 : Fld Z h46 a1 C_3 "generator" C_4 (.ref a13) := (Fld.other W46 (Fld.other W38 (Fld.other W31 (Fld.other W17 F14 (Or.inr (own_sl46 hw))) (Or.inl (Ne.symm hne27))) (Or.inr (own_sl46 hw))) (Or.inl (Ne.symm hne27)))
  have f53 : Fld Z h46 a1 C_3 "market" "[I" (.ref a15) := (Fld.other W46 (Fld.other W38 (Fld.other W31 (Fld.other W17 F16 (Or.inr (own_sl47 hw))) (Or.inl (Ne.symm hne27))) (Or.inr (own_sl47 hw))) (Or.inl (Ne.symm hne27)))
  have f54 : Exa Z h46 a3 "[I" := (Exa.wr W46 (Exa.wr W38 (Exa.wr W31 (Exa.wr W17 E_32))))
  refine fin none _ _ _ _ X46 (fun _ => rfl) (fun fs hr => pre0 _ ?_) (own_atH e46 ?_) (by decide) (by decide)
  · refine o_iconst X0 hx hby d15_0 (x := 0) rfl (o_istoreN X0 hx hby d15_1 (Ls' := #[vR a1, vR a2, vI 2, vI 0]) rfl (o_iloadN X0 hx hby d15_2 rfl (o_iloadN X0 hx hby d15_3 rfl (o_icmpN X0 hx hby d15_4 (by decide +kernel) (o_aloadN X0 hx hby d15_7 rfl rfl (st5 _ (o_aloadN X5 hx hby d15_11 rfl rfl (o_dup X5 hx hby d15_12 rfl (st7 _ (o_dupX1 X7 hx hby d15_16 rfl rfl (o_iconst X7 hx hby d15_17 (x := 1) rfl (o_iadd X7 hx hby d15_18 (z := (1 : Int32)) (by decide +kernel) (st17 _ (o_aloadN X17 hx hby d15_22 rfl rfl (st21 _ (st31 _ (o_iinc X31 hx hby d15_27 rfl (z := (1 : Int32)) (k' := 1) rfl (by decide +kernel) (Ls' := #[vR a1, vR a2, vI 2, vI 1]) rfl (o_goto X31 hx hby d15_30 (pc := 30) (pc' := 2) (by decide) (by decide) (o_iloadN X31 hx hby d15_2 rfl (o_iloadN X31 hx hby d15_3 rfl (o_icmpN X31 hx hby d15_4 (by decide +kernel) (o_aloadN X31 hx hby d15_7 rfl rfl (st34 _ (o_aloadN X34 hx hby d15_11 rfl rfl (o_dup X34 hx hby d15_12 rfl (st36 _ (o_dupX1 X36 hx hby d15_16 rfl rfl (o_iconst X36 hx hby d15_17 (x := 1) rfl (o_iadd X36 hx hby d15_18 (z := (2 : Int32)) (by decide +kernel) (st38 _ (o_aloadN X38 hx hby d15_22 rfl rfl (st39 _ (st46 _ (o_iinc X46 hx hby d15_27 rfl (z := (2 : Int32)) (k' := 1) rfl (by decide +kernel) (Ls' := #[vR a1, vR a2, vI 2, vI 2]) rfl (o_goto X46 hx hby d15_30 (pc := 30) (pc' := 2) (by decide) (by decide) (o_iloadN X46 hx hby d15_2 rfl (o_iloadN X46 hx hby d15_3 rfl (o_icmpY X46 hx hby d15_4 (pc := 4) (pc' := 33) (by decide +kernel) (by decide) (by decide) ?_))))))))))))))))))))))))))))))))))))))
    exact X46.returnOut hx hret (hb hby d15_33) hr
  · exact ⟨rfl, N46, (((((Keep.refl h0 [a1, a3]).wr W17 (Or.inl (List.mem_of_getElem? (i := 0) rfl))).wr W31 (Or.inl (List.mem_of_getElem? (i := 1) rfl))).wr W38 (Or.inl (List.mem_of_getElem? (i := 0) rfl))).wr W46 (Or.inl (List.mem_of_getElem? (i := 1) rfl))), f47, f48, f49, f50, f51, f52, f53, f54, V46⟩
def Q16_59 (Z : State) (a1 : Addr) (h0 : Heap) (n0 : Nat) (v : Option Value) (h : Heap) (L : List Loc) : Prop := (v = some (.int 1) ∧ Fr n0 L ∧ h = h0)
theorem rm16_59 (l : Launch) (Z : State) (a0 : Array Value) (hw : own_HW Z a0) (a1 : Addr) (h0 : Heap) (n0 : Nat) (O0 : Old Z n0 h0) (F2 : Fld Z h0 a1 C_3 "deckSize" "I" (.int 0)) (F4 : Fld Z h0 a1 C_3 "discardSize" "I" (.int 2)) : own_Met l Z M_17 bc16 1 (some .boolean) ({ frames := 0, cells := 0, slots := 0, locals := 0 } : Room) #[(.ref a1)] h0 (Q16_59 Z a1 h0 n0) := by
  refine own_body (L0 := #[vR a1]) (plainFor_of_name pn_6) (fun m => by first | (simp [entryFrame, mkF, argsToLocals, Value.category]; done) | rfl) fun p e s m below meth c s₁ EN hx hby hml hown hnm hret X0 hZ e0 hh pre0 fin => ?_
  have N0 := Fr.nil n0
  obtain ⟨T3, X3, e3, st3⟩ := getF X0 hx hZ hown (host := "") (Or.inl (ww111 hw)) Via.refl e0 F2 (g := (mkF m 1 #[vR a1] [(.ref a1)])) rfl rfl (hb hby d16_1)
  obtain ⟨T5, X5, e5, st5⟩ := getF X3 hx hZ hown (host := "") (Or.inl (ww113 hw)) Via.refl e3 F4 (g := (mkF m 5 #[vR a1] [(.ref a1), (.int 0)])) rfl rfl (hb hby d16_5)
  refine fin (some (.int 1)) _ _ _ _ X5 nofun (fun fs hr => pre0 _ ?_) (own_atH e5 ?_) (by decide) (by decide)
  · refine o_aloadN X0 hx hby d16_0 rfl rfl (st3 _ (o_aloadN X3 hx hby d16_4 rfl rfl (st5 _ (o_iadd X5 hx hby d16_8 (z := (2 : Int32)) (by decide +kernel) (o_ifN X5 hx hby d16_9 (by decide +kernel) (o_iconst X5 hx hby d16_12 (x := 1) rfl (o_goto X5 hx hby d16_13 (pc := 13) (pc' := 17) (by decide) (by decide) ?_)))))))
    exact retN X5 hx (t := .boolean) hret (by simp) (hb hby d16_17) hr
  · exact ⟨rfl, N0, rfl⟩
def Q28_64 (Z : State) (q1 : Int64) (h0 : Heap) (n0 : Nat) (v : Option Value) (h : Heap) (L : List Loc) : Prop := (∃ (i2 : Int64) (i3 : Int64) (i4 : Int64) (i5 : Int64) (i6 : Int64) (i7 : Int64) (i8 : Int64) (i9 : Int64), i9 = (i7 ^^^ i8) ∧ i7 = (i6 * (-7723592293110705685 : Int64)) ∧ i8 = ((i7.toUInt64 >>> ((31 : Int32) &&& 0x3f).toInt64.toUInt64).toInt64) ∧ i6 = (i4 ^^^ i5) ∧ i4 = (i3 * (-4658895280553007687 : Int64)) ∧ i5 = ((i4.toUInt64 >>> ((27 : Int32) &&& 0x3f).toInt64.toUInt64).toInt64) ∧ i3 = (q1 ^^^ i2) ∧ i2 = ((q1.toUInt64 >>> ((30 : Int32) &&& 0x3f).toInt64.toUInt64).toInt64) ∧ v = some (.long i9) ∧ Fr n0 L ∧ h = h0)
theorem rm28_64 (l : Launch) (Z : State) (a0 : Array Value) (hw : own_HW Z a0) (q1 : Int64) (h0 : Heap) (n0 : Nat) (O0 : Old Z n0 h0) : own_Met l Z M_29 bc28 2 (some .long) ({ frames := 0, cells := 0, slots := 0, locals := 0 } : Room) #[(.long q1)] h0 (Q28_64 Z q1 h0 n0) := by
  refine own_body (L0 := #[vJ q1, .second]) (plainFor_of_name pn_3) (fun m => by first | (simp [entryFrame, mkF, argsToLocals, Value.category]; done) | rfl) fun p e s m below meth c s₁ EN hx hby hml hown hnm hret X0 hZ e0 hh pre0 fin => ?_
  have N0 := Fr.nil n0
  obtain ⟨i2, hi2⟩ : ∃ z, z = ((q1.toUInt64 >>> ((30 : Int32) &&& 0x3f).toInt64.toUInt64).toInt64) := ⟨_, rfl⟩
  obtain ⟨i3, hi3⟩ : ∃ z, z = (q1 ^^^ i2) := ⟨_, rfl⟩
  obtain ⟨i4, hi4⟩ : ∃ z, z = (i3 * (-4658895280553007687 : Int64)) := ⟨_, rfl⟩
  obtain ⟨i5, hi5⟩ : ∃ z, z = ((i4.toUInt64 >>> ((27 : Int32) &&& 0x3f).toInt64.toUInt64).toInt64) := ⟨_, rfl⟩
  obtain ⟨i6, hi6⟩ : ∃ z, z = (i4 ^^^ i5) := ⟨_, rfl⟩
  obtain ⟨i7, hi7⟩ : ∃ z, z = (i6 * (-7723592293110705685 : Int64)) := ⟨_, rfl⟩
  obtain ⟨i8, hi8⟩ : ∃ z, z = ((i7.toUInt64 >>> ((31 : Int32) &&& 0x3f).toInt64.toUInt64).toInt64) := ⟨_, rfl⟩
  obtain ⟨i9, hi9⟩ : ∃ z, z = (i7 ^^^ i8) := ⟨_, rfl⟩
  refine fin (some (.long i9)) _ _ _ _ X0 nofun (fun fs hr => pre0 _ ?_) (own_atH e0 ?_) (by decide) (by decide)
  · refine o_lloadN X0 hx hby d28_0 rfl (o_lloadN X0 hx hby d28_1 rfl (o_bipush X0 hx hby d28_2 (x := 30) rfl (o_lushr X0 hx hby d28_4 (z := i2) hi2.symm (o_lxor X0 hx hby d28_5 (z := i3) hi3.symm (X0.ldc2Long hx hown (mvT hZ (ww209 hw)) (g := (mkF m 6 #[vJ q1, .second] [(.long i3)])) rfl (hb hby d28_6) _ (o_lmul X0 hx hby d28_9 (z := i4) hi4.symm (o_lstoreN X0 hx hby d28_10 (Ls' := #[vJ i4, .second]) rfl (o_lloadN X0 hx hby d28_11 rfl (o_lloadN X0 hx hby d28_12 rfl (o_bipush X0 hx hby d28_13 (x := 27) rfl (o_lushr X0 hx hby d28_15 (z := i5) hi5.symm (o_lxor X0 hx hby d28_16 (z := i6) hi6.symm (X0.ldc2Long hx hown (mvT hZ (ww210 hw)) (g := (mkF m 17 #[vJ i4, .second] [(.long i6)])) rfl (hb hby d28_17) _ (o_lmul X0 hx hby d28_20 (z := i7) hi7.symm (o_lstoreN X0 hx hby d28_21 (Ls' := #[vJ i7, .second]) rfl (o_lloadN X0 hx hby d28_22 rfl (o_lloadN X0 hx hby d28_23 rfl (o_bipush X0 hx hby d28_24 (x := 31) rfl (o_lushr X0 hx hby d28_26 (z := i8) hi8.symm (o_lxor X0 hx hby d28_27 (z := i9) hi9.symm ?_))))))))))))))))))))
    show Steps p.tables e below (s₁.setTop (mkF m 28 #[vJ i7, .second] [(.long i9)])) _
    jvm_step X0.here [X0.here.top, hx, (hb hby d28_28), X0.method', hret, narrow]
    first | (intro acts; rw [hr _ acts rfl rfl rfl]) | rw [hr _ _ rfl rfl rfl]
    exact Steps.refl _
  · exact ⟨i2, i3, i4, i5, i6, i7, i8, i9, hi9, hi7, hi8, hi6, hi4, hi5, hi3, hi2, rfl, N0, rfl⟩
def Q27_63 (Z : State) (a1 : Addr) (q2 : Int64) (h0 : Heap) (n0 : Nat) (v : Option Value) (h : Heap) (L : List Loc) : Prop := (∃ (i5 : Int64) (j10 : Int64) (j11 : Int64) (j12 : Int64) (j13 : Int64) (j14 : Int64) (j15 : Int64) (j16 : Int64) (j17 : Int64), i5 = (q2 + (-7046029254386353131 : Int64)) ∧ j17 = (j15 ^^^ j16) ∧ j15 = (j14 * (-7723592293110705685 : Int64)) ∧ j16 = ((j15.toUInt64 >>> ((31 : Int32) &&& 0x3f).toInt64.toUInt64).toInt64) ∧ j14 = (j12 ^^^ j13) ∧ j12 = (j11 * (-4658895280553007687 : Int64)) ∧ j13 = ((j12.toUInt64 >>> ((27 : Int32) &&& 0x3f).toInt64.toUInt64).toInt64) ∧ j11 = (i5 ^^^ j10) ∧ j10 = ((i5.toUInt64 >>> ((30 : Int32) &&& 0x3f).toInt64.toUInt64).toInt64) ∧ v = some (.long j17) ∧ Fr n0 L ∧ Keep h0 h [a1] ∧ Exa Z h a1 C_5 ∧ Fld Z h a1 C_5 "state" "J" (.long i5))
theorem rm27_63 (l : Launch) (Z : State) (a0 : Array Value) (hw : own_HW Z a0) (a1 : Addr) (q2 : Int64) (h0 : Heap) (n0 : Nat) (O0 : Old Z n0 h0) (F3 : Fld Z h0 a1 C_5 "state" "J" (.long q2)) (E_6 : Exa Z h0 a1 C_5) (g_a1 : n0 ≤ a1) : own_Met l Z M_30 bc27 1 (some .long) ({ frames := 1, cells := 0, slots := 0, locals := 13 } : Room) #[(.ref a1)] h0 (Q27_63 Z a1 q2 h0 n0) := by
  refine own_body (L0 := #[vR a1]) (plainFor_of_name pn_3) (fun m => by first | (simp [entryFrame, mkF, argsToLocals, Value.category]; done) | rfl) fun p e s m below meth c s₁ EN hx hby hml hown hnm hret X0 hZ e0 hh pre0 fin => ?_
  have N0 := Fr.nil n0
  obtain ⟨T4, X4, e4, st4⟩ := getF X0 hx hZ hown (host := "") (Or.inl (ww40 hw)) Via.refl e0 F3 (g := (mkF m 2 #[vR a1] [(.ref a1), (.ref a1)])) rfl rfl (hb hby d27_2)
  obtain ⟨i5, hi5⟩ : ∃ z, z = (q2 + (-7046029254386353131 : Int64)) := ⟨_, rfl⟩
  obtain ⟨T7, h7, X7, e7, W7, st7⟩ := putF X4 hx hZ hown (host := "") (Or.inl (ww40 hw)) Via.refl e4 F3 E_6 (Or.inl (ww41 hw)) (ww34 hw) (ty := .long) (by decide) rfl rfl (g := (mkF m 9 #[vR a1] [(.long i5), (.ref a1)])) rfl rfl (hb hby d27_9)
  have O7 : Old Z n0 h7 := O0.wr W7 g_a1
  have Fw7 : Fld Z h7 a1 C_5 "state" "J" (.long i5) := Fld.same W7 F3
  have N7 := Fr.snoc X7 N0 g_a1
  obtain ⟨T8, X8, e8, st8⟩ := getF X7 hx hZ hown (host := "") (Or.inl (ww40 hw)) Via.refl e7 Fw7 (g := (mkF m 13 #[vR a1] [(.ref a1)])) rfl rfl (hb hby d27_13)
  obtain ⟨_, T9, L9, X9, hQ9, st9⟩ := own_cS X8 hx hZ hown (ww206 hw) (ww207 hw) (ww35 hw) (ww208 hw) (rm28_64 l Z a0 hw i5 h7 n0 O7) e8 pd_16 hml (hb hby d27_16) (Ls := #[vR a1]) (W := 0) (argsL := [(.long i5)]) (rest := [])
  obtain ⟨j10, j11, j12, j13, j14, j15, j16, j17, u18, u19, u20, u21, u22, u23, u24, u25, rfl, u27, u28⟩ := hQ9
  have N9 := Fr.app N7 u27
  have f29 : Exa Z h7 a1 C_5 := (Exa.wr W7 E_6)
  refine fin (some (.long j17)) _ _ _ _ X9 nofun (fun fs hr => pre0 _ ?_) (own_atH u28 ?_) (by decide) (by decide)
  · refine o_aloadN X0 hx hby d27_0 rfl rfl (o_dup X0 hx hby d27_1 rfl (st4 _ (X4.ldc2Long hx hown (mvT hZ (ww205 hw)) (g := (mkF m 5 #[vR a1] [(.long q2), (.ref a1)])) rfl (hb hby d27_5) _ (o_ladd X4 hx hby d27_8 (z := i5) hi5.symm (st7 _ (o_aloadN X7 hx hby d27_12 rfl rfl (st8 _ (st9 _ ?_))))))))
    show Steps p.tables e below (T9.setTop (mkF m 19 #[vR a1] [(.long j17)])) _
    jvm_step X9.here [X9.here.top, hx, (hb hby d27_19), X9.method', hret, narrow]
    first | (intro acts; rw [hr _ acts rfl rfl rfl]) | rw [hr _ _ rfl rfl rfl]
    exact Steps.refl _
  · exact ⟨i5, j10, j11, j12, j13, j14, j15, j16, j17, hi5, u18, u19, u20, u21, u22, u23, u24, u25, rfl, N9, ((Keep.refl h0 [a1]).wr W7 (Or.inl (List.mem_of_getElem? (i := 0) rfl))), f29, Fw7⟩
def Q26_62 (Z : State) (a1 : Addr) (q3 : Int64) (h0 : Heap) (n0 : Nat) (v : Option Value) (h : Heap) (L : List Loc) : Prop := (∃ (i34 : Int32) (j6 : Int64), ¬ (i34 < (0 : Int32)) ∧ i34 < (2 : Int32) ∧ v = some (.int i34) ∧ Fr n0 L ∧ Keep h0 h [a1] ∧ Exa Z h a1 C_5 ∧ Fld Z h a1 C_5 "state" "J" (.long j6))
theorem rm26_62 (l : Launch) (Z : State) (a0 : Array Value) (hw : own_HW Z a0) (a1 : Addr) (q3 : Int64) (h0 : Heap) (n0 : Nat) (O0 : Old Z n0 h0) (E_2 : Exa Z h0 a1 C_5) (F4 : Fld Z h0 a1 C_5 "state" "J" (.long q3)) (g_a1 : n0 ≤ a1) : own_Met l Z M_31 bc26 6 (some .int) ({ frames := 2, cells := 0, slots := 0, locals := 25 } : Room) #[(.ref a1), (.int 2)] h0 (Q26_62 Z a1 q3 h0 n0) := by
  refine own_body (L0 := #[vR a1, vI 2, .unset, .unset, .unset, .unset]) (plainFor_of_name pn_3) (fun m => by first | (simp [entryFrame, mkF, argsToLocals, Value.category]; done) | rfl) fun p e s m below meth c s₁ EN hx hby hml hown hnm hret X0 hZ e0 hh pre0 fin => ?_
  have N0 := Fr.nil n0
  obtain ⟨_, T5, L5, X5, hQ5, st5⟩ := own_cV X0 hx hZ hown (ww200 hw) (ww201 hw) (notFace_of_selects (args := #[]) (mvT hZ (ww203 hw))) (ww203 hw) (ww202 hw) (ww35 hw) (ww204 hw) E_2 (rm27_63 l Z a0 hw a1 q3 h0 n0 O0 F4 E_2 g_a1) e0 pd_17 hml (hb hby d26_19) (Ls := #[vR a1, vI 2, .unset, .unset, .unset, .unset]) (W := 0) (argsL := []) (rest := [])
  obtain ⟨j6, j7, j8, j9, j10, j11, j12, j13, j14, u15, u16, u17, u18, u19, u20, u21, u22, u23, rfl, u25, Ku26, u27, u28⟩ := hQ5
  have Ou26 : Old Z n0 T5.heap := O0.keep Ku26 (allS g_a1 all0)
  have N5 := Fr.app N0 u25
  obtain ⟨i29, hi29⟩ : ∃ z, z = ((j14.toUInt64 >>> ((1 : Int32) &&& 0x3f).toInt64.toUInt64).toInt64) := ⟨_, rfl⟩
  obtain ⟨i30, hi30⟩ : ∃ z, z = (i29 - (i29 / (2 : Int64)) * (2 : Int64)) := ⟨_, rfl⟩
  obtain ⟨i31, hi31⟩ : ∃ z, z = (i29 - i30) := ⟨_, rfl⟩
  obtain ⟨i32, hi32⟩ : ∃ z, z = (i31 + (1 : Int64)) := ⟨_, rfl⟩
  obtain ⟨i33, hi33⟩ : ∃ z, z = (lcmpW i32 (0 : Int64)) := ⟨_, rfl⟩
  obtain ⟨i34, hi34⟩ : ∃ z, z = (i30.toInt32) := ⟨_, rfl⟩
  refine fin (some (.int i34)) _ _ _ _ X5 nofun (fun fs hr => pre0 _ ?_) ?_ (by decide) (by decide)
  · refine o_iloadN X0 hx hby d26_0 rfl (o_ifY X0 hx hby d26_1 (pc := 1) (pc' := 18) (by decide +kernel) (by decide) (by decide) (o_aloadN X0 hx hby d26_18 rfl rfl (st5 _ (o_iconst X5 hx hby d26_22 (x := 1) rfl (o_lushr X5 hx hby d26_23 (z := i29) hi29.symm (o_lstoreN X5 hx hby d26_24 (Ls' := #[vR a1, vI 2, vJ i29, .second, .unset, .unset]) rfl (o_lloadN X5 hx hby d26_25 rfl (o_iloadN X5 hx hby d26_26 rfl (o_i2l X5 hx hby d26_27 (z := (2 : Int64)) (by decide +kernel) (o_lrem X5 hx hby d26_28 (by decide +kernel : ¬ ((2 : Int64) = (0 : Int64))) (z := i30) hi30.symm (o_lstore X5 hx hby d26_29 (Ls' := #[vR a1, vI 2, vJ i29, .second, vJ i30, .second]) rfl (o_lloadN X5 hx hby d26_31 rfl (o_lload X5 hx hby d26_32 rfl (o_lsub X5 hx hby d26_34 (z := i31) hi31.symm (o_iloadN X5 hx hby d26_35 rfl (o_iconst X5 hx hby d26_36 (x := 1) rfl (o_isub X5 hx hby d26_37 (z := (1 : Int32)) (by decide +kernel) (o_i2l X5 hx hby d26_38 (z := (1 : Int64)) (by decide +kernel) (o_ladd X5 hx hby d26_39 (z := i32) hi32.symm (o_lconst X5 hx hby d26_40 (j := 0) rfl (o_lcmp X5 hx hby d26_41 (z := i33) hi33.symm (o_ifY X5 hx hby d26_42 (pc := 42) (pc' := 61) ((if0 _ _).trans (flt (own_nb2 hi29 hi30 hi31 hi32 hi33)).2.1) (by decide) (by decide) (o_lload X5 hx hby d26_61 rfl (o_l2i X5 hx hby d26_63 (z := i34) hi34.symm ?_))))))))))))))))))))))))
    exact retI X5 hx hret (hb hby d26_64) hr
  · exact ⟨i34, j6, (own_rb2 hi29 hi30 hi34).1, (own_rb2 hi29 hi30 hi34).2, rfl, N5, ((Keep.refl h0 [a1]).trans Ku26 (allS (Or.inl (List.mem_of_getElem? (i := 0) rfl)) all0)), u27, u28⟩
def Q25_61 (Z : State) (a1 : Addr) (a2 : Addr) (q4 : Int64) (p18 : Int32) (k19 : ClassId) (h0 : Heap) (n0 : Nat) (v : Option Value) (h : Heap) (L : List Loc) : Prop := (∃ (j8 : Int64), v = none ∧ Fr n0 L ∧ Keep h0 h [a1, a2] ∧ Exa Z h a1 C_5 ∧ Fld Z h a1 C_5 "state" "J" (.long j8) ∧ Exa Z h a2 "[I" ∧ Arv Z h a2 k19 .int (2 : Int32) [(.int p18), (.int p18)] (.int (0 : Int32)))
theorem rm25_61 (l : Launch) (Z : State) (a0 : Array Value) (hw : own_HW Z a0) (a1 : Addr) (a2 : Addr) (q4 : Int64) (p18 : Int32) (k19 : ClassId) (h0 : Heap) (n0 : Nat) (O0 : Old Z n0 h0) (E_3 : Exa Z h0 a1 C_5) (F5 : Fld Z h0 a1 C_5 "state" "J" (.long q4)) (g_a1 : n0 ≤ a1) (V20 : Arv Z h0 a2 k19 .int (2 : Int32) [(.int p18), (.int p18)] (.int (0 : Int32))) (hne21 : a2 ≠ a1) (g_a2 : n0 ≤ a2) (E_27 : Exa Z h0 a2 "[I") : own_Met l Z M_28 bc25 6 none ({ frames := 3, cells := 0, slots := 0, locals := 42 } : Room) #[(.ref a1), (.ref a2), (.int 2)] h0 (Q25_61 Z a1 a2 q4 p18 k19 h0 n0) := by
  refine own_body (L0 := #[vR a1, vR a2, vI 2, .unset, .unset, .unset]) (plainFor_of_name pn_3) (fun m => by first | (simp [entryFrame, mkF, argsToLocals, Value.category]; done) | rfl) fun p e s m below meth c s₁ EN hx hby hml hown hnm hret X0 hZ e0 hh pre0 fin => ?_
  have N0 := Fr.nil n0
  obtain ⟨_, T6, L6, X6, hQ6, st6⟩ := own_cV X0 hx hZ hown (ww195 hw) (ww196 hw) (notFace_of_selects (args := #[]) (mvT hZ (ww198 hw))) (ww198 hw) (ww197 hw) (ww35 hw) (ww199 hw) E_3 (rm26_62 l Z a0 hw a1 q4 h0 n0 O0 E_3 F5 g_a1) e0 pd_18 hml (hb hby d25_12) (Ls := #[vR a1, vR a2, vI 2, vI 1, .unset, .unset]) (W := 0) (argsL := [(.int 2)]) (rest := [])
  obtain ⟨i7, j8, u9, u10, rfl, u12, Ku13, u14, u15⟩ := hQ6
  have Ou13 : Old Z n0 T6.heap := O0.keep Ku13 (allS g_a1 all0)
  have N6 := Fr.app N0 u12
  have pre16 : ∀ t, Steps p.tables e below (T6.setTop (mkF m 15 #[vR a1, vR a2, vI 2, vI 1, .unset, .unset] [(.int i7)])) t → Steps p.tables e below EN t := by
    intro t kt
    refine pre0 t ?_
    refine o_iloadN X0 hx hby d25_0 rfl (o_iconst X0 hx hby d25_1 (x := 1) rfl (o_isub X0 hx hby d25_2 (z := (1 : Int32)) (by decide +kernel) (o_istoreN X0 hx hby d25_3 (Ls' := #[vR a1, vR a2, vI 2, vI 1, .unset, .unset]) rfl (o_iloadN X0 hx hby d25_4 rfl (o_ifN X0 hx hby d25_5 (by decide +kernel) (o_aloadN X0 hx hby d25_8 rfl rfl (o_iloadN X0 hx hby d25_9 rfl (o_iconst X0 hx hby d25_10 (x := 1) rfl (o_iadd X0 hx hby d25_11 (z := (2 : Int32)) (by decide +kernel) (st6 _ ?_))))))))))
    exact kt
  rcases (own_j2 u9 u10) with hq17 | hq17
  · skip
    subst hq17
    have f22 : Arv Z T6.heap a2 k19 .int (2 : Int32) [(.int p18), (.int p18)] (.int (0 : Int32)) := (V20.keep Ku13 (ninS hne21 nin0))
    obtain ⟨cl23, Ar23, -, Sz23, -, Hh23, -⟩ := id f22
    have hin23 : ¬ ((1 : Int32) < 0 ∨ cl23.slots.size ≤ ((1 : Int32)).toNatClampNeg) := inb_of Sz23 ⟨by decide +kernel, by decide +kernel⟩
    have hat23 : cl23.slots[((1 : Int32)).toNatClampNeg]? = some (.int p18) := Has.at Hh23 hin23 rfl
    obtain ⟨cl24, Ar24, -, Sz24, -, Hh24, -⟩ := id f22
    have hin24 : ¬ ((0 : Int32) < 0 ∨ cl24.slots.size ≤ ((0 : Int32)).toNatClampNeg) := inb_of Sz24 ⟨by decide +kernel, by decide +kernel⟩
    have hat24 : cl24.slots[((0 : Int32)).toNatClampNeg]? = some (.int p18) := Has.at Hh24 hin24 rfl
    obtain ⟨cl25, Ar25, qk25, Sz25, Nn25, Hh25, Gg25⟩ := id f22
    have hin25 : ¬ ((1 : Int32) < 0 ∨ cl25.slots.size ≤ ((1 : Int32)).toNatClampNeg) := inb_of Sz25 ⟨by decide +kernel, by decide +kernel⟩
    obtain ⟨T26, h26, X26, e26, W26, st26⟩ := stI X6 hx hZ rfl Ar25 (j := (1 : Int32)) hin25 (g := (mkF m 28 #[vR a1, vR a2, vI 2, vI 1, vI 0, vI p18] [(.int p18), (.int 1), (.ref a2)])) rfl rfl (hb hby d25_28)
    have O26 : Old Z n0 h26 := Ou13.wr W26 g_a2
    have V26 : Arv Z h26 a2 k19 .int (2 : Int32) [(.int p18), (.int p18)] (.int (0 : Int32)) := Arv.set Ar25 qk25 Sz25 Nn25 Hh25 Gg25 rfl W26 1 rfl (Nat.le_of_ble_eq_true rfl)
    have N26 := Fr.snoc X26 N6 g_a2
    obtain ⟨cl28, Ar28, qk28, Sz28, Nn28, Hh28, Gg28⟩ := id V26
    have hin28 : ¬ ((0 : Int32) < 0 ∨ cl28.slots.size ≤ ((0 : Int32)).toNatClampNeg) := inb_of Sz28 ⟨by decide +kernel, by decide +kernel⟩
    obtain ⟨T29, h29, X29, e29, W29, st29⟩ := stI X26 hx hZ e26 Ar28 (j := (0 : Int32)) hin28 (g := (mkF m 34 #[vR a1, vR a2, vI 2, vI 1, vI 0, vI p18] [(.int p18), (.int 0), (.ref a2)])) rfl rfl (hb hby d25_34)
    have O29 : Old Z n0 h29 := O26.wr W29 g_a2
    have V29 : Arv Z h29 a2 k19 .int (2 : Int32) [(.int p18), (.int p18)] (.int (0 : Int32)) := Arv.set Ar28 qk28 Sz28 Nn28 Hh28 Gg28 rfl W29 0 rfl (Nat.le_of_ble_eq_true rfl)
    have N29 := Fr.snoc X29 N26 g_a2
    have f30 : Exa Z h29 a1 C_5 := (Exa.wr W29 (Exa.wr W26 u14))
    have f31 : Fld Z h29 a1 C_5 "state" "J" (.long j8) := (Fld.other W29 (Fld.other W26 u15 (Or.inl (Ne.symm hne21))) (Or.inl (Ne.symm hne21)))
    have f32 : Exa Z h29 a2 "[I" := (Exa.wr W29 (Exa.wr W26 (E_27.keep Ku13)))
    refine fin none _ _ _ _ X29 (fun _ => rfl) (fun fs hr => pre16 _ ?_) (own_atH e29 ?_) (by decide) (by decide)
    · refine o_istore X6 hx hby d25_15 (Ls' := #[vR a1, vR a2, vI 2, vI 1, vI 0, .unset]) rfl (o_aloadN X6 hx hby d25_17 rfl rfl (o_iloadN X6 hx hby d25_18 rfl (X6.iaload hx (j := (1 : Int32)) (v := (.int p18)) Ar23.1 (State.isArrayOf_alike hZ.alike Ar23.2.1) Ar23.2.2 hin23 hat23 (g := (mkF m 19 #[vR a1, vR a2, vI 2, vI 1, vI 0, .unset] [(.int 1), (.ref a2)])) rfl rfl (hb hby d25_19) _ (o_istore X6 hx hby d25_20 (Ls' := #[vR a1, vR a2, vI 2, vI 1, vI 0, vI p18]) rfl (o_aloadN X6 hx hby d25_22 rfl rfl (o_iloadN X6 hx hby d25_23 rfl (o_aloadN X6 hx hby d25_24 rfl rfl (o_iload X6 hx hby d25_25 rfl (X6.iaload hx (j := (0 : Int32)) (v := (.int p18)) Ar24.1 (State.isArrayOf_alike hZ.alike Ar24.2.1) Ar24.2.2 hin24 hat24 (g := (mkF m 27 #[vR a1, vR a2, vI 2, vI 1, vI 0, vI p18] [(.int 0), (.ref a2), (.int 1), (.ref a2)])) rfl rfl (hb hby d25_27) _ (st26 _ (o_aloadN X26 hx hby d25_29 rfl rfl (o_iload X26 hx hby d25_30 rfl (o_iload X26 hx hby d25_32 rfl (st29 _ (o_iinc X29 hx hby d25_35 rfl (z := (0 : Int32)) (k' := -1) rfl (by decide +kernel) (Ls' := #[vR a1, vR a2, vI 2, vI 0, vI 0, vI p18]) rfl (o_goto X29 hx hby d25_38 (pc := 38) (pc' := 4) (by decide) (by decide) (o_iloadN X29 hx hby d25_4 rfl (o_ifY X29 hx hby d25_5 (pc := 5) (pc' := 41) (by decide +kernel) (by decide) (by decide) ?_))))))))))))))))))
      exact X29.returnOut hx hret (hb hby d25_41) hr
    · exact ⟨j8, rfl, N29, ((((Keep.refl h0 [a1, a2]).trans Ku13 (allS (Or.inl (List.mem_of_getElem? (i := 0) rfl)) all0)).wr W26 (Or.inl (List.mem_of_getElem? (i := 1) rfl))).wr W29 (Or.inl (List.mem_of_getElem? (i := 1) rfl))), f30, f31, f32, V29⟩
  · skip
    subst hq17
    have f33 : Arv Z T6.heap a2 k19 .int (2 : Int32) [(.int p18), (.int p18)] (.int (0 : Int32)) := (V20.keep Ku13 (ninS hne21 nin0))
    obtain ⟨cl34, Ar34, -, Sz34, -, Hh34, -⟩ := id f33
    have hin34 : ¬ ((1 : Int32) < 0 ∨ cl34.slots.size ≤ ((1 : Int32)).toNatClampNeg) := inb_of Sz34 ⟨by decide +kernel, by decide +kernel⟩
    have hat34 : cl34.slots[((1 : Int32)).toNatClampNeg]? = some (.int p18) := Has.at Hh34 hin34 rfl
    obtain ⟨cl35, Ar35, -, Sz35, -, Hh35, -⟩ := id f33
    have hin35 : ¬ ((1 : Int32) < 0 ∨ cl35.slots.size ≤ ((1 : Int32)).toNatClampNeg) := inb_of Sz35 ⟨by decide +kernel, by decide +kernel⟩
    have hat35 : cl35.slots[((1 : Int32)).toNatClampNeg]? = some (.int p18) := Has.at Hh35 hin35 rfl
    obtain ⟨cl36, Ar36, qk36, Sz36, Nn36, Hh36, Gg36⟩ := id f33
    have hin36 : ¬ ((1 : Int32) < 0 ∨ cl36.slots.size ≤ ((1 : Int32)).toNatClampNeg) := inb_of Sz36 ⟨by decide +kernel, by decide +kernel⟩
    obtain ⟨T37, h37, X37, e37, W37, st37⟩ := stI X6 hx hZ rfl Ar36 (j := (1 : Int32)) hin36 (g := (mkF m 28 #[vR a1, vR a2, vI 2, vI 1, vI 1, vI p18] [(.int p18), (.int 1), (.ref a2)])) rfl rfl (hb hby d25_28)
    have O37 : Old Z n0 h37 := Ou13.wr W37 g_a2
    have V37 : Arv Z h37 a2 k19 .int (2 : Int32) [(.int p18), (.int p18)] (.int (0 : Int32)) := Arv.set Ar36 qk36 Sz36 Nn36 Hh36 Gg36 rfl W37 1 rfl (Nat.le_of_ble_eq_true rfl)
    have N37 := Fr.snoc X37 N6 g_a2
    obtain ⟨cl38, Ar38, qk38, Sz38, Nn38, Hh38, Gg38⟩ := id V37
    have hin38 : ¬ ((1 : Int32) < 0 ∨ cl38.slots.size ≤ ((1 : Int32)).toNatClampNeg) := inb_of Sz38 ⟨by decide +kernel, by decide +kernel⟩
    obtain ⟨T39, h39, X39, e39, W39, st39⟩ := stI X37 hx hZ e37 Ar38 (j := (1 : Int32)) hin38 (g := (mkF m 34 #[vR a1, vR a2, vI 2, vI 1, vI 1, vI p18] [(.int p18), (.int 1), (.ref a2)])) rfl rfl (hb hby d25_34)
    have O39 : Old Z n0 h39 := O37.wr W39 g_a2
    have V39 : Arv Z h39 a2 k19 .int (2 : Int32) [(.int p18), (.int p18)] (.int (0 : Int32)) := Arv.set Ar38 qk38 Sz38 Nn38 Hh38 Gg38 rfl W39 1 rfl (Nat.le_of_ble_eq_true rfl)
    have N39 := Fr.snoc X39 N37 g_a2
    have f40 : Exa Z h39 a1 C_5 := (Exa.wr W39 (Exa.wr W37 u14))
    have f41 : Fld Z h39 a1 C_5 "state" "J" (.long j8) := (Fld.other W39 (Fld.other W37 u15 (Or.inl (Ne.symm hne21))) (Or.inl (Ne.symm hne21)))
    have f42 : Exa Z h39 a2 "[I" := (Exa.wr W39 (Exa.wr W37 (E_27.keep Ku13)))
    refine fin none _ _ _ _ X39 (fun _ => rfl) (fun fs hr => pre16 _ ?_) (own_atH e39 ?_) (by decide) (by decide)
    · refine o_istore X6 hx hby d25_15 (Ls' := #[vR a1, vR a2, vI 2, vI 1, vI 1, .unset]) rfl (o_aloadN X6 hx hby d25_17 rfl rfl (o_iloadN X6 hx hby d25_18 rfl (X6.iaload hx (j := (1 : Int32)) (v := (.int p18)) Ar34.1 (State.isArrayOf_alike hZ.alike Ar34.2.1) Ar34.2.2 hin34 hat34 (g := (mkF m 19 #[vR a1, vR a2, vI 2, vI 1, vI 1, .unset] [(.int 1), (.ref a2)])) rfl rfl (hb hby d25_19) _ (o_istore X6 hx hby d25_20 (Ls' := #[vR a1, vR a2, vI 2, vI 1, vI 1, vI p18]) rfl (o_aloadN X6 hx hby d25_22 rfl rfl (o_iloadN X6 hx hby d25_23 rfl (o_aloadN X6 hx hby d25_24 rfl rfl (o_iload X6 hx hby d25_25 rfl (X6.iaload hx (j := (1 : Int32)) (v := (.int p18)) Ar35.1 (State.isArrayOf_alike hZ.alike Ar35.2.1) Ar35.2.2 hin35 hat35 (g := (mkF m 27 #[vR a1, vR a2, vI 2, vI 1, vI 1, vI p18] [(.int 1), (.ref a2), (.int 1), (.ref a2)])) rfl rfl (hb hby d25_27) _ (st37 _ (o_aloadN X37 hx hby d25_29 rfl rfl (o_iload X37 hx hby d25_30 rfl (o_iload X37 hx hby d25_32 rfl (st39 _ (o_iinc X39 hx hby d25_35 rfl (z := (0 : Int32)) (k' := -1) rfl (by decide +kernel) (Ls' := #[vR a1, vR a2, vI 2, vI 0, vI 1, vI p18]) rfl (o_goto X39 hx hby d25_38 (pc := 38) (pc' := 4) (by decide) (by decide) (o_iloadN X39 hx hby d25_4 rfl (o_ifY X39 hx hby d25_5 (pc := 5) (pc' := 41) (by decide +kernel) (by decide) (by decide) ?_))))))))))))))))))
      exact X39.returnOut hx hret (hb hby d25_41) hr
    · exact ⟨j8, rfl, N39, ((((Keep.refl h0 [a1, a2]).trans Ku13 (allS (Or.inl (List.mem_of_getElem? (i := 0) rfl)) all0)).wr W37 (Or.inl (List.mem_of_getElem? (i := 1) rfl))).wr W39 (Or.inl (List.mem_of_getElem? (i := 1) rfl))), f40, f41, f42, V39⟩
def Q13_60 (Z : State) (a1 : Addr) (a6 : Addr) (a9 : Addr) (p13 : Int32) (k14 : ClassId) (p16 : Int32) (p17 : Int32) (k18 : ClassId) (a26 : Addr) (a28 : Addr) (q43 : Int64) (h0 : Heap) (n0 : Nat) (v : Option Value) (h : Heap) (L : List Loc) : Prop := (∃ (j52 : Int64), v = some (.int p13) ∧ Fr n0 L ∧ Keep h0 h [a9, a1, a26] ∧ Exa Z h a9 "[I" ∧ Arv Z h a9 k18 .int (2 : Int32) [(.int p13), (.int p13)] (.int (0 : Int32)) ∧ Exa Z h a1 C_3 ∧ Fld Z h a1 C_3 "deck" "[I" (.ref a9) ∧ Fld Z h a1 C_3 "deckSize" "I" (.int 1) ∧ Fld Z h a1 C_3 "discard" "[I" (.ref a6) ∧ Fld Z h a1 C_3 "discardSize" "I" (.int 0) ∧ Fld Z h a1 C_3 "generator" C_4 (.ref a26) ∧ Fld Z h a1 C_3 "market" "[I" (.ref a28) ∧ Exa Z h a26 C_5 ∧ Fld Z h a26 C_5 "state" "J" (.long j52))
theorem rm13_60 (l : Launch) (Z : State) (a0 : Array Value) (hw : own_HW Z a0) (a1 : Addr) (a6 : Addr) (a9 : Addr) (p13 : Int32) (k14 : ClassId) (p16 : Int32) (p17 : Int32) (k18 : ClassId) (a26 : Addr) (a28 : Addr) (q43 : Int64) (h0 : Heap) (n0 : Nat) (O0 : Old Z n0 h0) (F2 : Fld Z h0 a1 C_3 "deckSize" "I" (.int 0)) (F4 : Fld Z h0 a1 C_3 "discardSize" "I" (.int 2)) (F7 : Fld Z h0 a1 C_3 "discard" "[I" (.ref a6)) (F10 : Fld Z h0 a1 C_3 "deck" "[I" (.ref a9)) (V15 : Arv Z h0 a6 k14 .int (2 : Int32) [(.int p13), (.int p13)] (.int (0 : Int32))) (V19 : Arv Z h0 a9 k18 .int (2 : Int32) [(.int p16), (.int p17)] (.int (0 : Int32))) (E_20 : Exa Z h0 a9 "[I") (g_a9 : n0 ≤ a9) (hne22 : a1 ≠ a9) (E_25 : Exa Z h0 a1 C_3) (F27 : Fld Z h0 a1 C_3 "generator" C_4 (.ref a26)) (F29 : Fld Z h0 a1 C_3 "market" "[I" (.ref a28)) (g_a1 : n0 ≤ a1) (E_42 : Exa Z h0 a26 C_5) (F44 : Fld Z h0 a26 C_5 "state" "J" (.long q43)) (hne45 : a9 ≠ a26) (g_a26 : n0 ≤ a26) (hne47 : a26 ≠ a1) : own_Met l Z M_14 bc13 1 (some .int) ({ frames := 4, cells := 0, slots := 0, locals := 59 } : Room) #[(.ref a1)] h0 (Q13_60 Z a1 a6 a9 p13 k14 p16 p17 k18 a26 a28 q43 h0 n0) := by
  refine own_body (L0 := #[vR a1]) (plainFor_of_name pn_6) (fun m => by first | (simp [entryFrame, mkF, argsToLocals, Value.category]; done) | rfl) fun p e s m below meth c s₁ EN hx hby hml hown hnm hret X0 hZ e0 hh pre0 fin => ?_
  have N0 := Fr.nil n0
  obtain ⟨T3, X3, e3, st3⟩ := getF X0 hx hZ hown (host := "") (Or.inl (ww111 hw)) Via.refl e0 F2 (g := (mkF m 1 #[vR a1] [(.ref a1)])) rfl rfl (hb hby d13_1)
  obtain ⟨T5, X5, e5, st5⟩ := getF X3 hx hZ hown (host := "") (Or.inl (ww113 hw)) Via.refl e3 F4 (g := (mkF m 8 #[vR a1] [(.ref a1)])) rfl rfl (hb hby d13_8)
  obtain ⟨T8, X8, e8, st8⟩ := getF X5 hx hZ hown (host := "") (Or.inl (ww64 hw)) Via.refl e5 F7 (g := (mkF m 17 #[vR a1] [(.ref a1)])) rfl rfl (hb hby d13_17)
  obtain ⟨T11, X11, e11, st11⟩ := getF X8 hx hZ hown (host := "") (Or.inl (ww62 hw)) Via.refl e8 F10 (g := (mkF m 22 #[vR a1] [(.ref a1), (.int 0), (.ref a6)])) rfl rfl (hb hby d13_22)
  obtain ⟨T12, X12, e12, st12⟩ := getF X11 hx hZ hown (host := "") (Or.inl (ww113 hw)) Via.refl e11 F4 (g := (mkF m 27 #[vR a1] [(.ref a1), (.int 0), (.ref a9), (.int 0), (.ref a6)])) rfl rfl (hb hby d13_27)
  obtain ⟨T21, h21, L21, X21, e21, N21, Ku21, V21, st21⟩ := cpA X12 hx hZ hown (ww186 hw) (ww189 hw) (ww187 hw) (ww188 hw) e12 (sp := (0 : Int32)) (dp := (0 : Int32)) (nn := (2 : Int32)) (us := [(.int p13), (.int p13)]) V15 V19 (Or.inl ⟨rfl, rfl⟩) (by decide +kernel) (by decide +kernel) (by decide +kernel) (by decide +kernel) (by decide +kernel) rfl (Nat.le_of_ble_eq_true rfl) N0 g_a9 (g := (mkF m 30 #[vR a1] [(.int 2), (.int 0), (.ref a9), (.int 0), (.ref a6)])) rfl (by rw [hml]; rfl) rfl (hb hby d13_30) (by decide) (W := 0) (by show 2 * 0 + _ ≤ _; exact Nat.le_of_eq rfl) (by decide +kernel)
  have Ou21 : Old Z n0 h21 := O0.keep Ku21 (allS g_a9 all0)
  have Vc21 : Arv Z h21 a9 k18 .int (2 : Int32) [(.int p13), (.int p13)] (.int (0 : Int32)) := V21
  have f23 : Fld Z h21 a1 C_3 "discardSize" "I" (.int 2) := (F4.keep Ku21 (ninS hne22 nin0))
  obtain ⟨T24, X24, e24, st24⟩ := getF X21 hx hZ hown (host := "") (Or.inl (ww113 hw)) Via.refl e21 f23 (g := (mkF m 35 #[vR a1] [(.ref a1), (.ref a1)])) rfl rfl (hb hby d13_35)
  have f30 : Fld Z h21 a1 C_3 "deckSize" "I" (.int 0) := (F2.keep Ku21 (ninS hne22 nin0))
  have f31 : Exa Z h21 a1 C_3 := (E_25.keep Ku21)
  obtain ⟨T32, h32, X32, e32, W32, st32⟩ := putF X24 hx hZ hown (host := "") (Or.inl (ww111 hw)) Via.refl e24 f30 f31 (Or.inl (ww112 hw)) (ww31 hw) (ty := .int) (by decide) rfl rfl (g := (mkF m 38 #[vR a1] [(.int 2), (.ref a1)])) rfl rfl (hb hby d13_38)
  have O32 : Old Z n0 h32 := Ou21.wr W32 g_a1
  have Fw32 : Fld Z h32 a1 C_3 "deckSize" "I" (.int 2) := Fld.same W32 f30
  have N32 := Fr.snoc X32 N21 g_a1
  have f33 : Fld Z h32 a1 C_3 "discardSize" "I" (.int 2) := (Fld.other W32 f23 (Or.inr (own_sl41 hw)))
  have f34 : Exa Z h32 a1 C_3 := (Exa.wr W32 f31)
  obtain ⟨T35, h35, X35, e35, W35, st35⟩ := putF X32 hx hZ hown (host := "") (Or.inl (ww113 hw)) Via.refl e32 f33 f34 (Or.inl (ww114 hw)) (ww31 hw) (ty := .int) (by decide) rfl rfl (g := (mkF m 43 #[vR a1] [(.int 0), (.ref a1)])) rfl rfl (hb hby d13_43)
  have O35 : Old Z n0 h35 := O32.wr W35 g_a1
  have Fw35 : Fld Z h35 a1 C_3 "discardSize" "I" (.int 0) := Fld.same W35 f33
  have N35 := Fr.snoc X35 N32 g_a1
  have f36 : Fld Z h35 a1 C_3 "generator" C_4 (.ref a26) := (Fld.other W35 (Fld.other W32 (F27.keep Ku21 (ninS hne22 nin0)) (Or.inr (own_sl42 hw))) (Or.inr (own_sl46 hw)))
  obtain ⟨T37, X37, e37, st37⟩ := getF X35 hx hZ hown (host := "") (Or.inl (ww49 hw)) Via.refl e35 f36 (g := (mkF m 47 #[vR a1] [(.ref a1)])) rfl rfl (hb hby d13_47)
  have f38 : Fld Z h35 a1 C_3 "deck" "[I" (.ref a9) := (Fld.other W35 (Fld.other W32 (F10.keep Ku21 (ninS hne22 nin0)) (Or.inr (own_sl39 hw))) (Or.inr (own_sl43 hw)))
  obtain ⟨T39, X39, e39, st39⟩ := getF X37 hx hZ hown (host := "") (Or.inl (ww62 hw)) Via.refl e37 f38 (g := (mkF m 51 #[vR a1] [(.ref a1), (.ref a26)])) rfl rfl (hb hby d13_51)
  have f40 : Fld Z h35 a1 C_3 "deckSize" "I" (.int 2) := (Fld.other W35 Fw32 (Or.inr (own_sl44 hw)))
  obtain ⟨T41, X41, e41, st41⟩ := getF X39 hx hZ hown (host := "") (Or.inl (ww111 hw)) Via.refl e39 f40 (g := (mkF m 55 #[vR a1] [(.ref a1), (.ref a9), (.ref a26)])) rfl rfl (hb hby d13_55)
  have f46 : Exa Z h35 a26 C_5 := (Exa.wr W35 (Exa.wr W32 (E_42.keep Ku21)))
  have f48 : Fld Z h35 a26 C_5 "state" "J" (.long q43) := (Fld.other W35 (Fld.other W32 (F44.keep Ku21 (ninS (Ne.symm hne45) nin0)) (Or.inl hne47)) (Or.inl hne47))
  have f49 : Arv Z h35 a9 k18 .int (2 : Int32) [(.int p13), (.int p13)] (.int (0 : Int32)) := ((Vc21.other W32 (Ne.symm hne22)).other W35 (Ne.symm hne22))
  have f50 : Exa Z h35 a9 "[I" := (Exa.wr W35 (Exa.wr W32 (E_20.keep Ku21)))
  obtain ⟨_, T51, L51, X51, hQ51, st51⟩ := own_cV X41 hx hZ hown (ww190 hw) (ww191 hw) (notFace_of_selects (args := #[]) (mvT hZ (ww193 hw))) (ww193 hw) (ww192 hw) (ww35 hw) (ww194 hw) f46 (rm25_61 l Z a0 hw a26 a9 q43 p13 k18 h35 n0 O35 f46 f48 g_a26 f49 hne45 g_a9 f50) e41 pd_7 hml (hb hby d13_58) (Ls := #[vR a1]) (W := 0) (argsL := [(.ref a9), (.int 2)]) (rest := [])
  obtain ⟨j52, rfl, u54, Ku55, u56, u57, u58, u59⟩ := hQ51
  have Ou55 : Old Z n0 T51.heap := O35.keep Ku55 (allS g_a26 (allS g_a9 all0))
  have N51 := Fr.app N35 u54
  have f60 : Fld Z T51.heap a1 C_3 "deck" "[I" (.ref a9) := (f38.keep Ku55 (ninS (Ne.symm hne47) (ninS hne22 nin0)))
  obtain ⟨T61, X61, e61, st61⟩ := getF X51 hx hZ hown (host := "") (Or.inl (ww62 hw)) Via.refl rfl f60 (g := (mkF m 62 #[vR a1] [(.ref a1)])) rfl rfl (hb hby d13_62)
  have f62 : Fld Z T51.heap a1 C_3 "deckSize" "I" (.int 2) := (f40.keep Ku55 (ninS (Ne.symm hne47) (ninS hne22 nin0)))
  obtain ⟨T63, X63, e63, st63⟩ := getF X61 hx hZ hown (host := "") (Or.inl (ww111 hw)) Via.refl e61 f62 (g := (mkF m 67 #[vR a1] [(.ref a1), (.ref a1), (.ref a9)])) rfl rfl (hb hby d13_67)
  have f64 : Exa Z T51.heap a1 C_3 := ((Exa.wr W35 f34).keep Ku55)
  obtain ⟨T65, h65, X65, e65, W65, st65⟩ := putF X63 hx hZ hown (host := "") (Or.inl (ww111 hw)) Via.refl e63 f62 f64 (Or.inl (ww112 hw)) (ww31 hw) (ty := .int) (by decide) rfl rfl (g := (mkF m 73 #[vR a1] [(.int 1), (.ref a1), (.int 1), (.ref a9)])) rfl rfl (hb hby d13_73)
  have O65 : Old Z n0 h65 := Ou55.wr W65 g_a1
  have Fw65 : Fld Z h65 a1 C_3 "deckSize" "I" (.int 1) := Fld.same W65 f62
  have N65 := Fr.snoc X65 N51 g_a1
  have f66 : Arv Z h65 a9 k18 .int (2 : Int32) [(.int p13), (.int p13)] (.int (0 : Int32)) := (u59.other W65 (Ne.symm hne22))
  obtain ⟨cl67, Ar67, -, Sz67, -, Hh67, -⟩ := id f66
  have hin67 : ¬ ((1 : Int32) < 0 ∨ cl67.slots.size ≤ ((1 : Int32)).toNatClampNeg) := inb_of Sz67 ⟨by decide +kernel, by decide +kernel⟩
  have hat67 : cl67.slots[((1 : Int32)).toNatClampNeg]? = some (.int p13) := Has.at Hh67 hin67 rfl
  have f68 : Exa Z h65 a9 "[I" := (Exa.wr W65 u58)
  have f69 : Exa Z h65 a1 C_3 := (Exa.wr W65 f64)
  have f70 : Fld Z h65 a1 C_3 "deck" "[I" (.ref a9) := (Fld.other W65 f60 (Or.inr (own_sl39 hw)))
  have f71 : Fld Z h65 a1 C_3 "discard" "[I" (.ref a6) := (Fld.other W65 ((Fld.other W35 (Fld.other W32 (F7.keep Ku21 (ninS hne22 nin0)) (Or.inr (own_sl40 hw))) (Or.inr (own_sl45 hw))).keep Ku55 (ninS (Ne.symm hne47) (ninS hne22 nin0))) (Or.inr (own_sl40 hw)))
  have f72 : Fld Z h65 a1 C_3 "discardSize" "I" (.int 0) := (Fld.other W65 (Fw35.keep Ku55 (ninS (Ne.symm hne47) (ninS hne22 nin0))) (Or.inr (own_sl41 hw)))
  have f73 : Fld Z h65 a1 C_3 "generator" C_4 (.ref a26) := (Fld.other W65 (f36.keep Ku55 (ninS (Ne.symm hne47) (ninS hne22 nin0))) (Or.inr (own_sl42 hw)))
  have f74 : Fld Z h65 a1 C_3 "market" "[I" (.ref a28) := (Fld.other W65 ((Fld.other W35 (Fld.other W32 (F29.keep Ku21 (ninS hne22 nin0)) (Or.inr (own_sl38 hw))) (Or.inr (own_sl47 hw))).keep Ku55 (ninS (Ne.symm hne47) (ninS hne22 nin0))) (Or.inr (own_sl38 hw)))
  have f75 : Exa Z h65 a26 C_5 := (Exa.wr W65 u56)
  have f76 : Fld Z h65 a26 C_5 "state" "J" (.long j52) := (Fld.other W65 u57 (Or.inl hne47))
  refine fin (some (.int p13)) _ _ _ _ X65 nofun (fun fs hr => pre0 _ ?_) (own_atH e65 ?_) (by decide) (by decide)
  · refine o_aloadN X0 hx hby d13_0 rfl rfl (st3 _ (o_ifN X3 hx hby d13_4 (by decide +kernel) (o_aloadN X3 hx hby d13_7 rfl rfl (st5 _ (o_ifY X5 hx hby d13_11 (pc := 11) (pc' := 16) (by decide +kernel) (by decide) (by decide) (o_aloadN X5 hx hby d13_16 rfl rfl (st8 _ (o_iconst X8 hx hby d13_20 (x := 0) rfl (o_aloadN X8 hx hby d13_21 rfl rfl (st11 _ (o_iconst X11 hx hby d13_25 (x := 0) rfl (o_aloadN X11 hx hby d13_26 rfl rfl (st12 _ (st21 _ (o_aloadN X21 hx hby d13_33 rfl rfl (o_aloadN X21 hx hby d13_34 rfl rfl (st24 _ (st32 _ (o_aloadN X32 hx hby d13_41 rfl rfl (o_iconst X32 hx hby d13_42 (x := 0) rfl (st35 _ (o_aloadN X35 hx hby d13_46 rfl rfl (st37 _ (o_aloadN X37 hx hby d13_50 rfl rfl (st39 _ (o_aloadN X39 hx hby d13_54 rfl rfl (st41 _ (st51 _ (o_aloadN X51 hx hby d13_61 rfl rfl (st61 _ (o_aloadN X61 hx hby d13_65 rfl rfl (o_dup X61 hx hby d13_66 rfl (st63 _ (o_iconst X63 hx hby d13_70 (x := 1) rfl (o_isub X63 hx hby d13_71 (z := (1 : Int32)) (by decide +kernel) (o_dupX1 X63 hx hby d13_72 rfl rfl (st65 _ (X65.iaload hx (j := (1 : Int32)) (v := (.int p13)) (by rw [e65]; exact Ar67.1) (State.isArrayOf_alike hZ.alike Ar67.2.1) Ar67.2.2 hin67 hat67 (g := (mkF m 76 #[vR a1] [(.int 1), (.ref a9)])) rfl rfl (hb hby d13_76) _ ?_))))))))))))))))))))))))))))))))))))))
    exact retI X65 hx hret (hb hby d13_77) hr
  · exact ⟨j52, rfl, N65, ((((((Keep.refl h0 [a9, a1, a26]).trans Ku21 (allS (Or.inl (List.mem_of_getElem? (i := 0) rfl)) all0)).wr W32 (Or.inl (List.mem_of_getElem? (i := 1) rfl))).wr W35 (Or.inl (List.mem_of_getElem? (i := 1) rfl))).trans Ku55 (allS (Or.inl (List.mem_of_getElem? (i := 2) rfl)) (allS (Or.inl (List.mem_of_getElem? (i := 0) rfl)) all0))).wr W65 (Or.inl (List.mem_of_getElem? (i := 1) rfl))), f68, f66, f69, f70, Fw65, f71, f72, f73, f74, f75, f76⟩
def Q1_65 (Z : State) (p1 : Int32) (h0 : Heap) (n0 : Nat) (v : Option Value) (h : Heap) (L : List Loc) : Prop := ((3 : Int32) < p1 ∧ v = some (.int 3) ∧ Fr n0 L ∧ h = h0) ∨ (¬ ((3 : Int32) < p1) ∧ v = some (.int p1) ∧ Fr n0 L ∧ h = h0)
theorem rm1_65 (l : Launch) (Z : State) (a0 : Array Value) (hw : own_HW Z a0) (p1 : Int32) (h0 : Heap) (n0 : Nat) (O0 : Old Z n0 h0) : own_Met l Z M_0 bc1 2 (some .int) ({ frames := 0, cells := 0, slots := 0, locals := 0 } : Room) #[(.int p1), (.int 3)] h0 (Q1_65 Z p1 h0 n0) := by
  refine own_body (L0 := #[vI p1, vI 3]) (Jvm.Free.JP.mathPlain rfl (by decide +kernel)) (fun m => by first | (simp [entryFrame, mkF, argsToLocals, Value.category]; done) | rfl) fun p e s m below meth c s₁ EN hx hby hml hown hnm hret X0 hZ e0 hh pre0 fin => ?_
  have N0 := Fr.nil n0
  have pre2 : ∀ t, Steps p.tables e below (s₁.setTop (mkF m 2 #[vI p1, vI 3] [(.int 3), (.int p1)])) t → Steps p.tables e below EN t := by
    intro t kt
    refine pre0 t ?_
    refine o_iloadN X0 hx hby d1_0 rfl (o_iloadN X0 hx hby d1_1 rfl ?_)
    exact kt
  by_cases hc3 : (3 : Int32) < p1
  · skip
    refine fin (some (.int 3)) _ _ _ _ X0 nofun (fun fs hr => pre2 _ ?_) (own_atH e0 ?_) (by decide) (by decide)
    · refine o_icmpY X0 hx hby d1_2 (pc := 2) (pc' := 9) (tlt hc3).2.2.1 (by decide) (by decide) (o_iloadN X0 hx hby d1_9 rfl ?_)
      exact retI X0 hx hret (hb hby d1_10) hr
    · exact Or.inl (⟨hc3, rfl, N0, rfl⟩)
  · skip
    refine fin (some (.int p1)) _ _ _ _ X0 nofun (fun fs hr => pre2 _ ?_) (own_atH e0 ?_) (by decide) (by decide)
    · refine o_icmpN X0 hx hby d1_2 (flt hc3).2.2.1 (o_iloadN X0 hx hby d1_5 rfl (o_goto X0 hx hby d1_6 (pc := 6) (pc' := 10) (by decide) (by decide) ?_))
      exact retI X0 hx hret (hb hby d1_10) hr
    · exact Or.inr (⟨hc3, rfl, N0, rfl⟩)
def Q18_67 (Z : State) (a1 : Addr) (a2 : Addr) (a3 : Addr) (a4 : Addr) (a5 : Addr) (k6 : ClassId) (h0 : Heap) (n0 : Nat) (v : Option Value) (h : Heap) (L : List Loc) : Prop := (v = none ∧ Fr n0 L ∧ Keep h0 h [a3, a1] ∧ Exa Z h a3 C_2 ∧ Arv Z h a3 k6 (.object "java/lang/Object") (10 : Int32) [(.ref a4), (.ref a5), (.ref a2)] .null ∧ Ovr Z k6 "java/lang/Object" ∧ Exa Z h a1 C_1 ∧ Fld Z h a1 C_1 "elementData" C_2 (.ref a3) ∧ Fld Z h a1 C_0 "modCount" "I" (.int 3) ∧ Fld Z h a1 C_1 "size" "I" (.int 3))
theorem rm18_67 (l : Launch) (Z : State) (a0 : Array Value) (hw : own_HW Z a0) (a1 : Addr) (a2 : Addr) (a3 : Addr) (a4 : Addr) (a5 : Addr) (k6 : ClassId) (h0 : Heap) (n0 : Nat) (O0 : Old Z n0 h0) (V7 : Arv Z h0 a3 k6 (.object "java/lang/Object") (10 : Int32) [(.ref a4), (.ref a5)] .null) (Ov11 : Ovr Z k6 "java/lang/Object") (E_12 : Exa Z Z.heap a2 C_8) (g_a3 : n0 ≤ a3) (E_14 : Exa Z h0 a3 C_2) (E_15 : Exa Z h0 a1 C_1) (F16 : Fld Z h0 a1 C_1 "elementData" C_2 (.ref a3)) (F17 : Fld Z h0 a1 C_0 "modCount" "I" (.int 3)) (F18 : Fld Z h0 a1 C_1 "size" "I" (.int 2)) (hne19 : a1 ≠ a3) (g_a1 : n0 ≤ a1) : own_Met l Z M_21 bc18 4 none ({ frames := 0, cells := 0, slots := 0, locals := 0 } : Room) #[(.ref a1), (.ref a2), (.ref a3), (.int 2)] h0 (Q18_67 Z a1 a2 a3 a4 a5 k6 h0 n0) := by
  refine own_body (L0 := #[vR a1, vR a2, vR a3, vI 2]) (plainFor_of_name pn_2) (fun m => by first | (simp [entryFrame, mkF, argsToLocals, Value.category]; done) | rfl) fun p e s m below meth c s₁ EN hx hby hml hown hnm hret X0 hZ e0 hh pre0 fin => ?_
  have N0 := Fr.nil n0
  obtain ⟨cl8, Ar8, -, Sz8, Nn8, -, -⟩ := id V7
  have Vp9 : Arv Z h0 a3 k6 (.object "java/lang/Object") (10 : Int32) [(.ref a4), (.ref a5), .null] .null := V7.pad (pad_rep [(.ref a4), (.ref a5)] .null 1)
  obtain ⟨cl10, Ar10, qk10, Sz10, Nn10, Hh10, Gg10⟩ := id Vp9
  have hin10 : ¬ ((2 : Int32) < 0 ∨ cl10.slots.size ≤ ((2 : Int32)).toNatClampNeg) := inb_of Sz10 ⟨by decide +kernel, by decide +kernel⟩
  obtain ⟨T13, h13, X13, e13, W13, st13⟩ := stR X0 hx hZ e0 Ar10 (j := (2 : Int32)) hin10 rfl (Sto.ofV Ar10 qk10 Ov11 (Ins.of_exa (Exa.ext O0.2 E_12) (ww158 hw))) (g := (mkF m 14 #[vR a1, vR a2, vR a3, vI 2] [(.ref a2), (.int 2), (.ref a3)])) rfl rfl (hb hby d18_14)
  have O13 : Old Z n0 h13 := O0.wr W13 g_a3
  have V13 : Arv Z h13 a3 k6 (.object "java/lang/Object") (10 : Int32) [(.ref a4), (.ref a5), (.ref a2)] .null := Arv.set Ar10 qk10 Sz10 Nn10 Hh10 Gg10 rfl W13 2 rfl (Nat.le_of_ble_eq_true rfl)
  have N13 := Fr.snoc X13 N0 g_a3
  have f20 : Fld Z h13 a1 C_1 "size" "I" (.int 2) := (Fld.other W13 F18 (Or.inl hne19))
  have f21 : Exa Z h13 a1 C_1 := (Exa.wr W13 E_15)
  obtain ⟨T22, h22, X22, e22, W22, st22⟩ := putF X13 hx hZ hown (host := "") (Or.inl (ww60 hw)) Via.refl e13 f20 f21 (Or.inl (ww61 hw)) (ww5 hw) (ty := .int) (by decide) rfl rfl (g := (mkF m 19 #[vR a1, vR a2, vR a3, vI 2] [(.int 3), (.ref a1)])) rfl rfl (hb hby d18_19)
  have O22 : Old Z n0 h22 := O13.wr W22 g_a1
  have Fw22 : Fld Z h22 a1 C_1 "size" "I" (.int 3) := Fld.same W22 f20
  have N22 := Fr.snoc X22 N13 g_a1
  have f23 : Exa Z h22 a3 C_2 := (Exa.wr W22 (Exa.wr W13 E_14))
  have f24 : Arv Z h22 a3 k6 (.object "java/lang/Object") (10 : Int32) [(.ref a4), (.ref a5), (.ref a2)] .null := (V13.other W22 (Ne.symm hne19))
  have f25 : Exa Z h22 a1 C_1 := (Exa.wr W22 f21)
  have f26 : Fld Z h22 a1 C_1 "elementData" C_2 (.ref a3) := (Fld.other W22 (Fld.other W13 F16 (Or.inl hne19)) (Or.inr (own_sl33 hw)))
  have f27 : Fld Z h22 a1 C_0 "modCount" "I" (.int 3) := (Fld.other W22 (Fld.other W13 F17 (Or.inl hne19)) (Or.inr (own_sl34 hw)))
  refine fin none _ _ _ _ X22 (fun _ => rfl) (fun fs hr => pre0 _ ?_) (own_atH e22 ?_) (by decide) (by decide)
  · refine o_iloadN X0 hx hby d18_0 rfl (o_aloadN X0 hx hby d18_1 rfl rfl (X0.arraylength hx (by rw [e0]; exact Ar8.1) (State.isArrayOf_alike hZ.alike Ar8.2.1) (g := (mkF m 2 #[vR a1, vR a2, vR a3, vI 2] [(.ref a3), (.int 2)])) rfl rfl (hb hby d18_2) _ ?_))
    rw [len_of Sz8 Nn8]
    refine o_icmpY X0 hx hby d18_3 (pc := 3) (pc' := 11) (by decide +kernel) (by decide) (by decide) (o_aloadN X0 hx hby d18_11 rfl rfl (o_iloadN X0 hx hby d18_12 rfl (o_aloadN X0 hx hby d18_13 rfl rfl (st13 _ (o_aloadN X13 hx hby d18_15 rfl rfl (o_iloadN X13 hx hby d18_16 rfl (o_iconst X13 hx hby d18_17 (x := 1) rfl (o_iadd X13 hx hby d18_18 (z := (3 : Int32)) (by decide +kernel) (st22 _ ?_)))))))))
    exact X22.returnOut hx hret (hb hby d18_22) hr
  · exact ⟨rfl, N22, (((Keep.refl h0 [a3, a1]).wr W13 (Or.inl (List.mem_of_getElem? (i := 0) rfl))).wr W22 (Or.inl (List.mem_of_getElem? (i := 1) rfl))), f23, f24, Ov11, f25, f26, f27, Fw22⟩
def Q17_66 (Z : State) (a1 : Addr) (a2 : Addr) (a6 : Addr) (a14 : Addr) (a15 : Addr) (k16 : ClassId) (h0 : Heap) (n0 : Nat) (v : Option Value) (h : Heap) (L : List Loc) : Prop := (v = some (.int 1) ∧ Fr n0 L ∧ Keep h0 h [a1, a6] ∧ Exa Z h a1 C_1 ∧ Fld Z h a1 C_1 "elementData" C_2 (.ref a6) ∧ Fld Z h a1 C_0 "modCount" "I" (.int 3) ∧ Fld Z h a1 C_1 "size" "I" (.int 3) ∧ Exa Z h a6 C_2 ∧ Arv Z h a6 k16 (.object "java/lang/Object") (10 : Int32) [(.ref a14), (.ref a15), (.ref a2)] .null ∧ Ovr Z k16 "java/lang/Object")
theorem rm17_66 (l : Launch) (Z : State) (a0 : Array Value) (hw : own_HW Z a0) (a1 : Addr) (a2 : Addr) (a6 : Addr) (a14 : Addr) (a15 : Addr) (k16 : ClassId) (h0 : Heap) (n0 : Nat) (O0 : Old Z n0 h0) (F3 : Fld Z h0 a1 C_0 "modCount" "I" (.int 2)) (E_5 : Exa Z h0 a1 C_1) (F7 : Fld Z h0 a1 C_1 "elementData" C_2 (.ref a6)) (F8 : Fld Z h0 a1 C_1 "size" "I" (.int 2)) (g_a1 : n0 ≤ a1) (V17 : Arv Z h0 a6 k16 (.object "java/lang/Object") (10 : Int32) [(.ref a14), (.ref a15)] .null) (Ov18 : Ovr Z k16 "java/lang/Object") (E_19 : Exa Z Z.heap a2 C_8) (E_20 : Exa Z h0 a6 C_2) (hne21 : a1 ≠ a6) (g_a6 : n0 ≤ a6) : own_Met l Z M_22 bc17 2 (some .boolean) ({ frames := 1, cells := 0, slots := 0, locals := 15 } : Room) #[(.ref a1), (.ref a2)] h0 (Q17_66 Z a1 a2 a6 a14 a15 k16 h0 n0) := by
  refine own_body (L0 := #[vR a1, vR a2]) (plainFor_of_name pn_2) (fun m => by first | (simp [entryFrame, mkF, argsToLocals, Value.category]; done) | rfl) fun p e s m below meth c s₁ EN hx hby hml hown hnm hret X0 hZ e0 hh pre0 fin => ?_
  have N0 := Fr.nil n0
  obtain ⟨T4, X4, e4, st4⟩ := getF X0 hx hZ hown (host := "") (Or.inl (ww137 hw)) (Via.of (ww87 hw)) e0 F3 (g := (mkF m 2 #[vR a1, vR a2] [(.ref a1), (.ref a1)])) rfl rfl (hb hby d17_2)
  obtain ⟨T9, h9, X9, e9, W9, st9⟩ := putF X4 hx hZ hown (host := "") (Or.inl (ww137 hw)) (Via.of (ww87 hw)) e4 F3 E_5 (Or.inl (ww26 hw)) (ww5 hw) (ty := .int) (by decide) rfl rfl (g := (mkF m 7 #[vR a1, vR a2] [(.int 3), (.ref a1)])) rfl rfl (hb hby d17_7)
  have O9 : Old Z n0 h9 := O0.wr W9 g_a1
  have Fw9 : Fld Z h9 a1 C_0 "modCount" "I" (.int 3) := Fld.same W9 F3
  have N9 := Fr.snoc X9 N0 g_a1
  have f10 : Fld Z h9 a1 C_1 "elementData" C_2 (.ref a6) := (Fld.other W9 F7 (Or.inr (own_sl0 hw)))
  obtain ⟨T11, X11, e11, st11⟩ := getF X9 hx hZ hown (host := "") (Or.inl (ww28 hw)) Via.refl e9 f10 (g := (mkF m 13 #[vR a1, vR a2] [(.ref a1), (.ref a2), (.ref a1)])) rfl rfl (hb hby d17_13)
  have f12 : Fld Z h9 a1 C_1 "size" "I" (.int 2) := (Fld.other W9 F8 (Or.inr (own_sl1 hw)))
  obtain ⟨T13, X13, e13, st13⟩ := getF X11 hx hZ hown (host := "") (Or.inl (ww60 hw)) Via.refl e11 f12 (g := (mkF m 17 #[vR a1, vR a2] [(.ref a1), (.ref a6), (.ref a2), (.ref a1)])) rfl rfl (hb hby d17_17)
  have f22 : Arv Z h9 a6 k16 (.object "java/lang/Object") (10 : Int32) [(.ref a14), (.ref a15)] .null := (V17.other W9 (Ne.symm hne21))
  have f23 : Exa Z h9 a6 C_2 := (Exa.wr W9 E_20)
  have f24 : Exa Z h9 a1 C_1 := (Exa.wr W9 E_5)
  obtain ⟨_, T25, L25, X25, hQ25, st25⟩ := own_cP X13 hx hZ hown (ww138 hw) (ww139 hw) (mvT hZ (ww141 hw)) (ww140 hw) (ww6 hw) (ww142 hw) f24 (rm18_67 l Z a0 hw a1 a2 a6 a14 a15 k16 h9 n0 O9 f22 Ov18 E_19 g_a6 f23 f24 f10 Fw9 f12 hne21 g_a1) e13 pd_13 hml (hb hby d17_20) (Ls := #[vR a1, vR a2]) (W := 0) (argsL := [(.ref a2), (.ref a6), (.int 2)]) (rest := [])
  obtain ⟨rfl, u27, Ku28, u29, u30, u31, u32, u33, u34, u35⟩ := hQ25
  have Ou28 : Old Z n0 T25.heap := O9.keep Ku28 (allS g_a6 (allS g_a1 all0))
  have N25 := Fr.app N9 u27
  refine fin (some (.int 1)) _ _ _ _ X25 nofun (fun fs hr => pre0 _ ?_) ?_ (by decide) (by decide)
  · refine o_aloadN X0 hx hby d17_0 rfl rfl (o_dup X0 hx hby d17_1 rfl (st4 _ (o_iconst X4 hx hby d17_5 (x := 1) rfl (o_iadd X4 hx hby d17_6 (z := (3 : Int32)) (by decide +kernel) (st9 _ (o_aloadN X9 hx hby d17_10 rfl rfl (o_aloadN X9 hx hby d17_11 rfl rfl (o_aloadN X9 hx hby d17_12 rfl rfl (st11 _ (o_aloadN X11 hx hby d17_16 rfl rfl (st13 _ (st25 _ (o_iconst X25 hx hby d17_23 (x := 1) rfl ?_)))))))))))))
    exact retN X25 hx (t := .boolean) hret (by simp) (hb hby d17_24) hr
  · exact ⟨rfl, N25, (((Keep.refl h0 [a1, a6]).wr W9 (Or.inl (List.mem_of_getElem? (i := 0) rfl))).trans Ku28 (allS (Or.inl (List.mem_of_getElem? (i := 1) rfl)) (allS (Or.inl (List.mem_of_getElem? (i := 0) rfl)) all0))), u32, u33, u34, u35, u29, u30, u31⟩
def Q8_69 (Z : State) (a1 : Addr) (h0 : Heap) (n0 : Nat) (v : Option Value) (h : Heap) (L : List Loc) : Prop := (v = some (.int 3) ∧ Fr n0 L ∧ h = h0)
theorem rm8_69 (l : Launch) (Z : State) (a0 : Array Value) (hw : own_HW Z a0) (a1 : Addr) (h0 : Heap) (n0 : Nat) (O0 : Old Z n0 h0) (F2 : Fld Z h0 a1 C_1 "size" "I" (.int 3)) : own_Met l Z M_5 bc8 1 (some .int) ({ frames := 0, cells := 0, slots := 0, locals := 0 } : Room) #[(.ref a1)] h0 (Q8_69 Z a1 h0 n0) := by
  refine own_body (L0 := #[vR a1]) (plainFor_of_name pn_2) (fun m => by first | (simp [entryFrame, mkF, argsToLocals, Value.category]; done) | rfl) fun p e s m below meth c s₁ EN hx hby hml hown hnm hret X0 hZ e0 hh pre0 fin => ?_
  have N0 := Fr.nil n0
  obtain ⟨T3, X3, e3, st3⟩ := getF X0 hx hZ hown (host := "") (Or.inl (ww60 hw)) Via.refl e0 F2 (g := (mkF m 1 #[vR a1] [(.ref a1)])) rfl rfl (hb hby d8_1)
  refine fin (some (.int 3)) _ _ _ _ X3 nofun (fun fs hr => pre0 _ ?_) (own_atH e3 ?_) (by decide) (by decide)
  · refine o_aloadN X0 hx hby d8_0 rfl rfl (st3 _ ?_)
    exact retI X3 hx hret (hb hby d8_4) hr
  · exact ⟨rfl, N0, rfl⟩
def Q10_71 (Z : State) (a1 : Addr) (a2 : Addr) (h0 : Heap) (n0 : Nat) (v : Option Value) (h : Heap) (L : List Loc) : Prop := (v = none ∧ Fr n0 L ∧ Keep h0 h [a1] ∧ Exa Z h a1 C_6 ∧ Fld Z h a1 C_6 "cursor" "I" (.int 0) ∧ Fld Z h a1 C_6 "expectedModCount" "I" (.int 3) ∧ Fld Z h a1 C_6 "lastRet" "I" (.int (-1)) ∧ Fld Z h a1 C_6 "this$0" C_7 (.ref a2))
theorem rm10_71 (l : Launch) (Z : State) (a0 : Array Value) (hw : own_HW Z a0) (a1 : Addr) (a2 : Addr) (h0 : Heap) (n0 : Nat) (O0 : Old Z n0 h0) (E_3 : Exa Z h0 a1 C_6) (F4 : Fld Z h0 a1 C_6 "cursor" "I" (.int 0)) (F5 : Fld Z h0 a1 C_6 "expectedModCount" "I" (.int 0)) (F6 : Fld Z h0 a1 C_6 "lastRet" "I" (.int 0)) (F7 : Fld Z h0 a1 C_6 "this$0" C_7 .null) (g_a1 : n0 ≤ a1) (F15 : Fld Z h0 a2 C_0 "modCount" "I" (.int 3)) (hne16 : a2 ≠ a1) : own_Met l Z M_7 bc10 2 none ({ frames := 1, cells := 0, slots := 0, locals := 12 } : Room) #[(.ref a1), (.ref a2)] h0 (Q10_71 Z a1 a2 h0 n0) := by
  refine own_body (L0 := #[vR a1, vR a2]) (plainFor_of_name pn_4) (fun m => by first | (simp [entryFrame, mkF, argsToLocals, Value.category]; done) | rfl) fun p e s m below meth c s₁ EN hx hby hml hown hnm hret X0 hZ e0 hh pre0 fin => ?_
  have N0 := Fr.nil n0
  obtain ⟨T8, h8, X8, e8, W8, st8⟩ := putF X0 hx hZ hown (host := "") (Or.inl (ww81 hw)) Via.refl e0 F7 E_3 (Or.inr ⟨(ww82 hw), rfl, hnm⟩) (ww75 hw) (ty := (.object "java/util/ArrayList")) (by decide) rfl rfl (g := (mkF m 2 #[vR a1, vR a2] [(.ref a2), (.ref a1)])) rfl rfl (hb hby d10_2)
  have O8 : Old Z n0 h8 := O0.wr W8 g_a1
  have Fw8 : Fld Z h8 a1 C_6 "this$0" C_7 (.ref a2) := Fld.same W8 F7
  have N8 := Fr.snoc X8 N0 g_a1
  obtain ⟨T9, X9, e9, st9⟩ := initO X8 hx hZ hown (ww83 hw) (ww23 hw) (ww24 hw) e8 (g := (mkF m 6 #[vR a1, vR a2] [(.ref a1)])) rfl (by rw [hml]; rfl) rfl (hb hby d10_6) (by decide) (W := 0) (by show 2 * 0 + _ ≤ _; exact Nat.le_of_eq rfl) (by decide)
  have f10 : Fld Z h8 a1 C_6 "lastRet" "I" (.int 0) := (Fld.other W8 F6 (Or.inr (own_sl10 hw)))
  have f11 : Exa Z h8 a1 C_6 := (Exa.wr W8 E_3)
  obtain ⟨T12, h12, X12, e12, W12, st12⟩ := putF X9 hx hZ hown (host := "") (Or.inl (ww84 hw)) Via.refl e9 f10 f11 (Or.inl (ww85 hw)) (ww75 hw) (ty := .int) (by decide) rfl rfl (g := (mkF m 11 #[vR a1, vR a2] [(.int (-1)), (.ref a1)])) rfl rfl (hb hby d10_11)
  have O12 : Old Z n0 h12 := O8.wr W12 g_a1
  have Fw12 : Fld Z h12 a1 C_6 "lastRet" "I" (.int (-1)) := Fld.same W12 f10
  have N12 := Fr.snoc X12 N8 g_a1
  have f13 : Fld Z h12 a1 C_6 "this$0" C_7 (.ref a2) := (Fld.other W12 Fw8 (Or.inr (own_sl11 hw)))
  obtain ⟨T14, X14, e14, st14⟩ := getF X12 hx hZ hown (host := "") (Or.inl (ww81 hw)) Via.refl e12 f13 (g := (mkF m 16 #[vR a1, vR a2] [(.ref a1), (.ref a1)])) rfl rfl (hb hby d10_16)
  have f17 : Fld Z h12 a2 C_0 "modCount" "I" (.int 3) := (Fld.other W12 (Fld.other W8 F15 (Or.inl hne16)) (Or.inl hne16))
  obtain ⟨T18, X18, e18, st18⟩ := getF X14 hx hZ hown (host := "") (Or.inl (ww86 hw)) (Via.of (ww87 hw)) e14 f17 (g := (mkF m 19 #[vR a1, vR a2] [(.ref a2), (.ref a1)])) rfl rfl (hb hby d10_19)
  have f19 : Fld Z h12 a1 C_6 "expectedModCount" "I" (.int 0) := (Fld.other W12 (Fld.other W8 F5 (Or.inr (own_sl12 hw))) (Or.inr (own_sl13 hw)))
  have f20 : Exa Z h12 a1 C_6 := (Exa.wr W12 f11)
  obtain ⟨T21, h21, X21, e21, W21, st21⟩ := putF X18 hx hZ hown (host := "") (Or.inl (ww88 hw)) Via.refl e18 f19 f20 (Or.inl (ww89 hw)) (ww75 hw) (ty := .int) (by decide) rfl rfl (g := (mkF m 22 #[vR a1, vR a2] [(.int 3), (.ref a1)])) rfl rfl (hb hby d10_22)
  have O21 : Old Z n0 h21 := O12.wr W21 g_a1
  have Fw21 : Fld Z h21 a1 C_6 "expectedModCount" "I" (.int 3) := Fld.same W21 f19
  have N21 := Fr.snoc X21 N12 g_a1
  have f22 : Exa Z h21 a1 C_6 := (Exa.wr W21 f20)
  have f23 : Fld Z h21 a1 C_6 "cursor" "I" (.int 0) := (Fld.other W21 (Fld.other W12 (Fld.other W8 F4 (Or.inr (own_sl14 hw))) (Or.inr (own_sl15 hw))) (Or.inr (own_sl16 hw)))
  have f24 : Fld Z h21 a1 C_6 "lastRet" "I" (.int (-1)) := (Fld.other W21 Fw12 (Or.inr (own_sl17 hw)))
  have f25 : Fld Z h21 a1 C_6 "this$0" C_7 (.ref a2) := (Fld.other W21 f13 (Or.inr (own_sl18 hw)))
  refine fin none _ _ _ _ X21 (fun _ => rfl) (fun fs hr => pre0 _ ?_) (own_atH e21 ?_) (by decide) (by decide)
  · refine o_aloadN X0 hx hby d10_0 rfl rfl (o_aloadN X0 hx hby d10_1 rfl rfl (st8 _ (o_aloadN X8 hx hby d10_5 rfl rfl (st9 _ (o_aloadN X9 hx hby d10_9 rfl rfl (o_iconst X9 hx hby d10_10 (x := -1) rfl (st12 _ (o_aloadN X12 hx hby d10_14 rfl rfl (o_aloadN X12 hx hby d10_15 rfl rfl (st14 _ (st18 _ (st21 _ ?_))))))))))))
    exact X21.returnOut hx hret (hb hby d10_25) hr
  · exact ⟨rfl, N21, ((((Keep.refl h0 [a1]).wr W8 (Or.inl (List.mem_of_getElem? (i := 0) rfl))).wr W12 (Or.inl (List.mem_of_getElem? (i := 0) rfl))).wr W21 (Or.inl (List.mem_of_getElem? (i := 0) rfl))), f22, f23, Fw21, f24, f25⟩
def Q9_70 (Z : State) (a1 : Addr) (h0 : Heap) (n0 : Nat) (v : Option Value) (h : Heap) (L : List Loc) : Prop := (∃ (b2 : Addr), v = some (.ref b2) ∧ Fr n0 L ∧ h0.size ≤ b2 ∧ b2 < h.size ∧ Keep h0 h [] ∧ Exa Z h b2 C_6 ∧ Fld Z h b2 C_6 "cursor" "I" (.int 0) ∧ Fld Z h b2 C_6 "expectedModCount" "I" (.int 3) ∧ Fld Z h b2 C_6 "lastRet" "I" (.int (-1)) ∧ Fld Z h b2 C_6 "this$0" C_7 (.ref a1))
theorem rm9_70 (l : Launch) (Z : State) (a0 : Array Value) (hw : own_HW Z a0) (a1 : Addr) (h0 : Heap) (n0 : Nat) (O0 : Old Z n0 h0) (F3 : Fld Z h0 a1 C_0 "modCount" "I" (.int 3)) (lt_a1 : a1 < h0.size) : own_Met l Z M_8 bc9 1 (some (.object "java/util/Iterator")) ({ frames := 2, cells := 1, slots := 4, locals := 26 } : Room) #[(.ref a1)] h0 (Q9_70 Z a1 h0 n0) := by
  refine own_body (L0 := #[vR a1]) (plainFor_of_name pn_2) (fun m => by first | (simp [entryFrame, mkF, argsToLocals, Value.category]; done) | rfl) fun p e s m below meth c s₁ EN hx hby hml hown hnm hret X0 hZ e0 hh pre0 fin => ?_
  have N0 := Fr.nil n0
  obtain ⟨T2, h2, X2, e2, E2, A2, D2, -, st2⟩ := newO X0 hx hZ hown (ww74 hw) (ww75 hw) (ww76 hw) e0 (g := (mkF m 0 #[vR a1] [])) rfl (hb hby d9_0) (by decide) (by decide)
  obtain ⟨b2, g2⟩ : ∃ z, z = h0.size := ⟨_, rfl⟩
  rw [← g2] at A2 D2 st2
  have O2 : Old Z n0 h2 := O0.ext E2
  have bd_b2 : h0.size ≤ b2 := Nat.le_of_eq g2.symm
  have g_b2 : n0 ≤ b2 := Nat.le_trans (own_z O0) bd_b2
  have sz_b2 : h0.size ≤ b2 := Nat.le_trans (Nat.le_refl _) bd_b2
  have lt_b2 : b2 < h2.size := A2.lt
  have D2_82 : Fld Z h2 b2 C_6 "this$0" C_7 .null := D2 (Or.inr (ww82 hw)) (ty := (.object "java/util/ArrayList")) (by decide)
  have D2_85 : Fld Z h2 b2 C_6 "lastRet" "I" (.int 0) := D2 (Or.inl (ww85 hw)) (ty := .int) (by decide)
  have D2_89 : Fld Z h2 b2 C_6 "expectedModCount" "I" (.int 0) := D2 (Or.inl (ww89 hw)) (ty := .int) (by decide)
  have D2_100 : Fld Z h2 b2 C_6 "cursor" "I" (.int 0) := D2 (Or.inl (ww100 hw)) (ty := .int) (by decide)
  have f4 : Fld Z h2 a1 C_0 "modCount" "I" (.int 3) := (Fld.ext E2 F3)
  obtain ⟨_, T5, L5, X5, hQ5, st5⟩ := own_cI X2 hx hZ hown (ww77 hw) (ww78 hw) (ww76 hw) (ww80 hw) (rm10_71 l Z a0 hw b2 a1 h2 n0 O2 A2 D2_100 D2_89 D2_85 D2_82 g_b2 f4 (own_n lt_a1 bd_b2)) e2 pd_4 hml (hb hby d9_5) (Ls := #[vR a1]) (W := 1) (argsL := [(.ref a1)]) (rest := [(.ref b2)]) (b := b2)
  obtain ⟨rfl, u7, Ku8, u9, u10, u11, u12, u13⟩ := hQ5
  have Ou8 : Old Z n0 T5.heap := O2.keep Ku8 (allS g_b2 all0)
  have N5 := Fr.app N0 u7
  refine fin (some (.ref b2)) _ _ _ _ X5 nofun (fun fs hr => pre0 _ ?_) ?_ (by decide) (by decide)
  · refine st2 _ (o_dup X2 hx hby d9_3 rfl (o_aloadN X2 hx hby d9_4 rfl rfl (st5 _ ?_)))
    show Steps p.tables e below (T5.setTop (mkF m 8 #[vR a1] [(.ref b2)])) _
    jvm_step X5.here [X5.here.top, hx, (hb hby d9_8), X5.method', hret, Value.isRef, FieldType.isReference]
    first | (intro acts; rw [hr _ acts rfl rfl rfl]) | rw [hr _ _ rfl rfl rfl]
    exact Steps.refl _
  · exact ⟨b2, rfl, N5, sz_b2, (own_t lt_b2 Ku8.1), (((Keep.refl h0 []).ext E2).trans Ku8 (allS (Or.inr sz_b2) all0)), u9, u10, u11, u12, u13⟩
def Q11_72 (Z : State) (a1 : Addr) (a4 : Addr) (h0 : Heap) (n0 : Nat) (v : Option Value) (h : Heap) (L : List Loc) : Prop := (v = some (.int 1) ∧ Fr n0 L ∧ h = h0)
theorem rm11_72 (l : Launch) (Z : State) (a0 : Array Value) (hw : own_HW Z a0) (a1 : Addr) (a4 : Addr) (h0 : Heap) (n0 : Nat) (O0 : Old Z n0 h0) (F2 : Fld Z h0 a1 C_6 "cursor" "I" (.int 0)) (F5 : Fld Z h0 a1 C_6 "this$0" C_7 (.ref a4)) (F7 : Fld Z h0 a4 C_1 "size" "I" (.int 3)) : own_Met l Z M_10 bc11 1 (some .boolean) ({ frames := 0, cells := 0, slots := 0, locals := 0 } : Room) #[(.ref a1)] h0 (Q11_72 Z a1 a4 h0 n0) := by
  refine own_body (L0 := #[vR a1]) (plainFor_of_name pn_4) (fun m => by first | (simp [entryFrame, mkF, argsToLocals, Value.category]; done) | rfl) fun p e s m below meth c s₁ EN hx hby hml hown hnm hret X0 hZ e0 hh pre0 fin => ?_
  have N0 := Fr.nil n0
  obtain ⟨T3, X3, e3, st3⟩ := getF X0 hx hZ hown (host := "") (Or.inl (ww99 hw)) Via.refl e0 F2 (g := (mkF m 1 #[vR a1] [(.ref a1)])) rfl rfl (hb hby d11_1)
  obtain ⟨T6, X6, e6, st6⟩ := getF X3 hx hZ hown (host := "") (Or.inl (ww81 hw)) Via.refl e3 F5 (g := (mkF m 5 #[vR a1] [(.ref a1), (.int 0)])) rfl rfl (hb hby d11_5)
  obtain ⟨T8, X8, e8, st8⟩ := getF X6 hx hZ hown (Or.inr (ww101 hw)) Via.refl e6 F7 (g := (mkF m 8 #[vR a1] [(.ref a4), (.int 0)])) rfl rfl (hb hby d11_8)
  refine fin (some (.int 1)) _ _ _ _ X8 nofun (fun fs hr => pre0 _ ?_) (own_atH e8 ?_) (by decide) (by decide)
  · refine o_aloadN X0 hx hby d11_0 rfl rfl (st3 _ (o_aloadN X3 hx hby d11_4 rfl rfl (st6 _ (st8 _ (o_icmpN X8 hx hby d11_11 (by decide +kernel) (o_iconst X8 hx hby d11_14 (x := 1) rfl (o_goto X8 hx hby d11_15 (pc := 15) (pc' := 19) (by decide) (by decide) ?_)))))))
    exact retN X8 hx (t := .boolean) hret (by simp) (hb hby d11_19) hr
  · exact ⟨rfl, N0, rfl⟩
def Q23_74 (Z : State) (a1 : Addr) (a2 : Addr) (h0 : Heap) (n0 : Nat) (v : Option Value) (h : Heap) (L : List Loc) : Prop := (v = none ∧ Fr n0 L ∧ h = h0)
theorem rm23_74 (l : Launch) (Z : State) (a0 : Array Value) (hw : own_HW Z a0) (a1 : Addr) (a2 : Addr) (h0 : Heap) (n0 : Nat) (O0 : Old Z n0 h0) (F3 : Fld Z h0 a1 C_6 "this$0" C_7 (.ref a2)) (F5 : Fld Z h0 a2 C_0 "modCount" "I" (.int 3)) (F7 : Fld Z h0 a1 C_6 "expectedModCount" "I" (.int 3)) : own_Met l Z M_23 bc23 1 none ({ frames := 0, cells := 0, slots := 0, locals := 0 } : Room) #[(.ref a1)] h0 (Q23_74 Z a1 a2 h0 n0) := by
  refine own_body (L0 := #[vR a1]) (plainFor_of_name pn_4) (fun m => by first | (simp [entryFrame, mkF, argsToLocals, Value.category]; done) | rfl) fun p e s m below meth c s₁ EN hx hby hml hown hnm hret X0 hZ e0 hh pre0 fin => ?_
  have N0 := Fr.nil n0
  obtain ⟨T4, X4, e4, st4⟩ := getF X0 hx hZ hown (host := "") (Or.inl (ww81 hw)) Via.refl e0 F3 (g := (mkF m 1 #[vR a1] [(.ref a1)])) rfl rfl (hb hby d23_1)
  obtain ⟨T6, X6, e6, st6⟩ := getF X4 hx hZ hown (host := "") (Or.inl (ww86 hw)) (Via.of (ww87 hw)) e4 F5 (g := (mkF m 4 #[vR a1] [(.ref a2)])) rfl rfl (hb hby d23_4)
  obtain ⟨T8, X8, e8, st8⟩ := getF X6 hx hZ hown (host := "") (Or.inl (ww88 hw)) Via.refl e6 F7 (g := (mkF m 8 #[vR a1] [(.ref a1), (.int 3)])) rfl rfl (hb hby d23_8)
  refine fin none _ _ _ _ X8 (fun _ => rfl) (fun fs hr => pre0 _ ?_) (own_atH e8 ?_) (by decide) (by decide)
  · refine o_aloadN X0 hx hby d23_0 rfl rfl (st4 _ (st6 _ (o_aloadN X6 hx hby d23_7 rfl rfl (st8 _ (o_icmpY X8 hx hby d23_11 (pc := 11) (pc' := 22) (by decide +kernel) (by decide) (by decide) ?_)))))
    exact X8.returnOut hx hret (hb hby d23_22) hr
  · exact ⟨rfl, N0, rfl⟩
def Q22_73 (Z : State) (a1 : Addr) (a3 : Addr) (a17 : Addr) (a20 : Addr) (a21 : Addr) (a22 : Addr) (k23 : ClassId) (h0 : Heap) (n0 : Nat) (v : Option Value) (h : Heap) (L : List Loc) : Prop := (v = some (.ref a20) ∧ Fr n0 L ∧ Keep h0 h [a1] ∧ Exa Z h a1 C_6 ∧ Fld Z h a1 C_6 "cursor" "I" (.int 1) ∧ Fld Z h a1 C_6 "expectedModCount" "I" (.int 3) ∧ Fld Z h a1 C_6 "lastRet" "I" (.int 0) ∧ Fld Z h a1 C_6 "this$0" C_7 (.ref a3))
theorem rm22_73 (l : Launch) (Z : State) (a0 : Array Value) (hw : own_HW Z a0) (a1 : Addr) (a3 : Addr) (a17 : Addr) (a20 : Addr) (a21 : Addr) (a22 : Addr) (k23 : ClassId) (h0 : Heap) (n0 : Nat) (O0 : Old Z n0 h0) (E_2 : Exa Z h0 a1 C_6) (F4 : Fld Z h0 a1 C_6 "this$0" C_7 (.ref a3)) (F5 : Fld Z h0 a3 C_0 "modCount" "I" (.int 3)) (F6 : Fld Z h0 a1 C_6 "expectedModCount" "I" (.int 3)) (F11 : Fld Z h0 a1 C_6 "cursor" "I" (.int 0)) (F14 : Fld Z h0 a3 C_1 "size" "I" (.int 3)) (F18 : Fld Z h0 a3 C_1 "elementData" C_2 (.ref a17)) (V24 : Arv Z h0 a17 k23 (.object "java/lang/Object") (10 : Int32) [(.ref a20), (.ref a21), (.ref a22)] .null) (F26 : Fld Z h0 a1 C_6 "lastRet" "I" (.int (-1))) (g_a1 : n0 ≤ a1) (hne31 : a17 ≠ a1) : own_Met l Z M_24 bc22 3 (some (.object "java/lang/Object")) ({ frames := 1, cells := 0, slots := 0, locals := 12 } : Room) #[(.ref a1)] h0 (Q22_73 Z a1 a3 a17 a20 a21 a22 k23 h0 n0) := by
  refine own_body (L0 := #[vR a1, .unset, .unset]) (plainFor_of_name pn_4) (fun m => by first | (simp [entryFrame, mkF, argsToLocals, Value.category]; done) | rfl) fun p e s m below meth c s₁ EN hx hby hml hown hnm hret X0 hZ e0 hh pre0 fin => ?_
  have N0 := Fr.nil n0
  obtain ⟨_, T7, L7, X7, hQ7, st7⟩ := own_cV X0 hx hZ hown (ww169 hw) (ww170 hw) (notFace_of_selects (args := #[]) (mvT hZ (ww172 hw))) (ww172 hw) (ww171 hw) (ww76 hw) (ww173 hw) E_2 (rm23_74 l Z a0 hw a1 a3 h0 n0 O0 F4 F5 F6) e0 pd_1 hml (hb hby d22_1) (Ls := #[vR a1, .unset, .unset]) (W := 0) (argsL := []) (rest := [])
  obtain ⟨rfl, u9, u10⟩ := hQ7
  have N7 := Fr.app N0 u9
  obtain ⟨T12, X12, e12, st12⟩ := getF X7 hx hZ hown (host := "") (Or.inl (ww99 hw)) Via.refl u10 F11 (g := (mkF m 5 #[vR a1, .unset, .unset] [(.ref a1)])) rfl rfl (hb hby d22_5)
  obtain ⟨T13, X13, e13, st13⟩ := getF X12 hx hZ hown (host := "") (Or.inl (ww81 hw)) Via.refl e12 F4 (g := (mkF m 11 #[vR a1, vI 0, .unset] [(.ref a1), (.int 0)])) rfl rfl (hb hby d22_11)
  obtain ⟨T15, X15, e15, st15⟩ := getF X13 hx hZ hown (Or.inr (ww101 hw)) Via.refl e13 F14 (g := (mkF m 14 #[vR a1, vI 0, .unset] [(.ref a3), (.int 0)])) rfl rfl (hb hby d22_14)
  obtain ⟨T16, X16, e16, st16⟩ := getF X15 hx hZ hown (host := "") (Or.inl (ww81 hw)) Via.refl e15 F4 (g := (mkF m 29 #[vR a1, vI 0, .unset] [(.ref a1)])) rfl rfl (hb hby d22_29)
  obtain ⟨T19, X19, e19, st19⟩ := getF X16 hx hZ hown (host := "") (Or.inl (ww174 hw)) Via.refl e16 F18 (g := (mkF m 32 #[vR a1, vI 0, .unset] [(.ref a3)])) rfl rfl (hb hby d22_32)
  obtain ⟨cl25, Ar25, -, Sz25, Nn25, -, -⟩ := id V24
  obtain ⟨T27, h27, X27, e27, W27, st27⟩ := putF X19 hx hZ hown (host := "") (Or.inl (ww99 hw)) Via.refl e19 F11 E_2 (Or.inl (ww100 hw)) (ww75 hw) (ty := .int) (by decide) rfl rfl (g := (mkF m 54 #[vR a1, vI 0, vR a17] [(.int 1), (.ref a1)])) rfl rfl (hb hby d22_54)
  have O27 : Old Z n0 h27 := O0.wr W27 g_a1
  have Fw27 : Fld Z h27 a1 C_6 "cursor" "I" (.int 1) := Fld.same W27 F11
  have N27 := Fr.snoc X27 N7 g_a1
  have f28 : Fld Z h27 a1 C_6 "lastRet" "I" (.int (-1)) := (Fld.other W27 F26 (Or.inr (own_sl35 hw)))
  have f29 : Exa Z h27 a1 C_6 := (Exa.wr W27 E_2)
  obtain ⟨T30, h30, X30, e30, W30, st30⟩ := putF X27 hx hZ hown (host := "") (Or.inl (ww84 hw)) Via.refl e27 f28 f29 (Or.inl (ww85 hw)) (ww75 hw) (ty := .int) (by decide) rfl rfl (g := (mkF m 61 #[vR a1, vI 0, vR a17] [(.int 0), (.ref a1), (.int 0), (.ref a17)])) rfl rfl (hb hby d22_61)
  have O30 : Old Z n0 h30 := O27.wr W30 g_a1
  have Fw30 : Fld Z h30 a1 C_6 "lastRet" "I" (.int 0) := Fld.same W30 f28
  have N30 := Fr.snoc X30 N27 g_a1
  have f32 : Arv Z h30 a17 k23 (.object "java/lang/Object") (10 : Int32) [(.ref a20), (.ref a21), (.ref a22)] .null := ((V24.other W27 hne31).other W30 hne31)
  obtain ⟨cl33, Ar33, -, Sz33, -, Hh33, -⟩ := id f32
  have hin33 : ¬ ((0 : Int32) < 0 ∨ cl33.slots.size ≤ ((0 : Int32)).toNatClampNeg) := inb_of Sz33 ⟨by decide +kernel, by decide +kernel⟩
  have hat33 : cl33.slots[((0 : Int32)).toNatClampNeg]? = some (.ref a20) := Has.at Hh33 hin33 rfl
  have f34 : Exa Z h30 a1 C_6 := (Exa.wr W30 f29)
  have f35 : Fld Z h30 a1 C_6 "cursor" "I" (.int 1) := (Fld.other W30 Fw27 (Or.inr (own_sl15 hw)))
  have f36 : Fld Z h30 a1 C_6 "expectedModCount" "I" (.int 3) := (Fld.other W30 (Fld.other W27 F6 (Or.inr (own_sl36 hw))) (Or.inr (own_sl13 hw)))
  have f37 : Fld Z h30 a1 C_6 "this$0" C_7 (.ref a3) := (Fld.other W30 (Fld.other W27 F4 (Or.inr (own_sl37 hw))) (Or.inr (own_sl11 hw)))
  refine fin (some (.ref a20)) _ _ _ _ X30 nofun (fun fs hr => pre0 _ ?_) (own_atH e30 ?_) (by decide) (by decide)
  · refine o_aloadN X0 hx hby d22_0 rfl rfl (st7 _ (o_aloadN X7 hx hby d22_4 rfl rfl (st12 _ (o_istoreN X12 hx hby d22_8 (Ls' := #[vR a1, vI 0, .unset]) rfl (o_iloadN X12 hx hby d22_9 rfl (o_aloadN X12 hx hby d22_10 rfl rfl (st13 _ (st15 _ (o_icmpY X15 hx hby d22_17 (pc := 17) (pc' := 28) (by decide +kernel) (by decide) (by decide) (o_aloadN X15 hx hby d22_28 rfl rfl (st16 _ (st19 _ (o_astoreN X19 hx hby d22_35 rfl (Ls' := #[vR a1, vI 0, vR a17]) rfl (o_iloadN X19 hx hby d22_36 rfl (o_aloadN X19 hx hby d22_37 rfl rfl (X19.arraylength hx (by rw [e19]; exact Ar25.1) (State.isArrayOf_alike hZ.alike Ar25.2.1) (g := (mkF m 38 #[vR a1, vI 0, vR a17] [(.ref a17), (.int 0)])) rfl rfl (hb hby d22_38) _ ?_))))))))))))))))
    rw [len_of Sz25 Nn25]
    refine o_icmpY X19 hx hby d22_39 (pc := 39) (pc' := 50) (by decide +kernel) (by decide) (by decide) (o_aloadN X19 hx hby d22_50 rfl rfl (o_iloadN X19 hx hby d22_51 rfl (o_iconst X19 hx hby d22_52 (x := 1) rfl (o_iadd X19 hx hby d22_53 (z := (1 : Int32)) (by decide +kernel) (st27 _ (o_aloadN X27 hx hby d22_57 rfl rfl (o_aloadN X27 hx hby d22_58 rfl rfl (o_iloadN X27 hx hby d22_59 rfl (o_dupX1 X27 hx hby d22_60 rfl rfl (st30 _ (X30.aaload hx (j := (0 : Int32)) (v := (.ref a20)) (by rw [e30]; exact Ar33.1) (State.isArrayOf_alike hZ.alike Ar33.2.1) rfl Ar33.2.2 hin33 hat33 (g := (mkF m 64 #[vR a1, vI 0, vR a17] [(.int 0), (.ref a17)])) rfl rfl (hb hby d22_64) _ ?_)))))))))))
    show Steps p.tables e below (T30.setTop (mkF m 65 #[vR a1, vI 0, vR a17] [(.ref a20)])) _
    jvm_step X30.here [X30.here.top, hx, (hb hby d22_65), X30.method', hret, Value.isRef, FieldType.isReference]
    first | (intro acts; rw [hr _ acts rfl rfl rfl]) | rw [hr _ _ rfl rfl rfl]
    exact Steps.refl _
  · exact ⟨rfl, N30, (((Keep.refl h0 [a1]).wr W27 (Or.inl (List.mem_of_getElem? (i := 0) rfl))).wr W30 (Or.inl (List.mem_of_getElem? (i := 0) rfl))), f34, f35, f36, Fw30, f37⟩
def Q11_75 (Z : State) (a1 : Addr) (a4 : Addr) (h0 : Heap) (n0 : Nat) (v : Option Value) (h : Heap) (L : List Loc) : Prop := (v = some (.int 1) ∧ Fr n0 L ∧ h = h0)
theorem rm11_75 (l : Launch) (Z : State) (a0 : Array Value) (hw : own_HW Z a0) (a1 : Addr) (a4 : Addr) (h0 : Heap) (n0 : Nat) (O0 : Old Z n0 h0) (F2 : Fld Z h0 a1 C_6 "cursor" "I" (.int 1)) (F5 : Fld Z h0 a1 C_6 "this$0" C_7 (.ref a4)) (F7 : Fld Z h0 a4 C_1 "size" "I" (.int 3)) : own_Met l Z M_10 bc11 1 (some .boolean) ({ frames := 0, cells := 0, slots := 0, locals := 0 } : Room) #[(.ref a1)] h0 (Q11_75 Z a1 a4 h0 n0) := by
  refine own_body (L0 := #[vR a1]) (plainFor_of_name pn_4) (fun m => by first | (simp [entryFrame, mkF, argsToLocals, Value.category]; done) | rfl) fun p e s m below meth c s₁ EN hx hby hml hown hnm hret X0 hZ e0 hh pre0 fin => ?_
  have N0 := Fr.nil n0
  obtain ⟨T3, X3, e3, st3⟩ := getF X0 hx hZ hown (host := "") (Or.inl (ww99 hw)) Via.refl e0 F2 (g := (mkF m 1 #[vR a1] [(.ref a1)])) rfl rfl (hb hby d11_1)
  obtain ⟨T6, X6, e6, st6⟩ := getF X3 hx hZ hown (host := "") (Or.inl (ww81 hw)) Via.refl e3 F5 (g := (mkF m 5 #[vR a1] [(.ref a1), (.int 1)])) rfl rfl (hb hby d11_5)
  obtain ⟨T8, X8, e8, st8⟩ := getF X6 hx hZ hown (Or.inr (ww101 hw)) Via.refl e6 F7 (g := (mkF m 8 #[vR a1] [(.ref a4), (.int 1)])) rfl rfl (hb hby d11_8)
  refine fin (some (.int 1)) _ _ _ _ X8 nofun (fun fs hr => pre0 _ ?_) (own_atH e8 ?_) (by decide) (by decide)
  · refine o_aloadN X0 hx hby d11_0 rfl rfl (st3 _ (o_aloadN X3 hx hby d11_4 rfl rfl (st6 _ (st8 _ (o_icmpN X8 hx hby d11_11 (by decide +kernel) (o_iconst X8 hx hby d11_14 (x := 1) rfl (o_goto X8 hx hby d11_15 (pc := 15) (pc' := 19) (by decide) (by decide) ?_)))))))
    exact retN X8 hx (t := .boolean) hret (by simp) (hb hby d11_19) hr
  · exact ⟨rfl, N0, rfl⟩
def Q22_76 (Z : State) (a1 : Addr) (a3 : Addr) (a17 : Addr) (a20 : Addr) (a21 : Addr) (a22 : Addr) (k23 : ClassId) (h0 : Heap) (n0 : Nat) (v : Option Value) (h : Heap) (L : List Loc) : Prop := (v = some (.ref a21) ∧ Fr n0 L ∧ Keep h0 h [a1] ∧ Exa Z h a1 C_6 ∧ Fld Z h a1 C_6 "cursor" "I" (.int 2) ∧ Fld Z h a1 C_6 "expectedModCount" "I" (.int 3) ∧ Fld Z h a1 C_6 "lastRet" "I" (.int 1) ∧ Fld Z h a1 C_6 "this$0" C_7 (.ref a3))
theorem rm22_76 (l : Launch) (Z : State) (a0 : Array Value) (hw : own_HW Z a0) (a1 : Addr) (a3 : Addr) (a17 : Addr) (a20 : Addr) (a21 : Addr) (a22 : Addr) (k23 : ClassId) (h0 : Heap) (n0 : Nat) (O0 : Old Z n0 h0) (E_2 : Exa Z h0 a1 C_6) (F4 : Fld Z h0 a1 C_6 "this$0" C_7 (.ref a3)) (F5 : Fld Z h0 a3 C_0 "modCount" "I" (.int 3)) (F6 : Fld Z h0 a1 C_6 "expectedModCount" "I" (.int 3)) (F11 : Fld Z h0 a1 C_6 "cursor" "I" (.int 1)) (F14 : Fld Z h0 a3 C_1 "size" "I" (.int 3)) (F18 : Fld Z h0 a3 C_1 "elementData" C_2 (.ref a17)) (V24 : Arv Z h0 a17 k23 (.object "java/lang/Object") (10 : Int32) [(.ref a20), (.ref a21), (.ref a22)] .null) (F26 : Fld Z h0 a1 C_6 "lastRet" "I" (.int 0)) (g_a1 : n0 ≤ a1) (hne31 : a17 ≠ a1) : own_Met l Z M_24 bc22 3 (some (.object "java/lang/Object")) ({ frames := 1, cells := 0, slots := 0, locals := 12 } : Room) #[(.ref a1)] h0 (Q22_76 Z a1 a3 a17 a20 a21 a22 k23 h0 n0) := by
  refine own_body (L0 := #[vR a1, .unset, .unset]) (plainFor_of_name pn_4) (fun m => by first | (simp [entryFrame, mkF, argsToLocals, Value.category]; done) | rfl) fun p e s m below meth c s₁ EN hx hby hml hown hnm hret X0 hZ e0 hh pre0 fin => ?_
  have N0 := Fr.nil n0
  obtain ⟨_, T7, L7, X7, hQ7, st7⟩ := own_cV X0 hx hZ hown (ww169 hw) (ww170 hw) (notFace_of_selects (args := #[]) (mvT hZ (ww172 hw))) (ww172 hw) (ww171 hw) (ww76 hw) (ww173 hw) E_2 (rm23_74 l Z a0 hw a1 a3 h0 n0 O0 F4 F5 F6) e0 pd_1 hml (hb hby d22_1) (Ls := #[vR a1, .unset, .unset]) (W := 0) (argsL := []) (rest := [])
  obtain ⟨rfl, u9, u10⟩ := hQ7
  have N7 := Fr.app N0 u9
  obtain ⟨T12, X12, e12, st12⟩ := getF X7 hx hZ hown (host := "") (Or.inl (ww99 hw)) Via.refl u10 F11 (g := (mkF m 5 #[vR a1, .unset, .unset] [(.ref a1)])) rfl rfl (hb hby d22_5)
  obtain ⟨T13, X13, e13, st13⟩ := getF X12 hx hZ hown (host := "") (Or.inl (ww81 hw)) Via.refl e12 F4 (g := (mkF m 11 #[vR a1, vI 1, .unset] [(.ref a1), (.int 1)])) rfl rfl (hb hby d22_11)
  obtain ⟨T15, X15, e15, st15⟩ := getF X13 hx hZ hown (Or.inr (ww101 hw)) Via.refl e13 F14 (g := (mkF m 14 #[vR a1, vI 1, .unset] [(.ref a3), (.int 1)])) rfl rfl (hb hby d22_14)
  obtain ⟨T16, X16, e16, st16⟩ := getF X15 hx hZ hown (host := "") (Or.inl (ww81 hw)) Via.refl e15 F4 (g := (mkF m 29 #[vR a1, vI 1, .unset] [(.ref a1)])) rfl rfl (hb hby d22_29)
  obtain ⟨T19, X19, e19, st19⟩ := getF X16 hx hZ hown (host := "") (Or.inl (ww174 hw)) Via.refl e16 F18 (g := (mkF m 32 #[vR a1, vI 1, .unset] [(.ref a3)])) rfl rfl (hb hby d22_32)
  obtain ⟨cl25, Ar25, -, Sz25, Nn25, -, -⟩ := id V24
  obtain ⟨T27, h27, X27, e27, W27, st27⟩ := putF X19 hx hZ hown (host := "") (Or.inl (ww99 hw)) Via.refl e19 F11 E_2 (Or.inl (ww100 hw)) (ww75 hw) (ty := .int) (by decide) rfl rfl (g := (mkF m 54 #[vR a1, vI 1, vR a17] [(.int 2), (.ref a1)])) rfl rfl (hb hby d22_54)
  have O27 : Old Z n0 h27 := O0.wr W27 g_a1
  have Fw27 : Fld Z h27 a1 C_6 "cursor" "I" (.int 2) := Fld.same W27 F11
  have N27 := Fr.snoc X27 N7 g_a1
  have f28 : Fld Z h27 a1 C_6 "lastRet" "I" (.int 0) := (Fld.other W27 F26 (Or.inr (own_sl35 hw)))
  have f29 : Exa Z h27 a1 C_6 := (Exa.wr W27 E_2)
  obtain ⟨T30, h30, X30, e30, W30, st30⟩ := putF X27 hx hZ hown (host := "") (Or.inl (ww84 hw)) Via.refl e27 f28 f29 (Or.inl (ww85 hw)) (ww75 hw) (ty := .int) (by decide) rfl rfl (g := (mkF m 61 #[vR a1, vI 1, vR a17] [(.int 1), (.ref a1), (.int 1), (.ref a17)])) rfl rfl (hb hby d22_61)
  have O30 : Old Z n0 h30 := O27.wr W30 g_a1
  have Fw30 : Fld Z h30 a1 C_6 "lastRet" "I" (.int 1) := Fld.same W30 f28
  have N30 := Fr.snoc X30 N27 g_a1
  have f32 : Arv Z h30 a17 k23 (.object "java/lang/Object") (10 : Int32) [(.ref a20), (.ref a21), (.ref a22)] .null := ((V24.other W27 hne31).other W30 hne31)
  obtain ⟨cl33, Ar33, -, Sz33, -, Hh33, -⟩ := id f32
  have hin33 : ¬ ((1 : Int32) < 0 ∨ cl33.slots.size ≤ ((1 : Int32)).toNatClampNeg) := inb_of Sz33 ⟨by decide +kernel, by decide +kernel⟩
  have hat33 : cl33.slots[((1 : Int32)).toNatClampNeg]? = some (.ref a21) := Has.at Hh33 hin33 rfl
  have f34 : Exa Z h30 a1 C_6 := (Exa.wr W30 f29)
  have f35 : Fld Z h30 a1 C_6 "cursor" "I" (.int 2) := (Fld.other W30 Fw27 (Or.inr (own_sl15 hw)))
  have f36 : Fld Z h30 a1 C_6 "expectedModCount" "I" (.int 3) := (Fld.other W30 (Fld.other W27 F6 (Or.inr (own_sl36 hw))) (Or.inr (own_sl13 hw)))
  have f37 : Fld Z h30 a1 C_6 "this$0" C_7 (.ref a3) := (Fld.other W30 (Fld.other W27 F4 (Or.inr (own_sl37 hw))) (Or.inr (own_sl11 hw)))
  refine fin (some (.ref a21)) _ _ _ _ X30 nofun (fun fs hr => pre0 _ ?_) (own_atH e30 ?_) (by decide) (by decide)
  · refine o_aloadN X0 hx hby d22_0 rfl rfl (st7 _ (o_aloadN X7 hx hby d22_4 rfl rfl (st12 _ (o_istoreN X12 hx hby d22_8 (Ls' := #[vR a1, vI 1, .unset]) rfl (o_iloadN X12 hx hby d22_9 rfl (o_aloadN X12 hx hby d22_10 rfl rfl (st13 _ (st15 _ (o_icmpY X15 hx hby d22_17 (pc := 17) (pc' := 28) (by decide +kernel) (by decide) (by decide) (o_aloadN X15 hx hby d22_28 rfl rfl (st16 _ (st19 _ (o_astoreN X19 hx hby d22_35 rfl (Ls' := #[vR a1, vI 1, vR a17]) rfl (o_iloadN X19 hx hby d22_36 rfl (o_aloadN X19 hx hby d22_37 rfl rfl (X19.arraylength hx (by rw [e19]; exact Ar25.1) (State.isArrayOf_alike hZ.alike Ar25.2.1) (g := (mkF m 38 #[vR a1, vI 1, vR a17] [(.ref a17), (.int 1)])) rfl rfl (hb hby d22_38) _ ?_))))))))))))))))
    rw [len_of Sz25 Nn25]
    refine o_icmpY X19 hx hby d22_39 (pc := 39) (pc' := 50) (by decide +kernel) (by decide) (by decide) (o_aloadN X19 hx hby d22_50 rfl rfl (o_iloadN X19 hx hby d22_51 rfl (o_iconst X19 hx hby d22_52 (x := 1) rfl (o_iadd X19 hx hby d22_53 (z := (2 : Int32)) (by decide +kernel) (st27 _ (o_aloadN X27 hx hby d22_57 rfl rfl (o_aloadN X27 hx hby d22_58 rfl rfl (o_iloadN X27 hx hby d22_59 rfl (o_dupX1 X27 hx hby d22_60 rfl rfl (st30 _ (X30.aaload hx (j := (1 : Int32)) (v := (.ref a21)) (by rw [e30]; exact Ar33.1) (State.isArrayOf_alike hZ.alike Ar33.2.1) rfl Ar33.2.2 hin33 hat33 (g := (mkF m 64 #[vR a1, vI 1, vR a17] [(.int 1), (.ref a17)])) rfl rfl (hb hby d22_64) _ ?_)))))))))))
    show Steps p.tables e below (T30.setTop (mkF m 65 #[vR a1, vI 1, vR a17] [(.ref a21)])) _
    jvm_step X30.here [X30.here.top, hx, (hb hby d22_65), X30.method', hret, Value.isRef, FieldType.isReference]
    first | (intro acts; rw [hr _ acts rfl rfl rfl]) | rw [hr _ _ rfl rfl rfl]
    exact Steps.refl _
  · exact ⟨rfl, N30, (((Keep.refl h0 [a1]).wr W27 (Or.inl (List.mem_of_getElem? (i := 0) rfl))).wr W30 (Or.inl (List.mem_of_getElem? (i := 0) rfl))), f34, f35, f36, Fw30, f37⟩
def Q11_77 (Z : State) (a1 : Addr) (a4 : Addr) (h0 : Heap) (n0 : Nat) (v : Option Value) (h : Heap) (L : List Loc) : Prop := (v = some (.int 1) ∧ Fr n0 L ∧ h = h0)
theorem rm11_77 (l : Launch) (Z : State) (a0 : Array Value) (hw : own_HW Z a0) (a1 : Addr) (a4 : Addr) (h0 : Heap) (n0 : Nat) (O0 : Old Z n0 h0) (F2 : Fld Z h0 a1 C_6 "cursor" "I" (.int 2)) (F5 : Fld Z h0 a1 C_6 "this$0" C_7 (.ref a4)) (F7 : Fld Z h0 a4 C_1 "size" "I" (.int 3)) : own_Met l Z M_10 bc11 1 (some .boolean) ({ frames := 0, cells := 0, slots := 0, locals := 0 } : Room) #[(.ref a1)] h0 (Q11_77 Z a1 a4 h0 n0) := by
  refine own_body (L0 := #[vR a1]) (plainFor_of_name pn_4) (fun m => by first | (simp [entryFrame, mkF, argsToLocals, Value.category]; done) | rfl) fun p e s m below meth c s₁ EN hx hby hml hown hnm hret X0 hZ e0 hh pre0 fin => ?_
  have N0 := Fr.nil n0
  obtain ⟨T3, X3, e3, st3⟩ := getF X0 hx hZ hown (host := "") (Or.inl (ww99 hw)) Via.refl e0 F2 (g := (mkF m 1 #[vR a1] [(.ref a1)])) rfl rfl (hb hby d11_1)
  obtain ⟨T6, X6, e6, st6⟩ := getF X3 hx hZ hown (host := "") (Or.inl (ww81 hw)) Via.refl e3 F5 (g := (mkF m 5 #[vR a1] [(.ref a1), (.int 2)])) rfl rfl (hb hby d11_5)
  obtain ⟨T8, X8, e8, st8⟩ := getF X6 hx hZ hown (Or.inr (ww101 hw)) Via.refl e6 F7 (g := (mkF m 8 #[vR a1] [(.ref a4), (.int 2)])) rfl rfl (hb hby d11_8)
  refine fin (some (.int 1)) _ _ _ _ X8 nofun (fun fs hr => pre0 _ ?_) (own_atH e8 ?_) (by decide) (by decide)
  · refine o_aloadN X0 hx hby d11_0 rfl rfl (st3 _ (o_aloadN X3 hx hby d11_4 rfl rfl (st6 _ (st8 _ (o_icmpN X8 hx hby d11_11 (by decide +kernel) (o_iconst X8 hx hby d11_14 (x := 1) rfl (o_goto X8 hx hby d11_15 (pc := 15) (pc' := 19) (by decide) (by decide) ?_)))))))
    exact retN X8 hx (t := .boolean) hret (by simp) (hb hby d11_19) hr
  · exact ⟨rfl, N0, rfl⟩
def Q22_78 (Z : State) (a1 : Addr) (a3 : Addr) (a17 : Addr) (a20 : Addr) (a21 : Addr) (a22 : Addr) (k23 : ClassId) (h0 : Heap) (n0 : Nat) (v : Option Value) (h : Heap) (L : List Loc) : Prop := (v = some (.ref a22) ∧ Fr n0 L ∧ Keep h0 h [a1] ∧ Exa Z h a1 C_6 ∧ Fld Z h a1 C_6 "cursor" "I" (.int 3) ∧ Fld Z h a1 C_6 "expectedModCount" "I" (.int 3) ∧ Fld Z h a1 C_6 "lastRet" "I" (.int 2) ∧ Fld Z h a1 C_6 "this$0" C_7 (.ref a3))
theorem rm22_78 (l : Launch) (Z : State) (a0 : Array Value) (hw : own_HW Z a0) (a1 : Addr) (a3 : Addr) (a17 : Addr) (a20 : Addr) (a21 : Addr) (a22 : Addr) (k23 : ClassId) (h0 : Heap) (n0 : Nat) (O0 : Old Z n0 h0) (E_2 : Exa Z h0 a1 C_6) (F4 : Fld Z h0 a1 C_6 "this$0" C_7 (.ref a3)) (F5 : Fld Z h0 a3 C_0 "modCount" "I" (.int 3)) (F6 : Fld Z h0 a1 C_6 "expectedModCount" "I" (.int 3)) (F11 : Fld Z h0 a1 C_6 "cursor" "I" (.int 2)) (F14 : Fld Z h0 a3 C_1 "size" "I" (.int 3)) (F18 : Fld Z h0 a3 C_1 "elementData" C_2 (.ref a17)) (V24 : Arv Z h0 a17 k23 (.object "java/lang/Object") (10 : Int32) [(.ref a20), (.ref a21), (.ref a22)] .null) (F26 : Fld Z h0 a1 C_6 "lastRet" "I" (.int 1)) (g_a1 : n0 ≤ a1) (hne31 : a17 ≠ a1) : own_Met l Z M_24 bc22 3 (some (.object "java/lang/Object")) ({ frames := 1, cells := 0, slots := 0, locals := 12 } : Room) #[(.ref a1)] h0 (Q22_78 Z a1 a3 a17 a20 a21 a22 k23 h0 n0) := by
  refine own_body (L0 := #[vR a1, .unset, .unset]) (plainFor_of_name pn_4) (fun m => by first | (simp [entryFrame, mkF, argsToLocals, Value.category]; done) | rfl) fun p e s m below meth c s₁ EN hx hby hml hown hnm hret X0 hZ e0 hh pre0 fin => ?_
  have N0 := Fr.nil n0
  obtain ⟨_, T7, L7, X7, hQ7, st7⟩ := own_cV X0 hx hZ hown (ww169 hw) (ww170 hw) (notFace_of_selects (args := #[]) (mvT hZ (ww172 hw))) (ww172 hw) (ww171 hw) (ww76 hw) (ww173 hw) E_2 (rm23_74 l Z a0 hw a1 a3 h0 n0 O0 F4 F5 F6) e0 pd_1 hml (hb hby d22_1) (Ls := #[vR a1, .unset, .unset]) (W := 0) (argsL := []) (rest := [])
  obtain ⟨rfl, u9, u10⟩ := hQ7
  have N7 := Fr.app N0 u9
  obtain ⟨T12, X12, e12, st12⟩ := getF X7 hx hZ hown (host := "") (Or.inl (ww99 hw)) Via.refl u10 F11 (g := (mkF m 5 #[vR a1, .unset, .unset] [(.ref a1)])) rfl rfl (hb hby d22_5)
  obtain ⟨T13, X13, e13, st13⟩ := getF X12 hx hZ hown (host := "") (Or.inl (ww81 hw)) Via.refl e12 F4 (g := (mkF m 11 #[vR a1, vI 2, .unset] [(.ref a1), (.int 2)])) rfl rfl (hb hby d22_11)
  obtain ⟨T15, X15, e15, st15⟩ := getF X13 hx hZ hown (Or.inr (ww101 hw)) Via.refl e13 F14 (g := (mkF m 14 #[vR a1, vI 2, .unset] [(.ref a3), (.int 2)])) rfl rfl (hb hby d22_14)
  obtain ⟨T16, X16, e16, st16⟩ := getF X15 hx hZ hown (host := "") (Or.inl (ww81 hw)) Via.refl e15 F4 (g := (mkF m 29 #[vR a1, vI 2, .unset] [(.ref a1)])) rfl rfl (hb hby d22_29)
  obtain ⟨T19, X19, e19, st19⟩ := getF X16 hx hZ hown (host := "") (Or.inl (ww174 hw)) Via.refl e16 F18 (g := (mkF m 32 #[vR a1, vI 2, .unset] [(.ref a3)])) rfl rfl (hb hby d22_32)
  obtain ⟨cl25, Ar25, -, Sz25, Nn25, -, -⟩ := id V24
  obtain ⟨T27, h27, X27, e27, W27, st27⟩ := putF X19 hx hZ hown (host := "") (Or.inl (ww99 hw)) Via.refl e19 F11 E_2 (Or.inl (ww100 hw)) (ww75 hw) (ty := .int) (by decide) rfl rfl (g := (mkF m 54 #[vR a1, vI 2, vR a17] [(.int 3), (.ref a1)])) rfl rfl (hb hby d22_54)
  have O27 : Old Z n0 h27 := O0.wr W27 g_a1
  have Fw27 : Fld Z h27 a1 C_6 "cursor" "I" (.int 3) := Fld.same W27 F11
  have N27 := Fr.snoc X27 N7 g_a1
  have f28 : Fld Z h27 a1 C_6 "lastRet" "I" (.int 1) := (Fld.other W27 F26 (Or.inr (own_sl35 hw)))
  have f29 : Exa Z h27 a1 C_6 := (Exa.wr W27 E_2)
  obtain ⟨T30, h30, X30, e30, W30, st30⟩ := putF X27 hx hZ hown (host := "") (Or.inl (ww84 hw)) Via.refl e27 f28 f29 (Or.inl (ww85 hw)) (ww75 hw) (ty := .int) (by decide) rfl rfl (g := (mkF m 61 #[vR a1, vI 2, vR a17] [(.int 2), (.ref a1), (.int 2), (.ref a17)])) rfl rfl (hb hby d22_61)
  have O30 : Old Z n0 h30 := O27.wr W30 g_a1
  have Fw30 : Fld Z h30 a1 C_6 "lastRet" "I" (.int 2) := Fld.same W30 f28
  have N30 := Fr.snoc X30 N27 g_a1
  have f32 : Arv Z h30 a17 k23 (.object "java/lang/Object") (10 : Int32) [(.ref a20), (.ref a21), (.ref a22)] .null := ((V24.other W27 hne31).other W30 hne31)
  obtain ⟨cl33, Ar33, -, Sz33, -, Hh33, -⟩ := id f32
  have hin33 : ¬ ((2 : Int32) < 0 ∨ cl33.slots.size ≤ ((2 : Int32)).toNatClampNeg) := inb_of Sz33 ⟨by decide +kernel, by decide +kernel⟩
  have hat33 : cl33.slots[((2 : Int32)).toNatClampNeg]? = some (.ref a22) := Has.at Hh33 hin33 rfl
  have f34 : Exa Z h30 a1 C_6 := (Exa.wr W30 f29)
  have f35 : Fld Z h30 a1 C_6 "cursor" "I" (.int 3) := (Fld.other W30 Fw27 (Or.inr (own_sl15 hw)))
  have f36 : Fld Z h30 a1 C_6 "expectedModCount" "I" (.int 3) := (Fld.other W30 (Fld.other W27 F6 (Or.inr (own_sl36 hw))) (Or.inr (own_sl13 hw)))
  have f37 : Fld Z h30 a1 C_6 "this$0" C_7 (.ref a3) := (Fld.other W30 (Fld.other W27 F4 (Or.inr (own_sl37 hw))) (Or.inr (own_sl11 hw)))
  refine fin (some (.ref a22)) _ _ _ _ X30 nofun (fun fs hr => pre0 _ ?_) (own_atH e30 ?_) (by decide) (by decide)
  · refine o_aloadN X0 hx hby d22_0 rfl rfl (st7 _ (o_aloadN X7 hx hby d22_4 rfl rfl (st12 _ (o_istoreN X12 hx hby d22_8 (Ls' := #[vR a1, vI 2, .unset]) rfl (o_iloadN X12 hx hby d22_9 rfl (o_aloadN X12 hx hby d22_10 rfl rfl (st13 _ (st15 _ (o_icmpY X15 hx hby d22_17 (pc := 17) (pc' := 28) (by decide +kernel) (by decide) (by decide) (o_aloadN X15 hx hby d22_28 rfl rfl (st16 _ (st19 _ (o_astoreN X19 hx hby d22_35 rfl (Ls' := #[vR a1, vI 2, vR a17]) rfl (o_iloadN X19 hx hby d22_36 rfl (o_aloadN X19 hx hby d22_37 rfl rfl (X19.arraylength hx (by rw [e19]; exact Ar25.1) (State.isArrayOf_alike hZ.alike Ar25.2.1) (g := (mkF m 38 #[vR a1, vI 2, vR a17] [(.ref a17), (.int 2)])) rfl rfl (hb hby d22_38) _ ?_))))))))))))))))
    rw [len_of Sz25 Nn25]
    refine o_icmpY X19 hx hby d22_39 (pc := 39) (pc' := 50) (by decide +kernel) (by decide) (by decide) (o_aloadN X19 hx hby d22_50 rfl rfl (o_iloadN X19 hx hby d22_51 rfl (o_iconst X19 hx hby d22_52 (x := 1) rfl (o_iadd X19 hx hby d22_53 (z := (3 : Int32)) (by decide +kernel) (st27 _ (o_aloadN X27 hx hby d22_57 rfl rfl (o_aloadN X27 hx hby d22_58 rfl rfl (o_iloadN X27 hx hby d22_59 rfl (o_dupX1 X27 hx hby d22_60 rfl rfl (st30 _ (X30.aaload hx (j := (2 : Int32)) (v := (.ref a22)) (by rw [e30]; exact Ar33.1) (State.isArrayOf_alike hZ.alike Ar33.2.1) rfl Ar33.2.2 hin33 hat33 (g := (mkF m 64 #[vR a1, vI 2, vR a17] [(.int 2), (.ref a17)])) rfl rfl (hb hby d22_64) _ ?_)))))))))))
    show Steps p.tables e below (T30.setTop (mkF m 65 #[vR a1, vI 2, vR a17] [(.ref a22)])) _
    jvm_step X30.here [X30.here.top, hx, (hb hby d22_65), X30.method', hret, Value.isRef, FieldType.isReference]
    first | (intro acts; rw [hr _ acts rfl rfl rfl]) | rw [hr _ _ rfl rfl rfl]
    exact Steps.refl _
  · exact ⟨rfl, N30, (((Keep.refl h0 [a1]).wr W27 (Or.inl (List.mem_of_getElem? (i := 0) rfl))).wr W30 (Or.inl (List.mem_of_getElem? (i := 0) rfl))), f34, f35, f36, Fw30, f37⟩
def Q11_79 (Z : State) (a1 : Addr) (a4 : Addr) (h0 : Heap) (n0 : Nat) (v : Option Value) (h : Heap) (L : List Loc) : Prop := (v = some (.int 0) ∧ Fr n0 L ∧ h = h0)
theorem rm11_79 (l : Launch) (Z : State) (a0 : Array Value) (hw : own_HW Z a0) (a1 : Addr) (a4 : Addr) (h0 : Heap) (n0 : Nat) (O0 : Old Z n0 h0) (F2 : Fld Z h0 a1 C_6 "cursor" "I" (.int 3)) (F5 : Fld Z h0 a1 C_6 "this$0" C_7 (.ref a4)) (F7 : Fld Z h0 a4 C_1 "size" "I" (.int 3)) : own_Met l Z M_10 bc11 1 (some .boolean) ({ frames := 0, cells := 0, slots := 0, locals := 0 } : Room) #[(.ref a1)] h0 (Q11_79 Z a1 a4 h0 n0) := by
  refine own_body (L0 := #[vR a1]) (plainFor_of_name pn_4) (fun m => by first | (simp [entryFrame, mkF, argsToLocals, Value.category]; done) | rfl) fun p e s m below meth c s₁ EN hx hby hml hown hnm hret X0 hZ e0 hh pre0 fin => ?_
  have N0 := Fr.nil n0
  obtain ⟨T3, X3, e3, st3⟩ := getF X0 hx hZ hown (host := "") (Or.inl (ww99 hw)) Via.refl e0 F2 (g := (mkF m 1 #[vR a1] [(.ref a1)])) rfl rfl (hb hby d11_1)
  obtain ⟨T6, X6, e6, st6⟩ := getF X3 hx hZ hown (host := "") (Or.inl (ww81 hw)) Via.refl e3 F5 (g := (mkF m 5 #[vR a1] [(.ref a1), (.int 3)])) rfl rfl (hb hby d11_5)
  obtain ⟨T8, X8, e8, st8⟩ := getF X6 hx hZ hown (Or.inr (ww101 hw)) Via.refl e6 F7 (g := (mkF m 8 #[vR a1] [(.ref a4), (.int 3)])) rfl rfl (hb hby d11_8)
  refine fin (some (.int 0)) _ _ _ _ X8 nofun (fun fs hr => pre0 _ ?_) (own_atH e8 ?_) (by decide) (by decide)
  · refine o_aloadN X0 hx hby d11_0 rfl rfl (st3 _ (o_aloadN X3 hx hby d11_4 rfl rfl (st6 _ (st8 _ (o_icmpY X8 hx hby d11_11 (pc := 11) (pc' := 18) (by decide +kernel) (by decide) (by decide) (o_iconst X8 hx hby d11_18 (x := 0) rfl ?_))))))
    exact retN X8 hx (t := .boolean) hret (by simp) (hb hby d11_19) hr
  · exact ⟨rfl, N0, rfl⟩
def Q7_68 (Z : State) (a1 : Addr) (a2 : Addr) (a3 : Addr) (a62 : Addr) (a64 : Addr) (a65 : Addr) (a66 : Addr) (k67 : ClassId) (p97 : Int32) (p143 : Int32) (p185 : Int32) (h0 : Heap) (n0 : Nat) (v : Option Value) (h : Heap) (L : List Loc) : Prop := (∃ (b28 : Addr) (b38 : Addr) (b5 : Addr) (k28 : ClassId) (k38 : ClassId) (k5 : ClassId), v = none ∧ Fr n0 L ∧ h0.size ≤ b28 ∧ b28 < h.size ∧ h0.size ≤ b38 ∧ b38 < h.size ∧ h0.size ≤ b5 ∧ b5 < h.size ∧ b28 ≠ b38 ∧ b28 ≠ b5 ∧ b38 ≠ b5 ∧ Keep h0 h [a1] ∧ Exa Z h a1 C_3 ∧ Fld Z h a1 C_3 "deck" "[I" (.ref b28) ∧ Fld Z h a1 C_3 "deckSize" "I" (.int 3) ∧ Fld Z h a1 C_3 "discard" "[I" (.ref b38) ∧ Fld Z h a1 C_3 "discardSize" "I" (.int 0) ∧ Fld Z h a1 C_3 "generator" C_4 (.ref a3) ∧ Fld Z h a1 C_3 "market" "[I" (.ref b5) ∧ Exa Z h b28 "[I" ∧ Arv Z h b28 k28 .int (3 : Int32) [(.int p185), (.int p143), (.int p97)] (.int (0 : Int32)) ∧ Exa Z h b38 "[I" ∧ Arv Z h b38 k38 .int (3 : Int32) [] (.int (0 : Int32)) ∧ Exa Z h b5 "[I" ∧ Arv Z h b5 k5 .int (5 : Int32) [(.int (-1)), (.int (-1)), (.int (-1)), (.int (-1)), (.int (-1))] (.int (0 : Int32)))
theorem rm7_68 (l : Launch) (Z : State) (a0 : Array Value) (hw : own_HW Z a0) (a1 : Addr) (a2 : Addr) (a3 : Addr) (a62 : Addr) (a64 : Addr) (a65 : Addr) (a66 : Addr) (k67 : ClassId) (p97 : Int32) (p143 : Int32) (p185 : Int32) (h0 : Heap) (n0 : Nat) (O0 : Old Z n0 h0) (E_6 : Exa Z h0 a1 C_3) (F7 : Fld Z h0 a1 C_3 "deck" "[I" .null) (F8 : Fld Z h0 a1 C_3 "deckSize" "I" (.int 0)) (F9 : Fld Z h0 a1 C_3 "discard" "[I" .null) (F10 : Fld Z h0 a1 C_3 "discardSize" "I" (.int 0)) (F11 : Fld Z h0 a1 C_3 "generator" C_4 .null) (F12 : Fld Z h0 a1 C_3 "market" "[I" .null) (g_a1 : n0 ≤ a1) (E_19 : Exa Z h0 a2 C_1) (F20 : Fld Z h0 a2 C_1 "size" "I" (.int 3)) (hne21 : a2 ≠ a1) (F42 : Fld Z h0 a2 C_0 "modCount" "I" (.int 3)) (lt_a2 : a2 < h0.size) (F63 : Fld Z h0 a2 C_1 "elementData" C_2 (.ref a62)) (V68 : Arv Z h0 a62 k67 (.object "java/lang/Object") (10 : Int32) [(.ref a64), (.ref a65), (.ref a66)] .null) (lt_a62 : a62 < h0.size) (hne72 : a62 ≠ a1) (E_83 : Exa Z Z.heap a64 C_8) (lt_a1 : a1 < h0.size) (F98 : Fld Z Z.heap a64 C_10 "ordinal" "I" (.int p97)) (E_132 : Exa Z Z.heap a65 C_8) (F144 : Fld Z Z.heap a65 C_10 "ordinal" "I" (.int p143)) (E_174 : Exa Z Z.heap a66 C_8) (F186 : Fld Z Z.heap a66 C_10 "ordinal" "I" (.int p185)) : own_Met l Z M_13 bc7 5 none ({ frames := 3, cells := 4, slots := 15, locals := 38 } : Room) #[(.ref a1), (.ref a2), (.ref a3)] h0 (Q7_68 Z a1 a2 a3 a62 a64 a65 a66 k67 p97 p143 p185 h0 n0) := by
  refine own_body (L0 := #[vR a1, vR a2, vR a3, .unset, .unset]) (plainFor_of_name pn_6) (fun m => by first | (simp [entryFrame, mkF, argsToLocals, Value.category]; done) | rfl) fun p e s m below meth c s₁ EN hx hby hml hown hnm hret X0 hZ e0 hh pre0 fin => ?_
  have N0 := Fr.nil n0
  obtain ⟨T4, X4, e4, st4⟩ := initO X0 hx hZ hown (ww45 hw) (ww23 hw) (ww24 hw) e0 (g := (mkF m 1 #[vR a1, vR a2, vR a3, .unset, .unset] [(.ref a1)])) rfl (by rw [hml]; rfl) rfl (hb hby d7_1) (by decide) (W := 0) (by show 2 * 0 + _ ≤ _; exact Nat.le_of_eq rfl) (by decide)
  obtain ⟨T5, h5, k5, X5, e5, E5, A5, Ex5, st5⟩ := newPE (aty := .int) X4 hx hZ (ww46 hw) e4 (g := (mkF m 6 #[vR a1, vR a2, vR a3, .unset, .unset] [(.int 5), (.ref a1)])) rfl (hb hby d7_6) rfl (by decide +kernel) (cap := 5) (by decide +kernel) (by decide) (by decide) (by decide) (ad := "[I") (by decide +kernel)
  obtain ⟨b5, g5⟩ : ∃ z, z = h0.size := ⟨_, rfl⟩
  rw [← g5] at A5 Ex5 st5
  have O5 : Old Z n0 h5 := O0.ext E5
  have bd_b5 : h0.size ≤ b5 := Nat.le_of_eq g5.symm
  have g_b5 : n0 ≤ b5 := Nat.le_trans (own_z O0) bd_b5
  have sz_b5 : h0.size ≤ b5 := Nat.le_trans (Nat.le_refl _) bd_b5
  have lt_b5 : b5 < h5.size := A5.lt
  have V5 : Arv Z h5 b5 k5 .int (5 : Int32) [] (.int (0 : Int32)) := Arv.new A5 (by decide +kernel)
  have f13 : Fld Z h5 a1 C_3 "market" "[I" .null := (Fld.ext E5 F12)
  have f14 : Exa Z h5 a1 C_3 := (Exa.ext E5 E_6)
  obtain ⟨T15, h15, X15, e15, W15, st15⟩ := putF X5 hx hZ hown (host := "") (Or.inl (ww47 hw)) Via.refl e5 f13 f14 (Or.inr ⟨(ww48 hw), rfl, hnm⟩) (ww31 hw) (ty := (.array .int)) (by decide) rfl rfl (g := (mkF m 8 #[vR a1, vR a2, vR a3, .unset, .unset] [(.ref b5), (.ref a1)])) rfl rfl (hb hby d7_8)
  have O15 : Old Z n0 h15 := O5.wr W15 g_a1
  have Fw15 : Fld Z h15 a1 C_3 "market" "[I" (.ref b5) := Fld.same W15 f13
  have N15 := Fr.snoc X15 N0 g_a1
  have f16 : Fld Z h15 a1 C_3 "generator" C_4 .null := (Fld.other W15 (Fld.ext E5 F11) (Or.inr (own_sl4 hw)))
  have f17 : Exa Z h15 a1 C_3 := (Exa.wr W15 f14)
  obtain ⟨T18, h18, X18, e18, W18, st18⟩ := putF X15 hx hZ hown (host := "") (Or.inl (ww49 hw)) Via.refl e15 f16 f17 (Or.inr ⟨(ww50 hw), rfl, hnm⟩) (ww31 hw) (ty := (.object "com/example/railspan/railspan/game/Generator")) (by decide) rfl rfl (g := (mkF m 13 #[vR a1, vR a2, vR a3, .unset, .unset] [(.ref a3), (.ref a1)])) rfl rfl (hb hby d7_13)
  have O18 : Old Z n0 h18 := O15.wr W18 g_a1
  have Fw18 : Fld Z h18 a1 C_3 "generator" C_4 (.ref a3) := Fld.same W18 f16
  have N18 := Fr.snoc X18 N15 g_a1
  have f22 : Fld Z h18 a2 C_1 "size" "I" (.int 3) := (Fld.other W18 (Fld.other W15 (Fld.ext E5 F20) (Or.inl hne21)) (Or.inl hne21))
  have f24 : Exa Z h18 a2 C_1 := (Exa.wr W18 (Exa.wr W15 (Exa.ext E5 E_19)))
  obtain ⟨_, T23, L23, X23, hQ23, st23⟩ := own_cN X18 hx hZ hown (ww51 hw) (ww52 hw) (mvT hZ (ww53 hw)) (ww54 hw) (ww55 hw) (ww56 hw) (ww57 hw) (ww58 hw) (ww6 hw) (ww59 hw) f24 (rm8_69 l Z a0 hw a2 h18 n0 O18 f22) e18 pd_3 hml (hb hby d7_18) (Ls := #[vR a1, vR a2, vR a3, .unset, .unset]) (W := 1) (argsL := []) (rest := [(.ref a1)])
  obtain ⟨rfl, u26, u27⟩ := hQ23
  have N23 := Fr.app N18 u26
  obtain ⟨T28, h28, k28, X28, e28, E28, A28, Ex28, st28⟩ := newPE (aty := .int) X23 hx hZ (ww46 hw) u27 (g := (mkF m 23 #[vR a1, vR a2, vR a3, .unset, .unset] [(.int 3), (.ref a1)])) rfl (hb hby d7_23) rfl (by decide +kernel) (cap := 3) (by decide +kernel) (by decide) (by decide) (by decide) (ad := "[I") (by decide +kernel)
  obtain ⟨b28, g28⟩ : ∃ z, z = h18.size := ⟨_, rfl⟩
  rw [← g28] at A28 Ex28 st28
  have O28 : Old Z n0 h28 := O18.ext E28
  have bd_b28 : h18.size ≤ b28 := Nat.le_of_eq g28.symm
  have g_b28 : n0 ≤ b28 := Nat.le_trans (own_z O18) bd_b28
  have sz_b28 : h0.size ≤ b28 := Nat.le_trans (Nat.le_trans (Nat.le_trans E5.1 (Keep.of_wr W15).1) (Keep.of_wr W18).1) bd_b28
  have lt_b28 : b28 < h28.size := A28.lt
  have V28 : Arv Z h28 b28 k28 .int (3 : Int32) [] (.int (0 : Int32)) := Arv.new A28 (by decide +kernel)
  have f29 : Fld Z h28 a1 C_3 "deck" "[I" .null := (Fld.ext E28 (Fld.other W18 (Fld.other W15 (Fld.ext E5 F7) (Or.inr (own_sl5 hw))) (Or.inr (own_sl6 hw))))
  have f30 : Exa Z h28 a1 C_3 := (Exa.ext E28 (Exa.wr W18 f17))
  obtain ⟨T31, h31, X31, e31, W31, st31⟩ := putF X28 hx hZ hown (host := "") (Or.inl (ww62 hw)) Via.refl e28 f29 f30 (Or.inr ⟨(ww63 hw), rfl, hnm⟩) (ww31 hw) (ty := (.array .int)) (by decide) rfl rfl (g := (mkF m 25 #[vR a1, vR a2, vR a3, .unset, .unset] [(.ref b28), (.ref a1)])) rfl rfl (hb hby d7_25)
  have O31 : Old Z n0 h31 := O28.wr W31 g_a1
  have Fw31 : Fld Z h31 a1 C_3 "deck" "[I" (.ref b28) := Fld.same W31 f29
  have N31 := Fr.snoc X31 N23 g_a1
  have f32 : Fld Z h31 a2 C_1 "size" "I" (.int 3) := (Fld.other W31 (Fld.ext E28 f22) (Or.inl hne21))
  have f34 : Exa Z h31 a2 C_1 := (Exa.wr W31 (Exa.ext E28 f24))
  obtain ⟨_, T33, L33, X33, hQ33, st33⟩ := own_cN X31 hx hZ hown (ww51 hw) (ww52 hw) (mvT hZ (ww53 hw)) (ww54 hw) (ww55 hw) (ww56 hw) (ww57 hw) (ww58 hw) (ww6 hw) (ww59 hw) f34 (rm8_69 l Z a0 hw a2 h31 n0 O31 f32) e31 pd_3 hml (hb hby d7_30) (Ls := #[vR a1, vR a2, vR a3, .unset, .unset]) (W := 1) (argsL := []) (rest := [(.ref a1)])
  obtain ⟨rfl, u36, u37⟩ := hQ33
  have N33 := Fr.app N31 u36
  obtain ⟨T38, h38, k38, X38, e38, E38, A38, Ex38, st38⟩ := newPE (aty := .int) X33 hx hZ (ww46 hw) u37 (g := (mkF m 35 #[vR a1, vR a2, vR a3, .unset, .unset] [(.int 3), (.ref a1)])) rfl (hb hby d7_35) rfl (by decide +kernel) (cap := 3) (by decide +kernel) (by decide) (by decide) (by decide) (ad := "[I") (by decide +kernel)
  obtain ⟨b38, g38⟩ : ∃ z, z = h31.size := ⟨_, rfl⟩
  rw [← g38] at A38 Ex38 st38
  have O38 : Old Z n0 h38 := O31.ext E38
  have bd_b38 : h31.size ≤ b38 := Nat.le_of_eq g38.symm
  have g_b38 : n0 ≤ b38 := Nat.le_trans (own_z O31) bd_b38
  have sz_b38 : h0.size ≤ b38 := Nat.le_trans (Nat.le_trans (Nat.le_trans (Nat.le_trans (Nat.le_trans E5.1 (Keep.of_wr W15).1) (Keep.of_wr W18).1) E28.1) (Keep.of_wr W31).1) bd_b38
  have lt_b38 : b38 < h38.size := A38.lt
  have V38 : Arv Z h38 b38 k38 .int (3 : Int32) [] (.int (0 : Int32)) := Arv.new A38 (by decide +kernel)
  have f39 : Fld Z h38 a1 C_3 "discard" "[I" .null := (Fld.ext E38 (Fld.other W31 (Fld.ext E28 (Fld.other W18 (Fld.other W15 (Fld.ext E5 F9) (Or.inr (own_sl7 hw))) (Or.inr (own_sl8 hw)))) (Or.inr (own_sl9 hw))))
  have f40 : Exa Z h38 a1 C_3 := (Exa.ext E38 (Exa.wr W31 f30))
  obtain ⟨T41, h41, X41, e41, W41, st41⟩ := putF X38 hx hZ hown (host := "") (Or.inl (ww64 hw)) Via.refl e38 f39 f40 (Or.inr ⟨(ww65 hw), rfl, hnm⟩) (ww31 hw) (ty := (.array .int)) (by decide) rfl rfl (g := (mkF m 37 #[vR a1, vR a2, vR a3, .unset, .unset] [(.ref b38), (.ref a1)])) rfl rfl (hb hby d7_37)
  have O41 : Old Z n0 h41 := O38.wr W41 g_a1
  have Fw41 : Fld Z h41 a1 C_3 "discard" "[I" (.ref b38) := Fld.same W41 f39
  have N41 := Fr.snoc X41 N33 g_a1
  have f43 : Fld Z h41 a2 C_0 "modCount" "I" (.int 3) := (Fld.other W41 (Fld.ext E38 (Fld.other W31 (Fld.ext E28 (Fld.other W18 (Fld.other W15 (Fld.ext E5 F42) (Or.inl hne21)) (Or.inl hne21))) (Or.inl hne21))) (Or.inl hne21))
  have f45 : Exa Z h41 a2 C_1 := (Exa.wr W41 (Exa.ext E38 f34))
  obtain ⟨_, T44, L44, X44, hQ44, st44⟩ := own_cN X41 hx hZ hown (ww66 hw) (ww67 hw) (mvT hZ (ww68 hw)) (ww69 hw) (ww70 hw) (ww71 hw) (ww72 hw) (ww58 hw) (ww6 hw) (ww73 hw) f45 (rm9_70 l Z a0 hw a2 h41 n0 O41 f43 (own_t (own_t (own_t (own_t (own_t (own_t (own_t lt_a2 E5.1) (Keep.of_wr W15).1) (Keep.of_wr W18).1) E28.1) (Keep.of_wr W31).1) E38.1) (Keep.of_wr W41).1)) e41 pd_5 hml (hb hby d7_41) (Ls := #[vR a1, vR a2, vR a3, .unset, .unset]) (W := 0) (argsL := []) (rest := [])
  obtain ⟨b46, rfl, u48, u49, u50, Ku51, u52, u53, u54, u55, u56⟩ := hQ44
  have Ou51 : Old Z n0 T44.heap := O41.keep Ku51 all0
  have g_b46 : n0 ≤ b46 := Nat.le_trans (own_z O41) u49
  have sz_b46 : h0.size ≤ b46 := Nat.le_trans (Nat.le_trans (Nat.le_trans (Nat.le_trans (Nat.le_trans (Nat.le_trans (Nat.le_trans E5.1 (Keep.of_wr W15).1) (Keep.of_wr W18).1) E28.1) (Keep.of_wr W31).1) E38.1) (Keep.of_wr W41).1) u49
  have N44 := Fr.app N41 u48
  have f57 : Fld Z T44.heap a2 C_1 "size" "I" (.int 3) := ((Fld.other W41 (Fld.ext E38 f32) (Or.inl hne21)).keep Ku51 nin0)
  obtain ⟨_, T58, L58, X58, hQ58, st58⟩ := own_cN X44 hx hZ hown (ww90 hw) (ww91 hw) (mvT hZ (ww92 hw)) (ww93 hw) (ww94 hw) (ww95 hw) (ww96 hw) (ww97 hw) (ww76 hw) (ww98 hw) u52 (rm11_72 l Z a0 hw b46 a2 T44.heap n0 Ou51 u53 u56 f57) rfl pd_6 hml (hb hby d7_48) (Ls := #[vR a1, vR a2, vR a3, vR b46, .unset]) (W := 0) (argsL := []) (rest := [])
  obtain ⟨rfl, u60, u61⟩ := hQ58
  have N58 := Fr.app N44 u60
  have ne69 : a62 ≠ b46 := (own_n (own_t (own_t (own_t (own_t (own_t (own_t (own_t lt_a62 E5.1) (Keep.of_wr W15).1) (Keep.of_wr W18).1) E28.1) (Keep.of_wr W31).1) E38.1) (Keep.of_wr W41).1) u49)
  have f70 : Fld Z T44.heap a2 C_0 "modCount" "I" (.int 3) := (f43.keep Ku51 nin0)
  have f71 : Fld Z T44.heap a2 C_1 "elementData" C_2 (.ref a62) := ((Fld.other W41 (Fld.ext E38 (Fld.other W31 (Fld.ext E28 (Fld.other W18 (Fld.other W15 (Fld.ext E5 F63) (Or.inl hne21)) (Or.inl hne21))) (Or.inl hne21))) (Or.inl hne21)).keep Ku51 nin0)
  have f73 : Arv Z T44.heap a62 k67 (.object "java/lang/Object") (10 : Int32) [(.ref a64), (.ref a65), (.ref a66)] .null := ((((((((V68.ext E5).other W15 hne72).other W18 hne72).ext E28).other W31 hne72).ext E38).other W41 hne72).keep Ku51 nin0)
  obtain ⟨_, T74, L74, X74, hQ74, st74⟩ := own_cN X58 hx hZ hown (ww161 hw) (ww162 hw) (mvT hZ (ww163 hw)) (ww164 hw) (ww165 hw) (ww166 hw) (ww167 hw) (ww97 hw) (ww76 hw) (ww168 hw) u52 (rm22_73 l Z a0 hw b46 a2 a62 a64 a65 a66 k67 T44.heap n0 Ou51 u52 u56 f70 u54 u53 f57 f71 f73 u55 g_b46 ne69) u61 pd_15 hml (hb hby d7_57) (Ls := #[vR a1, vR a2, vR a3, vR b46, .unset]) (W := 0) (argsL := []) (rest := [])
  obtain ⟨rfl, u76, Ku77, u78, u79, u80, u81, u82⟩ := hQ74
  have Ou77 : Old Z n0 T74.heap := Ou51.keep Ku77 (allS g_b46 all0)
  have N74 := Fr.app N58 u76
  obtain ⟨T84, X84, e84, st84⟩ := castY X74 hx hZ hown (ww175 hw) rfl (Ins.self (Exa.ext Ou77.2 E_83)) (g := (mkF m 62 #[vR a1, vR a2, vR a3, vR b46, .unset] [(.ref a64)])) rfl rfl (hb hby d7_62)
  have ne85 : a1 ≠ b46 := (own_n (own_t (own_t (own_t (own_t (own_t (own_t (own_t lt_a1 E5.1) (Keep.of_wr W15).1) (Keep.of_wr W18).1) E28.1) (Keep.of_wr W31).1) E38.1) (Keep.of_wr W41).1) u49)
  have f86 : Fld Z T74.heap a1 C_3 "deck" "[I" (.ref b28) := (((Fld.other W41 (Fld.ext E38 Fw31) (Or.inr (own_sl22 hw))).keep Ku51 nin0).keep Ku77 (ninS ne85 nin0))
  obtain ⟨T87, X87, e87, st87⟩ := getF X84 hx hZ hown (host := "") (Or.inl (ww62 hw)) Via.refl e84 f86 (g := (mkF m 68 #[vR a1, vR a2, vR a3, vR b46, vR a64] [(.ref a1)])) rfl rfl (hb hby d7_68)
  obtain ⟨T88, X88, e88, st88⟩ := getF X87 hx hZ hown (host := "") (Or.inl (ww62 hw)) Via.refl e87 f86 (g := (mkF m 72 #[vR a1, vR a2, vR a3, vR b46, vR a64] [(.ref a1), (.ref b28)])) rfl rfl (hb hby d7_72)
  have ne89 : a1 ≠ b28 := (own_n (own_t (own_t (own_t lt_a1 E5.1) (Keep.of_wr W15).1) (Keep.of_wr W18).1) bd_b28)
  have ne90 : b28 ≠ b46 := (own_n (own_t (own_t (own_t lt_b28 (Keep.of_wr W31).1) E38.1) (Keep.of_wr W41).1) u49)
  have f91 : Arv Z T74.heap b28 k28 .int (3 : Int32) [] (.int (0 : Int32)) := (((((V28.other W31 (Ne.symm ne89)).ext E38).other W41 (Ne.symm ne89)).keep Ku51 nin0).keep Ku77 (ninS ne90 nin0))
  obtain ⟨cl92, Ar92, -, Sz92, Nn92, -, -⟩ := id f91
  have f93 : Fld Z T74.heap a1 C_3 "deckSize" "I" (.int 0) := (((Fld.other W41 (Fld.ext E38 (Fld.other W31 (Fld.ext E28 (Fld.other W18 (Fld.other W15 (Fld.ext E5 F8) (Or.inr (own_sl23 hw))) (Or.inr (own_sl24 hw)))) (Or.inr (own_sl25 hw)))) (Or.inr (own_sl26 hw))).keep Ku51 nin0).keep Ku77 (ninS ne85 nin0))
  obtain ⟨T94, X94, e94, st94⟩ := getF X88 hx hZ hown (host := "") (Or.inl (ww111 hw)) Via.refl e88 f93 (g := (mkF m 80 #[vR a1, vR a2, vR a3, vR b46, vR a64] [(.ref a1), (.ref a1), (.int 2), (.ref b28)])) rfl rfl (hb hby d7_80)
  have f95 : Exa Z T74.heap a1 C_3 := (((Exa.wr W41 f40).keep Ku51).keep Ku77)
  obtain ⟨T96, h96, X96, e96, W96, st96⟩ := putF X94 hx hZ hown (host := "") (Or.inl (ww111 hw)) Via.refl e94 f93 f95 (Or.inl (ww112 hw)) (ww31 hw) (ty := .int) (by decide) rfl rfl (g := (mkF m 86 #[vR a1, vR a2, vR a3, vR b46, vR a64] [(.int 1), (.ref a1), (.int 0), (.int 2), (.ref b28)])) rfl rfl (hb hby d7_86)
  have O96 : Old Z n0 h96 := Ou77.wr W96 g_a1
  have Fw96 : Fld Z h96 a1 C_3 "deckSize" "I" (.int 1) := Fld.same W96 f93
  have N96 := Fr.snoc X96 N74 g_a1
  obtain ⟨_, T99, L99, X99, hQ99, st99⟩ := own_cU X96 hx hZ hown (ww177 hw) (ww178 hw) (ww179 hw) (ww181 hw) (ww180 hw) (ww182 hw) (ww183 hw) (Exa.ext O96.2 E_83) (rm24_31 l Z a0 hw a64 p97 h96 n0 O96 F98) e96 pd_3 hml (hb hby d7_92) (Ls := #[vR a1, vR a2, vR a3, vR b46, vR a64]) (W := 2) (argsL := []) (rest := [(.int 2), (.ref b28)])
  obtain ⟨rfl, u101, u102⟩ := hQ99
  have N99 := Fr.app N96 u101
  have f103 : Arv Z h96 b28 k28 .int (3 : Int32) [] (.int (0 : Int32)) := (f91.other W96 (Ne.symm ne89))
  have Vp104 : Arv Z h96 b28 k28 .int (3 : Int32) [(.int 0), (.int 0), (.int 0)] (.int (0 : Int32)) := f103.pad (pad_rep [] (.int (0 : Int32)) 3)
  obtain ⟨cl105, Ar105, qk105, Sz105, Nn105, Hh105, Gg105⟩ := id Vp104
  have hin105 : ¬ ((2 : Int32) < 0 ∨ cl105.slots.size ≤ ((2 : Int32)).toNatClampNeg) := inb_of Sz105 ⟨by decide +kernel, by decide +kernel⟩
  obtain ⟨T106, h106, X106, e106, W106, st106⟩ := stI X99 hx hZ u102 Ar105 (j := (2 : Int32)) hin105 (g := (mkF m 95 #[vR a1, vR a2, vR a3, vR b46, vR a64] [(.int p97), (.int 2), (.ref b28)])) rfl rfl (hb hby d7_95)
  have O106 : Old Z n0 h106 := O96.wr W106 g_b28
  have V106 : Arv Z h106 b28 k28 .int (3 : Int32) [(.int 0), (.int 0), (.int p97)] (.int (0 : Int32)) := Arv.set Ar105 qk105 Sz105 Nn105 Hh105 Gg105 rfl W106 2 rfl (Nat.le_of_ble_eq_true rfl)
  have N106 := Fr.snoc X106 N99 g_b28
  have f107 : Fld Z h106 b46 C_6 "cursor" "I" (.int 1) := (Fld.other W106 (Fld.other W96 u79 (Or.inl (Ne.symm ne85))) (Or.inl (Ne.symm ne90)))
  have f108 : Fld Z h106 b46 C_6 "this$0" C_7 (.ref a2) := (Fld.other W106 (Fld.other W96 u82 (Or.inl (Ne.symm ne85))) (Or.inl (Ne.symm ne90)))
  have ne109 : a2 ≠ b46 := (own_n (own_t (own_t (own_t (own_t (own_t (own_t (own_t lt_a2 E5.1) (Keep.of_wr W15).1) (Keep.of_wr W18).1) E28.1) (Keep.of_wr W31).1) E38.1) (Keep.of_wr W41).1) u49)
  have ne110 : a2 ≠ b28 := (own_n (own_t (own_t (own_t lt_a2 E5.1) (Keep.of_wr W15).1) (Keep.of_wr W18).1) bd_b28)
  have f111 : Fld Z h106 a2 C_1 "size" "I" (.int 3) := (Fld.other W106 (Fld.other W96 (f57.keep Ku77 (ninS ne109 nin0)) (Or.inl hne21)) (Or.inl ne110))
  have f113 : Exa Z h106 b46 C_6 := (Exa.wr W106 (Exa.wr W96 u78))
  obtain ⟨_, T112, L112, X112, hQ112, st112⟩ := own_cN X106 hx hZ hown (ww90 hw) (ww91 hw) (mvT hZ (ww92 hw)) (ww93 hw) (ww94 hw) (ww95 hw) (ww96 hw) (ww97 hw) (ww76 hw) (ww98 hw) f113 (rm11_75 l Z a0 hw b46 a2 h106 n0 O106 f107 f108 f111) e106 pd_6 hml (hb hby d7_48) (Ls := #[vR a1, vR a2, vR a3, vR b46, vR a64]) (W := 0) (argsL := []) (rest := [])
  obtain ⟨rfl, u115, u116⟩ := hQ112
  have N112 := Fr.app N106 u115
  have f117 : Fld Z h106 a2 C_0 "modCount" "I" (.int 3) := (Fld.other W106 (Fld.other W96 (f70.keep Ku77 (ninS ne109 nin0)) (Or.inl hne21)) (Or.inl ne110))
  have f118 : Fld Z h106 b46 C_6 "expectedModCount" "I" (.int 3) := (Fld.other W106 (Fld.other W96 u80 (Or.inl (Ne.symm ne85))) (Or.inl (Ne.symm ne90)))
  have f119 : Fld Z h106 a2 C_1 "elementData" C_2 (.ref a62) := (Fld.other W106 (Fld.other W96 (f71.keep Ku77 (ninS ne109 nin0)) (Or.inl hne21)) (Or.inl ne110))
  have ne120 : a62 ≠ b28 := (own_n (own_t (own_t (own_t lt_a62 E5.1) (Keep.of_wr W15).1) (Keep.of_wr W18).1) bd_b28)
  have f121 : Arv Z h106 a62 k67 (.object "java/lang/Object") (10 : Int32) [(.ref a64), (.ref a65), (.ref a66)] .null := (((f73.keep Ku77 (ninS ne69 nin0)).other W96 hne72).other W106 ne120)
  have f122 : Fld Z h106 b46 C_6 "lastRet" "I" (.int 0) := (Fld.other W106 (Fld.other W96 u81 (Or.inl (Ne.symm ne85))) (Or.inl (Ne.symm ne90)))
  obtain ⟨_, T123, L123, X123, hQ123, st123⟩ := own_cN X112 hx hZ hown (ww161 hw) (ww162 hw) (mvT hZ (ww163 hw)) (ww164 hw) (ww165 hw) (ww166 hw) (ww167 hw) (ww97 hw) (ww76 hw) (ww168 hw) f113 (rm22_76 l Z a0 hw b46 a2 a62 a64 a65 a66 k67 h106 n0 O106 f113 f108 f117 f118 f107 f111 f119 f121 f122 g_b46 ne69) u116 pd_15 hml (hb hby d7_57) (Ls := #[vR a1, vR a2, vR a3, vR b46, vR a64]) (W := 0) (argsL := []) (rest := [])
  obtain ⟨rfl, u125, Ku126, u127, u128, u129, u130, u131⟩ := hQ123
  have Ou126 : Old Z n0 T123.heap := O106.keep Ku126 (allS g_b46 all0)
  have N123 := Fr.app N112 u125
  obtain ⟨T133, X133, e133, st133⟩ := castY X123 hx hZ hown (ww175 hw) rfl (Ins.self (Exa.ext Ou126.2 E_132)) (g := (mkF m 62 #[vR a1, vR a2, vR a3, vR b46, vR a64] [(.ref a65)])) rfl rfl (hb hby d7_62)
  have f134 : Fld Z T123.heap a1 C_3 "deck" "[I" (.ref b28) := ((Fld.other W106 (Fld.other W96 f86 (Or.inr (own_sl39 hw))) (Or.inl ne89)).keep Ku126 (ninS ne85 nin0))
  obtain ⟨T135, X135, e135, st135⟩ := getF X133 hx hZ hown (host := "") (Or.inl (ww62 hw)) Via.refl e133 f134 (g := (mkF m 68 #[vR a1, vR a2, vR a3, vR b46, vR a65] [(.ref a1)])) rfl rfl (hb hby d7_68)
  obtain ⟨T136, X136, e136, st136⟩ := getF X135 hx hZ hown (host := "") (Or.inl (ww62 hw)) Via.refl e135 f134 (g := (mkF m 72 #[vR a1, vR a2, vR a3, vR b46, vR a65] [(.ref a1), (.ref b28)])) rfl rfl (hb hby d7_72)
  have f137 : Arv Z T123.heap b28 k28 .int (3 : Int32) [(.int 0), (.int 0), (.int p97)] (.int (0 : Int32)) := (V106.keep Ku126 (ninS ne90 nin0))
  obtain ⟨cl138, Ar138, -, Sz138, Nn138, -, -⟩ := id f137
  have f139 : Fld Z T123.heap a1 C_3 "deckSize" "I" (.int 1) := ((Fld.other W106 Fw96 (Or.inl ne89)).keep Ku126 (ninS ne85 nin0))
  obtain ⟨T140, X140, e140, st140⟩ := getF X136 hx hZ hown (host := "") (Or.inl (ww111 hw)) Via.refl e136 f139 (g := (mkF m 80 #[vR a1, vR a2, vR a3, vR b46, vR a65] [(.ref a1), (.ref a1), (.int 2), (.ref b28)])) rfl rfl (hb hby d7_80)
  have f141 : Exa Z T123.heap a1 C_3 := ((Exa.wr W106 (Exa.wr W96 f95)).keep Ku126)
  obtain ⟨T142, h142, X142, e142, W142, st142⟩ := putF X140 hx hZ hown (host := "") (Or.inl (ww111 hw)) Via.refl e140 f139 f141 (Or.inl (ww112 hw)) (ww31 hw) (ty := .int) (by decide) rfl rfl (g := (mkF m 86 #[vR a1, vR a2, vR a3, vR b46, vR a65] [(.int 2), (.ref a1), (.int 1), (.int 2), (.ref b28)])) rfl rfl (hb hby d7_86)
  have O142 : Old Z n0 h142 := Ou126.wr W142 g_a1
  have Fw142 : Fld Z h142 a1 C_3 "deckSize" "I" (.int 2) := Fld.same W142 f139
  have N142 := Fr.snoc X142 N123 g_a1
  obtain ⟨_, T145, L145, X145, hQ145, st145⟩ := own_cU X142 hx hZ hown (ww177 hw) (ww178 hw) (ww179 hw) (ww181 hw) (ww180 hw) (ww182 hw) (ww183 hw) (Exa.ext O142.2 E_132) (rm24_31 l Z a0 hw a65 p143 h142 n0 O142 F144) e142 pd_3 hml (hb hby d7_92) (Ls := #[vR a1, vR a2, vR a3, vR b46, vR a65]) (W := 2) (argsL := []) (rest := [(.int 1), (.ref b28)])
  obtain ⟨rfl, u147, u148⟩ := hQ145
  have N145 := Fr.app N142 u147
  have f149 : Arv Z h142 b28 k28 .int (3 : Int32) [(.int 0), (.int 0), (.int p97)] (.int (0 : Int32)) := (f137.other W142 (Ne.symm ne89))
  obtain ⟨cl150, Ar150, qk150, Sz150, Nn150, Hh150, Gg150⟩ := id f149
  have hin150 : ¬ ((1 : Int32) < 0 ∨ cl150.slots.size ≤ ((1 : Int32)).toNatClampNeg) := inb_of Sz150 ⟨by decide +kernel, by decide +kernel⟩
  obtain ⟨T151, h151, X151, e151, W151, st151⟩ := stI X145 hx hZ u148 Ar150 (j := (1 : Int32)) hin150 (g := (mkF m 95 #[vR a1, vR a2, vR a3, vR b46, vR a65] [(.int p143), (.int 1), (.ref b28)])) rfl rfl (hb hby d7_95)
  have O151 : Old Z n0 h151 := O142.wr W151 g_b28
  have V151 : Arv Z h151 b28 k28 .int (3 : Int32) [(.int 0), (.int p143), (.int p97)] (.int (0 : Int32)) := Arv.set Ar150 qk150 Sz150 Nn150 Hh150 Gg150 rfl W151 1 rfl (Nat.le_of_ble_eq_true rfl)
  have N151 := Fr.snoc X151 N145 g_b28
  have f152 : Fld Z h151 b46 C_6 "cursor" "I" (.int 2) := (Fld.other W151 (Fld.other W142 u128 (Or.inl (Ne.symm ne85))) (Or.inl (Ne.symm ne90)))
  have f153 : Fld Z h151 b46 C_6 "this$0" C_7 (.ref a2) := (Fld.other W151 (Fld.other W142 u131 (Or.inl (Ne.symm ne85))) (Or.inl (Ne.symm ne90)))
  have f154 : Fld Z h151 a2 C_1 "size" "I" (.int 3) := (Fld.other W151 (Fld.other W142 (f111.keep Ku126 (ninS ne109 nin0)) (Or.inl hne21)) (Or.inl ne110))
  have f156 : Exa Z h151 b46 C_6 := (Exa.wr W151 (Exa.wr W142 u127))
  obtain ⟨_, T155, L155, X155, hQ155, st155⟩ := own_cN X151 hx hZ hown (ww90 hw) (ww91 hw) (mvT hZ (ww92 hw)) (ww93 hw) (ww94 hw) (ww95 hw) (ww96 hw) (ww97 hw) (ww76 hw) (ww98 hw) f156 (rm11_77 l Z a0 hw b46 a2 h151 n0 O151 f152 f153 f154) e151 pd_6 hml (hb hby d7_48) (Ls := #[vR a1, vR a2, vR a3, vR b46, vR a65]) (W := 0) (argsL := []) (rest := [])
  obtain ⟨rfl, u158, u159⟩ := hQ155
  have N155 := Fr.app N151 u158
  have f160 : Fld Z h151 a2 C_0 "modCount" "I" (.int 3) := (Fld.other W151 (Fld.other W142 (f117.keep Ku126 (ninS ne109 nin0)) (Or.inl hne21)) (Or.inl ne110))
  have f161 : Fld Z h151 b46 C_6 "expectedModCount" "I" (.int 3) := (Fld.other W151 (Fld.other W142 u129 (Or.inl (Ne.symm ne85))) (Or.inl (Ne.symm ne90)))
  have f162 : Fld Z h151 a2 C_1 "elementData" C_2 (.ref a62) := (Fld.other W151 (Fld.other W142 (f119.keep Ku126 (ninS ne109 nin0)) (Or.inl hne21)) (Or.inl ne110))
  have f163 : Arv Z h151 a62 k67 (.object "java/lang/Object") (10 : Int32) [(.ref a64), (.ref a65), (.ref a66)] .null := (((f121.keep Ku126 (ninS ne69 nin0)).other W142 hne72).other W151 ne120)
  have f164 : Fld Z h151 b46 C_6 "lastRet" "I" (.int 1) := (Fld.other W151 (Fld.other W142 u130 (Or.inl (Ne.symm ne85))) (Or.inl (Ne.symm ne90)))
  obtain ⟨_, T165, L165, X165, hQ165, st165⟩ := own_cN X155 hx hZ hown (ww161 hw) (ww162 hw) (mvT hZ (ww163 hw)) (ww164 hw) (ww165 hw) (ww166 hw) (ww167 hw) (ww97 hw) (ww76 hw) (ww168 hw) f156 (rm22_78 l Z a0 hw b46 a2 a62 a64 a65 a66 k67 h151 n0 O151 f156 f153 f160 f161 f152 f154 f162 f163 f164 g_b46 ne69) u159 pd_15 hml (hb hby d7_57) (Ls := #[vR a1, vR a2, vR a3, vR b46, vR a65]) (W := 0) (argsL := []) (rest := [])
  obtain ⟨rfl, u167, Ku168, u169, u170, u171, u172, u173⟩ := hQ165
  have Ou168 : Old Z n0 T165.heap := O151.keep Ku168 (allS g_b46 all0)
  have N165 := Fr.app N155 u167
  obtain ⟨T175, X175, e175, st175⟩ := castY X165 hx hZ hown (ww175 hw) rfl (Ins.self (Exa.ext Ou168.2 E_174)) (g := (mkF m 62 #[vR a1, vR a2, vR a3, vR b46, vR a65] [(.ref a66)])) rfl rfl (hb hby d7_62)
  have f176 : Fld Z T165.heap a1 C_3 "deck" "[I" (.ref b28) := ((Fld.other W151 (Fld.other W142 f134 (Or.inr (own_sl39 hw))) (Or.inl ne89)).keep Ku168 (ninS ne85 nin0))
  obtain ⟨T177, X177, e177, st177⟩ := getF X175 hx hZ hown (host := "") (Or.inl (ww62 hw)) Via.refl e175 f176 (g := (mkF m 68 #[vR a1, vR a2, vR a3, vR b46, vR a66] [(.ref a1)])) rfl rfl (hb hby d7_68)
  obtain ⟨T178, X178, e178, st178⟩ := getF X177 hx hZ hown (host := "") (Or.inl (ww62 hw)) Via.refl e177 f176 (g := (mkF m 72 #[vR a1, vR a2, vR a3, vR b46, vR a66] [(.ref a1), (.ref b28)])) rfl rfl (hb hby d7_72)
  have f179 : Arv Z T165.heap b28 k28 .int (3 : Int32) [(.int 0), (.int p143), (.int p97)] (.int (0 : Int32)) := (V151.keep Ku168 (ninS ne90 nin0))
  obtain ⟨cl180, Ar180, -, Sz180, Nn180, -, -⟩ := id f179
  have f181 : Fld Z T165.heap a1 C_3 "deckSize" "I" (.int 2) := ((Fld.other W151 Fw142 (Or.inl ne89)).keep Ku168 (ninS ne85 nin0))
  obtain ⟨T182, X182, e182, st182⟩ := getF X178 hx hZ hown (host := "") (Or.inl (ww111 hw)) Via.refl e178 f181 (g := (mkF m 80 #[vR a1, vR a2, vR a3, vR b46, vR a66] [(.ref a1), (.ref a1), (.int 2), (.ref b28)])) rfl rfl (hb hby d7_80)
  have f183 : Exa Z T165.heap a1 C_3 := ((Exa.wr W151 (Exa.wr W142 f141)).keep Ku168)
  obtain ⟨T184, h184, X184, e184, W184, st184⟩ := putF X182 hx hZ hown (host := "") (Or.inl (ww111 hw)) Via.refl e182 f181 f183 (Or.inl (ww112 hw)) (ww31 hw) (ty := .int) (by decide) rfl rfl (g := (mkF m 86 #[vR a1, vR a2, vR a3, vR b46, vR a66] [(.int 3), (.ref a1), (.int 2), (.int 2), (.ref b28)])) rfl rfl (hb hby d7_86)
  have O184 : Old Z n0 h184 := Ou168.wr W184 g_a1
  have Fw184 : Fld Z h184 a1 C_3 "deckSize" "I" (.int 3) := Fld.same W184 f181
  have N184 := Fr.snoc X184 N165 g_a1
  obtain ⟨_, T187, L187, X187, hQ187, st187⟩ := own_cU X184 hx hZ hown (ww177 hw) (ww178 hw) (ww179 hw) (ww181 hw) (ww180 hw) (ww182 hw) (ww183 hw) (Exa.ext O184.2 E_174) (rm24_31 l Z a0 hw a66 p185 h184 n0 O184 F186) e184 pd_3 hml (hb hby d7_92) (Ls := #[vR a1, vR a2, vR a3, vR b46, vR a66]) (W := 2) (argsL := []) (rest := [(.int 0), (.ref b28)])
  obtain ⟨rfl, u189, u190⟩ := hQ187
  have N187 := Fr.app N184 u189
  have f191 : Arv Z h184 b28 k28 .int (3 : Int32) [(.int 0), (.int p143), (.int p97)] (.int (0 : Int32)) := (f179.other W184 (Ne.symm ne89))
  obtain ⟨cl192, Ar192, qk192, Sz192, Nn192, Hh192, Gg192⟩ := id f191
  have hin192 : ¬ ((0 : Int32) < 0 ∨ cl192.slots.size ≤ ((0 : Int32)).toNatClampNeg) := inb_of Sz192 ⟨by decide +kernel, by decide +kernel⟩
  obtain ⟨T193, h193, X193, e193, W193, st193⟩ := stI X187 hx hZ u190 Ar192 (j := (0 : Int32)) hin192 (g := (mkF m 95 #[vR a1, vR a2, vR a3, vR b46, vR a66] [(.int p185), (.int 0), (.ref b28)])) rfl rfl (hb hby d7_95)
  have O193 : Old Z n0 h193 := O184.wr W193 g_b28
  have V193 : Arv Z h193 b28 k28 .int (3 : Int32) [(.int p185), (.int p143), (.int p97)] (.int (0 : Int32)) := Arv.set Ar192 qk192 Sz192 Nn192 Hh192 Gg192 rfl W193 0 rfl (Nat.le_of_ble_eq_true rfl)
  have N193 := Fr.snoc X193 N187 g_b28
  have f194 : Fld Z h193 b46 C_6 "cursor" "I" (.int 3) := (Fld.other W193 (Fld.other W184 u170 (Or.inl (Ne.symm ne85))) (Or.inl (Ne.symm ne90)))
  have f195 : Fld Z h193 b46 C_6 "this$0" C_7 (.ref a2) := (Fld.other W193 (Fld.other W184 u173 (Or.inl (Ne.symm ne85))) (Or.inl (Ne.symm ne90)))
  have f196 : Fld Z h193 a2 C_1 "size" "I" (.int 3) := (Fld.other W193 (Fld.other W184 (f154.keep Ku168 (ninS ne109 nin0)) (Or.inl hne21)) (Or.inl ne110))
  have f198 : Exa Z h193 b46 C_6 := (Exa.wr W193 (Exa.wr W184 u169))
  obtain ⟨_, T197, L197, X197, hQ197, st197⟩ := own_cN X193 hx hZ hown (ww90 hw) (ww91 hw) (mvT hZ (ww92 hw)) (ww93 hw) (ww94 hw) (ww95 hw) (ww96 hw) (ww97 hw) (ww76 hw) (ww98 hw) f198 (rm11_79 l Z a0 hw b46 a2 h193 n0 O193 f194 f195 f196) e193 pd_6 hml (hb hby d7_48) (Ls := #[vR a1, vR a2, vR a3, vR b46, vR a66]) (W := 0) (argsL := []) (rest := [])
  obtain ⟨rfl, u200, u201⟩ := hQ197
  have N197 := Fr.app N193 u200
  have f202 : Fld Z h193 a1 C_3 "market" "[I" (.ref b5) := (Fld.other W193 (Fld.other W184 ((Fld.other W151 (Fld.other W142 ((Fld.other W106 (Fld.other W96 (((Fld.other W41 (Fld.ext E38 (Fld.other W31 (Fld.ext E28 (Fld.other W18 Fw15 (Or.inr (own_sl19 hw)))) (Or.inr (own_sl20 hw)))) (Or.inr (own_sl21 hw))).keep Ku51 nin0).keep Ku77 (ninS ne85 nin0)) (Or.inr (own_sl38 hw))) (Or.inl ne89)).keep Ku126 (ninS ne85 nin0)) (Or.inr (own_sl38 hw))) (Or.inl ne89)).keep Ku168 (ninS ne85 nin0)) (Or.inr (own_sl38 hw))) (Or.inl ne89))
  obtain ⟨T203, X203, e203, st203⟩ := getF X197 hx hZ hown (host := "") (Or.inl (ww47 hw)) Via.refl u201 f202 (g := (mkF m 100 #[vR a1, vR a2, vR a3, vR b46, vR a66] [(.ref a1)])) rfl rfl (hb hby d7_100)
  have ne204 : b5 ≠ b46 := (own_n (own_t (own_t (own_t (own_t (own_t (own_t lt_b5 (Keep.of_wr W15).1) (Keep.of_wr W18).1) E28.1) (Keep.of_wr W31).1) E38.1) (Keep.of_wr W41).1) u49)
  have ne205 : b5 ≠ b28 := (own_n (own_t (own_t lt_b5 (Keep.of_wr W15).1) (Keep.of_wr W18).1) bd_b28)
  have f206 : Arv Z h193 b5 k5 .int (5 : Int32) [] (.int (0 : Int32)) := ((((((((((((((((V5.other W15 (Ne.symm (own_n lt_a1 bd_b5))).other W18 (Ne.symm (own_n lt_a1 bd_b5))).ext E28).other W31 (Ne.symm (own_n lt_a1 bd_b5))).ext E38).other W41 (Ne.symm (own_n lt_a1 bd_b5))).keep Ku51 nin0).keep Ku77 (ninS ne204 nin0)).other W96 (Ne.symm (own_n lt_a1 bd_b5))).other W106 ne205).keep Ku126 (ninS ne204 nin0)).other W142 (Ne.symm (own_n lt_a1 bd_b5))).other W151 ne205).keep Ku168 (ninS ne204 nin0)).other W184 (Ne.symm (own_n lt_a1 bd_b5))).other W193 ne205)
  have f207 : Exa Z h193 b5 "[I" := (Exa.wr W193 (Exa.wr W184 ((Exa.wr W151 (Exa.wr W142 ((Exa.wr W106 (Exa.wr W96 (((Exa.wr W41 (Exa.ext E38 (Exa.wr W31 (Exa.ext E28 (Exa.wr W18 (Exa.wr W15 Ex5)))))).keep Ku51).keep Ku77))).keep Ku126))).keep Ku168)))
  obtain ⟨_, T208, L208, X208, hQ208, st208⟩ := own_cS X203 hx hZ hown (ww102 hw) (ww103 hw) (ww104 hw) (ww105 hw) (rm12_13 l Z a0 hw b5 k5 h193 n0 O193 f206 g_b5 f207) e203 pd_7 hml (hb hby d7_104) (Ls := #[vR a1, vR a2, vR a3, vR b46, vR a66]) (W := 0) (argsL := [(.ref b5), (.int (-1))]) (rest := [])
  obtain ⟨rfl, u210, Ku211, u212, u213⟩ := hQ208
  have Ou211 : Old Z n0 T208.heap := O193.keep Ku211 (allS g_b5 all0)
  have N208 := Fr.app N197 u210
  have f214 : Exa Z T208.heap a1 C_3 := ((Exa.wr W193 (Exa.wr W184 f183)).keep Ku211)
  have f215 : Fld Z T208.heap a1 C_3 "deck" "[I" (.ref b28) := ((Fld.other W193 (Fld.other W184 f176 (Or.inr (own_sl39 hw))) (Or.inl ne89)).keep Ku211 (ninS (own_n lt_a1 bd_b5) nin0))
  have f216 : Fld Z T208.heap a1 C_3 "deckSize" "I" (.int 3) := ((Fld.other W193 Fw184 (Or.inl ne89)).keep Ku211 (ninS (own_n lt_a1 bd_b5) nin0))
  have f217 : Fld Z T208.heap a1 C_3 "discard" "[I" (.ref b38) := ((Fld.other W193 (Fld.other W184 ((Fld.other W151 (Fld.other W142 ((Fld.other W106 (Fld.other W96 ((Fw41.keep Ku51 nin0).keep Ku77 (ninS ne85 nin0)) (Or.inr (own_sl40 hw))) (Or.inl ne89)).keep Ku126 (ninS ne85 nin0)) (Or.inr (own_sl40 hw))) (Or.inl ne89)).keep Ku168 (ninS ne85 nin0)) (Or.inr (own_sl40 hw))) (Or.inl ne89)).keep Ku211 (ninS (own_n lt_a1 bd_b5) nin0))
  have f218 : Fld Z T208.heap a1 C_3 "discardSize" "I" (.int 0) := ((Fld.other W193 (Fld.other W184 ((Fld.other W151 (Fld.other W142 ((Fld.other W106 (Fld.other W96 (((Fld.other W41 (Fld.ext E38 (Fld.other W31 (Fld.ext E28 (Fld.other W18 (Fld.other W15 (Fld.ext E5 F10) (Or.inr (own_sl27 hw))) (Or.inr (own_sl28 hw)))) (Or.inr (own_sl29 hw)))) (Or.inr (own_sl30 hw))).keep Ku51 nin0).keep Ku77 (ninS ne85 nin0)) (Or.inr (own_sl41 hw))) (Or.inl ne89)).keep Ku126 (ninS ne85 nin0)) (Or.inr (own_sl41 hw))) (Or.inl ne89)).keep Ku168 (ninS ne85 nin0)) (Or.inr (own_sl41 hw))) (Or.inl ne89)).keep Ku211 (ninS (own_n lt_a1 bd_b5) nin0))
  have f219 : Fld Z T208.heap a1 C_3 "generator" C_4 (.ref a3) := ((Fld.other W193 (Fld.other W184 ((Fld.other W151 (Fld.other W142 ((Fld.other W106 (Fld.other W96 (((Fld.other W41 (Fld.ext E38 (Fld.other W31 (Fld.ext E28 Fw18) (Or.inr (own_sl31 hw)))) (Or.inr (own_sl32 hw))).keep Ku51 nin0).keep Ku77 (ninS ne85 nin0)) (Or.inr (own_sl42 hw))) (Or.inl ne89)).keep Ku126 (ninS ne85 nin0)) (Or.inr (own_sl42 hw))) (Or.inl ne89)).keep Ku168 (ninS ne85 nin0)) (Or.inr (own_sl42 hw))) (Or.inl ne89)).keep Ku211 (ninS (own_n lt_a1 bd_b5) nin0))
  have f220 : Fld Z T208.heap a1 C_3 "market" "[I" (.ref b5) := (f202.keep Ku211 (ninS (own_n lt_a1 bd_b5) nin0))
  have f221 : Exa Z T208.heap b28 "[I" := ((Exa.wr W193 (Exa.wr W184 ((Exa.wr W151 (Exa.wr W142 ((Exa.wr W106 (Exa.wr W96 (((Exa.wr W41 (Exa.ext E38 (Exa.wr W31 Ex28))).keep Ku51).keep Ku77))).keep Ku126))).keep Ku168))).keep Ku211)
  have f222 : Arv Z T208.heap b28 k28 .int (3 : Int32) [(.int p185), (.int p143), (.int p97)] (.int (0 : Int32)) := (V193.keep Ku211 (ninS (Ne.symm ne205) nin0))
  have f223 : Exa Z T208.heap b38 "[I" := ((Exa.wr W193 (Exa.wr W184 ((Exa.wr W151 (Exa.wr W142 ((Exa.wr W106 (Exa.wr W96 (((Exa.wr W41 Ex38).keep Ku51).keep Ku77))).keep Ku126))).keep Ku168))).keep Ku211)
  have ne224 : a1 ≠ b38 := (own_n (own_t (own_t (own_t (own_t (own_t lt_a1 E5.1) (Keep.of_wr W15).1) (Keep.of_wr W18).1) E28.1) (Keep.of_wr W31).1) bd_b38)
  have ne225 : b5 ≠ b38 := (own_n (own_t (own_t (own_t (own_t lt_b5 (Keep.of_wr W15).1) (Keep.of_wr W18).1) E28.1) (Keep.of_wr W31).1) bd_b38)
  have f226 : Arv Z T208.heap b38 k38 .int (3 : Int32) [] (.int (0 : Int32)) := ((((((((((((V38.other W41 (Ne.symm ne224)).keep Ku51 nin0).keep Ku77 (ninS (own_n (own_t lt_b38 (Keep.of_wr W41).1) u49) nin0)).other W96 (Ne.symm ne224)).other W106 (Ne.symm (own_n (own_t lt_b28 (Keep.of_wr W31).1) bd_b38))).keep Ku126 (ninS (own_n (own_t lt_b38 (Keep.of_wr W41).1) u49) nin0)).other W142 (Ne.symm ne224)).other W151 (Ne.symm (own_n (own_t lt_b28 (Keep.of_wr W31).1) bd_b38))).keep Ku168 (ninS (own_n (own_t lt_b38 (Keep.of_wr W41).1) u49) nin0)).other W184 (Ne.symm ne224)).other W193 (Ne.symm (own_n (own_t lt_b28 (Keep.of_wr W31).1) bd_b38))).keep Ku211 (ninS (Ne.symm ne225) nin0))
  have lt227 : b28 < T208.heap.size := (own_t (own_t (own_t (own_t (own_t (own_t (own_t (own_t (own_t (own_t (own_t (own_t (own_t (own_t lt_b28 (Keep.of_wr W31).1) E38.1) (Keep.of_wr W41).1) Ku51.1) Ku77.1) (Keep.of_wr W96).1) (Keep.of_wr W106).1) Ku126.1) (Keep.of_wr W142).1) (Keep.of_wr W151).1) Ku168.1) (Keep.of_wr W184).1) (Keep.of_wr W193).1) Ku211.1)
  have lt228 : b38 < T208.heap.size := (own_t (own_t (own_t (own_t (own_t (own_t (own_t (own_t (own_t (own_t (own_t (own_t lt_b38 (Keep.of_wr W41).1) Ku51.1) Ku77.1) (Keep.of_wr W96).1) (Keep.of_wr W106).1) Ku126.1) (Keep.of_wr W142).1) (Keep.of_wr W151).1) Ku168.1) (Keep.of_wr W184).1) (Keep.of_wr W193).1) Ku211.1)
  have lt229 : b5 < T208.heap.size := (own_t (own_t (own_t (own_t (own_t (own_t (own_t (own_t (own_t (own_t (own_t (own_t (own_t (own_t (own_t (own_t (own_t lt_b5 (Keep.of_wr W15).1) (Keep.of_wr W18).1) E28.1) (Keep.of_wr W31).1) E38.1) (Keep.of_wr W41).1) Ku51.1) Ku77.1) (Keep.of_wr W96).1) (Keep.of_wr W106).1) Ku126.1) (Keep.of_wr W142).1) (Keep.of_wr W151).1) Ku168.1) (Keep.of_wr W184).1) (Keep.of_wr W193).1) Ku211.1)
  refine fin none _ _ _ _ X208 (fun _ => rfl) (fun fs hr => pre0 _ ?_) ?_ (by decide) (by decide)
  · refine o_aloadN X0 hx hby d7_0 rfl rfl (st4 _ (o_aloadN X4 hx hby d7_4 rfl rfl (o_iconst X4 hx hby d7_5 (x := 5) rfl (st5 _ (st15 _ (o_aloadN X15 hx hby d7_11 rfl rfl (o_aloadN X15 hx hby d7_12 rfl rfl (st18 _ (o_aloadN X18 hx hby d7_16 rfl rfl (o_aloadN X18 hx hby d7_17 rfl rfl (st23 _ (st28 _ (st31 _ (o_aloadN X31 hx hby d7_28 rfl rfl (o_aloadN X31 hx hby d7_29 rfl rfl (st33 _ (st38 _ (st41 _ (o_aloadN X41 hx hby d7_40 rfl rfl (st44 _ (o_astoreN X44 hx hby d7_46 rfl (Ls' := #[vR a1, vR a2, vR a3, vR b46, .unset]) rfl (o_aloadN X44 hx hby d7_47 rfl rfl (st58 _ (o_ifN X58 hx hby d7_53 (by decide +kernel) (o_aloadN X58 hx hby d7_56 rfl rfl (st74 _ (st84 _ (o_astore X84 hx hby d7_65 rfl (Ls' := #[vR a1, vR a2, vR a3, vR b46, vR a64]) rfl (o_aloadN X84 hx hby d7_67 rfl rfl (st87 _ (o_aloadN X87 hx hby d7_71 rfl rfl (st88 _ (X88.arraylength hx (by rw [e88]; exact Ar92.1) (State.isArrayOf_alike hZ.alike Ar92.2.1) (g := (mkF m 75 #[vR a1, vR a2, vR a3, vR b46, vR a64] [(.ref b28), (.ref b28)])) rfl rfl (hb hby d7_75) _ ?_)))))))))))))))))))))))))))))))))
    rw [len_of Sz92 Nn92]
    refine o_iconst X88 hx hby d7_76 (x := 1) rfl (o_isub X88 hx hby d7_77 (z := (2 : Int32)) (by decide +kernel) (o_aloadN X88 hx hby d7_78 rfl rfl (o_dup X88 hx hby d7_79 rfl (st94 _ (o_dupX1 X94 hx hby d7_83 rfl rfl (o_iconst X94 hx hby d7_84 (x := 1) rfl (o_iadd X94 hx hby d7_85 (z := (1 : Int32)) (by decide +kernel) (st96 _ (o_isub X96 hx hby d7_89 (z := (2 : Int32)) (by decide +kernel) (o_aload X96 hx hby d7_90 rfl rfl (st99 _ (st106 _ (o_goto X106 hx hby d7_96 (pc := 96) (pc' := 47) (by decide) (by decide) (o_aloadN X106 hx hby d7_47 rfl rfl (st112 _ (o_ifN X112 hx hby d7_53 (by decide +kernel) (o_aloadN X112 hx hby d7_56 rfl rfl (st123 _ (st133 _ (o_astore X133 hx hby d7_65 rfl (Ls' := #[vR a1, vR a2, vR a3, vR b46, vR a65]) rfl (o_aloadN X133 hx hby d7_67 rfl rfl (st135 _ (o_aloadN X135 hx hby d7_71 rfl rfl (st136 _ (X136.arraylength hx (by rw [e136]; exact Ar138.1) (State.isArrayOf_alike hZ.alike Ar138.2.1) (g := (mkF m 75 #[vR a1, vR a2, vR a3, vR b46, vR a65] [(.ref b28), (.ref b28)])) rfl rfl (hb hby d7_75) _ ?_)))))))))))))))))))))))))
    rw [len_of Sz138 Nn138]
    refine o_iconst X136 hx hby d7_76 (x := 1) rfl (o_isub X136 hx hby d7_77 (z := (2 : Int32)) (by decide +kernel) (o_aloadN X136 hx hby d7_78 rfl rfl (o_dup X136 hx hby d7_79 rfl (st140 _ (o_dupX1 X140 hx hby d7_83 rfl rfl (o_iconst X140 hx hby d7_84 (x := 1) rfl (o_iadd X140 hx hby d7_85 (z := (2 : Int32)) (by decide +kernel) (st142 _ (o_isub X142 hx hby d7_89 (z := (1 : Int32)) (by decide +kernel) (o_aload X142 hx hby d7_90 rfl rfl (st145 _ (st151 _ (o_goto X151 hx hby d7_96 (pc := 96) (pc' := 47) (by decide) (by decide) (o_aloadN X151 hx hby d7_47 rfl rfl (st155 _ (o_ifN X155 hx hby d7_53 (by decide +kernel) (o_aloadN X155 hx hby d7_56 rfl rfl (st165 _ (st175 _ (o_astore X175 hx hby d7_65 rfl (Ls' := #[vR a1, vR a2, vR a3, vR b46, vR a66]) rfl (o_aloadN X175 hx hby d7_67 rfl rfl (st177 _ (o_aloadN X177 hx hby d7_71 rfl rfl (st178 _ (X178.arraylength hx (by rw [e178]; exact Ar180.1) (State.isArrayOf_alike hZ.alike Ar180.2.1) (g := (mkF m 75 #[vR a1, vR a2, vR a3, vR b46, vR a66] [(.ref b28), (.ref b28)])) rfl rfl (hb hby d7_75) _ ?_)))))))))))))))))))))))))
    rw [len_of Sz180 Nn180]
    refine o_iconst X178 hx hby d7_76 (x := 1) rfl (o_isub X178 hx hby d7_77 (z := (2 : Int32)) (by decide +kernel) (o_aloadN X178 hx hby d7_78 rfl rfl (o_dup X178 hx hby d7_79 rfl (st182 _ (o_dupX1 X182 hx hby d7_83 rfl rfl (o_iconst X182 hx hby d7_84 (x := 1) rfl (o_iadd X182 hx hby d7_85 (z := (3 : Int32)) (by decide +kernel) (st184 _ (o_isub X184 hx hby d7_89 (z := (0 : Int32)) (by decide +kernel) (o_aload X184 hx hby d7_90 rfl rfl (st187 _ (st193 _ (o_goto X193 hx hby d7_96 (pc := 96) (pc' := 47) (by decide) (by decide) (o_aloadN X193 hx hby d7_47 rfl rfl (st197 _ (o_ifY X197 hx hby d7_53 (pc := 53) (pc' := 99) (by decide +kernel) (by decide) (by decide) (o_aloadN X197 hx hby d7_99 rfl rfl (st203 _ (o_iconst X203 hx hby d7_103 (x := -1) rfl (st208 _ ?_))))))))))))))))))))
    exact X208.returnOut hx hret (hb hby d7_107) hr
  · exact ⟨b28, b38, b5, k28, k38, k5, rfl, N208, sz_b28, lt227, sz_b38, lt228, sz_b5, lt229, (own_n (own_t lt_b28 (Keep.of_wr W31).1) bd_b38), (Ne.symm ne205), (Ne.symm ne225), (((((((((((((((((((Keep.refl h0 [a1]).ext E5).wr W15 (Or.inl (List.mem_of_getElem? (i := 0) rfl))).wr W18 (Or.inl (List.mem_of_getElem? (i := 0) rfl))).ext E28).wr W31 (Or.inl (List.mem_of_getElem? (i := 0) rfl))).ext E38).wr W41 (Or.inl (List.mem_of_getElem? (i := 0) rfl))).trans Ku51 all0).trans Ku77 (allS (Or.inr sz_b46) all0)).wr W96 (Or.inl (List.mem_of_getElem? (i := 0) rfl))).wr W106 (Or.inr sz_b28)).trans Ku126 (allS (Or.inr sz_b46) all0)).wr W142 (Or.inl (List.mem_of_getElem? (i := 0) rfl))).wr W151 (Or.inr sz_b28)).trans Ku168 (allS (Or.inr sz_b46) all0)).wr W184 (Or.inl (List.mem_of_getElem? (i := 0) rfl))).wr W193 (Or.inr sz_b28)).trans Ku211 (allS (Or.inr sz_b5) all0)), f214, f215, f216, f217, f218, f219, f220, f221, f222, f223, f226, u212, u213⟩
def Q16_80 (Z : State) (a1 : Addr) (h0 : Heap) (n0 : Nat) (v : Option Value) (h : Heap) (L : List Loc) : Prop := (v = some (.int 1) ∧ Fr n0 L ∧ h = h0)
theorem rm16_80 (l : Launch) (Z : State) (a0 : Array Value) (hw : own_HW Z a0) (a1 : Addr) (h0 : Heap) (n0 : Nat) (O0 : Old Z n0 h0) (F2 : Fld Z h0 a1 C_3 "deckSize" "I" (.int 3)) (F4 : Fld Z h0 a1 C_3 "discardSize" "I" (.int 0)) : own_Met l Z M_17 bc16 1 (some .boolean) ({ frames := 0, cells := 0, slots := 0, locals := 0 } : Room) #[(.ref a1)] h0 (Q16_80 Z a1 h0 n0) := by
  refine own_body (L0 := #[vR a1]) (plainFor_of_name pn_6) (fun m => by first | (simp [entryFrame, mkF, argsToLocals, Value.category]; done) | rfl) fun p e s m below meth c s₁ EN hx hby hml hown hnm hret X0 hZ e0 hh pre0 fin => ?_
  have N0 := Fr.nil n0
  obtain ⟨T3, X3, e3, st3⟩ := getF X0 hx hZ hown (host := "") (Or.inl (ww111 hw)) Via.refl e0 F2 (g := (mkF m 1 #[vR a1] [(.ref a1)])) rfl rfl (hb hby d16_1)
  obtain ⟨T5, X5, e5, st5⟩ := getF X3 hx hZ hown (host := "") (Or.inl (ww113 hw)) Via.refl e3 F4 (g := (mkF m 5 #[vR a1] [(.ref a1), (.int 3)])) rfl rfl (hb hby d16_5)
  refine fin (some (.int 1)) _ _ _ _ X5 nofun (fun fs hr => pre0 _ ?_) (own_atH e5 ?_) (by decide) (by decide)
  · refine o_aloadN X0 hx hby d16_0 rfl rfl (st3 _ (o_aloadN X3 hx hby d16_4 rfl rfl (st5 _ (o_iadd X5 hx hby d16_8 (z := (3 : Int32)) (by decide +kernel) (o_ifN X5 hx hby d16_9 (by decide +kernel) (o_iconst X5 hx hby d16_12 (x := 1) rfl (o_goto X5 hx hby d16_13 (pc := 13) (pc' := 17) (by decide) (by decide) ?_)))))))
    exact retN X5 hx (t := .boolean) hret (by simp) (hb hby d16_17) hr
  · exact ⟨rfl, N0, rfl⟩
def Q13_81 (Z : State) (a1 : Addr) (a4 : Addr) (a9 : Addr) (p11 : Int32) (a13 : Addr) (a15 : Addr) (p18 : Int32) (p19 : Int32) (p20 : Int32) (k21 : ClassId) (h0 : Heap) (n0 : Nat) (v : Option Value) (h : Heap) (L : List Loc) : Prop := (v = some (.int p20) ∧ Fr n0 L ∧ Keep h0 h [a1] ∧ Exa Z h a1 C_3 ∧ Fld Z h a1 C_3 "deck" "[I" (.ref a4) ∧ Fld Z h a1 C_3 "deckSize" "I" (.int 2) ∧ Fld Z h a1 C_3 "discard" "[I" (.ref a9) ∧ Fld Z h a1 C_3 "discardSize" "I" (.int p11) ∧ Fld Z h a1 C_3 "generator" C_4 (.ref a13) ∧ Fld Z h a1 C_3 "market" "[I" (.ref a15))
theorem rm13_81 (l : Launch) (Z : State) (a0 : Array Value) (hw : own_HW Z a0) (a1 : Addr) (a4 : Addr) (a9 : Addr) (p11 : Int32) (a13 : Addr) (a15 : Addr) (p18 : Int32) (p19 : Int32) (p20 : Int32) (k21 : ClassId) (h0 : Heap) (n0 : Nat) (O0 : Old Z n0 h0) (F2 : Fld Z h0 a1 C_3 "deckSize" "I" (.int 3)) (F5 : Fld Z h0 a1 C_3 "deck" "[I" (.ref a4)) (E_8 : Exa Z h0 a1 C_3) (F10 : Fld Z h0 a1 C_3 "discard" "[I" (.ref a9)) (F12 : Fld Z h0 a1 C_3 "discardSize" "I" (.int p11)) (F14 : Fld Z h0 a1 C_3 "generator" C_4 (.ref a13)) (F16 : Fld Z h0 a1 C_3 "market" "[I" (.ref a15)) (g_a1 : n0 ≤ a1) (V22 : Arv Z h0 a4 k21 .int (3 : Int32) [(.int p18), (.int p19), (.int p20)] (.int (0 : Int32))) (hne23 : a4 ≠ a1) : own_Met l Z M_14 bc13 1 (some .int) ({ frames := 0, cells := 0, slots := 0, locals := 0 } : Room) #[(.ref a1)] h0 (Q13_81 Z a1 a4 a9 p11 a13 a15 p18 p19 p20 k21 h0 n0) := by
  refine own_body (L0 := #[vR a1]) (plainFor_of_name pn_6) (fun m => by first | (simp [entryFrame, mkF, argsToLocals, Value.category]; done) | rfl) fun p e s m below meth c s₁ EN hx hby hml hown hnm hret X0 hZ e0 hh pre0 fin => ?_
  have N0 := Fr.nil n0
  obtain ⟨T3, X3, e3, st3⟩ := getF X0 hx hZ hown (host := "") (Or.inl (ww111 hw)) Via.refl e0 F2 (g := (mkF m 1 #[vR a1] [(.ref a1)])) rfl rfl (hb hby d13_1)
  obtain ⟨T6, X6, e6, st6⟩ := getF X3 hx hZ hown (host := "") (Or.inl (ww62 hw)) Via.refl e3 F5 (g := (mkF m 62 #[vR a1] [(.ref a1)])) rfl rfl (hb hby d13_62)
  obtain ⟨T7, X7, e7, st7⟩ := getF X6 hx hZ hown (host := "") (Or.inl (ww111 hw)) Via.refl e6 F2 (g := (mkF m 67 #[vR a1] [(.ref a1), (.ref a1), (.ref a4)])) rfl rfl (hb hby d13_67)
  obtain ⟨T17, h17, X17, e17, W17, st17⟩ := putF X7 hx hZ hown (host := "") (Or.inl (ww111 hw)) Via.refl e7 F2 E_8 (Or.inl (ww112 hw)) (ww31 hw) (ty := .int) (by decide) rfl rfl (g := (mkF m 73 #[vR a1] [(.int 2), (.ref a1), (.int 2), (.ref a4)])) rfl rfl (hb hby d13_73)
  have O17 : Old Z n0 h17 := O0.wr W17 g_a1
  have Fw17 : Fld Z h17 a1 C_3 "deckSize" "I" (.int 2) := Fld.same W17 F2
  have N17 := Fr.snoc X17 N0 g_a1
  have f24 : Arv Z h17 a4 k21 .int (3 : Int32) [(.int p18), (.int p19), (.int p20)] (.int (0 : Int32)) := (V22.other W17 hne23)
  obtain ⟨cl25, Ar25, -, Sz25, -, Hh25, -⟩ := id f24
  have hin25 : ¬ ((2 : Int32) < 0 ∨ cl25.slots.size ≤ ((2 : Int32)).toNatClampNeg) := inb_of Sz25 ⟨by decide +kernel, by decide +kernel⟩
  have hat25 : cl25.slots[((2 : Int32)).toNatClampNeg]? = some (.int p20) := Has.at Hh25 hin25 rfl
  have f26 : Exa Z h17 a1 C_3 := (Exa.wr W17 E_8)
  have f27 : Fld Z h17 a1 C_3 "deck" "[I" (.ref a4) := (Fld.other W17 F5 (Or.inr (own_sl39 hw)))
  have f28 : Fld Z h17 a1 C_3 "discard" "[I" (.ref a9) := (Fld.other W17 F10 (Or.inr (own_sl40 hw)))
  have f29 : Fld Z h17 a1 C_3 "discardSize" "I" (.int p11) := (Fld.other W17 F12 (Or.inr (own_sl41 hw)))
  have f30 : Fld Z h17 a1 C_3 "generator" C_4 (.ref a13) := (Fld.other W17 F14 (Or.inr (own_sl42 hw)))
  have f31 : Fld Z h17 a1 C_3 "market" "[I" (.ref a15) := (Fld.other W17 F16 (Or.inr (own_sl38 hw)))
  refine fin (some (.int p20)) _ _ _ _ X17 nofun (fun fs hr => pre0 _ ?_) (own_atH e17 ?_) (by decide) (by decide)
  · refine o_aloadN X0 hx hby d13_0 rfl rfl (st3 _ (o_ifY X3 hx hby d13_4 (pc := 4) (pc' := 61) (by decide +kernel) (by decide) (by decide) (o_aloadN X3 hx hby d13_61 rfl rfl (st6 _ (o_aloadN X6 hx hby d13_65 rfl rfl (o_dup X6 hx hby d13_66 rfl (st7 _ (o_iconst X7 hx hby d13_70 (x := 1) rfl (o_isub X7 hx hby d13_71 (z := (2 : Int32)) (by decide +kernel) (o_dupX1 X7 hx hby d13_72 rfl rfl (st17 _ (X17.iaload hx (j := (2 : Int32)) (v := (.int p20)) (by rw [e17]; exact Ar25.1) (State.isArrayOf_alike hZ.alike Ar25.2.1) Ar25.2.2 hin25 hat25 (g := (mkF m 76 #[vR a1] [(.int 2), (.ref a4)])) rfl rfl (hb hby d13_76) _ ?_))))))))))))
    exact retI X17 hx hret (hb hby d13_77) hr
  · exact ⟨rfl, N17, ((Keep.refl h0 [a1]).wr W17 (Or.inl (List.mem_of_getElem? (i := 0) rfl))), f26, f27, Fw17, f28, f29, f30, f31⟩
def Q13_82 (Z : State) (a1 : Addr) (a4 : Addr) (a9 : Addr) (p11 : Int32) (a13 : Addr) (a15 : Addr) (p18 : Int32) (p19 : Int32) (p20 : Int32) (k21 : ClassId) (h0 : Heap) (n0 : Nat) (v : Option Value) (h : Heap) (L : List Loc) : Prop := (v = some (.int p19) ∧ Fr n0 L ∧ Keep h0 h [a1] ∧ Exa Z h a1 C_3 ∧ Fld Z h a1 C_3 "deck" "[I" (.ref a4) ∧ Fld Z h a1 C_3 "deckSize" "I" (.int 1) ∧ Fld Z h a1 C_3 "discard" "[I" (.ref a9) ∧ Fld Z h a1 C_3 "discardSize" "I" (.int p11) ∧ Fld Z h a1 C_3 "generator" C_4 (.ref a13) ∧ Fld Z h a1 C_3 "market" "[I" (.ref a15))
theorem rm13_82 (l : Launch) (Z : State) (a0 : Array Value) (hw : own_HW Z a0) (a1 : Addr) (a4 : Addr) (a9 : Addr) (p11 : Int32) (a13 : Addr) (a15 : Addr) (p18 : Int32) (p19 : Int32) (p20 : Int32) (k21 : ClassId) (h0 : Heap) (n0 : Nat) (O0 : Old Z n0 h0) (F2 : Fld Z h0 a1 C_3 "deckSize" "I" (.int 2)) (F5 : Fld Z h0 a1 C_3 "deck" "[I" (.ref a4)) (E_8 : Exa Z h0 a1 C_3) (F10 : Fld Z h0 a1 C_3 "discard" "[I" (.ref a9)) (F12 : Fld Z h0 a1 C_3 "discardSize" "I" (.int p11)) (F14 : Fld Z h0 a1 C_3 "generator" C_4 (.ref a13)) (F16 : Fld Z h0 a1 C_3 "market" "[I" (.ref a15)) (g_a1 : n0 ≤ a1) (V22 : Arv Z h0 a4 k21 .int (3 : Int32) [(.int p18), (.int p19), (.int p20)] (.int (0 : Int32))) (hne23 : a4 ≠ a1) : own_Met l Z M_14 bc13 1 (some .int) ({ frames := 0, cells := 0, slots := 0, locals := 0 } : Room) #[(.ref a1)] h0 (Q13_82 Z a1 a4 a9 p11 a13 a15 p18 p19 p20 k21 h0 n0) := by
  refine own_body (L0 := #[vR a1]) (plainFor_of_name pn_6) (fun m => by first | (simp [entryFrame, mkF, argsToLocals, Value.category]; done) | rfl) fun p e s m below meth c s₁ EN hx hby hml hown hnm hret X0 hZ e0 hh pre0 fin => ?_
  have N0 := Fr.nil n0
  obtain ⟨T3, X3, e3, st3⟩ := getF X0 hx hZ hown (host := "") (Or.inl (ww111 hw)) Via.refl e0 F2 (g := (mkF m 1 #[vR a1] [(.ref a1)])) rfl rfl (hb hby d13_1)
  obtain ⟨T6, X6, e6, st6⟩ := getF X3 hx hZ hown (host := "") (Or.inl (ww62 hw)) Via.refl e3 F5 (g := (mkF m 62 #[vR a1] [(.ref a1)])) rfl rfl (hb hby d13_62)
  obtain ⟨T7, X7, e7, st7⟩ := getF X6 hx hZ hown (host := "") (Or.inl (ww111 hw)) Via.refl e6 F2 (g := (mkF m 67 #[vR a1] [(.ref a1), (.ref a1), (.ref a4)])) rfl rfl (hb hby d13_67)
  obtain ⟨T17, h17, X17, e17, W17, st17⟩ := putF X7 hx hZ hown (host := "") (Or.inl (ww111 hw)) Via.refl e7 F2 E_8 (Or.inl (ww112 hw)) (ww31 hw) (ty := .int) (by decide) rfl rfl (g := (mkF m 73 #[vR a1] [(.int 1), (.ref a1), (.int 1), (.ref a4)])) rfl rfl (hb hby d13_73)
  have O17 : Old Z n0 h17 := O0.wr W17 g_a1
  have Fw17 : Fld Z h17 a1 C_3 "deckSize" "I" (.int 1) := Fld.same W17 F2
  have N17 := Fr.snoc X17 N0 g_a1
  have f24 : Arv Z h17 a4 k21 .int (3 : Int32) [(.int p18), (.int p19), (.int p20)] (.int (0 : Int32)) := (V22.other W17 hne23)
  obtain ⟨cl25, Ar25, -, Sz25, -, Hh25, -⟩ := id f24
  have hin25 : ¬ ((1 : Int32) < 0 ∨ cl25.slots.size ≤ ((1 : Int32)).toNatClampNeg) := inb_of Sz25 ⟨by decide +kernel, by decide +kernel⟩
  have hat25 : cl25.slots[((1 : Int32)).toNatClampNeg]? = some (.int p19) := Has.at Hh25 hin25 rfl
  have f26 : Exa Z h17 a1 C_3 := (Exa.wr W17 E_8)
  have f27 : Fld Z h17 a1 C_3 "deck" "[I" (.ref a4) := (Fld.other W17 F5 (Or.inr (own_sl39 hw)))
  have f28 : Fld Z h17 a1 C_3 "discard" "[I" (.ref a9) := (Fld.other W17 F10 (Or.inr (own_sl40 hw)))
  have f29 : Fld Z h17 a1 C_3 "discardSize" "I" (.int p11) := (Fld.other W17 F12 (Or.inr (own_sl41 hw)))
  have f30 : Fld Z h17 a1 C_3 "generator" C_4 (.ref a13) := (Fld.other W17 F14 (Or.inr (own_sl42 hw)))
  have f31 : Fld Z h17 a1 C_3 "market" "[I" (.ref a15) := (Fld.other W17 F16 (Or.inr (own_sl38 hw)))
  refine fin (some (.int p19)) _ _ _ _ X17 nofun (fun fs hr => pre0 _ ?_) (own_atH e17 ?_) (by decide) (by decide)
  · refine o_aloadN X0 hx hby d13_0 rfl rfl (st3 _ (o_ifY X3 hx hby d13_4 (pc := 4) (pc' := 61) (by decide +kernel) (by decide) (by decide) (o_aloadN X3 hx hby d13_61 rfl rfl (st6 _ (o_aloadN X6 hx hby d13_65 rfl rfl (o_dup X6 hx hby d13_66 rfl (st7 _ (o_iconst X7 hx hby d13_70 (x := 1) rfl (o_isub X7 hx hby d13_71 (z := (1 : Int32)) (by decide +kernel) (o_dupX1 X7 hx hby d13_72 rfl rfl (st17 _ (X17.iaload hx (j := (1 : Int32)) (v := (.int p19)) (by rw [e17]; exact Ar25.1) (State.isArrayOf_alike hZ.alike Ar25.2.1) Ar25.2.2 hin25 hat25 (g := (mkF m 76 #[vR a1] [(.int 1), (.ref a4)])) rfl rfl (hb hby d13_76) _ ?_))))))))))))
    exact retI X17 hx hret (hb hby d13_77) hr
  · exact ⟨rfl, N17, ((Keep.refl h0 [a1]).wr W17 (Or.inl (List.mem_of_getElem? (i := 0) rfl))), f26, f27, Fw17, f28, f29, f30, f31⟩
def Q15_83 (Z : State) (a1 : Addr) (a2 : Addr) (a3 : Addr) (a9 : Addr) (p11 : Int32) (a13 : Addr) (a15 : Addr) (p19 : Int32) (k25 : ClassId) (h0 : Heap) (n0 : Nat) (v : Option Value) (h : Heap) (L : List Loc) : Prop := (v = none ∧ Fr n0 L ∧ Keep h0 h [a1, a3] ∧ Exa Z h a1 C_3 ∧ Fld Z h a1 C_3 "deck" "[I" (.ref a9) ∧ Fld Z h a1 C_3 "deckSize" "I" (.int p11) ∧ Fld Z h a1 C_3 "discard" "[I" (.ref a3) ∧ Fld Z h a1 C_3 "discardSize" "I" (.int 1) ∧ Fld Z h a1 C_3 "generator" C_4 (.ref a13) ∧ Fld Z h a1 C_3 "market" "[I" (.ref a15) ∧ Exa Z h a3 "[I" ∧ Arv Z h a3 k25 .int (3 : Int32) [(.int p19)] (.int (0 : Int32)))
theorem rm15_83 (l : Launch) (Z : State) (a0 : Array Value) (hw : own_HW Z a0) (a1 : Addr) (a2 : Addr) (a3 : Addr) (a9 : Addr) (p11 : Int32) (a13 : Addr) (a15 : Addr) (p19 : Int32) (k25 : ClassId) (h0 : Heap) (n0 : Nat) (O0 : Old Z n0 h0) (F4 : Fld Z h0 a1 C_3 "discard" "[I" (.ref a3)) (F6 : Fld Z h0 a1 C_3 "discardSize" "I" (.int 0)) (E_8 : Exa Z h0 a1 C_3) (F10 : Fld Z h0 a1 C_3 "deck" "[I" (.ref a9)) (F12 : Fld Z h0 a1 C_3 "deckSize" "I" (.int p11)) (F14 : Fld Z h0 a1 C_3 "generator" C_4 (.ref a13)) (F16 : Fld Z h0 a1 C_3 "market" "[I" (.ref a15)) (g_a1 : n0 ≤ a1) (E_18 : Exa Z Z.heap a2 C_8) (F20 : Fld Z Z.heap a2 C_10 "ordinal" "I" (.int p19)) (V26 : Arv Z h0 a3 k25 .int (3 : Int32) [] (.int (0 : Int32))) (hne27 : a3 ≠ a1) (g_a3 : n0 ≤ a3) (E_32 : Exa Z h0 a3 "[I") : own_Met l Z M_16 bc15 4 none ({ frames := 1, cells := 0, slots := 0, locals := 14 } : Room) #[(.ref a1), (.ref a2), (.int 1)] h0 (Q15_83 Z a1 a2 a3 a9 p11 a13 a15 p19 k25 h0 n0) := by
  refine own_body (L0 := #[vR a1, vR a2, vI 1, .unset]) (plainFor_of_name pn_6) (fun m => by first | (simp [entryFrame, mkF, argsToLocals, Value.category]; done) | rfl) fun p e s m below meth c s₁ EN hx hby hml hown hnm hret X0 hZ e0 hh pre0 fin => ?_
  have N0 := Fr.nil n0
  obtain ⟨T5, X5, e5, st5⟩ := getF X0 hx hZ hown (host := "") (Or.inl (ww64 hw)) Via.refl e0 F4 (g := (mkF m 8 #[vR a1, vR a2, vI 1, vI 0] [(.ref a1)])) rfl rfl (hb hby d15_8)
  obtain ⟨T7, X7, e7, st7⟩ := getF X5 hx hZ hown (host := "") (Or.inl (ww113 hw)) Via.refl e5 F6 (g := (mkF m 13 #[vR a1, vR a2, vI 1, vI 0] [(.ref a1), (.ref a1), (.ref a3)])) rfl rfl (hb hby d15_13)
  obtain ⟨T17, h17, X17, e17, W17, st17⟩ := putF X7 hx hZ hown (host := "") (Or.inl (ww113 hw)) Via.refl e7 F6 E_8 (Or.inl (ww114 hw)) (ww31 hw) (ty := .int) (by decide) rfl rfl (g := (mkF m 19 #[vR a1, vR a2, vI 1, vI 0] [(.int 1), (.ref a1), (.int 0), (.ref a3)])) rfl rfl (hb hby d15_19)
  have O17 : Old Z n0 h17 := O0.wr W17 g_a1
  have Fw17 : Fld Z h17 a1 C_3 "discardSize" "I" (.int 1) := Fld.same W17 F6
  have N17 := Fr.snoc X17 N0 g_a1
  obtain ⟨_, T21, L21, X21, hQ21, st21⟩ := own_cU X17 hx hZ hown (ww177 hw) (ww178 hw) (ww179 hw) (ww181 hw) (ww180 hw) (ww182 hw) (ww183 hw) (Exa.ext O17.2 E_18) (rm24_31 l Z a0 hw a2 p19 h17 n0 O17 F20) e17 pd_3 hml (hb hby d15_23) (Ls := #[vR a1, vR a2, vI 1, vI 0]) (W := 2) (argsL := []) (rest := [(.int 0), (.ref a3)])
  obtain ⟨rfl, u23, u24⟩ := hQ21
  have N21 := Fr.app N17 u23
  have f28 : Arv Z h17 a3 k25 .int (3 : Int32) [] (.int (0 : Int32)) := (V26.other W17 hne27)
  have Vp29 : Arv Z h17 a3 k25 .int (3 : Int32) [(.int 0)] (.int (0 : Int32)) := f28.pad (pad_rep [] (.int (0 : Int32)) 1)
  obtain ⟨cl30, Ar30, qk30, Sz30, Nn30, Hh30, Gg30⟩ := id Vp29
  have hin30 : ¬ ((0 : Int32) < 0 ∨ cl30.slots.size ≤ ((0 : Int32)).toNatClampNeg) := inb_of Sz30 ⟨by decide +kernel, by decide +kernel⟩
  obtain ⟨T31, h31, X31, e31, W31, st31⟩ := stI X21 hx hZ u24 Ar30 (j := (0 : Int32)) hin30 (g := (mkF m 26 #[vR a1, vR a2, vI 1, vI 0] [(.int p19), (.int 0), (.ref a3)])) rfl rfl (hb hby d15_26)
  have O31 : Old Z n0 h31 := O17.wr W31 g_a3
  have V31 : Arv Z h31 a3 k25 .int (3 : Int32) [(.int p19)] (.int (0 : Int32)) := Arv.set Ar30 qk30 Sz30 Nn30 Hh30 Gg30 rfl W31 0 rfl (Nat.le_of_ble_eq_true rfl)
  have N31 := Fr.snoc X31 N21 g_a3
  have f33 : Exa Z h31 a1 C_3 := (Exa.wr W31 (Exa.wr W17 E_8))
  have f34 : Fld Z h31 a1 C_3 "deck" "[I" (.ref a9) := (Fld.other W31 (Fld.other W17 F10 (Or.inr (own_sl43 hw))) (Or.inl (Ne.symm hne27)))
  have f35 : Fld Z h31 a1 C_3 "deckSize" "I" (.int p11) := (Fld.other W31 (Fld.other W17 F12 (Or.inr (own_sl44 hw))) (Or.inl (Ne.symm hne27)))
  have f36 : Fld Z h31 a1 C_3 "discard" "[I" (.ref a3) := (Fld.other W31 (Fld.other W17 F4 (Or.inr (own_sl45 hw))) (Or.inl (Ne.symm hne27)))
  have f37 : Fld Z h31 a1 C_3 "discardSize" "I" (.int 1) := (Fld.other W31 Fw17 (Or.inl (Ne.symm hne27)))
  have f38 : Fld Z h31 a1 C_3 "generator" C_4 (.ref a13) := (Fld.other W31 (Fld.other W17 F14 (Or.inr (own_sl46 hw))) (Or.inl (Ne.symm hne27)))
  have f39 : Fld Z h31 a1 C_3 "market" "[I" (.ref a15) := (Fld.other W31 (Fld.other W17 F16 (Or.inr (own_sl47 hw))) (Or.inl (Ne.symm hne27)))
  have f40 : Exa Z h31 a3 "[I" := (Exa.wr W31 (Exa.wr W17 E_32))
  refine fin none _ _ _ _ X31 (fun _ => rfl) (fun fs hr => pre0 _ ?_) (own_atH e31 ?_) (by decide) (by decide)
  · refine o_iconst X0 hx hby d15_0 (x := 0) rfl (o_istoreN X0 hx hby d15_1 (Ls' := #[vR a1, vR a2, vI 1, vI 0]) rfl (o_iloadN X0 hx hby d15_2 rfl (o_iloadN X0 hx hby d15_3 rfl (o_icmpN X0 hx hby d15_4 (by decide +kernel) (o_aloadN X0 hx hby d15_7 rfl rfl (st5 _ (o_aloadN X5 hx hby d15_11 rfl rfl (o_dup X5 hx hby d15_12 rfl (st7 _ (o_dupX1 X7 hx hby d15_16 rfl rfl (o_iconst X7 hx hby d15_17 (x := 1) rfl (o_iadd X7 hx hby d15_18 (z := (1 : Int32)) (by decide +kernel) (st17 _ (o_aloadN X17 hx hby d15_22 rfl rfl (st21 _ (st31 _ (o_iinc X31 hx hby d15_27 rfl (z := (1 : Int32)) (k' := 1) rfl (by decide +kernel) (Ls' := #[vR a1, vR a2, vI 1, vI 1]) rfl (o_goto X31 hx hby d15_30 (pc := 30) (pc' := 2) (by decide) (by decide) (o_iloadN X31 hx hby d15_2 rfl (o_iloadN X31 hx hby d15_3 rfl (o_icmpY X31 hx hby d15_4 (pc := 4) (pc' := 33) (by decide +kernel) (by decide) (by decide) ?_)))))))))))))))))))))
    exact X31.returnOut hx hret (hb hby d15_33) hr
  · exact ⟨rfl, N31, (((Keep.refl h0 [a1, a3]).wr W17 (Or.inl (List.mem_of_getElem? (i := 0) rfl))).wr W31 (Or.inl (List.mem_of_getElem? (i := 1) rfl))), f33, f34, f35, f36, f37, f38, f39, f40, V31⟩
def Q16_84 (Z : State) (a1 : Addr) (h0 : Heap) (n0 : Nat) (v : Option Value) (h : Heap) (L : List Loc) : Prop := (v = some (.int 1) ∧ Fr n0 L ∧ h = h0)
theorem rm16_84 (l : Launch) (Z : State) (a0 : Array Value) (hw : own_HW Z a0) (a1 : Addr) (h0 : Heap) (n0 : Nat) (O0 : Old Z n0 h0) (F2 : Fld Z h0 a1 C_3 "deckSize" "I" (.int 2)) (F4 : Fld Z h0 a1 C_3 "discardSize" "I" (.int 1)) : own_Met l Z M_17 bc16 1 (some .boolean) ({ frames := 0, cells := 0, slots := 0, locals := 0 } : Room) #[(.ref a1)] h0 (Q16_84 Z a1 h0 n0) := by
  refine own_body (L0 := #[vR a1]) (plainFor_of_name pn_6) (fun m => by first | (simp [entryFrame, mkF, argsToLocals, Value.category]; done) | rfl) fun p e s m below meth c s₁ EN hx hby hml hown hnm hret X0 hZ e0 hh pre0 fin => ?_
  have N0 := Fr.nil n0
  obtain ⟨T3, X3, e3, st3⟩ := getF X0 hx hZ hown (host := "") (Or.inl (ww111 hw)) Via.refl e0 F2 (g := (mkF m 1 #[vR a1] [(.ref a1)])) rfl rfl (hb hby d16_1)
  obtain ⟨T5, X5, e5, st5⟩ := getF X3 hx hZ hown (host := "") (Or.inl (ww113 hw)) Via.refl e3 F4 (g := (mkF m 5 #[vR a1] [(.ref a1), (.int 2)])) rfl rfl (hb hby d16_5)
  refine fin (some (.int 1)) _ _ _ _ X5 nofun (fun fs hr => pre0 _ ?_) (own_atH e5 ?_) (by decide) (by decide)
  · refine o_aloadN X0 hx hby d16_0 rfl rfl (st3 _ (o_aloadN X3 hx hby d16_4 rfl rfl (st5 _ (o_iadd X5 hx hby d16_8 (z := (3 : Int32)) (by decide +kernel) (o_ifN X5 hx hby d16_9 (by decide +kernel) (o_iconst X5 hx hby d16_12 (x := 1) rfl (o_goto X5 hx hby d16_13 (pc := 13) (pc' := 17) (by decide) (by decide) ?_)))))))
    exact retN X5 hx (t := .boolean) hret (by simp) (hb hby d16_17) hr
  · exact ⟨rfl, N0, rfl⟩
def Q13_85 (Z : State) (a1 : Addr) (a4 : Addr) (a9 : Addr) (p11 : Int32) (a13 : Addr) (a15 : Addr) (p18 : Int32) (p19 : Int32) (p20 : Int32) (k21 : ClassId) (h0 : Heap) (n0 : Nat) (v : Option Value) (h : Heap) (L : List Loc) : Prop := (v = some (.int p18) ∧ Fr n0 L ∧ Keep h0 h [a1] ∧ Exa Z h a1 C_3 ∧ Fld Z h a1 C_3 "deck" "[I" (.ref a4) ∧ Fld Z h a1 C_3 "deckSize" "I" (.int 0) ∧ Fld Z h a1 C_3 "discard" "[I" (.ref a9) ∧ Fld Z h a1 C_3 "discardSize" "I" (.int p11) ∧ Fld Z h a1 C_3 "generator" C_4 (.ref a13) ∧ Fld Z h a1 C_3 "market" "[I" (.ref a15))
theorem rm13_85 (l : Launch) (Z : State) (a0 : Array Value) (hw : own_HW Z a0) (a1 : Addr) (a4 : Addr) (a9 : Addr) (p11 : Int32) (a13 : Addr) (a15 : Addr) (p18 : Int32) (p19 : Int32) (p20 : Int32) (k21 : ClassId) (h0 : Heap) (n0 : Nat) (O0 : Old Z n0 h0) (F2 : Fld Z h0 a1 C_3 "deckSize" "I" (.int 1)) (F5 : Fld Z h0 a1 C_3 "deck" "[I" (.ref a4)) (E_8 : Exa Z h0 a1 C_3) (F10 : Fld Z h0 a1 C_3 "discard" "[I" (.ref a9)) (F12 : Fld Z h0 a1 C_3 "discardSize" "I" (.int p11)) (F14 : Fld Z h0 a1 C_3 "generator" C_4 (.ref a13)) (F16 : Fld Z h0 a1 C_3 "market" "[I" (.ref a15)) (g_a1 : n0 ≤ a1) (V22 : Arv Z h0 a4 k21 .int (3 : Int32) [(.int p18), (.int p19), (.int p20)] (.int (0 : Int32))) (hne23 : a4 ≠ a1) : own_Met l Z M_14 bc13 1 (some .int) ({ frames := 0, cells := 0, slots := 0, locals := 0 } : Room) #[(.ref a1)] h0 (Q13_85 Z a1 a4 a9 p11 a13 a15 p18 p19 p20 k21 h0 n0) := by
  refine own_body (L0 := #[vR a1]) (plainFor_of_name pn_6) (fun m => by first | (simp [entryFrame, mkF, argsToLocals, Value.category]; done) | rfl) fun p e s m below meth c s₁ EN hx hby hml hown hnm hret X0 hZ e0 hh pre0 fin => ?_
  have N0 := Fr.nil n0
  obtain ⟨T3, X3, e3, st3⟩ := getF X0 hx hZ hown (host := "") (Or.inl (ww111 hw)) Via.refl e0 F2 (g := (mkF m 1 #[vR a1] [(.ref a1)])) rfl rfl (hb hby d13_1)
  obtain ⟨T6, X6, e6, st6⟩ := getF X3 hx hZ hown (host := "") (Or.inl (ww62 hw)) Via.refl e3 F5 (g := (mkF m 62 #[vR a1] [(.ref a1)])) rfl rfl (hb hby d13_62)
  obtain ⟨T7, X7, e7, st7⟩ := getF X6 hx hZ hown (host := "") (Or.inl (ww111 hw)) Via.refl e6 F2 (g := (mkF m 67 #[vR a1] [(.ref a1), (.ref a1), (.ref a4)])) rfl rfl (hb hby d13_67)
  obtain ⟨T17, h17, X17, e17, W17, st17⟩ := putF X7 hx hZ hown (host := "") (Or.inl (ww111 hw)) Via.refl e7 F2 E_8 (Or.inl (ww112 hw)) (ww31 hw) (ty := .int) (by decide) rfl rfl (g := (mkF m 73 #[vR a1] [(.int 0), (.ref a1), (.int 0), (.ref a4)])) rfl rfl (hb hby d13_73)
  have O17 : Old Z n0 h17 := O0.wr W17 g_a1
  have Fw17 : Fld Z h17 a1 C_3 "deckSize" "I" (.int 0) := Fld.same W17 F2
  have N17 := Fr.snoc X17 N0 g_a1
  have f24 : Arv Z h17 a4 k21 .int (3 : Int32) [(.int p18), (.int p19), (.int p20)] (.int (0 : Int32)) := (V22.other W17 hne23)
  obtain ⟨cl25, Ar25, -, Sz25, -, Hh25, -⟩ := id f24
  have hin25 : ¬ ((0 : Int32) < 0 ∨ cl25.slots.size ≤ ((0 : Int32)).toNatClampNeg) := inb_of Sz25 ⟨by decide +kernel, by decide +kernel⟩
  have hat25 : cl25.slots[((0 : Int32)).toNatClampNeg]? = some (.int p18) := Has.at Hh25 hin25 rfl
  have f26 : Exa Z h17 a1 C_3 := (Exa.wr W17 E_8)
  have f27 : Fld Z h17 a1 C_3 "deck" "[I" (.ref a4) := (Fld.other W17 F5 (Or.inr (own_sl39 hw)))
  have f28 : Fld Z h17 a1 C_3 "discard" "[I" (.ref a9) := (Fld.other W17 F10 (Or.inr (own_sl40 hw)))
  have f29 : Fld Z h17 a1 C_3 "discardSize" "I" (.int p11) := (Fld.other W17 F12 (Or.inr (own_sl41 hw)))
  have f30 : Fld Z h17 a1 C_3 "generator" C_4 (.ref a13) := (Fld.other W17 F14 (Or.inr (own_sl42 hw)))
  have f31 : Fld Z h17 a1 C_3 "market" "[I" (.ref a15) := (Fld.other W17 F16 (Or.inr (own_sl38 hw)))
  refine fin (some (.int p18)) _ _ _ _ X17 nofun (fun fs hr => pre0 _ ?_) (own_atH e17 ?_) (by decide) (by decide)
  · refine o_aloadN X0 hx hby d13_0 rfl rfl (st3 _ (o_ifY X3 hx hby d13_4 (pc := 4) (pc' := 61) (by decide +kernel) (by decide) (by decide) (o_aloadN X3 hx hby d13_61 rfl rfl (st6 _ (o_aloadN X6 hx hby d13_65 rfl rfl (o_dup X6 hx hby d13_66 rfl (st7 _ (o_iconst X7 hx hby d13_70 (x := 1) rfl (o_isub X7 hx hby d13_71 (z := (0 : Int32)) (by decide +kernel) (o_dupX1 X7 hx hby d13_72 rfl rfl (st17 _ (X17.iaload hx (j := (0 : Int32)) (v := (.int p18)) (by rw [e17]; exact Ar25.1) (State.isArrayOf_alike hZ.alike Ar25.2.1) Ar25.2.2 hin25 hat25 (g := (mkF m 76 #[vR a1] [(.int 0), (.ref a4)])) rfl rfl (hb hby d13_76) _ ?_))))))))))))
    exact retI X17 hx hret (hb hby d13_77) hr
  · exact ⟨rfl, N17, ((Keep.refl h0 [a1]).wr W17 (Or.inl (List.mem_of_getElem? (i := 0) rfl))), f26, f27, Fw17, f28, f29, f30, f31⟩
def Q15_86 (Z : State) (a1 : Addr) (a2 : Addr) (a3 : Addr) (a9 : Addr) (p11 : Int32) (a13 : Addr) (a15 : Addr) (p19 : Int32) (k25 : ClassId) (h0 : Heap) (n0 : Nat) (v : Option Value) (h : Heap) (L : List Loc) : Prop := (v = none ∧ Fr n0 L ∧ Keep h0 h [a1, a3] ∧ Exa Z h a1 C_3 ∧ Fld Z h a1 C_3 "deck" "[I" (.ref a9) ∧ Fld Z h a1 C_3 "deckSize" "I" (.int p11) ∧ Fld Z h a1 C_3 "discard" "[I" (.ref a3) ∧ Fld Z h a1 C_3 "discardSize" "I" (.int 2) ∧ Fld Z h a1 C_3 "generator" C_4 (.ref a13) ∧ Fld Z h a1 C_3 "market" "[I" (.ref a15) ∧ Exa Z h a3 "[I" ∧ Arv Z h a3 k25 .int (3 : Int32) [(.int p19), (.int p19)] (.int (0 : Int32)))
theorem rm15_86 (l : Launch) (Z : State) (a0 : Array Value) (hw : own_HW Z a0) (a1 : Addr) (a2 : Addr) (a3 : Addr) (a9 : Addr) (p11 : Int32) (a13 : Addr) (a15 : Addr) (p19 : Int32) (k25 : ClassId) (h0 : Heap) (n0 : Nat) (O0 : Old Z n0 h0) (F4 : Fld Z h0 a1 C_3 "discard" "[I" (.ref a3)) (F6 : Fld Z h0 a1 C_3 "discardSize" "I" (.int 0)) (E_8 : Exa Z h0 a1 C_3) (F10 : Fld Z h0 a1 C_3 "deck" "[I" (.ref a9)) (F12 : Fld Z h0 a1 C_3 "deckSize" "I" (.int p11)) (F14 : Fld Z h0 a1 C_3 "generator" C_4 (.ref a13)) (F16 : Fld Z h0 a1 C_3 "market" "[I" (.ref a15)) (g_a1 : n0 ≤ a1) (E_18 : Exa Z Z.heap a2 C_8) (F20 : Fld Z Z.heap a2 C_10 "ordinal" "I" (.int p19)) (V26 : Arv Z h0 a3 k25 .int (3 : Int32) [] (.int (0 : Int32))) (hne27 : a3 ≠ a1) (g_a3 : n0 ≤ a3) (E_32 : Exa Z h0 a3 "[I") : own_Met l Z M_16 bc15 4 none ({ frames := 1, cells := 0, slots := 0, locals := 14 } : Room) #[(.ref a1), (.ref a2), (.int 2)] h0 (Q15_86 Z a1 a2 a3 a9 p11 a13 a15 p19 k25 h0 n0) := by
  refine own_body (L0 := #[vR a1, vR a2, vI 2, .unset]) (plainFor_of_name pn_6) (fun m => by first | (simp [entryFrame, mkF, argsToLocals, Value.category]; done) | rfl) fun p e s m below meth c s₁ EN hx hby hml hown hnm hret X0 hZ e0 hh pre0 fin => ?_
  have N0 := Fr.nil n0
  obtain ⟨T5, X5, e5, st5⟩ := getF X0 hx hZ hown (host := "") (Or.inl (ww64 hw)) Via.refl e0 F4 (g := (mkF m 8 #[vR a1, vR a2, vI 2, vI 0] [(.ref a1)])) rfl rfl (hb hby d15_8)
  obtain ⟨T7, X7, e7, st7⟩ := getF X5 hx hZ hown (host := "") (Or.inl (ww113 hw)) Via.refl e5 F6 (g := (mkF m 13 #[vR a1, vR a2, vI 2, vI 0] [(.ref a1), (.ref a1), (.ref a3)])) rfl rfl (hb hby d15_13)
  obtain ⟨T17, h17, X17, e17, W17, st17⟩ := putF X7 hx hZ hown (host := "") (Or.inl (ww113 hw)) Via.refl e7 F6 E_8 (Or.inl (ww114 hw)) (ww31 hw) (ty := .int) (by decide) rfl rfl (g := (mkF m 19 #[vR a1, vR a2, vI 2, vI 0] [(.int 1), (.ref a1), (.int 0), (.ref a3)])) rfl rfl (hb hby d15_19)
  have O17 : Old Z n0 h17 := O0.wr W17 g_a1
  have Fw17 : Fld Z h17 a1 C_3 "discardSize" "I" (.int 1) := Fld.same W17 F6
  have N17 := Fr.snoc X17 N0 g_a1
  obtain ⟨_, T21, L21, X21, hQ21, st21⟩ := own_cU X17 hx hZ hown (ww177 hw) (ww178 hw) (ww179 hw) (ww181 hw) (ww180 hw) (ww182 hw) (ww183 hw) (Exa.ext O17.2 E_18) (rm24_31 l Z a0 hw a2 p19 h17 n0 O17 F20) e17 pd_3 hml (hb hby d15_23) (Ls := #[vR a1, vR a2, vI 2, vI 0]) (W := 2) (argsL := []) (rest := [(.int 0), (.ref a3)])
  obtain ⟨rfl, u23, u24⟩ := hQ21
  have N21 := Fr.app N17 u23
  have f28 : Arv Z h17 a3 k25 .int (3 : Int32) [] (.int (0 : Int32)) := (V26.other W17 hne27)
  have Vp29 : Arv Z h17 a3 k25 .int (3 : Int32) [(.int 0)] (.int (0 : Int32)) := f28.pad (pad_rep [] (.int (0 : Int32)) 1)
  obtain ⟨cl30, Ar30, qk30, Sz30, Nn30, Hh30, Gg30⟩ := id Vp29
  have hin30 : ¬ ((0 : Int32) < 0 ∨ cl30.slots.size ≤ ((0 : Int32)).toNatClampNeg) := inb_of Sz30 ⟨by decide +kernel, by decide +kernel⟩
  obtain ⟨T31, h31, X31, e31, W31, st31⟩ := stI X21 hx hZ u24 Ar30 (j := (0 : Int32)) hin30 (g := (mkF m 26 #[vR a1, vR a2, vI 2, vI 0] [(.int p19), (.int 0), (.ref a3)])) rfl rfl (hb hby d15_26)
  have O31 : Old Z n0 h31 := O17.wr W31 g_a3
  have V31 : Arv Z h31 a3 k25 .int (3 : Int32) [(.int p19)] (.int (0 : Int32)) := Arv.set Ar30 qk30 Sz30 Nn30 Hh30 Gg30 rfl W31 0 rfl (Nat.le_of_ble_eq_true rfl)
  have N31 := Fr.snoc X31 N21 g_a3
  have f33 : Fld Z h31 a1 C_3 "discard" "[I" (.ref a3) := (Fld.other W31 (Fld.other W17 F4 (Or.inr (own_sl45 hw))) (Or.inl (Ne.symm hne27)))
  obtain ⟨T34, X34, e34, st34⟩ := getF X31 hx hZ hown (host := "") (Or.inl (ww64 hw)) Via.refl e31 f33 (g := (mkF m 8 #[vR a1, vR a2, vI 2, vI 1] [(.ref a1)])) rfl rfl (hb hby d15_8)
  have f35 : Fld Z h31 a1 C_3 "discardSize" "I" (.int 1) := (Fld.other W31 Fw17 (Or.inl (Ne.symm hne27)))
  obtain ⟨T36, X36, e36, st36⟩ := getF X34 hx hZ hown (host := "") (Or.inl (ww113 hw)) Via.refl e34 f35 (g := (mkF m 13 #[vR a1, vR a2, vI 2, vI 1] [(.ref a1), (.ref a1), (.ref a3)])) rfl rfl (hb hby d15_13)
  have f37 : Exa Z h31 a1 C_3 := (Exa.wr W31 (Exa.wr W17 E_8))
  obtain ⟨T38, h38, X38, e38, W38, st38⟩ := putF X36 hx hZ hown (host := "") (Or.inl (ww113 hw)) Via.refl e36 f35 f37 (Or.inl (ww114 hw)) (ww31 hw) (ty := .int) (by decide) rfl rfl (g := (mkF m 19 #[vR a1, vR a2, vI 2, vI 1] [(.int 2), (.ref a1), (.int 1), (.ref a3)])) rfl rfl (hb hby d15_19)
  have O38 : Old Z n0 h38 := O31.wr W38 g_a1
  have Fw38 : Fld Z h38 a1 C_3 "discardSize" "I" (.int 2) := Fld.same W38 f35
  have N38 := Fr.snoc X38 N31 g_a1
  obtain ⟨_, T39, L39, X39, hQ39, st39⟩ := own_cU X38 hx hZ hown (ww177 hw) (ww178 hw) (ww179 hw) (ww181 hw) (ww180 hw) (ww182 hw) (ww183 hw) (Exa.ext O38.2 E_18) (rm24_31 l Z a0 hw a2 p19 h38 n0 O38 F20) e38 pd_3 hml (hb hby d15_23) (Ls := #[vR a1, vR a2, vI 2, vI 1]) (W := 2) (argsL := []) (rest := [(.int 1), (.ref a3)])
  obtain ⟨rfl, u41, u42⟩ := hQ39
  have N39 := Fr.app N38 u41
  have f43 : Arv Z h38 a3 k25 .int (3 : Int32) [(.int p19)] (.int (0 : Int32)) := (V31.other W38 hne27)
  have Vp44 : Arv Z h38 a3 k25 .int (3 : Int32) [(.int p19), (.int 0)] (.int (0 : Int32)) := f43.pad (pad_rep [(.int p19)] (.int (0 : Int32)) 1)
  obtain ⟨cl45, Ar45, qk45, Sz45, Nn45, Hh45, Gg45⟩ := id Vp44
  have hin45 : ¬ ((1 : Int32) < 0 ∨ cl45.slots.size ≤ ((1 : Int32)).toNatClampNeg) := inb_of Sz45 ⟨by decide +kernel, by decide +kernel⟩
  obtain ⟨T46, h46, X46, e46, W46, st46⟩ := stI X39 hx hZ u42 Ar45 (j := (1 : Int32)) hin45 (g := (mkF m 26 #[vR a1, vR a2, vI 2, vI 1] [(.int p19), (.int 1), (.ref a3)])) rfl rfl (hb hby d15_26)
  have O46 : Old Z n0 h46 := O38.wr W46 g_a3
  have V46 : Arv Z h46 a3 k25 .int (3 : Int32) [(.int p19), (.int p19)] (.int (0 : Int32)) := Arv.set Ar45 qk45 Sz45 Nn45 Hh45 Gg45 rfl W46 1 rfl (Nat.le_of_ble_eq_true rfl)
  have N46 := Fr.snoc X46 N39 g_a3
  have f47 : Exa Z h46 a1 C_3 := (Exa.wr W46 (Exa.wr W38 f37))
  have f48 : Fld Z h46 a1 C_3 "deck" "[I" (.ref a9) := (Fld.other W46 (Fld.other W38 (Fld.other W31 (Fld.other W17 F10 (Or.inr (own_sl43 hw))) (Or.inl (Ne.symm hne27))) (Or.inr (own_sl43 hw))) (Or.inl (Ne.symm hne27)))
  have f49 : Fld Z h46 a1 C_3 "deckSize" "I" (.int p11) := (Fld.other W46 (Fld.other W38 (Fld.other W31 (Fld.other W17 F12 (Or.inr (own_sl44 hw))) (Or.inl (Ne.symm hne27))) (Or.inr (own_sl44 hw))) (Or.inl (Ne.symm hne27)))
  have f50 : Fld Z h46 a1 C_3 "discard" "[I" (.ref a3) := (Fld.other W46 (Fld.other W38 f33 (Or.inr (own_sl45 hw))) (Or.inl (Ne.symm hne27)))
  have f51 : Fld Z h46 a1 C_3 "discardSize" "I" (.int 2) := (Fld.other W46 Fw38 (Or.inl (Ne.symm hne27)))
  have f52 : Fld Z h46 a1 C_3 "generator" C_4 (.ref a13) := (Fld.other W46 (Fld.other W38 (Fld.other W31 (Fld.other W17 F14 (Or.inr (own_sl46 hw))) (Or.inl (Ne.symm hne27))) (Or.inr (own_sl46 hw))) (Or.inl (Ne.symm hne27)))
  have f53 : Fld Z h46 a1 C_3 "market" "[I" (.ref a15) := (Fld.other W46 (Fld.other W38 (Fld.other W31 (Fld.other W17 F16 (Or.inr (own_sl47 hw))) (Or.inl (Ne.symm hne27))) (Or.inr (own_sl47 hw))) (Or.inl (Ne.symm hne27)))
  have f54 : Exa Z h46 a3 "[I" := (Exa.wr W46 (Exa.wr W38 (Exa.wr W31 (Exa.wr W17 E_32))))
  refine fin none _ _ _ _ X46 (fun _ => rfl) (fun fs hr => pre0 _ ?_) (own_atH e46 ?_) (by decide) (by decide)
  · refine o_iconst X0 hx hby d15_0 (x := 0) rfl (o_istoreN X0 hx hby d15_1 (Ls' := #[vR a1, vR a2, vI 2, vI 0]) rfl (o_iloadN X0 hx hby d15_2 rfl (o_iloadN X0 hx hby d15_3 rfl (o_icmpN X0 hx hby d15_4 (by decide +kernel) (o_aloadN X0 hx hby d15_7 rfl rfl (st5 _ (o_aloadN X5 hx hby d15_11 rfl rfl (o_dup X5 hx hby d15_12 rfl (st7 _ (o_dupX1 X7 hx hby d15_16 rfl rfl (o_iconst X7 hx hby d15_17 (x := 1) rfl (o_iadd X7 hx hby d15_18 (z := (1 : Int32)) (by decide +kernel) (st17 _ (o_aloadN X17 hx hby d15_22 rfl rfl (st21 _ (st31 _ (o_iinc X31 hx hby d15_27 rfl (z := (1 : Int32)) (k' := 1) rfl (by decide +kernel) (Ls' := #[vR a1, vR a2, vI 2, vI 1]) rfl (o_goto X31 hx hby d15_30 (pc := 30) (pc' := 2) (by decide) (by decide) (o_iloadN X31 hx hby d15_2 rfl (o_iloadN X31 hx hby d15_3 rfl (o_icmpN X31 hx hby d15_4 (by decide +kernel) (o_aloadN X31 hx hby d15_7 rfl rfl (st34 _ (o_aloadN X34 hx hby d15_11 rfl rfl (o_dup X34 hx hby d15_12 rfl (st36 _ (o_dupX1 X36 hx hby d15_16 rfl rfl (o_iconst X36 hx hby d15_17 (x := 1) rfl (o_iadd X36 hx hby d15_18 (z := (2 : Int32)) (by decide +kernel) (st38 _ (o_aloadN X38 hx hby d15_22 rfl rfl (st39 _ (st46 _ (o_iinc X46 hx hby d15_27 rfl (z := (2 : Int32)) (k' := 1) rfl (by decide +kernel) (Ls' := #[vR a1, vR a2, vI 2, vI 2]) rfl (o_goto X46 hx hby d15_30 (pc := 30) (pc' := 2) (by decide) (by decide) (o_iloadN X46 hx hby d15_2 rfl (o_iloadN X46 hx hby d15_3 rfl (o_icmpY X46 hx hby d15_4 (pc := 4) (pc' := 33) (by decide +kernel) (by decide) (by decide) ?_))))))))))))))))))))))))))))))))))))))
    exact X46.returnOut hx hret (hb hby d15_33) hr
  · exact ⟨rfl, N46, (((((Keep.refl h0 [a1, a3]).wr W17 (Or.inl (List.mem_of_getElem? (i := 0) rfl))).wr W31 (Or.inl (List.mem_of_getElem? (i := 1) rfl))).wr W38 (Or.inl (List.mem_of_getElem? (i := 0) rfl))).wr W46 (Or.inl (List.mem_of_getElem? (i := 1) rfl))), f47, f48, f49, f50, f51, f52, f53, f54, V46⟩
def Q16_87 (Z : State) (a1 : Addr) (h0 : Heap) (n0 : Nat) (v : Option Value) (h : Heap) (L : List Loc) : Prop := (v = some (.int 1) ∧ Fr n0 L ∧ h = h0)
theorem rm16_87 (l : Launch) (Z : State) (a0 : Array Value) (hw : own_HW Z a0) (a1 : Addr) (h0 : Heap) (n0 : Nat) (O0 : Old Z n0 h0) (F2 : Fld Z h0 a1 C_3 "deckSize" "I" (.int 1)) (F4 : Fld Z h0 a1 C_3 "discardSize" "I" (.int 2)) : own_Met l Z M_17 bc16 1 (some .boolean) ({ frames := 0, cells := 0, slots := 0, locals := 0 } : Room) #[(.ref a1)] h0 (Q16_87 Z a1 h0 n0) := by
  refine own_body (L0 := #[vR a1]) (plainFor_of_name pn_6) (fun m => by first | (simp [entryFrame, mkF, argsToLocals, Value.category]; done) | rfl) fun p e s m below meth c s₁ EN hx hby hml hown hnm hret X0 hZ e0 hh pre0 fin => ?_
  have N0 := Fr.nil n0
  obtain ⟨T3, X3, e3, st3⟩ := getF X0 hx hZ hown (host := "") (Or.inl (ww111 hw)) Via.refl e0 F2 (g := (mkF m 1 #[vR a1] [(.ref a1)])) rfl rfl (hb hby d16_1)
  obtain ⟨T5, X5, e5, st5⟩ := getF X3 hx hZ hown (host := "") (Or.inl (ww113 hw)) Via.refl e3 F4 (g := (mkF m 5 #[vR a1] [(.ref a1), (.int 1)])) rfl rfl (hb hby d16_5)
  refine fin (some (.int 1)) _ _ _ _ X5 nofun (fun fs hr => pre0 _ ?_) (own_atH e5 ?_) (by decide) (by decide)
  · refine o_aloadN X0 hx hby d16_0 rfl rfl (st3 _ (o_aloadN X3 hx hby d16_4 rfl rfl (st5 _ (o_iadd X5 hx hby d16_8 (z := (3 : Int32)) (by decide +kernel) (o_ifN X5 hx hby d16_9 (by decide +kernel) (o_iconst X5 hx hby d16_12 (x := 1) rfl (o_goto X5 hx hby d16_13 (pc := 13) (pc' := 17) (by decide) (by decide) ?_)))))))
    exact retN X5 hx (t := .boolean) hret (by simp) (hb hby d16_17) hr
  · exact ⟨rfl, N0, rfl⟩
def Q13_88 (Z : State) (a1 : Addr) (a6 : Addr) (a9 : Addr) (p13 : Int32) (k14 : ClassId) (p16 : Int32) (p17 : Int32) (p18 : Int32) (k19 : ClassId) (a27 : Addr) (a29 : Addr) (h0 : Heap) (n0 : Nat) (v : Option Value) (h : Heap) (L : List Loc) : Prop := (v = some (.int p13) ∧ Fr n0 L ∧ Keep h0 h [a9, a1] ∧ Exa Z h a9 "[I" ∧ Arv Z h a9 k19 .int (3 : Int32) [(.int p13), (.int p17), (.int p18)] (.int (0 : Int32)) ∧ Exa Z h a1 C_3 ∧ Fld Z h a1 C_3 "deck" "[I" (.ref a9) ∧ Fld Z h a1 C_3 "deckSize" "I" (.int 0) ∧ Fld Z h a1 C_3 "discard" "[I" (.ref a6) ∧ Fld Z h a1 C_3 "discardSize" "I" (.int 0) ∧ Fld Z h a1 C_3 "generator" C_4 (.ref a27) ∧ Fld Z h a1 C_3 "market" "[I" (.ref a29))
theorem rm13_88 (l : Launch) (Z : State) (a0 : Array Value) (hw : own_HW Z a0) (a1 : Addr) (a6 : Addr) (a9 : Addr) (p13 : Int32) (k14 : ClassId) (p16 : Int32) (p17 : Int32) (p18 : Int32) (k19 : ClassId) (a27 : Addr) (a29 : Addr) (h0 : Heap) (n0 : Nat) (O0 : Old Z n0 h0) (F2 : Fld Z h0 a1 C_3 "deckSize" "I" (.int 0)) (F4 : Fld Z h0 a1 C_3 "discardSize" "I" (.int 1)) (F7 : Fld Z h0 a1 C_3 "discard" "[I" (.ref a6)) (F10 : Fld Z h0 a1 C_3 "deck" "[I" (.ref a9)) (V15 : Arv Z h0 a6 k14 .int (3 : Int32) [(.int p13)] (.int (0 : Int32))) (V20 : Arv Z h0 a9 k19 .int (3 : Int32) [(.int p16), (.int p17), (.int p18)] (.int (0 : Int32))) (E_21 : Exa Z h0 a9 "[I") (g_a9 : n0 ≤ a9) (hne23 : a1 ≠ a9) (E_26 : Exa Z h0 a1 C_3) (F28 : Fld Z h0 a1 C_3 "generator" C_4 (.ref a27)) (F30 : Fld Z h0 a1 C_3 "market" "[I" (.ref a29)) (g_a1 : n0 ≤ a1) (E_43 : Exa Z h0 a27 C_5) : own_Met l Z M_14 bc13 1 (some .int) ({ frames := 1, cells := 0, slots := 0, locals := 18 } : Room) #[(.ref a1)] h0 (Q13_88 Z a1 a6 a9 p13 k14 p16 p17 p18 k19 a27 a29 h0 n0) := by
  refine own_body (L0 := #[vR a1]) (plainFor_of_name pn_6) (fun m => by first | (simp [entryFrame, mkF, argsToLocals, Value.category]; done) | rfl) fun p e s m below meth c s₁ EN hx hby hml hown hnm hret X0 hZ e0 hh pre0 fin => ?_
  have N0 := Fr.nil n0
  obtain ⟨T3, X3, e3, st3⟩ := getF X0 hx hZ hown (host := "") (Or.inl (ww111 hw)) Via.refl e0 F2 (g := (mkF m 1 #[vR a1] [(.ref a1)])) rfl rfl (hb hby d13_1)
  obtain ⟨T5, X5, e5, st5⟩ := getF X3 hx hZ hown (host := "") (Or.inl (ww113 hw)) Via.refl e3 F4 (g := (mkF m 8 #[vR a1] [(.ref a1)])) rfl rfl (hb hby d13_8)
  obtain ⟨T8, X8, e8, st8⟩ := getF X5 hx hZ hown (host := "") (Or.inl (ww64 hw)) Via.refl e5 F7 (g := (mkF m 17 #[vR a1] [(.ref a1)])) rfl rfl (hb hby d13_17)
  obtain ⟨T11, X11, e11, st11⟩ := getF X8 hx hZ hown (host := "") (Or.inl (ww62 hw)) Via.refl e8 F10 (g := (mkF m 22 #[vR a1] [(.ref a1), (.int 0), (.ref a6)])) rfl rfl (hb hby d13_22)
  obtain ⟨T12, X12, e12, st12⟩ := getF X11 hx hZ hown (host := "") (Or.inl (ww113 hw)) Via.refl e11 F4 (g := (mkF m 27 #[vR a1] [(.ref a1), (.int 0), (.ref a9), (.int 0), (.ref a6)])) rfl rfl (hb hby d13_27)
  obtain ⟨T22, h22, L22, X22, e22, N22, Ku22, V22, st22⟩ := cpA X12 hx hZ hown (ww186 hw) (ww189 hw) (ww187 hw) (ww188 hw) e12 (sp := (0 : Int32)) (dp := (0 : Int32)) (nn := (1 : Int32)) (us := [(.int p13)]) V15 V20 (Or.inl ⟨rfl, rfl⟩) (by decide +kernel) (by decide +kernel) (by decide +kernel) (by decide +kernel) (by decide +kernel) rfl (Nat.le_of_ble_eq_true rfl) N0 g_a9 (g := (mkF m 30 #[vR a1] [(.int 1), (.int 0), (.ref a9), (.int 0), (.ref a6)])) rfl (by rw [hml]; rfl) rfl (hb hby d13_30) (by decide) (W := 0) (by show 2 * 0 + _ ≤ _; exact Nat.le_of_eq rfl) (by decide +kernel)
  have Ou22 : Old Z n0 h22 := O0.keep Ku22 (allS g_a9 all0)
  have Vc22 : Arv Z h22 a9 k19 .int (3 : Int32) [(.int p13), (.int p17), (.int p18)] (.int (0 : Int32)) := V22
  have f24 : Fld Z h22 a1 C_3 "discardSize" "I" (.int 1) := (F4.keep Ku22 (ninS hne23 nin0))
  obtain ⟨T25, X25, e25, st25⟩ := getF X22 hx hZ hown (host := "") (Or.inl (ww113 hw)) Via.refl e22 f24 (g := (mkF m 35 #[vR a1] [(.ref a1), (.ref a1)])) rfl rfl (hb hby d13_35)
  have f31 : Fld Z h22 a1 C_3 "deckSize" "I" (.int 0) := (F2.keep Ku22 (ninS hne23 nin0))
  have f32 : Exa Z h22 a1 C_3 := (E_26.keep Ku22)
  obtain ⟨T33, h33, X33, e33, W33, st33⟩ := putF X25 hx hZ hown (host := "") (Or.inl (ww111 hw)) Via.refl e25 f31 f32 (Or.inl (ww112 hw)) (ww31 hw) (ty := .int) (by decide) rfl rfl (g := (mkF m 38 #[vR a1] [(.int 1), (.ref a1)])) rfl rfl (hb hby d13_38)
  have O33 : Old Z n0 h33 := Ou22.wr W33 g_a1
  have Fw33 : Fld Z h33 a1 C_3 "deckSize" "I" (.int 1) := Fld.same W33 f31
  have N33 := Fr.snoc X33 N22 g_a1
  have f34 : Fld Z h33 a1 C_3 "discardSize" "I" (.int 1) := (Fld.other W33 f24 (Or.inr (own_sl41 hw)))
  have f35 : Exa Z h33 a1 C_3 := (Exa.wr W33 f32)
  obtain ⟨T36, h36, X36, e36, W36, st36⟩ := putF X33 hx hZ hown (host := "") (Or.inl (ww113 hw)) Via.refl e33 f34 f35 (Or.inl (ww114 hw)) (ww31 hw) (ty := .int) (by decide) rfl rfl (g := (mkF m 43 #[vR a1] [(.int 0), (.ref a1)])) rfl rfl (hb hby d13_43)
  have O36 : Old Z n0 h36 := O33.wr W36 g_a1
  have Fw36 : Fld Z h36 a1 C_3 "discardSize" "I" (.int 0) := Fld.same W36 f34
  have N36 := Fr.snoc X36 N33 g_a1
  have f37 : Fld Z h36 a1 C_3 "generator" C_4 (.ref a27) := (Fld.other W36 (Fld.other W33 (F28.keep Ku22 (ninS hne23 nin0)) (Or.inr (own_sl42 hw))) (Or.inr (own_sl46 hw)))
  obtain ⟨T38, X38, e38, st38⟩ := getF X36 hx hZ hown (host := "") (Or.inl (ww49 hw)) Via.refl e36 f37 (g := (mkF m 47 #[vR a1] [(.ref a1)])) rfl rfl (hb hby d13_47)
  have f39 : Fld Z h36 a1 C_3 "deck" "[I" (.ref a9) := (Fld.other W36 (Fld.other W33 (F10.keep Ku22 (ninS hne23 nin0)) (Or.inr (own_sl39 hw))) (Or.inr (own_sl43 hw)))
  obtain ⟨T40, X40, e40, st40⟩ := getF X38 hx hZ hown (host := "") (Or.inl (ww62 hw)) Via.refl e38 f39 (g := (mkF m 51 #[vR a1] [(.ref a1), (.ref a27)])) rfl rfl (hb hby d13_51)
  have f41 : Fld Z h36 a1 C_3 "deckSize" "I" (.int 1) := (Fld.other W36 Fw33 (Or.inr (own_sl44 hw)))
  obtain ⟨T42, X42, e42, st42⟩ := getF X40 hx hZ hown (host := "") (Or.inl (ww111 hw)) Via.refl e40 f41 (g := (mkF m 55 #[vR a1] [(.ref a1), (.ref a9), (.ref a27)])) rfl rfl (hb hby d13_55)
  have f45 : Exa Z h36 a27 C_5 := (Exa.wr W36 (Exa.wr W33 (E_43.keep Ku22)))
  obtain ⟨_, T44, L44, X44, hQ44, st44⟩ := own_cV X42 hx hZ hown (ww190 hw) (ww191 hw) (notFace_of_selects (args := #[]) (mvT hZ (ww193 hw))) (ww193 hw) (ww192 hw) (ww35 hw) (ww194 hw) f45 (rm25_38 l Z a0 hw a27 a9 h36 n0 O36) e42 pd_7 hml (hb hby d13_58) (Ls := #[vR a1]) (W := 0) (argsL := [(.ref a9), (.int 1)]) (rest := [])
  obtain ⟨rfl, u47, u48⟩ := hQ44
  have N44 := Fr.app N36 u47
  obtain ⟨T49, X49, e49, st49⟩ := getF X44 hx hZ hown (host := "") (Or.inl (ww62 hw)) Via.refl u48 f39 (g := (mkF m 62 #[vR a1] [(.ref a1)])) rfl rfl (hb hby d13_62)
  obtain ⟨T50, X50, e50, st50⟩ := getF X49 hx hZ hown (host := "") (Or.inl (ww111 hw)) Via.refl e49 f41 (g := (mkF m 67 #[vR a1] [(.ref a1), (.ref a1), (.ref a9)])) rfl rfl (hb hby d13_67)
  have f51 : Exa Z h36 a1 C_3 := (Exa.wr W36 f35)
  obtain ⟨T52, h52, X52, e52, W52, st52⟩ := putF X50 hx hZ hown (host := "") (Or.inl (ww111 hw)) Via.refl e50 f41 f51 (Or.inl (ww112 hw)) (ww31 hw) (ty := .int) (by decide) rfl rfl (g := (mkF m 73 #[vR a1] [(.int 0), (.ref a1), (.int 0), (.ref a9)])) rfl rfl (hb hby d13_73)
  have O52 : Old Z n0 h52 := O36.wr W52 g_a1
  have Fw52 : Fld Z h52 a1 C_3 "deckSize" "I" (.int 0) := Fld.same W52 f41
  have N52 := Fr.snoc X52 N44 g_a1
  have f53 : Arv Z h52 a9 k19 .int (3 : Int32) [(.int p13), (.int p17), (.int p18)] (.int (0 : Int32)) := (((Vc22.other W33 (Ne.symm hne23)).other W36 (Ne.symm hne23)).other W52 (Ne.symm hne23))
  obtain ⟨cl54, Ar54, -, Sz54, -, Hh54, -⟩ := id f53
  have hin54 : ¬ ((0 : Int32) < 0 ∨ cl54.slots.size ≤ ((0 : Int32)).toNatClampNeg) := inb_of Sz54 ⟨by decide +kernel, by decide +kernel⟩
  have hat54 : cl54.slots[((0 : Int32)).toNatClampNeg]? = some (.int p13) := Has.at Hh54 hin54 rfl
  have f55 : Exa Z h52 a9 "[I" := (Exa.wr W52 (Exa.wr W36 (Exa.wr W33 (E_21.keep Ku22))))
  have f56 : Exa Z h52 a1 C_3 := (Exa.wr W52 f51)
  have f57 : Fld Z h52 a1 C_3 "deck" "[I" (.ref a9) := (Fld.other W52 f39 (Or.inr (own_sl39 hw)))
  have f58 : Fld Z h52 a1 C_3 "discard" "[I" (.ref a6) := (Fld.other W52 (Fld.other W36 (Fld.other W33 (F7.keep Ku22 (ninS hne23 nin0)) (Or.inr (own_sl40 hw))) (Or.inr (own_sl45 hw))) (Or.inr (own_sl40 hw)))
  have f59 : Fld Z h52 a1 C_3 "discardSize" "I" (.int 0) := (Fld.other W52 Fw36 (Or.inr (own_sl41 hw)))
  have f60 : Fld Z h52 a1 C_3 "generator" C_4 (.ref a27) := (Fld.other W52 f37 (Or.inr (own_sl42 hw)))
  have f61 : Fld Z h52 a1 C_3 "market" "[I" (.ref a29) := (Fld.other W52 (Fld.other W36 (Fld.other W33 (F30.keep Ku22 (ninS hne23 nin0)) (Or.inr (own_sl38 hw))) (Or.inr (own_sl47 hw))) (Or.inr (own_sl38 hw)))
  refine fin (some (.int p13)) _ _ _ _ X52 nofun (fun fs hr => pre0 _ ?_) (own_atH e52 ?_) (by decide) (by decide)
  · refine o_aloadN X0 hx hby d13_0 rfl rfl (st3 _ (o_ifN X3 hx hby d13_4 (by decide +kernel) (o_aloadN X3 hx hby d13_7 rfl rfl (st5 _ (o_ifY X5 hx hby d13_11 (pc := 11) (pc' := 16) (by decide +kernel) (by decide) (by decide) (o_aloadN X5 hx hby d13_16 rfl rfl (st8 _ (o_iconst X8 hx hby d13_20 (x := 0) rfl (o_aloadN X8 hx hby d13_21 rfl rfl (st11 _ (o_iconst X11 hx hby d13_25 (x := 0) rfl (o_aloadN X11 hx hby d13_26 rfl rfl (st12 _ (st22 _ (o_aloadN X22 hx hby d13_33 rfl rfl (o_aloadN X22 hx hby d13_34 rfl rfl (st25 _ (st33 _ (o_aloadN X33 hx hby d13_41 rfl rfl (o_iconst X33 hx hby d13_42 (x := 0) rfl (st36 _ (o_aloadN X36 hx hby d13_46 rfl rfl (st38 _ (o_aloadN X38 hx hby d13_50 rfl rfl (st40 _ (o_aloadN X40 hx hby d13_54 rfl rfl (st42 _ (st44 _ (o_aloadN X44 hx hby d13_61 rfl rfl (st49 _ (o_aloadN X49 hx hby d13_65 rfl rfl (o_dup X49 hx hby d13_66 rfl (st50 _ (o_iconst X50 hx hby d13_70 (x := 1) rfl (o_isub X50 hx hby d13_71 (z := (0 : Int32)) (by decide +kernel) (o_dupX1 X50 hx hby d13_72 rfl rfl (st52 _ (X52.iaload hx (j := (0 : Int32)) (v := (.int p13)) (by rw [e52]; exact Ar54.1) (State.isArrayOf_alike hZ.alike Ar54.2.1) Ar54.2.2 hin54 hat54 (g := (mkF m 76 #[vR a1] [(.int 0), (.ref a9)])) rfl rfl (hb hby d13_76) _ ?_))))))))))))))))))))))))))))))))))))))
    exact retI X52 hx hret (hb hby d13_77) hr
  · exact ⟨rfl, N52, (((((Keep.refl h0 [a9, a1]).trans Ku22 (allS (Or.inl (List.mem_of_getElem? (i := 0) rfl)) all0)).wr W33 (Or.inl (List.mem_of_getElem? (i := 1) rfl))).wr W36 (Or.inl (List.mem_of_getElem? (i := 1) rfl))).wr W52 (Or.inl (List.mem_of_getElem? (i := 1) rfl))), f55, f53, f56, f57, Fw52, f58, f59, f60, f61⟩
def Q25_90 (Z : State) (a1 : Addr) (a2 : Addr) (q4 : Int64) (p18 : Int32) (p19 : Int32) (k20 : ClassId) (h0 : Heap) (n0 : Nat) (v : Option Value) (h : Heap) (L : List Loc) : Prop := (∃ (j8 : Int64), v = none ∧ Fr n0 L ∧ Keep h0 h [a1, a2] ∧ Exa Z h a1 C_5 ∧ Fld Z h a1 C_5 "state" "J" (.long j8) ∧ Exa Z h a2 "[I" ∧ Arv Z h a2 k20 .int (3 : Int32) [(.int p18), (.int p18), (.int p19)] (.int (0 : Int32)))
theorem rm25_90 (l : Launch) (Z : State) (a0 : Array Value) (hw : own_HW Z a0) (a1 : Addr) (a2 : Addr) (q4 : Int64) (p18 : Int32) (p19 : Int32) (k20 : ClassId) (h0 : Heap) (n0 : Nat) (O0 : Old Z n0 h0) (E_3 : Exa Z h0 a1 C_5) (F5 : Fld Z h0 a1 C_5 "state" "J" (.long q4)) (g_a1 : n0 ≤ a1) (V21 : Arv Z h0 a2 k20 .int (3 : Int32) [(.int p18), (.int p18), (.int p19)] (.int (0 : Int32))) (hne22 : a2 ≠ a1) (g_a2 : n0 ≤ a2) (E_28 : Exa Z h0 a2 "[I") : own_Met l Z M_28 bc25 6 none ({ frames := 3, cells := 0, slots := 0, locals := 42 } : Room) #[(.ref a1), (.ref a2), (.int 2)] h0 (Q25_90 Z a1 a2 q4 p18 p19 k20 h0 n0) := by
  refine own_body (L0 := #[vR a1, vR a2, vI 2, .unset, .unset, .unset]) (plainFor_of_name pn_3) (fun m => by first | (simp [entryFrame, mkF, argsToLocals, Value.category]; done) | rfl) fun p e s m below meth c s₁ EN hx hby hml hown hnm hret X0 hZ e0 hh pre0 fin => ?_
  have N0 := Fr.nil n0
  obtain ⟨_, T6, L6, X6, hQ6, st6⟩ := own_cV X0 hx hZ hown (ww195 hw) (ww196 hw) (notFace_of_selects (args := #[]) (mvT hZ (ww198 hw))) (ww198 hw) (ww197 hw) (ww35 hw) (ww199 hw) E_3 (rm26_62 l Z a0 hw a1 q4 h0 n0 O0 E_3 F5 g_a1) e0 pd_18 hml (hb hby d25_12) (Ls := #[vR a1, vR a2, vI 2, vI 1, .unset, .unset]) (W := 0) (argsL := [(.int 2)]) (rest := [])
  obtain ⟨i7, j8, u9, u10, rfl, u12, Ku13, u14, u15⟩ := hQ6
  have Ou13 : Old Z n0 T6.heap := O0.keep Ku13 (allS g_a1 all0)
  have N6 := Fr.app N0 u12
  have pre16 : ∀ t, Steps p.tables e below (T6.setTop (mkF m 15 #[vR a1, vR a2, vI 2, vI 1, .unset, .unset] [(.int i7)])) t → Steps p.tables e below EN t := by
    intro t kt
    refine pre0 t ?_
    refine o_iloadN X0 hx hby d25_0 rfl (o_iconst X0 hx hby d25_1 (x := 1) rfl (o_isub X0 hx hby d25_2 (z := (1 : Int32)) (by decide +kernel) (o_istoreN X0 hx hby d25_3 (Ls' := #[vR a1, vR a2, vI 2, vI 1, .unset, .unset]) rfl (o_iloadN X0 hx hby d25_4 rfl (o_ifN X0 hx hby d25_5 (by decide +kernel) (o_aloadN X0 hx hby d25_8 rfl rfl (o_iloadN X0 hx hby d25_9 rfl (o_iconst X0 hx hby d25_10 (x := 1) rfl (o_iadd X0 hx hby d25_11 (z := (2 : Int32)) (by decide +kernel) (st6 _ ?_))))))))))
    exact kt
  rcases (own_j2 u9 u10) with hq17 | hq17
  · skip
    subst hq17
    have f23 : Arv Z T6.heap a2 k20 .int (3 : Int32) [(.int p18), (.int p18), (.int p19)] (.int (0 : Int32)) := (V21.keep Ku13 (ninS hne22 nin0))
    obtain ⟨cl24, Ar24, -, Sz24, -, Hh24, -⟩ := id f23
    have hin24 : ¬ ((1 : Int32) < 0 ∨ cl24.slots.size ≤ ((1 : Int32)).toNatClampNeg) := inb_of Sz24 ⟨by decide +kernel, by decide +kernel⟩
    have hat24 : cl24.slots[((1 : Int32)).toNatClampNeg]? = some (.int p18) := Has.at Hh24 hin24 rfl
    obtain ⟨cl25, Ar25, -, Sz25, -, Hh25, -⟩ := id f23
    have hin25 : ¬ ((0 : Int32) < 0 ∨ cl25.slots.size ≤ ((0 : Int32)).toNatClampNeg) := inb_of Sz25 ⟨by decide +kernel, by decide +kernel⟩
    have hat25 : cl25.slots[((0 : Int32)).toNatClampNeg]? = some (.int p18) := Has.at Hh25 hin25 rfl
    obtain ⟨cl26, Ar26, qk26, Sz26, Nn26, Hh26, Gg26⟩ := id f23
    have hin26 : ¬ ((1 : Int32) < 0 ∨ cl26.slots.size ≤ ((1 : Int32)).toNatClampNeg) := inb_of Sz26 ⟨by decide +kernel, by decide +kernel⟩
    obtain ⟨T27, h27, X27, e27, W27, st27⟩ := stI X6 hx hZ rfl Ar26 (j := (1 : Int32)) hin26 (g := (mkF m 28 #[vR a1, vR a2, vI 2, vI 1, vI 0, vI p18] [(.int p18), (.int 1), (.ref a2)])) rfl rfl (hb hby d25_28)
    have O27 : Old Z n0 h27 := Ou13.wr W27 g_a2
    have V27 : Arv Z h27 a2 k20 .int (3 : Int32) [(.int p18), (.int p18), (.int p19)] (.int (0 : Int32)) := Arv.set Ar26 qk26 Sz26 Nn26 Hh26 Gg26 rfl W27 1 rfl (Nat.le_of_ble_eq_true rfl)
    have N27 := Fr.snoc X27 N6 g_a2
    obtain ⟨cl29, Ar29, qk29, Sz29, Nn29, Hh29, Gg29⟩ := id V27
    have hin29 : ¬ ((0 : Int32) < 0 ∨ cl29.slots.size ≤ ((0 : Int32)).toNatClampNeg) := inb_of Sz29 ⟨by decide +kernel, by decide +kernel⟩
    obtain ⟨T30, h30, X30, e30, W30, st30⟩ := stI X27 hx hZ e27 Ar29 (j := (0 : Int32)) hin29 (g := (mkF m 34 #[vR a1, vR a2, vI 2, vI 1, vI 0, vI p18] [(.int p18), (.int 0), (.ref a2)])) rfl rfl (hb hby d25_34)
    have O30 : Old Z n0 h30 := O27.wr W30 g_a2
    have V30 : Arv Z h30 a2 k20 .int (3 : Int32) [(.int p18), (.int p18), (.int p19)] (.int (0 : Int32)) := Arv.set Ar29 qk29 Sz29 Nn29 Hh29 Gg29 rfl W30 0 rfl (Nat.le_of_ble_eq_true rfl)
    have N30 := Fr.snoc X30 N27 g_a2
    have f31 : Exa Z h30 a1 C_5 := (Exa.wr W30 (Exa.wr W27 u14))
    have f32 : Fld Z h30 a1 C_5 "state" "J" (.long j8) := (Fld.other W30 (Fld.other W27 u15 (Or.inl (Ne.symm hne22))) (Or.inl (Ne.symm hne22)))
    have f33 : Exa Z h30 a2 "[I" := (Exa.wr W30 (Exa.wr W27 (E_28.keep Ku13)))
    refine fin none _ _ _ _ X30 (fun _ => rfl) (fun fs hr => pre16 _ ?_) (own_atH e30 ?_) (by decide) (by decide)
    · refine o_istore X6 hx hby d25_15 (Ls' := #[vR a1, vR a2, vI 2, vI 1, vI 0, .unset]) rfl (o_aloadN X6 hx hby d25_17 rfl rfl (o_iloadN X6 hx hby d25_18 rfl (X6.iaload hx (j := (1 : Int32)) (v := (.int p18)) Ar24.1 (State.isArrayOf_alike hZ.alike Ar24.2.1) Ar24.2.2 hin24 hat24 (g := (mkF m 19 #[vR a1, vR a2, vI 2, vI 1, vI 0, .unset] [(.int 1), (.ref a2)])) rfl rfl (hb hby d25_19) _ (o_istore X6 hx hby d25_20 (Ls' := #[vR a1, vR a2, vI 2, vI 1, vI 0, vI p18]) rfl (o_aloadN X6 hx hby d25_22 rfl rfl (o_iloadN X6 hx hby d25_23 rfl (o_aloadN X6 hx hby d25_24 rfl rfl (o_iload X6 hx hby d25_25 rfl (X6.iaload hx (j := (0 : Int32)) (v := (.int p18)) Ar25.1 (State.isArrayOf_alike hZ.alike Ar25.2.1) Ar25.2.2 hin25 hat25 (g := (mkF m 27 #[vR a1, vR a2, vI 2, vI 1, vI 0, vI p18] [(.int 0), (.ref a2), (.int 1), (.ref a2)])) rfl rfl (hb hby d25_27) _ (st27 _ (o_aloadN X27 hx hby d25_29 rfl rfl (o_iload X27 hx hby d25_30 rfl (o_iload X27 hx hby d25_32 rfl (st30 _ (o_iinc X30 hx hby d25_35 rfl (z := (0 : Int32)) (k' := -1) rfl (by decide +kernel) (Ls' := #[vR a1, vR a2, vI 2, vI 0, vI 0, vI p18]) rfl (o_goto X30 hx hby d25_38 (pc := 38) (pc' := 4) (by decide) (by decide) (o_iloadN X30 hx hby d25_4 rfl (o_ifY X30 hx hby d25_5 (pc := 5) (pc' := 41) (by decide +kernel) (by decide) (by decide) ?_))))))))))))))))))
      exact X30.returnOut hx hret (hb hby d25_41) hr
    · exact ⟨j8, rfl, N30, ((((Keep.refl h0 [a1, a2]).trans Ku13 (allS (Or.inl (List.mem_of_getElem? (i := 0) rfl)) all0)).wr W27 (Or.inl (List.mem_of_getElem? (i := 1) rfl))).wr W30 (Or.inl (List.mem_of_getElem? (i := 1) rfl))), f31, f32, f33, V30⟩
  · skip
    subst hq17
    have f34 : Arv Z T6.heap a2 k20 .int (3 : Int32) [(.int p18), (.int p18), (.int p19)] (.int (0 : Int32)) := (V21.keep Ku13 (ninS hne22 nin0))
    obtain ⟨cl35, Ar35, -, Sz35, -, Hh35, -⟩ := id f34
    have hin35 : ¬ ((1 : Int32) < 0 ∨ cl35.slots.size ≤ ((1 : Int32)).toNatClampNeg) := inb_of Sz35 ⟨by decide +kernel, by decide +kernel⟩
    have hat35 : cl35.slots[((1 : Int32)).toNatClampNeg]? = some (.int p18) := Has.at Hh35 hin35 rfl
    obtain ⟨cl36, Ar36, -, Sz36, -, Hh36, -⟩ := id f34
    have hin36 : ¬ ((1 : Int32) < 0 ∨ cl36.slots.size ≤ ((1 : Int32)).toNatClampNeg) := inb_of Sz36 ⟨by decide +kernel, by decide +kernel⟩
    have hat36 : cl36.slots[((1 : Int32)).toNatClampNeg]? = some (.int p18) := Has.at Hh36 hin36 rfl
    obtain ⟨cl37, Ar37, qk37, Sz37, Nn37, Hh37, Gg37⟩ := id f34
    have hin37 : ¬ ((1 : Int32) < 0 ∨ cl37.slots.size ≤ ((1 : Int32)).toNatClampNeg) := inb_of Sz37 ⟨by decide +kernel, by decide +kernel⟩
    obtain ⟨T38, h38, X38, e38, W38, st38⟩ := stI X6 hx hZ rfl Ar37 (j := (1 : Int32)) hin37 (g := (mkF m 28 #[vR a1, vR a2, vI 2, vI 1, vI 1, vI p18] [(.int p18), (.int 1), (.ref a2)])) rfl rfl (hb hby d25_28)
    have O38 : Old Z n0 h38 := Ou13.wr W38 g_a2
    have V38 : Arv Z h38 a2 k20 .int (3 : Int32) [(.int p18), (.int p18), (.int p19)] (.int (0 : Int32)) := Arv.set Ar37 qk37 Sz37 Nn37 Hh37 Gg37 rfl W38 1 rfl (Nat.le_of_ble_eq_true rfl)
    have N38 := Fr.snoc X38 N6 g_a2
    obtain ⟨cl39, Ar39, qk39, Sz39, Nn39, Hh39, Gg39⟩ := id V38
    have hin39 : ¬ ((1 : Int32) < 0 ∨ cl39.slots.size ≤ ((1 : Int32)).toNatClampNeg) := inb_of Sz39 ⟨by decide +kernel, by decide +kernel⟩
    obtain ⟨T40, h40, X40, e40, W40, st40⟩ := stI X38 hx hZ e38 Ar39 (j := (1 : Int32)) hin39 (g := (mkF m 34 #[vR a1, vR a2, vI 2, vI 1, vI 1, vI p18] [(.int p18), (.int 1), (.ref a2)])) rfl rfl (hb hby d25_34)
    have O40 : Old Z n0 h40 := O38.wr W40 g_a2
    have V40 : Arv Z h40 a2 k20 .int (3 : Int32) [(.int p18), (.int p18), (.int p19)] (.int (0 : Int32)) := Arv.set Ar39 qk39 Sz39 Nn39 Hh39 Gg39 rfl W40 1 rfl (Nat.le_of_ble_eq_true rfl)
    have N40 := Fr.snoc X40 N38 g_a2
    have f41 : Exa Z h40 a1 C_5 := (Exa.wr W40 (Exa.wr W38 u14))
    have f42 : Fld Z h40 a1 C_5 "state" "J" (.long j8) := (Fld.other W40 (Fld.other W38 u15 (Or.inl (Ne.symm hne22))) (Or.inl (Ne.symm hne22)))
    have f43 : Exa Z h40 a2 "[I" := (Exa.wr W40 (Exa.wr W38 (E_28.keep Ku13)))
    refine fin none _ _ _ _ X40 (fun _ => rfl) (fun fs hr => pre16 _ ?_) (own_atH e40 ?_) (by decide) (by decide)
    · refine o_istore X6 hx hby d25_15 (Ls' := #[vR a1, vR a2, vI 2, vI 1, vI 1, .unset]) rfl (o_aloadN X6 hx hby d25_17 rfl rfl (o_iloadN X6 hx hby d25_18 rfl (X6.iaload hx (j := (1 : Int32)) (v := (.int p18)) Ar35.1 (State.isArrayOf_alike hZ.alike Ar35.2.1) Ar35.2.2 hin35 hat35 (g := (mkF m 19 #[vR a1, vR a2, vI 2, vI 1, vI 1, .unset] [(.int 1), (.ref a2)])) rfl rfl (hb hby d25_19) _ (o_istore X6 hx hby d25_20 (Ls' := #[vR a1, vR a2, vI 2, vI 1, vI 1, vI p18]) rfl (o_aloadN X6 hx hby d25_22 rfl rfl (o_iloadN X6 hx hby d25_23 rfl (o_aloadN X6 hx hby d25_24 rfl rfl (o_iload X6 hx hby d25_25 rfl (X6.iaload hx (j := (1 : Int32)) (v := (.int p18)) Ar36.1 (State.isArrayOf_alike hZ.alike Ar36.2.1) Ar36.2.2 hin36 hat36 (g := (mkF m 27 #[vR a1, vR a2, vI 2, vI 1, vI 1, vI p18] [(.int 1), (.ref a2), (.int 1), (.ref a2)])) rfl rfl (hb hby d25_27) _ (st38 _ (o_aloadN X38 hx hby d25_29 rfl rfl (o_iload X38 hx hby d25_30 rfl (o_iload X38 hx hby d25_32 rfl (st40 _ (o_iinc X40 hx hby d25_35 rfl (z := (0 : Int32)) (k' := -1) rfl (by decide +kernel) (Ls' := #[vR a1, vR a2, vI 2, vI 0, vI 1, vI p18]) rfl (o_goto X40 hx hby d25_38 (pc := 38) (pc' := 4) (by decide) (by decide) (o_iloadN X40 hx hby d25_4 rfl (o_ifY X40 hx hby d25_5 (pc := 5) (pc' := 41) (by decide +kernel) (by decide) (by decide) ?_))))))))))))))))))
      exact X40.returnOut hx hret (hb hby d25_41) hr
    · exact ⟨j8, rfl, N40, ((((Keep.refl h0 [a1, a2]).trans Ku13 (allS (Or.inl (List.mem_of_getElem? (i := 0) rfl)) all0)).wr W38 (Or.inl (List.mem_of_getElem? (i := 1) rfl))).wr W40 (Or.inl (List.mem_of_getElem? (i := 1) rfl))), f41, f42, f43, V40⟩
def Q13_89 (Z : State) (a1 : Addr) (a6 : Addr) (a9 : Addr) (p13 : Int32) (k14 : ClassId) (p16 : Int32) (p17 : Int32) (p18 : Int32) (k19 : ClassId) (a27 : Addr) (a29 : Addr) (q44 : Int64) (h0 : Heap) (n0 : Nat) (v : Option Value) (h : Heap) (L : List Loc) : Prop := (∃ (j53 : Int64), v = some (.int p13) ∧ Fr n0 L ∧ Keep h0 h [a9, a1, a27] ∧ Exa Z h a9 "[I" ∧ Arv Z h a9 k19 .int (3 : Int32) [(.int p13), (.int p13), (.int p18)] (.int (0 : Int32)) ∧ Exa Z h a1 C_3 ∧ Fld Z h a1 C_3 "deck" "[I" (.ref a9) ∧ Fld Z h a1 C_3 "deckSize" "I" (.int 1) ∧ Fld Z h a1 C_3 "discard" "[I" (.ref a6) ∧ Fld Z h a1 C_3 "discardSize" "I" (.int 0) ∧ Fld Z h a1 C_3 "generator" C_4 (.ref a27) ∧ Fld Z h a1 C_3 "market" "[I" (.ref a29) ∧ Exa Z h a27 C_5 ∧ Fld Z h a27 C_5 "state" "J" (.long j53))
theorem rm13_89 (l : Launch) (Z : State) (a0 : Array Value) (hw : own_HW Z a0) (a1 : Addr) (a6 : Addr) (a9 : Addr) (p13 : Int32) (k14 : ClassId) (p16 : Int32) (p17 : Int32) (p18 : Int32) (k19 : ClassId) (a27 : Addr) (a29 : Addr) (q44 : Int64) (h0 : Heap) (n0 : Nat) (O0 : Old Z n0 h0) (F2 : Fld Z h0 a1 C_3 "deckSize" "I" (.int 0)) (F4 : Fld Z h0 a1 C_3 "discardSize" "I" (.int 2)) (F7 : Fld Z h0 a1 C_3 "discard" "[I" (.ref a6)) (F10 : Fld Z h0 a1 C_3 "deck" "[I" (.ref a9)) (V15 : Arv Z h0 a6 k14 .int (3 : Int32) [(.int p13), (.int p13)] (.int (0 : Int32))) (V20 : Arv Z h0 a9 k19 .int (3 : Int32) [(.int p16), (.int p17), (.int p18)] (.int (0 : Int32))) (E_21 : Exa Z h0 a9 "[I") (g_a9 : n0 ≤ a9) (hne23 : a1 ≠ a9) (E_26 : Exa Z h0 a1 C_3) (F28 : Fld Z h0 a1 C_3 "generator" C_4 (.ref a27)) (F30 : Fld Z h0 a1 C_3 "market" "[I" (.ref a29)) (g_a1 : n0 ≤ a1) (E_43 : Exa Z h0 a27 C_5) (F45 : Fld Z h0 a27 C_5 "state" "J" (.long q44)) (g_a27 : n0 ≤ a27) (hne46 : a9 ≠ a27) (hne48 : a27 ≠ a1) : own_Met l Z M_14 bc13 1 (some .int) ({ frames := 4, cells := 0, slots := 0, locals := 59 } : Room) #[(.ref a1)] h0 (Q13_89 Z a1 a6 a9 p13 k14 p16 p17 p18 k19 a27 a29 q44 h0 n0) := by
  refine own_body (L0 := #[vR a1]) (plainFor_of_name pn_6) (fun m => by first | (simp [entryFrame, mkF, argsToLocals, Value.category]; done) | rfl) fun p e s m below meth c s₁ EN hx hby hml hown hnm hret X0 hZ e0 hh pre0 fin => ?_
  have N0 := Fr.nil n0
  obtain ⟨T3, X3, e3, st3⟩ := getF X0 hx hZ hown (host := "") (Or.inl (ww111 hw)) Via.refl e0 F2 (g := (mkF m 1 #[vR a1] [(.ref a1)])) rfl rfl (hb hby d13_1)
  obtain ⟨T5, X5, e5, st5⟩ := getF X3 hx hZ hown (host := "") (Or.inl (ww113 hw)) Via.refl e3 F4 (g := (mkF m 8 #[vR a1] [(.ref a1)])) rfl rfl (hb hby d13_8)
  obtain ⟨T8, X8, e8, st8⟩ := getF X5 hx hZ hown (host := "") (Or.inl (ww64 hw)) Via.refl e5 F7 (g := (mkF m 17 #[vR a1] [(.ref a1)])) rfl rfl (hb hby d13_17)
  obtain ⟨T11, X11, e11, st11⟩ := getF X8 hx hZ hown (host := "") (Or.inl (ww62 hw)) Via.refl e8 F10 (g := (mkF m 22 #[vR a1] [(.ref a1), (.int 0), (.ref a6)])) rfl rfl (hb hby d13_22)
  obtain ⟨T12, X12, e12, st12⟩ := getF X11 hx hZ hown (host := "") (Or.inl (ww113 hw)) Via.refl e11 F4 (g := (mkF m 27 #[vR a1] [(.ref a1), (.int 0), (.ref a9), (.int 0), (.ref a6)])) rfl rfl (hb hby d13_27)
  obtain ⟨T22, h22, L22, X22, e22, N22, Ku22, V22, st22⟩ := cpA X12 hx hZ hown (ww186 hw) (ww189 hw) (ww187 hw) (ww188 hw) e12 (sp := (0 : Int32)) (dp := (0 : Int32)) (nn := (2 : Int32)) (us := [(.int p13), (.int p13)]) V15 V20 (Or.inl ⟨rfl, rfl⟩) (by decide +kernel) (by decide +kernel) (by decide +kernel) (by decide +kernel) (by decide +kernel) rfl (Nat.le_of_ble_eq_true rfl) N0 g_a9 (g := (mkF m 30 #[vR a1] [(.int 2), (.int 0), (.ref a9), (.int 0), (.ref a6)])) rfl (by rw [hml]; rfl) rfl (hb hby d13_30) (by decide) (W := 0) (by show 2 * 0 + _ ≤ _; exact Nat.le_of_eq rfl) (by decide +kernel)
  have Ou22 : Old Z n0 h22 := O0.keep Ku22 (allS g_a9 all0)
  have Vc22 : Arv Z h22 a9 k19 .int (3 : Int32) [(.int p13), (.int p13), (.int p18)] (.int (0 : Int32)) := V22
  have f24 : Fld Z h22 a1 C_3 "discardSize" "I" (.int 2) := (F4.keep Ku22 (ninS hne23 nin0))
  obtain ⟨T25, X25, e25, st25⟩ := getF X22 hx hZ hown (host := "") (Or.inl (ww113 hw)) Via.refl e22 f24 (g := (mkF m 35 #[vR a1] [(.ref a1), (.ref a1)])) rfl rfl (hb hby d13_35)
  have f31 : Fld Z h22 a1 C_3 "deckSize" "I" (.int 0) := (F2.keep Ku22 (ninS hne23 nin0))
  have f32 : Exa Z h22 a1 C_3 := (E_26.keep Ku22)
  obtain ⟨T33, h33, X33, e33, W33, st33⟩ := putF X25 hx hZ hown (host := "") (Or.inl (ww111 hw)) Via.refl e25 f31 f32 (Or.inl (ww112 hw)) (ww31 hw) (ty := .int) (by decide) rfl rfl (g := (mkF m 38 #[vR a1] [(.int 2), (.ref a1)])) rfl rfl (hb hby d13_38)
  have O33 : Old Z n0 h33 := Ou22.wr W33 g_a1
  have Fw33 : Fld Z h33 a1 C_3 "deckSize" "I" (.int 2) := Fld.same W33 f31
  have N33 := Fr.snoc X33 N22 g_a1
  have f34 : Fld Z h33 a1 C_3 "discardSize" "I" (.int 2) := (Fld.other W33 f24 (Or.inr (own_sl41 hw)))
  have f35 : Exa Z h33 a1 C_3 := (Exa.wr W33 f32)
  obtain ⟨T36, h36, X36, e36, W36, st36⟩ := putF X33 hx hZ hown (host := "") (Or.inl (ww113 hw)) Via.refl e33 f34 f35 (Or.inl (ww114 hw)) (ww31 hw) (ty := .int) (by decide) rfl rfl (g := (mkF m 43 #[vR a1] [(.int 0), (.ref a1)])) rfl rfl (hb hby d13_43)
  have O36 : Old Z n0 h36 := O33.wr W36 g_a1
  have Fw36 : Fld Z h36 a1 C_3 "discardSize" "I" (.int 0) := Fld.same W36 f34
  have N36 := Fr.snoc X36 N33 g_a1
  have f37 : Fld Z h36 a1 C_3 "generator" C_4 (.ref a27) := (Fld.other W36 (Fld.other W33 (F28.keep Ku22 (ninS hne23 nin0)) (Or.inr (own_sl42 hw))) (Or.inr (own_sl46 hw)))
  obtain ⟨T38, X38, e38, st38⟩ := getF X36 hx hZ hown (host := "") (Or.inl (ww49 hw)) Via.refl e36 f37 (g := (mkF m 47 #[vR a1] [(.ref a1)])) rfl rfl (hb hby d13_47)
  have f39 : Fld Z h36 a1 C_3 "deck" "[I" (.ref a9) := (Fld.other W36 (Fld.other W33 (F10.keep Ku22 (ninS hne23 nin0)) (Or.inr (own_sl39 hw))) (Or.inr (own_sl43 hw)))
  obtain ⟨T40, X40, e40, st40⟩ := getF X38 hx hZ hown (host := "") (Or.inl (ww62 hw)) Via.refl e38 f39 (g := (mkF m 51 #[vR a1] [(.ref a1), (.ref a27)])) rfl rfl (hb hby d13_51)
  have f41 : Fld Z h36 a1 C_3 "deckSize" "I" (.int 2) := (Fld.other W36 Fw33 (Or.inr (own_sl44 hw)))
  obtain ⟨T42, X42, e42, st42⟩ := getF X40 hx hZ hown (host := "") (Or.inl (ww111 hw)) Via.refl e40 f41 (g := (mkF m 55 #[vR a1] [(.ref a1), (.ref a9), (.ref a27)])) rfl rfl (hb hby d13_55)
  have f47 : Exa Z h36 a27 C_5 := (Exa.wr W36 (Exa.wr W33 (E_43.keep Ku22)))
  have f49 : Fld Z h36 a27 C_5 "state" "J" (.long q44) := (Fld.other W36 (Fld.other W33 (F45.keep Ku22 (ninS (Ne.symm hne46) nin0)) (Or.inl hne48)) (Or.inl hne48))
  have f50 : Arv Z h36 a9 k19 .int (3 : Int32) [(.int p13), (.int p13), (.int p18)] (.int (0 : Int32)) := ((Vc22.other W33 (Ne.symm hne23)).other W36 (Ne.symm hne23))
  have f51 : Exa Z h36 a9 "[I" := (Exa.wr W36 (Exa.wr W33 (E_21.keep Ku22)))
  obtain ⟨_, T52, L52, X52, hQ52, st52⟩ := own_cV X42 hx hZ hown (ww190 hw) (ww191 hw) (notFace_of_selects (args := #[]) (mvT hZ (ww193 hw))) (ww193 hw) (ww192 hw) (ww35 hw) (ww194 hw) f47 (rm25_90 l Z a0 hw a27 a9 q44 p13 p18 k19 h36 n0 O36 f47 f49 g_a27 f50 hne46 g_a9 f51) e42 pd_7 hml (hb hby d13_58) (Ls := #[vR a1]) (W := 0) (argsL := [(.ref a9), (.int 2)]) (rest := [])
  obtain ⟨j53, rfl, u55, Ku56, u57, u58, u59, u60⟩ := hQ52
  have Ou56 : Old Z n0 T52.heap := O36.keep Ku56 (allS g_a27 (allS g_a9 all0))
  have N52 := Fr.app N36 u55
  have f61 : Fld Z T52.heap a1 C_3 "deck" "[I" (.ref a9) := (f39.keep Ku56 (ninS (Ne.symm hne48) (ninS hne23 nin0)))
  obtain ⟨T62, X62, e62, st62⟩ := getF X52 hx hZ hown (host := "") (Or.inl (ww62 hw)) Via.refl rfl f61 (g := (mkF m 62 #[vR a1] [(.ref a1)])) rfl rfl (hb hby d13_62)
  have f63 : Fld Z T52.heap a1 C_3 "deckSize" "I" (.int 2) := (f41.keep Ku56 (ninS (Ne.symm hne48) (ninS hne23 nin0)))
  obtain ⟨T64, X64, e64, st64⟩ := getF X62 hx hZ hown (host := "") (Or.inl (ww111 hw)) Via.refl e62 f63 (g := (mkF m 67 #[vR a1] [(.ref a1), (.ref a1), (.ref a9)])) rfl rfl (hb hby d13_67)
  have f65 : Exa Z T52.heap a1 C_3 := ((Exa.wr W36 f35).keep Ku56)
  obtain ⟨T66, h66, X66, e66, W66, st66⟩ := putF X64 hx hZ hown (host := "") (Or.inl (ww111 hw)) Via.refl e64 f63 f65 (Or.inl (ww112 hw)) (ww31 hw) (ty := .int) (by decide) rfl rfl (g := (mkF m 73 #[vR a1] [(.int 1), (.ref a1), (.int 1), (.ref a9)])) rfl rfl (hb hby d13_73)
  have O66 : Old Z n0 h66 := Ou56.wr W66 g_a1
  have Fw66 : Fld Z h66 a1 C_3 "deckSize" "I" (.int 1) := Fld.same W66 f63
  have N66 := Fr.snoc X66 N52 g_a1
  have f67 : Arv Z h66 a9 k19 .int (3 : Int32) [(.int p13), (.int p13), (.int p18)] (.int (0 : Int32)) := (u60.other W66 (Ne.symm hne23))
  obtain ⟨cl68, Ar68, -, Sz68, -, Hh68, -⟩ := id f67
  have hin68 : ¬ ((1 : Int32) < 0 ∨ cl68.slots.size ≤ ((1 : Int32)).toNatClampNeg) := inb_of Sz68 ⟨by decide +kernel, by decide +kernel⟩
  have hat68 : cl68.slots[((1 : Int32)).toNatClampNeg]? = some (.int p13) := Has.at Hh68 hin68 rfl
  have f69 : Exa Z h66 a9 "[I" := (Exa.wr W66 u59)
  have f70 : Exa Z h66 a1 C_3 := (Exa.wr W66 f65)
  have f71 : Fld Z h66 a1 C_3 "deck" "[I" (.ref a9) := (Fld.other W66 f61 (Or.inr (own_sl39 hw)))
  have f72 : Fld Z h66 a1 C_3 "discard" "[I" (.ref a6) := (Fld.other W66 ((Fld.other W36 (Fld.other W33 (F7.keep Ku22 (ninS hne23 nin0)) (Or.inr (own_sl40 hw))) (Or.inr (own_sl45 hw))).keep Ku56 (ninS (Ne.symm hne48) (ninS hne23 nin0))) (Or.inr (own_sl40 hw)))
  have f73 : Fld Z h66 a1 C_3 "discardSize" "I" (.int 0) := (Fld.other W66 (Fw36.keep Ku56 (ninS (Ne.symm hne48) (ninS hne23 nin0))) (Or.inr (own_sl41 hw)))
  have f74 : Fld Z h66 a1 C_3 "generator" C_4 (.ref a27) := (Fld.other W66 (f37.keep Ku56 (ninS (Ne.symm hne48) (ninS hne23 nin0))) (Or.inr (own_sl42 hw)))
  have f75 : Fld Z h66 a1 C_3 "market" "[I" (.ref a29) := (Fld.other W66 ((Fld.other W36 (Fld.other W33 (F30.keep Ku22 (ninS hne23 nin0)) (Or.inr (own_sl38 hw))) (Or.inr (own_sl47 hw))).keep Ku56 (ninS (Ne.symm hne48) (ninS hne23 nin0))) (Or.inr (own_sl38 hw)))
  have f76 : Exa Z h66 a27 C_5 := (Exa.wr W66 u57)
  have f77 : Fld Z h66 a27 C_5 "state" "J" (.long j53) := (Fld.other W66 u58 (Or.inl hne48))
  refine fin (some (.int p13)) _ _ _ _ X66 nofun (fun fs hr => pre0 _ ?_) (own_atH e66 ?_) (by decide) (by decide)
  · refine o_aloadN X0 hx hby d13_0 rfl rfl (st3 _ (o_ifN X3 hx hby d13_4 (by decide +kernel) (o_aloadN X3 hx hby d13_7 rfl rfl (st5 _ (o_ifY X5 hx hby d13_11 (pc := 11) (pc' := 16) (by decide +kernel) (by decide) (by decide) (o_aloadN X5 hx hby d13_16 rfl rfl (st8 _ (o_iconst X8 hx hby d13_20 (x := 0) rfl (o_aloadN X8 hx hby d13_21 rfl rfl (st11 _ (o_iconst X11 hx hby d13_25 (x := 0) rfl (o_aloadN X11 hx hby d13_26 rfl rfl (st12 _ (st22 _ (o_aloadN X22 hx hby d13_33 rfl rfl (o_aloadN X22 hx hby d13_34 rfl rfl (st25 _ (st33 _ (o_aloadN X33 hx hby d13_41 rfl rfl (o_iconst X33 hx hby d13_42 (x := 0) rfl (st36 _ (o_aloadN X36 hx hby d13_46 rfl rfl (st38 _ (o_aloadN X38 hx hby d13_50 rfl rfl (st40 _ (o_aloadN X40 hx hby d13_54 rfl rfl (st42 _ (st52 _ (o_aloadN X52 hx hby d13_61 rfl rfl (st62 _ (o_aloadN X62 hx hby d13_65 rfl rfl (o_dup X62 hx hby d13_66 rfl (st64 _ (o_iconst X64 hx hby d13_70 (x := 1) rfl (o_isub X64 hx hby d13_71 (z := (1 : Int32)) (by decide +kernel) (o_dupX1 X64 hx hby d13_72 rfl rfl (st66 _ (X66.iaload hx (j := (1 : Int32)) (v := (.int p13)) (by rw [e66]; exact Ar68.1) (State.isArrayOf_alike hZ.alike Ar68.2.1) Ar68.2.2 hin68 hat68 (g := (mkF m 76 #[vR a1] [(.int 1), (.ref a9)])) rfl rfl (hb hby d13_76) _ ?_))))))))))))))))))))))))))))))))))))))
    exact retI X66 hx hret (hb hby d13_77) hr
  · exact ⟨j53, rfl, N66, ((((((Keep.refl h0 [a9, a1, a27]).trans Ku22 (allS (Or.inl (List.mem_of_getElem? (i := 0) rfl)) all0)).wr W33 (Or.inl (List.mem_of_getElem? (i := 1) rfl))).wr W36 (Or.inl (List.mem_of_getElem? (i := 1) rfl))).trans Ku56 (allS (Or.inl (List.mem_of_getElem? (i := 2) rfl)) (allS (Or.inl (List.mem_of_getElem? (i := 0) rfl)) all0))).wr W66 (Or.inl (List.mem_of_getElem? (i := 1) rfl))), f69, f67, f70, f71, Fw66, f72, f73, f74, f75, f76, f77⟩
def Q15_91 (Z : State) (a1 : Addr) (a2 : Addr) (a3 : Addr) (a9 : Addr) (p11 : Int32) (a13 : Addr) (a15 : Addr) (p19 : Int32) (k25 : ClassId) (h0 : Heap) (n0 : Nat) (v : Option Value) (h : Heap) (L : List Loc) : Prop := (v = none ∧ Fr n0 L ∧ Keep h0 h [a1, a3] ∧ Exa Z h a1 C_3 ∧ Fld Z h a1 C_3 "deck" "[I" (.ref a9) ∧ Fld Z h a1 C_3 "deckSize" "I" (.int p11) ∧ Fld Z h a1 C_3 "discard" "[I" (.ref a3) ∧ Fld Z h a1 C_3 "discardSize" "I" (.int 3) ∧ Fld Z h a1 C_3 "generator" C_4 (.ref a13) ∧ Fld Z h a1 C_3 "market" "[I" (.ref a15) ∧ Exa Z h a3 "[I" ∧ Arv Z h a3 k25 .int (3 : Int32) [(.int p19), (.int p19), (.int p19)] (.int (0 : Int32)))
theorem rm15_91 (l : Launch) (Z : State) (a0 : Array Value) (hw : own_HW Z a0) (a1 : Addr) (a2 : Addr) (a3 : Addr) (a9 : Addr) (p11 : Int32) (a13 : Addr) (a15 : Addr) (p19 : Int32) (k25 : ClassId) (h0 : Heap) (n0 : Nat) (O0 : Old Z n0 h0) (F4 : Fld Z h0 a1 C_3 "discard" "[I" (.ref a3)) (F6 : Fld Z h0 a1 C_3 "discardSize" "I" (.int 0)) (E_8 : Exa Z h0 a1 C_3) (F10 : Fld Z h0 a1 C_3 "deck" "[I" (.ref a9)) (F12 : Fld Z h0 a1 C_3 "deckSize" "I" (.int p11)) (F14 : Fld Z h0 a1 C_3 "generator" C_4 (.ref a13)) (F16 : Fld Z h0 a1 C_3 "market" "[I" (.ref a15)) (g_a1 : n0 ≤ a1) (E_18 : Exa Z Z.heap a2 C_8) (F20 : Fld Z Z.heap a2 C_10 "ordinal" "I" (.int p19)) (V26 : Arv Z h0 a3 k25 .int (3 : Int32) [] (.int (0 : Int32))) (hne27 : a3 ≠ a1) (g_a3 : n0 ≤ a3) (E_32 : Exa Z h0 a3 "[I") : own_Met l Z M_16 bc15 4 none ({ frames := 1, cells := 0, slots := 0, locals := 14 } : Room) #[(.ref a1), (.ref a2), (.int 3)] h0 (Q15_91 Z a1 a2 a3 a9 p11 a13 a15 p19 k25 h0 n0) := by
  refine own_body (L0 := #[vR a1, vR a2, vI 3, .unset]) (plainFor_of_name pn_6) (fun m => by first | (simp [entryFrame, mkF, argsToLocals, Value.category]; done) | rfl) fun p e s m below meth c s₁ EN hx hby hml hown hnm hret X0 hZ e0 hh pre0 fin => ?_
  have N0 := Fr.nil n0
  obtain ⟨T5, X5, e5, st5⟩ := getF X0 hx hZ hown (host := "") (Or.inl (ww64 hw)) Via.refl e0 F4 (g := (mkF m 8 #[vR a1, vR a2, vI 3, vI 0] [(.ref a1)])) rfl rfl (hb hby d15_8)
  obtain ⟨T7, X7, e7, st7⟩ := getF X5 hx hZ hown (host := "") (Or.inl (ww113 hw)) Via.refl e5 F6 (g := (mkF m 13 #[vR a1, vR a2, vI 3, vI 0] [(.ref a1), (.ref a1), (.ref a3)])) rfl rfl (hb hby d15_13)
  obtain ⟨T17, h17, X17, e17, W17, st17⟩ := putF X7 hx hZ hown (host := "") (Or.inl (ww113 hw)) Via.refl e7 F6 E_8 (Or.inl (ww114 hw)) (ww31 hw) (ty := .int) (by decide) rfl rfl (g := (mkF m 19 #[vR a1, vR a2, vI 3, vI 0] [(.int 1), (.ref a1), (.int 0), (.ref a3)])) rfl rfl (hb hby d15_19)
  have O17 : Old Z n0 h17 := O0.wr W17 g_a1
  have Fw17 : Fld Z h17 a1 C_3 "discardSize" "I" (.int 1) := Fld.same W17 F6
  have N17 := Fr.snoc X17 N0 g_a1
  obtain ⟨_, T21, L21, X21, hQ21, st21⟩ := own_cU X17 hx hZ hown (ww177 hw) (ww178 hw) (ww179 hw) (ww181 hw) (ww180 hw) (ww182 hw) (ww183 hw) (Exa.ext O17.2 E_18) (rm24_31 l Z a0 hw a2 p19 h17 n0 O17 F20) e17 pd_3 hml (hb hby d15_23) (Ls := #[vR a1, vR a2, vI 3, vI 0]) (W := 2) (argsL := []) (rest := [(.int 0), (.ref a3)])
  obtain ⟨rfl, u23, u24⟩ := hQ21
  have N21 := Fr.app N17 u23
  have f28 : Arv Z h17 a3 k25 .int (3 : Int32) [] (.int (0 : Int32)) := (V26.other W17 hne27)
  have Vp29 : Arv Z h17 a3 k25 .int (3 : Int32) [(.int 0)] (.int (0 : Int32)) := f28.pad (pad_rep [] (.int (0 : Int32)) 1)
  obtain ⟨cl30, Ar30, qk30, Sz30, Nn30, Hh30, Gg30⟩ := id Vp29
  have hin30 : ¬ ((0 : Int32) < 0 ∨ cl30.slots.size ≤ ((0 : Int32)).toNatClampNeg) := inb_of Sz30 ⟨by decide +kernel, by decide +kernel⟩
  obtain ⟨T31, h31, X31, e31, W31, st31⟩ := stI X21 hx hZ u24 Ar30 (j := (0 : Int32)) hin30 (g := (mkF m 26 #[vR a1, vR a2, vI 3, vI 0] [(.int p19), (.int 0), (.ref a3)])) rfl rfl (hb hby d15_26)
  have O31 : Old Z n0 h31 := O17.wr W31 g_a3
  have V31 : Arv Z h31 a3 k25 .int (3 : Int32) [(.int p19)] (.int (0 : Int32)) := Arv.set Ar30 qk30 Sz30 Nn30 Hh30 Gg30 rfl W31 0 rfl (Nat.le_of_ble_eq_true rfl)
  have N31 := Fr.snoc X31 N21 g_a3
  have f33 : Fld Z h31 a1 C_3 "discard" "[I" (.ref a3) := (Fld.other W31 (Fld.other W17 F4 (Or.inr (own_sl45 hw))) (Or.inl (Ne.symm hne27)))
  obtain ⟨T34, X34, e34, st34⟩ := getF X31 hx hZ hown (host := "") (Or.inl (ww64 hw)) Via.refl e31 f33 (g := (mkF m 8 #[vR a1, vR a2, vI 3, vI 1] [(.ref a1)])) rfl rfl (hb hby d15_8)
  have f35 : Fld Z h31 a1 C_3 "discardSize" "I" (.int 1) := (Fld.other W31 Fw17 (Or.inl (Ne.symm hne27)))
  obtain ⟨T36, X36, e36, st36⟩ := getF X34 hx hZ hown (host := "") (Or.inl (ww113 hw)) Via.refl e34 f35 (g := (mkF m 13 #[vR a1, vR a2, vI 3, vI 1] [(.ref a1), (.ref a1), (.ref a3)])) rfl rfl (hb hby d15_13)
  have f37 : Exa Z h31 a1 C_3 := (Exa.wr W31 (Exa.wr W17 E_8))
  obtain ⟨T38, h38, X38, e38, W38, st38⟩ := putF X36 hx hZ hown (host := "") (Or.inl (ww113 hw)) Via.refl e36 f35 f37 (Or.inl (ww114 hw)) (ww31 hw) (ty := .int) (by decide) rfl rfl (g := (mkF m 19 #[vR a1, vR a2, vI 3, vI 1] [(.int 2), (.ref a1), (.int 1), (.ref a3)])) rfl rfl (hb hby d15_19)
  have O38 : Old Z n0 h38 := O31.wr W38 g_a1
  have Fw38 : Fld Z h38 a1 C_3 "discardSize" "I" (.int 2) := Fld.same W38 f35
  have N38 := Fr.snoc X38 N31 g_a1
  obtain ⟨_, T39, L39, X39, hQ39, st39⟩ := own_cU X38 hx hZ hown (ww177 hw) (ww178 hw) (ww179 hw) (ww181 hw) (ww180 hw) (ww182 hw) (ww183 hw) (Exa.ext O38.2 E_18) (rm24_31 l Z a0 hw a2 p19 h38 n0 O38 F20) e38 pd_3 hml (hb hby d15_23) (Ls := #[vR a1, vR a2, vI 3, vI 1]) (W := 2) (argsL := []) (rest := [(.int 1), (.ref a3)])
  obtain ⟨rfl, u41, u42⟩ := hQ39
  have N39 := Fr.app N38 u41
  have f43 : Arv Z h38 a3 k25 .int (3 : Int32) [(.int p19)] (.int (0 : Int32)) := (V31.other W38 hne27)
  have Vp44 : Arv Z h38 a3 k25 .int (3 : Int32) [(.int p19), (.int 0)] (.int (0 : Int32)) := f43.pad (pad_rep [(.int p19)] (.int (0 : Int32)) 1)
  obtain ⟨cl45, Ar45, qk45, Sz45, Nn45, Hh45, Gg45⟩ := id Vp44
  have hin45 : ¬ ((1 : Int32) < 0 ∨ cl45.slots.size ≤ ((1 : Int32)).toNatClampNeg) := inb_of Sz45 ⟨by decide +kernel, by decide +kernel⟩
  obtain ⟨T46, h46, X46, e46, W46, st46⟩ := stI X39 hx hZ u42 Ar45 (j := (1 : Int32)) hin45 (g := (mkF m 26 #[vR a1, vR a2, vI 3, vI 1] [(.int p19), (.int 1), (.ref a3)])) rfl rfl (hb hby d15_26)
  have O46 : Old Z n0 h46 := O38.wr W46 g_a3
  have V46 : Arv Z h46 a3 k25 .int (3 : Int32) [(.int p19), (.int p19)] (.int (0 : Int32)) := Arv.set Ar45 qk45 Sz45 Nn45 Hh45 Gg45 rfl W46 1 rfl (Nat.le_of_ble_eq_true rfl)
  have N46 := Fr.snoc X46 N39 g_a3
  have f47 : Fld Z h46 a1 C_3 "discard" "[I" (.ref a3) := (Fld.other W46 (Fld.other W38 f33 (Or.inr (own_sl45 hw))) (Or.inl (Ne.symm hne27)))
  obtain ⟨T48, X48, e48, st48⟩ := getF X46 hx hZ hown (host := "") (Or.inl (ww64 hw)) Via.refl e46 f47 (g := (mkF m 8 #[vR a1, vR a2, vI 3, vI 2] [(.ref a1)])) rfl rfl (hb hby d15_8)
  have f49 : Fld Z h46 a1 C_3 "discardSize" "I" (.int 2) := (Fld.other W46 Fw38 (Or.inl (Ne.symm hne27)))
  obtain ⟨T50, X50, e50, st50⟩ := getF X48 hx hZ hown (host := "") (Or.inl (ww113 hw)) Via.refl e48 f49 (g := (mkF m 13 #[vR a1, vR a2, vI 3, vI 2] [(.ref a1), (.ref a1), (.ref a3)])) rfl rfl (hb hby d15_13)
  have f51 : Exa Z h46 a1 C_3 := (Exa.wr W46 (Exa.wr W38 f37))
  obtain ⟨T52, h52, X52, e52, W52, st52⟩ := putF X50 hx hZ hown (host := "") (Or.inl (ww113 hw)) Via.refl e50 f49 f51 (Or.inl (ww114 hw)) (ww31 hw) (ty := .int) (by decide) rfl rfl (g := (mkF m 19 #[vR a1, vR a2, vI 3, vI 2] [(.int 3), (.ref a1), (.int 2), (.ref a3)])) rfl rfl (hb hby d15_19)
  have O52 : Old Z n0 h52 := O46.wr W52 g_a1
  have Fw52 : Fld Z h52 a1 C_3 "discardSize" "I" (.int 3) := Fld.same W52 f49
  have N52 := Fr.snoc X52 N46 g_a1
  obtain ⟨_, T53, L53, X53, hQ53, st53⟩ := own_cU X52 hx hZ hown (ww177 hw) (ww178 hw) (ww179 hw) (ww181 hw) (ww180 hw) (ww182 hw) (ww183 hw) (Exa.ext O52.2 E_18) (rm24_31 l Z a0 hw a2 p19 h52 n0 O52 F20) e52 pd_3 hml (hb hby d15_23) (Ls := #[vR a1, vR a2, vI 3, vI 2]) (W := 2) (argsL := []) (rest := [(.int 2), (.ref a3)])
  obtain ⟨rfl, u55, u56⟩ := hQ53
  have N53 := Fr.app N52 u55
  have f57 : Arv Z h52 a3 k25 .int (3 : Int32) [(.int p19), (.int p19)] (.int (0 : Int32)) := (V46.other W52 hne27)
  have Vp58 : Arv Z h52 a3 k25 .int (3 : Int32) [(.int p19), (.int p19), (.int 0)] (.int (0 : Int32)) := f57.pad (pad_rep [(.int p19), (.int p19)] (.int (0 : Int32)) 1)
  obtain ⟨cl59, Ar59, qk59, Sz59, Nn59, Hh59, Gg59⟩ := id Vp58
  have hin59 : ¬ ((2 : Int32) < 0 ∨ cl59.slots.size ≤ ((2 : Int32)).toNatClampNeg) := inb_of Sz59 ⟨by decide +kernel, by decide +kernel⟩
  obtain ⟨T60, h60, X60, e60, W60, st60⟩ := stI X53 hx hZ u56 Ar59 (j := (2 : Int32)) hin59 (g := (mkF m 26 #[vR a1, vR a2, vI 3, vI 2] [(.int p19), (.int 2), (.ref a3)])) rfl rfl (hb hby d15_26)
  have O60 : Old Z n0 h60 := O52.wr W60 g_a3
  have V60 : Arv Z h60 a3 k25 .int (3 : Int32) [(.int p19), (.int p19), (.int p19)] (.int (0 : Int32)) := Arv.set Ar59 qk59 Sz59 Nn59 Hh59 Gg59 rfl W60 2 rfl (Nat.le_of_ble_eq_true rfl)
  have N60 := Fr.snoc X60 N53 g_a3
  have f61 : Exa Z h60 a1 C_3 := (Exa.wr W60 (Exa.wr W52 f51))
  have f62 : Fld Z h60 a1 C_3 "deck" "[I" (.ref a9) := (Fld.other W60 (Fld.other W52 (Fld.other W46 (Fld.other W38 (Fld.other W31 (Fld.other W17 F10 (Or.inr (own_sl43 hw))) (Or.inl (Ne.symm hne27))) (Or.inr (own_sl43 hw))) (Or.inl (Ne.symm hne27))) (Or.inr (own_sl43 hw))) (Or.inl (Ne.symm hne27)))
  have f63 : Fld Z h60 a1 C_3 "deckSize" "I" (.int p11) := (Fld.other W60 (Fld.other W52 (Fld.other W46 (Fld.other W38 (Fld.other W31 (Fld.other W17 F12 (Or.inr (own_sl44 hw))) (Or.inl (Ne.symm hne27))) (Or.inr (own_sl44 hw))) (Or.inl (Ne.symm hne27))) (Or.inr (own_sl44 hw))) (Or.inl (Ne.symm hne27)))
  have f64 : Fld Z h60 a1 C_3 "discard" "[I" (.ref a3) := (Fld.other W60 (Fld.other W52 f47 (Or.inr (own_sl45 hw))) (Or.inl (Ne.symm hne27)))
  have f65 : Fld Z h60 a1 C_3 "discardSize" "I" (.int 3) := (Fld.other W60 Fw52 (Or.inl (Ne.symm hne27)))
  have f66 : Fld Z h60 a1 C_3 "generator" C_4 (.ref a13) := (Fld.other W60 (Fld.other W52 (Fld.other W46 (Fld.other W38 (Fld.other W31 (Fld.other W17 F14 (Or.inr (own_sl46 hw))) (Or.inl (Ne.symm hne27))) (Or.inr (own_sl46 hw))) (Or.inl (Ne.symm hne27))) (Or.inr (own_sl46 hw))) (Or.inl (Ne.symm hne27)))
  have f67 : Fld Z h60 a1 C_3 "market" "[I" (.ref a15) := (Fld.other W60 (Fld.other W52 (Fld.other W46 (Fld.other W38 (Fld.other W31 (Fld.other W17 F16 (Or.inr (own_sl47 hw))) (Or.inl (Ne.symm hne27))) (Or.inr (own_sl47 hw))) (Or.inl (Ne.symm hne27))) (Or.inr (own_sl47 hw))) (Or.inl (Ne.symm hne27)))
  have f68 : Exa Z h60 a3 "[I" := (Exa.wr W60 (Exa.wr W52 (Exa.wr W46 (Exa.wr W38 (Exa.wr W31 (Exa.wr W17 E_32))))))
  refine fin none _ _ _ _ X60 (fun _ => rfl) (fun fs hr => pre0 _ ?_) (own_atH e60 ?_) (by decide) (by decide)
  · refine o_iconst X0 hx hby d15_0 (x := 0) rfl (o_istoreN X0 hx hby d15_1 (Ls' := #[vR a1, vR a2, vI 3, vI 0]) rfl (o_iloadN X0 hx hby d15_2 rfl (o_iloadN X0 hx hby d15_3 rfl (o_icmpN X0 hx hby d15_4 (by decide +kernel) (o_aloadN X0 hx hby d15_7 rfl rfl (st5 _ (o_aloadN X5 hx hby d15_11 rfl rfl (o_dup X5 hx hby d15_12 rfl (st7 _ (o_dupX1 X7 hx hby d15_16 rfl rfl (o_iconst X7 hx hby d15_17 (x := 1) rfl (o_iadd X7 hx hby d15_18 (z := (1 : Int32)) (by decide +kernel) (st17 _ (o_aloadN X17 hx hby d15_22 rfl rfl (st21 _ (st31 _ (o_iinc X31 hx hby d15_27 rfl (z := (1 : Int32)) (k' := 1) rfl (by decide +kernel) (Ls' := #[vR a1, vR a2, vI 3, vI 1]) rfl (o_goto X31 hx hby d15_30 (pc := 30) (pc' := 2) (by decide) (by decide) (o_iloadN X31 hx hby d15_2 rfl (o_iloadN X31 hx hby d15_3 rfl (o_icmpN X31 hx hby d15_4 (by decide +kernel) (o_aloadN X31 hx hby d15_7 rfl rfl (st34 _ (o_aloadN X34 hx hby d15_11 rfl rfl (o_dup X34 hx hby d15_12 rfl (st36 _ (o_dupX1 X36 hx hby d15_16 rfl rfl (o_iconst X36 hx hby d15_17 (x := 1) rfl (o_iadd X36 hx hby d15_18 (z := (2 : Int32)) (by decide +kernel) (st38 _ (o_aloadN X38 hx hby d15_22 rfl rfl (st39 _ (st46 _ (o_iinc X46 hx hby d15_27 rfl (z := (2 : Int32)) (k' := 1) rfl (by decide +kernel) (Ls' := #[vR a1, vR a2, vI 3, vI 2]) rfl (o_goto X46 hx hby d15_30 (pc := 30) (pc' := 2) (by decide) (by decide) (o_iloadN X46 hx hby d15_2 rfl (o_iloadN X46 hx hby d15_3 rfl (o_icmpN X46 hx hby d15_4 (by decide +kernel) (o_aloadN X46 hx hby d15_7 rfl rfl ?_)))))))))))))))))))))))))))))))))))))))
    refine st48 _ (o_aloadN X48 hx hby d15_11 rfl rfl (o_dup X48 hx hby d15_12 rfl (st50 _ (o_dupX1 X50 hx hby d15_16 rfl rfl (o_iconst X50 hx hby d15_17 (x := 1) rfl (o_iadd X50 hx hby d15_18 (z := (3 : Int32)) (by decide +kernel) (st52 _ (o_aloadN X52 hx hby d15_22 rfl rfl (st53 _ (st60 _ (o_iinc X60 hx hby d15_27 rfl (z := (3 : Int32)) (k' := 1) rfl (by decide +kernel) (Ls' := #[vR a1, vR a2, vI 3, vI 3]) rfl (o_goto X60 hx hby d15_30 (pc := 30) (pc' := 2) (by decide) (by decide) (o_iloadN X60 hx hby d15_2 rfl (o_iloadN X60 hx hby d15_3 rfl (o_icmpY X60 hx hby d15_4 (pc := 4) (pc' := 33) (by decide +kernel) (by decide) (by decide) ?_)))))))))))))))
    exact X60.returnOut hx hret (hb hby d15_33) hr
  · exact ⟨rfl, N60, (((((((Keep.refl h0 [a1, a3]).wr W17 (Or.inl (List.mem_of_getElem? (i := 0) rfl))).wr W31 (Or.inl (List.mem_of_getElem? (i := 1) rfl))).wr W38 (Or.inl (List.mem_of_getElem? (i := 0) rfl))).wr W46 (Or.inl (List.mem_of_getElem? (i := 1) rfl))).wr W52 (Or.inl (List.mem_of_getElem? (i := 0) rfl))).wr W60 (Or.inl (List.mem_of_getElem? (i := 1) rfl))), f61, f62, f63, f64, f65, f66, f67, f68, V60⟩
def Q16_92 (Z : State) (a1 : Addr) (h0 : Heap) (n0 : Nat) (v : Option Value) (h : Heap) (L : List Loc) : Prop := (v = some (.int 1) ∧ Fr n0 L ∧ h = h0)
theorem rm16_92 (l : Launch) (Z : State) (a0 : Array Value) (hw : own_HW Z a0) (a1 : Addr) (h0 : Heap) (n0 : Nat) (O0 : Old Z n0 h0) (F2 : Fld Z h0 a1 C_3 "deckSize" "I" (.int 0)) (F4 : Fld Z h0 a1 C_3 "discardSize" "I" (.int 3)) : own_Met l Z M_17 bc16 1 (some .boolean) ({ frames := 0, cells := 0, slots := 0, locals := 0 } : Room) #[(.ref a1)] h0 (Q16_92 Z a1 h0 n0) := by
  refine own_body (L0 := #[vR a1]) (plainFor_of_name pn_6) (fun m => by first | (simp [entryFrame, mkF, argsToLocals, Value.category]; done) | rfl) fun p e s m below meth c s₁ EN hx hby hml hown hnm hret X0 hZ e0 hh pre0 fin => ?_
  have N0 := Fr.nil n0
  obtain ⟨T3, X3, e3, st3⟩ := getF X0 hx hZ hown (host := "") (Or.inl (ww111 hw)) Via.refl e0 F2 (g := (mkF m 1 #[vR a1] [(.ref a1)])) rfl rfl (hb hby d16_1)
  obtain ⟨T5, X5, e5, st5⟩ := getF X3 hx hZ hown (host := "") (Or.inl (ww113 hw)) Via.refl e3 F4 (g := (mkF m 5 #[vR a1] [(.ref a1), (.int 0)])) rfl rfl (hb hby d16_5)
  refine fin (some (.int 1)) _ _ _ _ X5 nofun (fun fs hr => pre0 _ ?_) (own_atH e5 ?_) (by decide) (by decide)
  · refine o_aloadN X0 hx hby d16_0 rfl rfl (st3 _ (o_aloadN X3 hx hby d16_4 rfl rfl (st5 _ (o_iadd X5 hx hby d16_8 (z := (3 : Int32)) (by decide +kernel) (o_ifN X5 hx hby d16_9 (by decide +kernel) (o_iconst X5 hx hby d16_12 (x := 1) rfl (o_goto X5 hx hby d16_13 (pc := 13) (pc' := 17) (by decide) (by decide) ?_)))))))
    exact retN X5 hx (t := .boolean) hret (by simp) (hb hby d16_17) hr
  · exact ⟨rfl, N0, rfl⟩
def Q26_95 (Z : State) (a1 : Addr) (q3 : Int64) (h0 : Heap) (n0 : Nat) (v : Option Value) (h : Heap) (L : List Loc) : Prop := (∃ (i158 : Int32) (j130 : Int64), ¬ (i158 < (0 : Int32)) ∧ i158 < (3 : Int32) ∧ v = some (.int i158) ∧ Fr n0 L ∧ Keep h0 h [a1] ∧ Exa Z h a1 C_5 ∧ Fld Z h a1 C_5 "state" "J" (.long j130))
theorem rm26_95 (l : Launch) (Z : State) (a0 : Array Value) (hw : own_HW Z a0) (a1 : Addr) (q3 : Int64) (h0 : Heap) (n0 : Nat) (O0 : Old Z n0 h0) (E_2 : Exa Z h0 a1 C_5) (F4 : Fld Z h0 a1 C_5 "state" "J" (.long q3)) (g_a1 : n0 ≤ a1) : own_Met l Z M_31 bc26 6 (some .int) ({ frames := 2, cells := 0, slots := 0, locals := 25 } : Room) #[(.ref a1), (.int 3)] h0 (Q26_95 Z a1 q3 h0 n0) := by
  refine own_body (L0 := #[vR a1, vI 3, .unset, .unset, .unset, .unset]) (plainFor_of_name pn_3) (fun m => by first | (simp [entryFrame, mkF, argsToLocals, Value.category]; done) | rfl) fun p e s m below meth c s₁ EN hx hby hml hown hnm hret X0 hZ e0 hh pre0 fin => ?_
  have N0 := Fr.nil n0
  obtain ⟨_, T5, L5, X5, hQ5, st5⟩ := own_cV X0 hx hZ hown (ww200 hw) (ww201 hw) (notFace_of_selects (args := #[]) (mvT hZ (ww203 hw))) (ww203 hw) (ww202 hw) (ww35 hw) (ww204 hw) E_2 (rm27_63 l Z a0 hw a1 q3 h0 n0 O0 F4 E_2 g_a1) e0 pd_17 hml (hb hby d26_19) (Ls := #[vR a1, vI 3, .unset, .unset, .unset, .unset]) (W := 0) (argsL := []) (rest := [])
  obtain ⟨j6, j7, j8, j9, j10, j11, j12, j13, j14, u15, u16, u17, u18, u19, u20, u21, u22, u23, rfl, u25, Ku26, u27, u28⟩ := hQ5
  have Ou26 : Old Z n0 T5.heap := O0.keep Ku26 (allS g_a1 all0)
  have N5 := Fr.app N0 u25
  obtain ⟨i29, hi29⟩ : ∃ z, z = ((j14.toUInt64 >>> ((1 : Int32) &&& 0x3f).toInt64.toUInt64).toInt64) := ⟨_, rfl⟩
  obtain ⟨i30, hi30⟩ : ∃ z, z = (i29 - (i29 / (3 : Int64)) * (3 : Int64)) := ⟨_, rfl⟩
  obtain ⟨i31, hi31⟩ : ∃ z, z = (i29 - i30) := ⟨_, rfl⟩
  obtain ⟨i32, hi32⟩ : ∃ z, z = (i31 + (2 : Int64)) := ⟨_, rfl⟩
  obtain ⟨i33, hi33⟩ : ∃ z, z = (lcmpW i32 (0 : Int64)) := ⟨_, rfl⟩
  have pre34 : ∀ t, Steps p.tables e below (T5.setTop (mkF m 42 #[vR a1, vI 3, vJ i29, .second, vJ i30, .second] [(.int i33)])) t → Steps p.tables e below EN t := by
    intro t kt
    refine pre0 t ?_
    refine o_iloadN X0 hx hby d26_0 rfl (o_ifY X0 hx hby d26_1 (pc := 1) (pc' := 18) (by decide +kernel) (by decide) (by decide) (o_aloadN X0 hx hby d26_18 rfl rfl (st5 _ (o_iconst X5 hx hby d26_22 (x := 1) rfl (o_lushr X5 hx hby d26_23 (z := i29) hi29.symm (o_lstoreN X5 hx hby d26_24 (Ls' := #[vR a1, vI 3, vJ i29, .second, .unset, .unset]) rfl (o_lloadN X5 hx hby d26_25 rfl (o_iloadN X5 hx hby d26_26 rfl (o_i2l X5 hx hby d26_27 (z := (3 : Int64)) (by decide +kernel) (o_lrem X5 hx hby d26_28 (by decide +kernel : ¬ ((3 : Int64) = (0 : Int64))) (z := i30) hi30.symm (o_lstore X5 hx hby d26_29 (Ls' := #[vR a1, vI 3, vJ i29, .second, vJ i30, .second]) rfl (o_lloadN X5 hx hby d26_31 rfl (o_lload X5 hx hby d26_32 rfl (o_lsub X5 hx hby d26_34 (z := i31) hi31.symm (o_iloadN X5 hx hby d26_35 rfl (o_iconst X5 hx hby d26_36 (x := 1) rfl (o_isub X5 hx hby d26_37 (z := (2 : Int32)) (by decide +kernel) (o_i2l X5 hx hby d26_38 (z := (2 : Int64)) (by decide +kernel) (o_ladd X5 hx hby d26_39 (z := i32) hi32.symm (o_lconst X5 hx hby d26_40 (j := 0) rfl (o_lcmp X5 hx hby d26_41 (z := i33) hi33.symm ?_)))))))))))))))))))))
    exact kt
  by_cases hc35 : i33 < (0 : Int32)
  · skip
    obtain ⟨_, T36, L36, X36, hQ36, st36⟩ := own_cV X5 hx hZ hown (ww200 hw) (ww201 hw) (notFace_of_selects (args := #[]) (mvT hZ (ww203 hw))) (ww203 hw) (ww202 hw) (ww35 hw) (ww204 hw) u27 (rm27_63 l Z a0 hw a1 j6 T5.heap n0 Ou26 u28 u27 g_a1) rfl pd_17 hml (hb hby d26_46) (Ls := #[vR a1, vI 3, vJ i29, .second, vJ i30, .second]) (W := 0) (argsL := []) (rest := [])
    obtain ⟨j37, j38, j39, j40, j41, j42, j43, j44, j45, u46, u47, u48, u49, u50, u51, u52, u53, u54, rfl, u56, Ku57, u58, u59⟩ := hQ36
    have Ou57 : Old Z n0 T36.heap := Ou26.keep Ku57 (allS g_a1 all0)
    have N36 := Fr.app N5 u56
    obtain ⟨i60, hi60⟩ : ∃ z, z = ((j45.toUInt64 >>> ((1 : Int32) &&& 0x3f).toInt64.toUInt64).toInt64) := ⟨_, rfl⟩
    obtain ⟨i61, hi61⟩ : ∃ z, z = (i60 - (i60 / (3 : Int64)) * (3 : Int64)) := ⟨_, rfl⟩
    obtain ⟨i62, hi62⟩ : ∃ z, z = (i60 - i61) := ⟨_, rfl⟩
    obtain ⟨i63, hi63⟩ : ∃ z, z = (i62 + (2 : Int64)) := ⟨_, rfl⟩
    obtain ⟨i64, hi64⟩ : ∃ z, z = (lcmpW i63 (0 : Int64)) := ⟨_, rfl⟩
    have pre65 : ∀ t, Steps p.tables e below (T36.setTop (mkF m 42 #[vR a1, vI 3, vJ i60, .second, vJ i61, .second] [(.int i64)])) t → Steps p.tables e below EN t := by
      intro t kt
      refine pre34 t ?_
      refine o_ifN X5 hx hby d26_42 ((if0 _ _).trans (tlt hc35).2.1) (o_aloadN X5 hx hby d26_45 rfl rfl (st36 _ (o_iconst X36 hx hby d26_49 (x := 1) rfl (o_lushr X36 hx hby d26_50 (z := i60) hi60.symm (o_lstoreN X36 hx hby d26_51 (Ls' := #[vR a1, vI 3, vJ i60, .second, vJ i30, .second]) rfl (o_lloadN X36 hx hby d26_52 rfl (o_iloadN X36 hx hby d26_53 rfl (o_i2l X36 hx hby d26_54 (z := (3 : Int64)) (by decide +kernel) (o_lrem X36 hx hby d26_55 (by decide +kernel : ¬ ((3 : Int64) = (0 : Int64))) (z := i61) hi61.symm (o_lstore X36 hx hby d26_56 (Ls' := #[vR a1, vI 3, vJ i60, .second, vJ i61, .second]) rfl (o_goto X36 hx hby d26_58 (pc := 58) (pc' := 31) (by decide) (by decide) (o_lloadN X36 hx hby d26_31 rfl (o_lload X36 hx hby d26_32 rfl (o_lsub X36 hx hby d26_34 (z := i62) hi62.symm (o_iloadN X36 hx hby d26_35 rfl (o_iconst X36 hx hby d26_36 (x := 1) rfl (o_isub X36 hx hby d26_37 (z := (2 : Int32)) (by decide +kernel) (o_i2l X36 hx hby d26_38 (z := (2 : Int64)) (by decide +kernel) (o_ladd X36 hx hby d26_39 (z := i63) hi63.symm (o_lconst X36 hx hby d26_40 (j := 0) rfl (o_lcmp X36 hx hby d26_41 (z := i64) hi64.symm ?_)))))))))))))))))))))
      exact kt
    by_cases hc66 : i64 < (0 : Int32)
    · skip
      obtain ⟨_, T67, L67, X67, hQ67, st67⟩ := own_cV X36 hx hZ hown (ww200 hw) (ww201 hw) (notFace_of_selects (args := #[]) (mvT hZ (ww203 hw))) (ww203 hw) (ww202 hw) (ww35 hw) (ww204 hw) u58 (rm27_63 l Z a0 hw a1 j37 T36.heap n0 Ou57 u59 u58 g_a1) rfl pd_17 hml (hb hby d26_46) (Ls := #[vR a1, vI 3, vJ i60, .second, vJ i61, .second]) (W := 0) (argsL := []) (rest := [])
      obtain ⟨j68, j69, j70, j71, j72, j73, j74, j75, j76, u77, u78, u79, u80, u81, u82, u83, u84, u85, rfl, u87, Ku88, u89, u90⟩ := hQ67
      have Ou88 : Old Z n0 T67.heap := Ou57.keep Ku88 (allS g_a1 all0)
      have N67 := Fr.app N36 u87
      obtain ⟨i91, hi91⟩ : ∃ z, z = ((j76.toUInt64 >>> ((1 : Int32) &&& 0x3f).toInt64.toUInt64).toInt64) := ⟨_, rfl⟩
      obtain ⟨i92, hi92⟩ : ∃ z, z = (i91 - (i91 / (3 : Int64)) * (3 : Int64)) := ⟨_, rfl⟩
      obtain ⟨i93, hi93⟩ : ∃ z, z = (i91 - i92) := ⟨_, rfl⟩
      obtain ⟨i94, hi94⟩ : ∃ z, z = (i93 + (2 : Int64)) := ⟨_, rfl⟩
      obtain ⟨i95, hi95⟩ : ∃ z, z = (lcmpW i94 (0 : Int64)) := ⟨_, rfl⟩
      have pre96 : ∀ t, Steps p.tables e below (T67.setTop (mkF m 42 #[vR a1, vI 3, vJ i91, .second, vJ i92, .second] [(.int i95)])) t → Steps p.tables e below EN t := by
        intro t kt
        refine pre65 t ?_
        refine o_ifN X36 hx hby d26_42 ((if0 _ _).trans (tlt hc66).2.1) (o_aloadN X36 hx hby d26_45 rfl rfl (st67 _ (o_iconst X67 hx hby d26_49 (x := 1) rfl (o_lushr X67 hx hby d26_50 (z := i91) hi91.symm (o_lstoreN X67 hx hby d26_51 (Ls' := #[vR a1, vI 3, vJ i91, .second, vJ i61, .second]) rfl (o_lloadN X67 hx hby d26_52 rfl (o_iloadN X67 hx hby d26_53 rfl (o_i2l X67 hx hby d26_54 (z := (3 : Int64)) (by decide +kernel) (o_lrem X67 hx hby d26_55 (by decide +kernel : ¬ ((3 : Int64) = (0 : Int64))) (z := i92) hi92.symm (o_lstore X67 hx hby d26_56 (Ls' := #[vR a1, vI 3, vJ i91, .second, vJ i92, .second]) rfl (o_goto X67 hx hby d26_58 (pc := 58) (pc' := 31) (by decide) (by decide) (o_lloadN X67 hx hby d26_31 rfl (o_lload X67 hx hby d26_32 rfl (o_lsub X67 hx hby d26_34 (z := i93) hi93.symm (o_iloadN X67 hx hby d26_35 rfl (o_iconst X67 hx hby d26_36 (x := 1) rfl (o_isub X67 hx hby d26_37 (z := (2 : Int32)) (by decide +kernel) (o_i2l X67 hx hby d26_38 (z := (2 : Int64)) (by decide +kernel) (o_ladd X67 hx hby d26_39 (z := i94) hi94.symm (o_lconst X67 hx hby d26_40 (j := 0) rfl (o_lcmp X67 hx hby d26_41 (z := i95) hi95.symm ?_)))))))))))))))))))))
        exact kt
      by_cases hc97 : i95 < (0 : Int32)
      · skip
        obtain ⟨_, T98, L98, X98, hQ98, st98⟩ := own_cV X67 hx hZ hown (ww200 hw) (ww201 hw) (notFace_of_selects (args := #[]) (mvT hZ (ww203 hw))) (ww203 hw) (ww202 hw) (ww35 hw) (ww204 hw) u89 (rm27_63 l Z a0 hw a1 j68 T67.heap n0 Ou88 u90 u89 g_a1) rfl pd_17 hml (hb hby d26_46) (Ls := #[vR a1, vI 3, vJ i91, .second, vJ i92, .second]) (W := 0) (argsL := []) (rest := [])
        obtain ⟨j99, j100, j101, j102, j103, j104, j105, j106, j107, u108, u109, u110, u111, u112, u113, u114, u115, u116, rfl, u118, Ku119, u120, u121⟩ := hQ98
        have Ou119 : Old Z n0 T98.heap := Ou88.keep Ku119 (allS g_a1 all0)
        have N98 := Fr.app N67 u118
        obtain ⟨i122, hi122⟩ : ∃ z, z = ((j107.toUInt64 >>> ((1 : Int32) &&& 0x3f).toInt64.toUInt64).toInt64) := ⟨_, rfl⟩
        obtain ⟨i123, hi123⟩ : ∃ z, z = (i122 - (i122 / (3 : Int64)) * (3 : Int64)) := ⟨_, rfl⟩
        obtain ⟨i124, hi124⟩ : ∃ z, z = (i122 - i123) := ⟨_, rfl⟩
        obtain ⟨i125, hi125⟩ : ∃ z, z = (i124 + (2 : Int64)) := ⟨_, rfl⟩
        obtain ⟨i126, hi126⟩ : ∃ z, z = (lcmpW i125 (0 : Int64)) := ⟨_, rfl⟩
        have pre127 : ∀ t, Steps p.tables e below (T98.setTop (mkF m 42 #[vR a1, vI 3, vJ i122, .second, vJ i123, .second] [(.int i126)])) t → Steps p.tables e below EN t := by
          intro t kt
          refine pre96 t ?_
          refine o_ifN X67 hx hby d26_42 ((if0 _ _).trans (tlt hc97).2.1) (o_aloadN X67 hx hby d26_45 rfl rfl (st98 _ (o_iconst X98 hx hby d26_49 (x := 1) rfl (o_lushr X98 hx hby d26_50 (z := i122) hi122.symm (o_lstoreN X98 hx hby d26_51 (Ls' := #[vR a1, vI 3, vJ i122, .second, vJ i92, .second]) rfl (o_lloadN X98 hx hby d26_52 rfl (o_iloadN X98 hx hby d26_53 rfl (o_i2l X98 hx hby d26_54 (z := (3 : Int64)) (by decide +kernel) (o_lrem X98 hx hby d26_55 (by decide +kernel : ¬ ((3 : Int64) = (0 : Int64))) (z := i123) hi123.symm (o_lstore X98 hx hby d26_56 (Ls' := #[vR a1, vI 3, vJ i122, .second, vJ i123, .second]) rfl (o_goto X98 hx hby d26_58 (pc := 58) (pc' := 31) (by decide) (by decide) (o_lloadN X98 hx hby d26_31 rfl (o_lload X98 hx hby d26_32 rfl (o_lsub X98 hx hby d26_34 (z := i124) hi124.symm (o_iloadN X98 hx hby d26_35 rfl (o_iconst X98 hx hby d26_36 (x := 1) rfl (o_isub X98 hx hby d26_37 (z := (2 : Int32)) (by decide +kernel) (o_i2l X98 hx hby d26_38 (z := (2 : Int64)) (by decide +kernel) (o_ladd X98 hx hby d26_39 (z := i125) hi125.symm (o_lconst X98 hx hby d26_40 (j := 0) rfl (o_lcmp X98 hx hby d26_41 (z := i126) hi126.symm ?_)))))))))))))))))))))
          exact kt
        by_cases hc128 : i126 < (0 : Int32)
        · skip
          obtain ⟨_, T129, L129, X129, hQ129, st129⟩ := own_cV X98 hx hZ hown (ww200 hw) (ww201 hw) (notFace_of_selects (args := #[]) (mvT hZ (ww203 hw))) (ww203 hw) (ww202 hw) (ww35 hw) (ww204 hw) u120 (rm27_63 l Z a0 hw a1 j99 T98.heap n0 Ou119 u121 u120 g_a1) rfl pd_17 hml (hb hby d26_46) (Ls := #[vR a1, vI 3, vJ i122, .second, vJ i123, .second]) (W := 0) (argsL := []) (rest := [])
          obtain ⟨j130, j131, j132, j133, j134, j135, j136, j137, j138, u139, u140, u141, u142, u143, u144, u145, u146, u147, rfl, u149, Ku150, u151, u152⟩ := hQ129
          have Ou150 : Old Z n0 T129.heap := Ou119.keep Ku150 (allS g_a1 all0)
          have N129 := Fr.app N98 u149
          obtain ⟨i153, hi153⟩ : ∃ z, z = ((j138.toUInt64 >>> ((1 : Int32) &&& 0x3f).toInt64.toUInt64).toInt64) := ⟨_, rfl⟩
          obtain ⟨i154, hi154⟩ : ∃ z, z = (i153 - (i153 / (3 : Int64)) * (3 : Int64)) := ⟨_, rfl⟩
          obtain ⟨i155, hi155⟩ : ∃ z, z = (i153 - i154) := ⟨_, rfl⟩
          obtain ⟨i156, hi156⟩ : ∃ z, z = (i155 + (2 : Int64)) := ⟨_, rfl⟩
          obtain ⟨i157, hi157⟩ : ∃ z, z = (lcmpW i156 (0 : Int64)) := ⟨_, rfl⟩
          obtain ⟨i158, hi158⟩ : ∃ z, z = (i154.toInt32) := ⟨_, rfl⟩
          refine fin (some (.int i158)) _ _ _ _ X129 nofun (fun fs hr => pre127 _ ?_) ?_ (by decide) (by decide)
          · refine o_ifN X98 hx hby d26_42 ((if0 _ _).trans (tlt hc128).2.1) (o_aloadN X98 hx hby d26_45 rfl rfl (st129 _ (o_iconst X129 hx hby d26_49 (x := 1) rfl (o_lushr X129 hx hby d26_50 (z := i153) hi153.symm (o_lstoreN X129 hx hby d26_51 (Ls' := #[vR a1, vI 3, vJ i153, .second, vJ i123, .second]) rfl (o_lloadN X129 hx hby d26_52 rfl (o_iloadN X129 hx hby d26_53 rfl (o_i2l X129 hx hby d26_54 (z := (3 : Int64)) (by decide +kernel) (o_lrem X129 hx hby d26_55 (by decide +kernel : ¬ ((3 : Int64) = (0 : Int64))) (z := i154) hi154.symm (o_lstore X129 hx hby d26_56 (Ls' := #[vR a1, vI 3, vJ i153, .second, vJ i154, .second]) rfl (o_goto X129 hx hby d26_58 (pc := 58) (pc' := 31) (by decide) (by decide) (o_lloadN X129 hx hby d26_31 rfl (o_lload X129 hx hby d26_32 rfl (o_lsub X129 hx hby d26_34 (z := i155) hi155.symm (o_iloadN X129 hx hby d26_35 rfl (o_iconst X129 hx hby d26_36 (x := 1) rfl (o_isub X129 hx hby d26_37 (z := (2 : Int32)) (by decide +kernel) (o_i2l X129 hx hby d26_38 (z := (2 : Int64)) (by decide +kernel) (o_ladd X129 hx hby d26_39 (z := i156) hi156.symm (o_lconst X129 hx hby d26_40 (j := 0) rfl (o_lcmp X129 hx hby d26_41 (z := i157) hi157.symm (o_ifY X129 hx hby d26_42 (pc := 42) (pc' := 61) ((if0 _ _).trans (flt (own_nb3 u15 (own_mixof u23 u22 u20 u21 u19 u17 u18 u16) (own_rej3 hi29 hi30 hi31 hi32 hi33 hc35) u46 (own_mixof u54 u53 u51 u52 u50 u48 u49 u47) (own_rej3 hi60 hi61 hi62 hi63 hi64 hc66) u77 (own_mixof u85 u84 u82 u83 u81 u79 u80 u78) (own_rej3 hi91 hi92 hi93 hi94 hi95 hc97) u108 (own_mixof u116 u115 u113 u114 u112 u110 u111 u109) (own_rej3 hi122 hi123 hi124 hi125 hi126 hc128) u139 (own_mixof u147 u146 u144 u145 u143 u141 u142 u140) hi153 hi154 hi155 hi156 hi157)).2.1) (by decide) (by decide) (o_lload X129 hx hby d26_61 rfl (o_l2i X129 hx hby d26_63 (z := i158) hi158.symm ?_))))))))))))))))))))))))
            exact retI X129 hx hret (hb hby d26_64) hr
          · exact ⟨i158, j130, (own_rb3 hi153 hi154 hi158).1, (own_rb3 hi153 hi154 hi158).2, rfl, N129, ((((((Keep.refl h0 [a1]).trans Ku26 (allS (Or.inl (List.mem_of_getElem? (i := 0) rfl)) all0)).trans Ku57 (allS (Or.inl (List.mem_of_getElem? (i := 0) rfl)) all0)).trans Ku88 (allS (Or.inl (List.mem_of_getElem? (i := 0) rfl)) all0)).trans Ku119 (allS (Or.inl (List.mem_of_getElem? (i := 0) rfl)) all0)).trans Ku150 (allS (Or.inl (List.mem_of_getElem? (i := 0) rfl)) all0)), u151, u152⟩
        · skip
          obtain ⟨i159, hi159⟩ : ∃ z, z = (i123.toInt32) := ⟨_, rfl⟩
          refine fin (some (.int i159)) _ _ _ _ X98 nofun (fun fs hr => pre127 _ ?_) ?_ (by decide) (by decide)
          · refine o_ifY X98 hx hby d26_42 (pc := 42) (pc' := 61) ((if0 _ _).trans (flt hc128).2.1) (by decide) (by decide) (o_lload X98 hx hby d26_61 rfl (o_l2i X98 hx hby d26_63 (z := i159) hi159.symm ?_))
            exact retI X98 hx hret (hb hby d26_64) hr
          · exact ⟨i159, j99, (own_rb3 hi122 hi123 hi159).1, (own_rb3 hi122 hi123 hi159).2, rfl, N98, (((((Keep.refl h0 [a1]).trans Ku26 (allS (Or.inl (List.mem_of_getElem? (i := 0) rfl)) all0)).trans Ku57 (allS (Or.inl (List.mem_of_getElem? (i := 0) rfl)) all0)).trans Ku88 (allS (Or.inl (List.mem_of_getElem? (i := 0) rfl)) all0)).trans Ku119 (allS (Or.inl (List.mem_of_getElem? (i := 0) rfl)) all0)), u120, u121⟩
      · skip
        obtain ⟨i160, hi160⟩ : ∃ z, z = (i92.toInt32) := ⟨_, rfl⟩
        refine fin (some (.int i160)) _ _ _ _ X67 nofun (fun fs hr => pre96 _ ?_) ?_ (by decide) (by decide)
        · refine o_ifY X67 hx hby d26_42 (pc := 42) (pc' := 61) ((if0 _ _).trans (flt hc97).2.1) (by decide) (by decide) (o_lload X67 hx hby d26_61 rfl (o_l2i X67 hx hby d26_63 (z := i160) hi160.symm ?_))
          exact retI X67 hx hret (hb hby d26_64) hr
        · exact ⟨i160, j68, (own_rb3 hi91 hi92 hi160).1, (own_rb3 hi91 hi92 hi160).2, rfl, N67, ((((Keep.refl h0 [a1]).trans Ku26 (allS (Or.inl (List.mem_of_getElem? (i := 0) rfl)) all0)).trans Ku57 (allS (Or.inl (List.mem_of_getElem? (i := 0) rfl)) all0)).trans Ku88 (allS (Or.inl (List.mem_of_getElem? (i := 0) rfl)) all0)), u89, u90⟩
    · skip
      obtain ⟨i161, hi161⟩ : ∃ z, z = (i61.toInt32) := ⟨_, rfl⟩
      refine fin (some (.int i161)) _ _ _ _ X36 nofun (fun fs hr => pre65 _ ?_) ?_ (by decide) (by decide)
      · refine o_ifY X36 hx hby d26_42 (pc := 42) (pc' := 61) ((if0 _ _).trans (flt hc66).2.1) (by decide) (by decide) (o_lload X36 hx hby d26_61 rfl (o_l2i X36 hx hby d26_63 (z := i161) hi161.symm ?_))
        exact retI X36 hx hret (hb hby d26_64) hr
      · exact ⟨i161, j37, (own_rb3 hi60 hi61 hi161).1, (own_rb3 hi60 hi61 hi161).2, rfl, N36, (((Keep.refl h0 [a1]).trans Ku26 (allS (Or.inl (List.mem_of_getElem? (i := 0) rfl)) all0)).trans Ku57 (allS (Or.inl (List.mem_of_getElem? (i := 0) rfl)) all0)), u58, u59⟩
  · skip
    obtain ⟨i162, hi162⟩ : ∃ z, z = (i30.toInt32) := ⟨_, rfl⟩
    refine fin (some (.int i162)) _ _ _ _ X5 nofun (fun fs hr => pre34 _ ?_) ?_ (by decide) (by decide)
    · refine o_ifY X5 hx hby d26_42 (pc := 42) (pc' := 61) ((if0 _ _).trans (flt hc35).2.1) (by decide) (by decide) (o_lload X5 hx hby d26_61 rfl (o_l2i X5 hx hby d26_63 (z := i162) hi162.symm ?_))
      exact retI X5 hx hret (hb hby d26_64) hr
    · exact ⟨i162, j6, (own_rb3 hi29 hi30 hi162).1, (own_rb3 hi29 hi30 hi162).2, rfl, N5, ((Keep.refl h0 [a1]).trans Ku26 (allS (Or.inl (List.mem_of_getElem? (i := 0) rfl)) all0)), u27, u28⟩
def Q25_94 (Z : State) (a1 : Addr) (a2 : Addr) (q4 : Int64) (p18 : Int32) (k19 : ClassId) (h0 : Heap) (n0 : Nat) (v : Option Value) (h : Heap) (L : List Loc) : Prop := (∃ (j34 : Int64), v = none ∧ Fr n0 L ∧ Keep h0 h [a1, a2] ∧ Exa Z h a1 C_5 ∧ Fld Z h a1 C_5 "state" "J" (.long j34) ∧ Exa Z h a2 "[I" ∧ Arv Z h a2 k19 .int (3 : Int32) [(.int p18), (.int p18), (.int p18)] (.int (0 : Int32)))
theorem rm25_94 (l : Launch) (Z : State) (a0 : Array Value) (hw : own_HW Z a0) (a1 : Addr) (a2 : Addr) (q4 : Int64) (p18 : Int32) (k19 : ClassId) (h0 : Heap) (n0 : Nat) (O0 : Old Z n0 h0) (E_3 : Exa Z h0 a1 C_5) (F5 : Fld Z h0 a1 C_5 "state" "J" (.long q4)) (g_a1 : n0 ≤ a1) (V20 : Arv Z h0 a2 k19 .int (3 : Int32) [(.int p18), (.int p18), (.int p18)] (.int (0 : Int32))) (hne21 : a2 ≠ a1) (g_a2 : n0 ≤ a2) (E_27 : Exa Z h0 a2 "[I") : own_Met l Z M_28 bc25 6 none ({ frames := 3, cells := 0, slots := 0, locals := 42 } : Room) #[(.ref a1), (.ref a2), (.int 3)] h0 (Q25_94 Z a1 a2 q4 p18 k19 h0 n0) := by
  refine own_body (L0 := #[vR a1, vR a2, vI 3, .unset, .unset, .unset]) (plainFor_of_name pn_3) (fun m => by first | (simp [entryFrame, mkF, argsToLocals, Value.category]; done) | rfl) fun p e s m below meth c s₁ EN hx hby hml hown hnm hret X0 hZ e0 hh pre0 fin => ?_
  have N0 := Fr.nil n0
  obtain ⟨_, T6, L6, X6, hQ6, st6⟩ := own_cV X0 hx hZ hown (ww195 hw) (ww196 hw) (notFace_of_selects (args := #[]) (mvT hZ (ww198 hw))) (ww198 hw) (ww197 hw) (ww35 hw) (ww199 hw) E_3 (rm26_95 l Z a0 hw a1 q4 h0 n0 O0 E_3 F5 g_a1) e0 pd_18 hml (hb hby d25_12) (Ls := #[vR a1, vR a2, vI 3, vI 2, .unset, .unset]) (W := 0) (argsL := [(.int 3)]) (rest := [])
  obtain ⟨i7, j8, u9, u10, rfl, u12, Ku13, u14, u15⟩ := hQ6
  have Ou13 : Old Z n0 T6.heap := O0.keep Ku13 (allS g_a1 all0)
  have N6 := Fr.app N0 u12
  have pre16 : ∀ t, Steps p.tables e below (T6.setTop (mkF m 15 #[vR a1, vR a2, vI 3, vI 2, .unset, .unset] [(.int i7)])) t → Steps p.tables e below EN t := by
    intro t kt
    refine pre0 t ?_
    refine o_iloadN X0 hx hby d25_0 rfl (o_iconst X0 hx hby d25_1 (x := 1) rfl (o_isub X0 hx hby d25_2 (z := (2 : Int32)) (by decide +kernel) (o_istoreN X0 hx hby d25_3 (Ls' := #[vR a1, vR a2, vI 3, vI 2, .unset, .unset]) rfl (o_iloadN X0 hx hby d25_4 rfl (o_ifN X0 hx hby d25_5 (by decide +kernel) (o_aloadN X0 hx hby d25_8 rfl rfl (o_iloadN X0 hx hby d25_9 rfl (o_iconst X0 hx hby d25_10 (x := 1) rfl (o_iadd X0 hx hby d25_11 (z := (3 : Int32)) (by decide +kernel) (st6 _ ?_))))))))))
    exact kt
  rcases (own_j3 u9 u10) with hq17 | hq17 | hq17
  · skip
    subst hq17
    have f22 : Arv Z T6.heap a2 k19 .int (3 : Int32) [(.int p18), (.int p18), (.int p18)] (.int (0 : Int32)) := (V20.keep Ku13 (ninS hne21 nin0))
    obtain ⟨cl23, Ar23, -, Sz23, -, Hh23, -⟩ := id f22
    have hin23 : ¬ ((2 : Int32) < 0 ∨ cl23.slots.size ≤ ((2 : Int32)).toNatClampNeg) := inb_of Sz23 ⟨by decide +kernel, by decide +kernel⟩
    have hat23 : cl23.slots[((2 : Int32)).toNatClampNeg]? = some (.int p18) := Has.at Hh23 hin23 rfl
    obtain ⟨cl24, Ar24, -, Sz24, -, Hh24, -⟩ := id f22
    have hin24 : ¬ ((0 : Int32) < 0 ∨ cl24.slots.size ≤ ((0 : Int32)).toNatClampNeg) := inb_of Sz24 ⟨by decide +kernel, by decide +kernel⟩
    have hat24 : cl24.slots[((0 : Int32)).toNatClampNeg]? = some (.int p18) := Has.at Hh24 hin24 rfl
    obtain ⟨cl25, Ar25, qk25, Sz25, Nn25, Hh25, Gg25⟩ := id f22
    have hin25 : ¬ ((2 : Int32) < 0 ∨ cl25.slots.size ≤ ((2 : Int32)).toNatClampNeg) := inb_of Sz25 ⟨by decide +kernel, by decide +kernel⟩
    obtain ⟨T26, h26, X26, e26, W26, st26⟩ := stI X6 hx hZ rfl Ar25 (j := (2 : Int32)) hin25 (g := (mkF m 28 #[vR a1, vR a2, vI 3, vI 2, vI 0, vI p18] [(.int p18), (.int 2), (.ref a2)])) rfl rfl (hb hby d25_28)
    have O26 : Old Z n0 h26 := Ou13.wr W26 g_a2
    have V26 : Arv Z h26 a2 k19 .int (3 : Int32) [(.int p18), (.int p18), (.int p18)] (.int (0 : Int32)) := Arv.set Ar25 qk25 Sz25 Nn25 Hh25 Gg25 rfl W26 2 rfl (Nat.le_of_ble_eq_true rfl)
    have N26 := Fr.snoc X26 N6 g_a2
    obtain ⟨cl28, Ar28, qk28, Sz28, Nn28, Hh28, Gg28⟩ := id V26
    have hin28 : ¬ ((0 : Int32) < 0 ∨ cl28.slots.size ≤ ((0 : Int32)).toNatClampNeg) := inb_of Sz28 ⟨by decide +kernel, by decide +kernel⟩
    obtain ⟨T29, h29, X29, e29, W29, st29⟩ := stI X26 hx hZ e26 Ar28 (j := (0 : Int32)) hin28 (g := (mkF m 34 #[vR a1, vR a2, vI 3, vI 2, vI 0, vI p18] [(.int p18), (.int 0), (.ref a2)])) rfl rfl (hb hby d25_34)
    have O29 : Old Z n0 h29 := O26.wr W29 g_a2
    have V29 : Arv Z h29 a2 k19 .int (3 : Int32) [(.int p18), (.int p18), (.int p18)] (.int (0 : Int32)) := Arv.set Ar28 qk28 Sz28 Nn28 Hh28 Gg28 rfl W29 0 rfl (Nat.le_of_ble_eq_true rfl)
    have N29 := Fr.snoc X29 N26 g_a2
    have f30 : Exa Z h29 a1 C_5 := (Exa.wr W29 (Exa.wr W26 u14))
    have f31 : Fld Z h29 a1 C_5 "state" "J" (.long j8) := (Fld.other W29 (Fld.other W26 u15 (Or.inl (Ne.symm hne21))) (Or.inl (Ne.symm hne21)))
    obtain ⟨_, T32, L32, X32, hQ32, st32⟩ := own_cV X29 hx hZ hown (ww195 hw) (ww196 hw) (notFace_of_selects (args := #[]) (mvT hZ (ww198 hw))) (ww198 hw) (ww197 hw) (ww35 hw) (ww199 hw) f30 (rm26_62 l Z a0 hw a1 j8 h29 n0 O29 f30 f31 g_a1) e29 pd_18 hml (hb hby d25_12) (Ls := #[vR a1, vR a2, vI 3, vI 1, vI 0, vI p18]) (W := 0) (argsL := [(.int 2)]) (rest := [])
    obtain ⟨i33, j34, u35, u36, rfl, u38, Ku39, u40, u41⟩ := hQ32
    have Ou39 : Old Z n0 T32.heap := O29.keep Ku39 (allS g_a1 all0)
    have N32 := Fr.app N29 u38
    have pre42 : ∀ t, Steps p.tables e below (T32.setTop (mkF m 15 #[vR a1, vR a2, vI 3, vI 1, vI 0, vI p18] [(.int i33)])) t → Steps p.tables e below EN t := by
      intro t kt
      refine pre16 t ?_
      refine o_istore X6 hx hby d25_15 (Ls' := #[vR a1, vR a2, vI 3, vI 2, vI 0, .unset]) rfl (o_aloadN X6 hx hby d25_17 rfl rfl (o_iloadN X6 hx hby d25_18 rfl (X6.iaload hx (j := (2 : Int32)) (v := (.int p18)) Ar23.1 (State.isArrayOf_alike hZ.alike Ar23.2.1) Ar23.2.2 hin23 hat23 (g := (mkF m 19 #[vR a1, vR a2, vI 3, vI 2, vI 0, .unset] [(.int 2), (.ref a2)])) rfl rfl (hb hby d25_19) _ (o_istore X6 hx hby d25_20 (Ls' := #[vR a1, vR a2, vI 3, vI 2, vI 0, vI p18]) rfl (o_aloadN X6 hx hby d25_22 rfl rfl (o_iloadN X6 hx hby d25_23 rfl (o_aloadN X6 hx hby d25_24 rfl rfl (o_iload X6 hx hby d25_25 rfl (X6.iaload hx (j := (0 : Int32)) (v := (.int p18)) Ar24.1 (State.isArrayOf_alike hZ.alike Ar24.2.1) Ar24.2.2 hin24 hat24 (g := (mkF m 27 #[vR a1, vR a2, vI 3, vI 2, vI 0, vI p18] [(.int 0), (.ref a2), (.int 2), (.ref a2)])) rfl rfl (hb hby d25_27) _ (st26 _ (o_aloadN X26 hx hby d25_29 rfl rfl (o_iload X26 hx hby d25_30 rfl (o_iload X26 hx hby d25_32 rfl (st29 _ (o_iinc X29 hx hby d25_35 rfl (z := (1 : Int32)) (k' := -1) rfl (by decide +kernel) (Ls' := #[vR a1, vR a2, vI 3, vI 1, vI 0, vI p18]) rfl (o_goto X29 hx hby d25_38 (pc := 38) (pc' := 4) (by decide) (by decide) (o_iloadN X29 hx hby d25_4 rfl (o_ifN X29 hx hby d25_5 (by decide +kernel) (o_aloadN X29 hx hby d25_8 rfl rfl (o_iloadN X29 hx hby d25_9 rfl (o_iconst X29 hx hby d25_10 (x := 1) rfl (o_iadd X29 hx hby d25_11 (z := (2 : Int32)) (by decide +kernel) (st32 _ ?_)))))))))))))))))))))))
      exact kt
    rcases (own_j2 u35 u36) with hq43 | hq43
    · skip
      subst hq43
      have f44 : Arv Z T32.heap a2 k19 .int (3 : Int32) [(.int p18), (.int p18), (.int p18)] (.int (0 : Int32)) := (V29.keep Ku39 (ninS hne21 nin0))
      obtain ⟨cl45, Ar45, -, Sz45, -, Hh45, -⟩ := id f44
      have hin45 : ¬ ((1 : Int32) < 0 ∨ cl45.slots.size ≤ ((1 : Int32)).toNatClampNeg) := inb_of Sz45 ⟨by decide +kernel, by decide +kernel⟩
      have hat45 : cl45.slots[((1 : Int32)).toNatClampNeg]? = some (.int p18) := Has.at Hh45 hin45 rfl
      obtain ⟨cl46, Ar46, -, Sz46, -, Hh46, -⟩ := id f44
      have hin46 : ¬ ((0 : Int32) < 0 ∨ cl46.slots.size ≤ ((0 : Int32)).toNatClampNeg) := inb_of Sz46 ⟨by decide +kernel, by decide +kernel⟩
      have hat46 : cl46.slots[((0 : Int32)).toNatClampNeg]? = some (.int p18) := Has.at Hh46 hin46 rfl
      obtain ⟨cl47, Ar47, qk47, Sz47, Nn47, Hh47, Gg47⟩ := id f44
      have hin47 : ¬ ((1 : Int32) < 0 ∨ cl47.slots.size ≤ ((1 : Int32)).toNatClampNeg) := inb_of Sz47 ⟨by decide +kernel, by decide +kernel⟩
      obtain ⟨T48, h48, X48, e48, W48, st48⟩ := stI X32 hx hZ rfl Ar47 (j := (1 : Int32)) hin47 (g := (mkF m 28 #[vR a1, vR a2, vI 3, vI 1, vI 0, vI p18] [(.int p18), (.int 1), (.ref a2)])) rfl rfl (hb hby d25_28)
      have O48 : Old Z n0 h48 := Ou39.wr W48 g_a2
      have V48 : Arv Z h48 a2 k19 .int (3 : Int32) [(.int p18), (.int p18), (.int p18)] (.int (0 : Int32)) := Arv.set Ar47 qk47 Sz47 Nn47 Hh47 Gg47 rfl W48 1 rfl (Nat.le_of_ble_eq_true rfl)
      have N48 := Fr.snoc X48 N32 g_a2
      obtain ⟨cl49, Ar49, qk49, Sz49, Nn49, Hh49, Gg49⟩ := id V48
      have hin49 : ¬ ((0 : Int32) < 0 ∨ cl49.slots.size ≤ ((0 : Int32)).toNatClampNeg) := inb_of Sz49 ⟨by decide +kernel, by decide +kernel⟩
      obtain ⟨T50, h50, X50, e50, W50, st50⟩ := stI X48 hx hZ e48 Ar49 (j := (0 : Int32)) hin49 (g := (mkF m 34 #[vR a1, vR a2, vI 3, vI 1, vI 0, vI p18] [(.int p18), (.int 0), (.ref a2)])) rfl rfl (hb hby d25_34)
      have O50 : Old Z n0 h50 := O48.wr W50 g_a2
      have V50 : Arv Z h50 a2 k19 .int (3 : Int32) [(.int p18), (.int p18), (.int p18)] (.int (0 : Int32)) := Arv.set Ar49 qk49 Sz49 Nn49 Hh49 Gg49 rfl W50 0 rfl (Nat.le_of_ble_eq_true rfl)
      have N50 := Fr.snoc X50 N48 g_a2
      have f51 : Exa Z h50 a1 C_5 := (Exa.wr W50 (Exa.wr W48 u40))
      have f52 : Fld Z h50 a1 C_5 "state" "J" (.long j34) := (Fld.other W50 (Fld.other W48 u41 (Or.inl (Ne.symm hne21))) (Or.inl (Ne.symm hne21)))
      have f53 : Exa Z h50 a2 "[I" := (Exa.wr W50 (Exa.wr W48 ((Exa.wr W29 (Exa.wr W26 (E_27.keep Ku13))).keep Ku39)))
      refine fin none _ _ _ _ X50 (fun _ => rfl) (fun fs hr => pre42 _ ?_) (own_atH e50 ?_) (by decide) (by decide)
      · refine o_istore X32 hx hby d25_15 (Ls' := #[vR a1, vR a2, vI 3, vI 1, vI 0, vI p18]) rfl (o_aloadN X32 hx hby d25_17 rfl rfl (o_iloadN X32 hx hby d25_18 rfl (X32.iaload hx (j := (1 : Int32)) (v := (.int p18)) Ar45.1 (State.isArrayOf_alike hZ.alike Ar45.2.1) Ar45.2.2 hin45 hat45 (g := (mkF m 19 #[vR a1, vR a2, vI 3, vI 1, vI 0, vI p18] [(.int 1), (.ref a2)])) rfl rfl (hb hby d25_19) _ (o_istore X32 hx hby d25_20 (Ls' := #[vR a1, vR a2, vI 3, vI 1, vI 0, vI p18]) rfl (o_aloadN X32 hx hby d25_22 rfl rfl (o_iloadN X32 hx hby d25_23 rfl (o_aloadN X32 hx hby d25_24 rfl rfl (o_iload X32 hx hby d25_25 rfl (X32.iaload hx (j := (0 : Int32)) (v := (.int p18)) Ar46.1 (State.isArrayOf_alike hZ.alike Ar46.2.1) Ar46.2.2 hin46 hat46 (g := (mkF m 27 #[vR a1, vR a2, vI 3, vI 1, vI 0, vI p18] [(.int 0), (.ref a2), (.int 1), (.ref a2)])) rfl rfl (hb hby d25_27) _ (st48 _ (o_aloadN X48 hx hby d25_29 rfl rfl (o_iload X48 hx hby d25_30 rfl (o_iload X48 hx hby d25_32 rfl (st50 _ (o_iinc X50 hx hby d25_35 rfl (z := (0 : Int32)) (k' := -1) rfl (by decide +kernel) (Ls' := #[vR a1, vR a2, vI 3, vI 0, vI 0, vI p18]) rfl (o_goto X50 hx hby d25_38 (pc := 38) (pc' := 4) (by decide) (by decide) (o_iloadN X50 hx hby d25_4 rfl (o_ifY X50 hx hby d25_5 (pc := 5) (pc' := 41) (by decide +kernel) (by decide) (by decide) ?_))))))))))))))))))
        exact X50.returnOut hx hret (hb hby d25_41) hr
      · exact ⟨j34, rfl, N50, (((((((Keep.refl h0 [a1, a2]).trans Ku13 (allS (Or.inl (List.mem_of_getElem? (i := 0) rfl)) all0)).wr W26 (Or.inl (List.mem_of_getElem? (i := 1) rfl))).wr W29 (Or.inl (List.mem_of_getElem? (i := 1) rfl))).trans Ku39 (allS (Or.inl (List.mem_of_getElem? (i := 0) rfl)) all0)).wr W48 (Or.inl (List.mem_of_getElem? (i := 1) rfl))).wr W50 (Or.inl (List.mem_of_getElem? (i := 1) rfl))), f51, f52, f53, V50⟩
    · skip
      subst hq43
      have f54 : Arv Z T32.heap a2 k19 .int (3 : Int32) [(.int p18), (.int p18), (.int p18)] (.int (0 : Int32)) := (V29.keep Ku39 (ninS hne21 nin0))
      obtain ⟨cl55, Ar55, -, Sz55, -, Hh55, -⟩ := id f54
      have hin55 : ¬ ((1 : Int32) < 0 ∨ cl55.slots.size ≤ ((1 : Int32)).toNatClampNeg) := inb_of Sz55 ⟨by decide +kernel, by decide +kernel⟩
      have hat55 : cl55.slots[((1 : Int32)).toNatClampNeg]? = some (.int p18) := Has.at Hh55 hin55 rfl
      obtain ⟨cl56, Ar56, -, Sz56, -, Hh56, -⟩ := id f54
      have hin56 : ¬ ((1 : Int32) < 0 ∨ cl56.slots.size ≤ ((1 : Int32)).toNatClampNeg) := inb_of Sz56 ⟨by decide +kernel, by decide +kernel⟩
      have hat56 : cl56.slots[((1 : Int32)).toNatClampNeg]? = some (.int p18) := Has.at Hh56 hin56 rfl
      obtain ⟨cl57, Ar57, qk57, Sz57, Nn57, Hh57, Gg57⟩ := id f54
      have hin57 : ¬ ((1 : Int32) < 0 ∨ cl57.slots.size ≤ ((1 : Int32)).toNatClampNeg) := inb_of Sz57 ⟨by decide +kernel, by decide +kernel⟩
      obtain ⟨T58, h58, X58, e58, W58, st58⟩ := stI X32 hx hZ rfl Ar57 (j := (1 : Int32)) hin57 (g := (mkF m 28 #[vR a1, vR a2, vI 3, vI 1, vI 1, vI p18] [(.int p18), (.int 1), (.ref a2)])) rfl rfl (hb hby d25_28)
      have O58 : Old Z n0 h58 := Ou39.wr W58 g_a2
      have V58 : Arv Z h58 a2 k19 .int (3 : Int32) [(.int p18), (.int p18), (.int p18)] (.int (0 : Int32)) := Arv.set Ar57 qk57 Sz57 Nn57 Hh57 Gg57 rfl W58 1 rfl (Nat.le_of_ble_eq_true rfl)
      have N58 := Fr.snoc X58 N32 g_a2
      obtain ⟨cl59, Ar59, qk59, Sz59, Nn59, Hh59, Gg59⟩ := id V58
      have hin59 : ¬ ((1 : Int32) < 0 ∨ cl59.slots.size ≤ ((1 : Int32)).toNatClampNeg) := inb_of Sz59 ⟨by decide +kernel, by decide +kernel⟩
      obtain ⟨T60, h60, X60, e60, W60, st60⟩ := stI X58 hx hZ e58 Ar59 (j := (1 : Int32)) hin59 (g := (mkF m 34 #[vR a1, vR a2, vI 3, vI 1, vI 1, vI p18] [(.int p18), (.int 1), (.ref a2)])) rfl rfl (hb hby d25_34)
      have O60 : Old Z n0 h60 := O58.wr W60 g_a2
      have V60 : Arv Z h60 a2 k19 .int (3 : Int32) [(.int p18), (.int p18), (.int p18)] (.int (0 : Int32)) := Arv.set Ar59 qk59 Sz59 Nn59 Hh59 Gg59 rfl W60 1 rfl (Nat.le_of_ble_eq_true rfl)
      have N60 := Fr.snoc X60 N58 g_a2
      have f61 : Exa Z h60 a1 C_5 := (Exa.wr W60 (Exa.wr W58 u40))
      have f62 : Fld Z h60 a1 C_5 "state" "J" (.long j34) := (Fld.other W60 (Fld.other W58 u41 (Or.inl (Ne.symm hne21))) (Or.inl (Ne.symm hne21)))
      have f63 : Exa Z h60 a2 "[I" := (Exa.wr W60 (Exa.wr W58 ((Exa.wr W29 (Exa.wr W26 (E_27.keep Ku13))).keep Ku39)))
      refine fin none _ _ _ _ X60 (fun _ => rfl) (fun fs hr => pre42 _ ?_) (own_atH e60 ?_) (by decide) (by decide)
      · refine o_istore X32 hx hby d25_15 (Ls' := #[vR a1, vR a2, vI 3, vI 1, vI 1, vI p18]) rfl (o_aloadN X32 hx hby d25_17 rfl rfl (o_iloadN X32 hx hby d25_18 rfl (X32.iaload hx (j := (1 : Int32)) (v := (.int p18)) Ar55.1 (State.isArrayOf_alike hZ.alike Ar55.2.1) Ar55.2.2 hin55 hat55 (g := (mkF m 19 #[vR a1, vR a2, vI 3, vI 1, vI 1, vI p18] [(.int 1), (.ref a2)])) rfl rfl (hb hby d25_19) _ (o_istore X32 hx hby d25_20 (Ls' := #[vR a1, vR a2, vI 3, vI 1, vI 1, vI p18]) rfl (o_aloadN X32 hx hby d25_22 rfl rfl (o_iloadN X32 hx hby d25_23 rfl (o_aloadN X32 hx hby d25_24 rfl rfl (o_iload X32 hx hby d25_25 rfl (X32.iaload hx (j := (1 : Int32)) (v := (.int p18)) Ar56.1 (State.isArrayOf_alike hZ.alike Ar56.2.1) Ar56.2.2 hin56 hat56 (g := (mkF m 27 #[vR a1, vR a2, vI 3, vI 1, vI 1, vI p18] [(.int 1), (.ref a2), (.int 1), (.ref a2)])) rfl rfl (hb hby d25_27) _ (st58 _ (o_aloadN X58 hx hby d25_29 rfl rfl (o_iload X58 hx hby d25_30 rfl (o_iload X58 hx hby d25_32 rfl (st60 _ (o_iinc X60 hx hby d25_35 rfl (z := (0 : Int32)) (k' := -1) rfl (by decide +kernel) (Ls' := #[vR a1, vR a2, vI 3, vI 0, vI 1, vI p18]) rfl (o_goto X60 hx hby d25_38 (pc := 38) (pc' := 4) (by decide) (by decide) (o_iloadN X60 hx hby d25_4 rfl (o_ifY X60 hx hby d25_5 (pc := 5) (pc' := 41) (by decide +kernel) (by decide) (by decide) ?_))))))))))))))))))
        exact X60.returnOut hx hret (hb hby d25_41) hr
      · exact ⟨j34, rfl, N60, (((((((Keep.refl h0 [a1, a2]).trans Ku13 (allS (Or.inl (List.mem_of_getElem? (i := 0) rfl)) all0)).wr W26 (Or.inl (List.mem_of_getElem? (i := 1) rfl))).wr W29 (Or.inl (List.mem_of_getElem? (i := 1) rfl))).trans Ku39 (allS (Or.inl (List.mem_of_getElem? (i := 0) rfl)) all0)).wr W58 (Or.inl (List.mem_of_getElem? (i := 1) rfl))).wr W60 (Or.inl (List.mem_of_getElem? (i := 1) rfl))), f61, f62, f63, V60⟩
  · skip
    subst hq17
    have f64 : Arv Z T6.heap a2 k19 .int (3 : Int32) [(.int p18), (.int p18), (.int p18)] (.int (0 : Int32)) := (V20.keep Ku13 (ninS hne21 nin0))
    obtain ⟨cl65, Ar65, -, Sz65, -, Hh65, -⟩ := id f64
    have hin65 : ¬ ((2 : Int32) < 0 ∨ cl65.slots.size ≤ ((2 : Int32)).toNatClampNeg) := inb_of Sz65 ⟨by decide +kernel, by decide +kernel⟩
    have hat65 : cl65.slots[((2 : Int32)).toNatClampNeg]? = some (.int p18) := Has.at Hh65 hin65 rfl
    obtain ⟨cl66, Ar66, -, Sz66, -, Hh66, -⟩ := id f64
    have hin66 : ¬ ((1 : Int32) < 0 ∨ cl66.slots.size ≤ ((1 : Int32)).toNatClampNeg) := inb_of Sz66 ⟨by decide +kernel, by decide +kernel⟩
    have hat66 : cl66.slots[((1 : Int32)).toNatClampNeg]? = some (.int p18) := Has.at Hh66 hin66 rfl
    obtain ⟨cl67, Ar67, qk67, Sz67, Nn67, Hh67, Gg67⟩ := id f64
    have hin67 : ¬ ((2 : Int32) < 0 ∨ cl67.slots.size ≤ ((2 : Int32)).toNatClampNeg) := inb_of Sz67 ⟨by decide +kernel, by decide +kernel⟩
    obtain ⟨T68, h68, X68, e68, W68, st68⟩ := stI X6 hx hZ rfl Ar67 (j := (2 : Int32)) hin67 (g := (mkF m 28 #[vR a1, vR a2, vI 3, vI 2, vI 1, vI p18] [(.int p18), (.int 2), (.ref a2)])) rfl rfl (hb hby d25_28)
    have O68 : Old Z n0 h68 := Ou13.wr W68 g_a2
    have V68 : Arv Z h68 a2 k19 .int (3 : Int32) [(.int p18), (.int p18), (.int p18)] (.int (0 : Int32)) := Arv.set Ar67 qk67 Sz67 Nn67 Hh67 Gg67 rfl W68 2 rfl (Nat.le_of_ble_eq_true rfl)
    have N68 := Fr.snoc X68 N6 g_a2
    obtain ⟨cl69, Ar69, qk69, Sz69, Nn69, Hh69, Gg69⟩ := id V68
    have hin69 : ¬ ((1 : Int32) < 0 ∨ cl69.slots.size ≤ ((1 : Int32)).toNatClampNeg) := inb_of Sz69 ⟨by decide +kernel, by decide +kernel⟩
    obtain ⟨T70, h70, X70, e70, W70, st70⟩ := stI X68 hx hZ e68 Ar69 (j := (1 : Int32)) hin69 (g := (mkF m 34 #[vR a1, vR a2, vI 3, vI 2, vI 1, vI p18] [(.int p18), (.int 1), (.ref a2)])) rfl rfl (hb hby d25_34)
    have O70 : Old Z n0 h70 := O68.wr W70 g_a2
    have V70 : Arv Z h70 a2 k19 .int (3 : Int32) [(.int p18), (.int p18), (.int p18)] (.int (0 : Int32)) := Arv.set Ar69 qk69 Sz69 Nn69 Hh69 Gg69 rfl W70 1 rfl (Nat.le_of_ble_eq_true rfl)
    have N70 := Fr.snoc X70 N68 g_a2
    have f71 : Exa Z h70 a1 C_5 := (Exa.wr W70 (Exa.wr W68 u14))
    have f72 : Fld Z h70 a1 C_5 "state" "J" (.long j8) := (Fld.other W70 (Fld.other W68 u15 (Or.inl (Ne.symm hne21))) (Or.inl (Ne.symm hne21)))
    obtain ⟨_, T73, L73, X73, hQ73, st73⟩ := own_cV X70 hx hZ hown (ww195 hw) (ww196 hw) (notFace_of_selects (args := #[]) (mvT hZ (ww198 hw))) (ww198 hw) (ww197 hw) (ww35 hw) (ww199 hw) f71 (rm26_62 l Z a0 hw a1 j8 h70 n0 O70 f71 f72 g_a1) e70 pd_18 hml (hb hby d25_12) (Ls := #[vR a1, vR a2, vI 3, vI 1, vI 1, vI p18]) (W := 0) (argsL := [(.int 2)]) (rest := [])
    obtain ⟨i74, j75, u76, u77, rfl, u79, Ku80, u81, u82⟩ := hQ73
    have Ou80 : Old Z n0 T73.heap := O70.keep Ku80 (allS g_a1 all0)
    have N73 := Fr.app N70 u79
    have pre83 : ∀ t, Steps p.tables e below (T73.setTop (mkF m 15 #[vR a1, vR a2, vI 3, vI 1, vI 1, vI p18] [(.int i74)])) t → Steps p.tables e below EN t := by
      intro t kt
      refine pre16 t ?_
      refine o_istore X6 hx hby d25_15 (Ls' := #[vR a1, vR a2, vI 3, vI 2, vI 1, .unset]) rfl (o_aloadN X6 hx hby d25_17 rfl rfl (o_iloadN X6 hx hby d25_18 rfl (X6.iaload hx (j := (2 : Int32)) (v := (.int p18)) Ar65.1 (State.isArrayOf_alike hZ.alike Ar65.2.1) Ar65.2.2 hin65 hat65 (g := (mkF m 19 #[vR a1, vR a2, vI 3, vI 2, vI 1, .unset] [(.int 2), (.ref a2)])) rfl rfl (hb hby d25_19) _ (o_istore X6 hx hby d25_20 (Ls' := #[vR a1, vR a2, vI 3, vI 2, vI 1, vI p18]) rfl (o_aloadN X6 hx hby d25_22 rfl rfl (o_iloadN X6 hx hby d25_23 rfl (o_aloadN X6 hx hby d25_24 rfl rfl (o_iload X6 hx hby d25_25 rfl (X6.iaload hx (j := (1 : Int32)) (v := (.int p18)) Ar66.1 (State.isArrayOf_alike hZ.alike Ar66.2.1) Ar66.2.2 hin66 hat66 (g := (mkF m 27 #[vR a1, vR a2, vI 3, vI 2, vI 1, vI p18] [(.int 1), (.ref a2), (.int 2), (.ref a2)])) rfl rfl (hb hby d25_27) _ (st68 _ (o_aloadN X68 hx hby d25_29 rfl rfl (o_iload X68 hx hby d25_30 rfl (o_iload X68 hx hby d25_32 rfl (st70 _ (o_iinc X70 hx hby d25_35 rfl (z := (1 : Int32)) (k' := -1) rfl (by decide +kernel) (Ls' := #[vR a1, vR a2, vI 3, vI 1, vI 1, vI p18]) rfl (o_goto X70 hx hby d25_38 (pc := 38) (pc' := 4) (by decide) (by decide) (o_iloadN X70 hx hby d25_4 rfl (o_ifN X70 hx hby d25_5 (by decide +kernel) (o_aloadN X70 hx hby d25_8 rfl rfl (o_iloadN X70 hx hby d25_9 rfl (o_iconst X70 hx hby d25_10 (x := 1) rfl (o_iadd X70 hx hby d25_11 (z := (2 : Int32)) (by decide +kernel) (st73 _ ?_)))))))))))))))))))))))
      exact kt
    rcases (own_j2 u76 u77) with hq84 | hq84
    · skip
      subst hq84
      have f85 : Arv Z T73.heap a2 k19 .int (3 : Int32) [(.int p18), (.int p18), (.int p18)] (.int (0 : Int32)) := (V70.keep Ku80 (ninS hne21 nin0))
      obtain ⟨cl86, Ar86, -, Sz86, -, Hh86, -⟩ := id f85
      have hin86 : ¬ ((1 : Int32) < 0 ∨ cl86.slots.size ≤ ((1 : Int32)).toNatClampNeg) := inb_of Sz86 ⟨by decide +kernel, by decide +kernel⟩
      have hat86 : cl86.slots[((1 : Int32)).toNatClampNeg]? = some (.int p18) := Has.at Hh86 hin86 rfl
      obtain ⟨cl87, Ar87, -, Sz87, -, Hh87, -⟩ := id f85
      have hin87 : ¬ ((0 : Int32) < 0 ∨ cl87.slots.size ≤ ((0 : Int32)).toNatClampNeg) := inb_of Sz87 ⟨by decide +kernel, by decide +kernel⟩
      have hat87 : cl87.slots[((0 : Int32)).toNatClampNeg]? = some (.int p18) := Has.at Hh87 hin87 rfl
      obtain ⟨cl88, Ar88, qk88, Sz88, Nn88, Hh88, Gg88⟩ := id f85
      have hin88 : ¬ ((1 : Int32) < 0 ∨ cl88.slots.size ≤ ((1 : Int32)).toNatClampNeg) := inb_of Sz88 ⟨by decide +kernel, by decide +kernel⟩
      obtain ⟨T89, h89, X89, e89, W89, st89⟩ := stI X73 hx hZ rfl Ar88 (j := (1 : Int32)) hin88 (g := (mkF m 28 #[vR a1, vR a2, vI 3, vI 1, vI 0, vI p18] [(.int p18), (.int 1), (.ref a2)])) rfl rfl (hb hby d25_28)
      have O89 : Old Z n0 h89 := Ou80.wr W89 g_a2
      have V89 : Arv Z h89 a2 k19 .int (3 : Int32) [(.int p18), (.int p18), (.int p18)] (.int (0 : Int32)) := Arv.set Ar88 qk88 Sz88 Nn88 Hh88 Gg88 rfl W89 1 rfl (Nat.le_of_ble_eq_true rfl)
      have N89 := Fr.snoc X89 N73 g_a2
      obtain ⟨cl90, Ar90, qk90, Sz90, Nn90, Hh90, Gg90⟩ := id V89
      have hin90 : ¬ ((0 : Int32) < 0 ∨ cl90.slots.size ≤ ((0 : Int32)).toNatClampNeg) := inb_of Sz90 ⟨by decide +kernel, by decide +kernel⟩
      obtain ⟨T91, h91, X91, e91, W91, st91⟩ := stI X89 hx hZ e89 Ar90 (j := (0 : Int32)) hin90 (g := (mkF m 34 #[vR a1, vR a2, vI 3, vI 1, vI 0, vI p18] [(.int p18), (.int 0), (.ref a2)])) rfl rfl (hb hby d25_34)
      have O91 : Old Z n0 h91 := O89.wr W91 g_a2
      have V91 : Arv Z h91 a2 k19 .int (3 : Int32) [(.int p18), (.int p18), (.int p18)] (.int (0 : Int32)) := Arv.set Ar90 qk90 Sz90 Nn90 Hh90 Gg90 rfl W91 0 rfl (Nat.le_of_ble_eq_true rfl)
      have N91 := Fr.snoc X91 N89 g_a2
      have f92 : Exa Z h91 a1 C_5 := (Exa.wr W91 (Exa.wr W89 u81))
      have f93 : Fld Z h91 a1 C_5 "state" "J" (.long j75) := (Fld.other W91 (Fld.other W89 u82 (Or.inl (Ne.symm hne21))) (Or.inl (Ne.symm hne21)))
      have f94 : Exa Z h91 a2 "[I" := (Exa.wr W91 (Exa.wr W89 ((Exa.wr W70 (Exa.wr W68 (E_27.keep Ku13))).keep Ku80)))
      refine fin none _ _ _ _ X91 (fun _ => rfl) (fun fs hr => pre83 _ ?_) (own_atH e91 ?_) (by decide) (by decide)
      · refine o_istore X73 hx hby d25_15 (Ls' := #[vR a1, vR a2, vI 3, vI 1, vI 0, vI p18]) rfl (o_aloadN X73 hx hby d25_17 rfl rfl (o_iloadN X73 hx hby d25_18 rfl (X73.iaload hx (j := (1 : Int32)) (v := (.int p18)) Ar86.1 (State.isArrayOf_alike hZ.alike Ar86.2.1) Ar86.2.2 hin86 hat86 (g := (mkF m 19 #[vR a1, vR a2, vI 3, vI 1, vI 0, vI p18] [(.int 1), (.ref a2)])) rfl rfl (hb hby d25_19) _ (o_istore X73 hx hby d25_20 (Ls' := #[vR a1, vR a2, vI 3, vI 1, vI 0, vI p18]) rfl (o_aloadN X73 hx hby d25_22 rfl rfl (o_iloadN X73 hx hby d25_23 rfl (o_aloadN X73 hx hby d25_24 rfl rfl (o_iload X73 hx hby d25_25 rfl (X73.iaload hx (j := (0 : Int32)) (v := (.int p18)) Ar87.1 (State.isArrayOf_alike hZ.alike Ar87.2.1) Ar87.2.2 hin87 hat87 (g := (mkF m 27 #[vR a1, vR a2, vI 3, vI 1, vI 0, vI p18] [(.int 0), (.ref a2), (.int 1), (.ref a2)])) rfl rfl (hb hby d25_27) _ (st89 _ (o_aloadN X89 hx hby d25_29 rfl rfl (o_iload X89 hx hby d25_30 rfl (o_iload X89 hx hby d25_32 rfl (st91 _ (o_iinc X91 hx hby d25_35 rfl (z := (0 : Int32)) (k' := -1) rfl (by decide +kernel) (Ls' := #[vR a1, vR a2, vI 3, vI 0, vI 0, vI p18]) rfl (o_goto X91 hx hby d25_38 (pc := 38) (pc' := 4) (by decide) (by decide) (o_iloadN X91 hx hby d25_4 rfl (o_ifY X91 hx hby d25_5 (pc := 5) (pc' := 41) (by decide +kernel) (by decide) (by decide) ?_))))))))))))))))))
        exact X91.returnOut hx hret (hb hby d25_41) hr
      · exact ⟨j75, rfl, N91, (((((((Keep.refl h0 [a1, a2]).trans Ku13 (allS (Or.inl (List.mem_of_getElem? (i := 0) rfl)) all0)).wr W68 (Or.inl (List.mem_of_getElem? (i := 1) rfl))).wr W70 (Or.inl (List.mem_of_getElem? (i := 1) rfl))).trans Ku80 (allS (Or.inl (List.mem_of_getElem? (i := 0) rfl)) all0)).wr W89 (Or.inl (List.mem_of_getElem? (i := 1) rfl))).wr W91 (Or.inl (List.mem_of_getElem? (i := 1) rfl))), f92, f93, f94, V91⟩
    · skip
      subst hq84
      have f95 : Arv Z T73.heap a2 k19 .int (3 : Int32) [(.int p18), (.int p18), (.int p18)] (.int (0 : Int32)) := (V70.keep Ku80 (ninS hne21 nin0))
      obtain ⟨cl96, Ar96, -, Sz96, -, Hh96, -⟩ := id f95
      have hin96 : ¬ ((1 : Int32) < 0 ∨ cl96.slots.size ≤ ((1 : Int32)).toNatClampNeg) := inb_of Sz96 ⟨by decide +kernel, by decide +kernel⟩
      have hat96 : cl96.slots[((1 : Int32)).toNatClampNeg]? = some (.int p18) := Has.at Hh96 hin96 rfl
      obtain ⟨cl97, Ar97, -, Sz97, -, Hh97, -⟩ := id f95
      have hin97 : ¬ ((1 : Int32) < 0 ∨ cl97.slots.size ≤ ((1 : Int32)).toNatClampNeg) := inb_of Sz97 ⟨by decide +kernel, by decide +kernel⟩
      have hat97 : cl97.slots[((1 : Int32)).toNatClampNeg]? = some (.int p18) := Has.at Hh97 hin97 rfl
      obtain ⟨cl98, Ar98, qk98, Sz98, Nn98, Hh98, Gg98⟩ := id f95
      have hin98 : ¬ ((1 : Int32) < 0 ∨ cl98.slots.size ≤ ((1 : Int32)).toNatClampNeg) := inb_of Sz98 ⟨by decide +kernel, by decide +kernel⟩
      obtain ⟨T99, h99, X99, e99, W99, st99⟩ := stI X73 hx hZ rfl Ar98 (j := (1 : Int32)) hin98 (g := (mkF m 28 #[vR a1, vR a2, vI 3, vI 1, vI 1, vI p18] [(.int p18), (.int 1), (.ref a2)])) rfl rfl (hb hby d25_28)
      have O99 : Old Z n0 h99 := Ou80.wr W99 g_a2
      have V99 : Arv Z h99 a2 k19 .int (3 : Int32) [(.int p18), (.int p18), (.int p18)] (.int (0 : Int32)) := Arv.set Ar98 qk98 Sz98 Nn98 Hh98 Gg98 rfl W99 1 rfl (Nat.le_of_ble_eq_true rfl)
      have N99 := Fr.snoc X99 N73 g_a2
      obtain ⟨cl100, Ar100, qk100, Sz100, Nn100, Hh100, Gg100⟩ := id V99
      have hin100 : ¬ ((1 : Int32) < 0 ∨ cl100.slots.size ≤ ((1 : Int32)).toNatClampNeg) := inb_of Sz100 ⟨by decide +kernel, by decide +kernel⟩
      obtain ⟨T101, h101, X101, e101, W101, st101⟩ := stI X99 hx hZ e99 Ar100 (j := (1 : Int32)) hin100 (g := (mkF m 34 #[vR a1, vR a2, vI 3, vI 1, vI 1, vI p18] [(.int p18), (.int 1), (.ref a2)])) rfl rfl (hb hby d25_34)
      have O101 : Old Z n0 h101 := O99.wr W101 g_a2
      have V101 : Arv Z h101 a2 k19 .int (3 : Int32) [(.int p18), (.int p18), (.int p18)] (.int (0 : Int32)) := Arv.set Ar100 qk100 Sz100 Nn100 Hh100 Gg100 rfl W101 1 rfl (Nat.le_of_ble_eq_true rfl)
      have N101 := Fr.snoc X101 N99 g_a2
      have f102 : Exa Z h101 a1 C_5 := (Exa.wr W101 (Exa.wr W99 u81))
      have f103 : Fld Z h101 a1 C_5 "state" "J" (.long j75) := (Fld.other W101 (Fld.other W99 u82 (Or.inl (Ne.symm hne21))) (Or.inl (Ne.symm hne21)))
      have f104 : Exa Z h101 a2 "[I" := (Exa.wr W101 (Exa.wr W99 ((Exa.wr W70 (Exa.wr W68 (E_27.keep Ku13))).keep Ku80)))
      refine fin none _ _ _ _ X101 (fun _ => rfl) (fun fs hr => pre83 _ ?_) (own_atH e101 ?_) (by decide) (by decide)
      · refine o_istore X73 hx hby d25_15 (Ls' := #[vR a1, vR a2, vI 3, vI 1, vI 1, vI p18]) rfl (o_aloadN X73 hx hby d25_17 rfl rfl (o_iloadN X73 hx hby d25_18 rfl (X73.iaload hx (j := (1 : Int32)) (v := (.int p18)) Ar96.1 (State.isArrayOf_alike hZ.alike Ar96.2.1) Ar96.2.2 hin96 hat96 (g := (mkF m 19 #[vR a1, vR a2, vI 3, vI 1, vI 1, vI p18] [(.int 1), (.ref a2)])) rfl rfl (hb hby d25_19) _ (o_istore X73 hx hby d25_20 (Ls' := #[vR a1, vR a2, vI 3, vI 1, vI 1, vI p18]) rfl (o_aloadN X73 hx hby d25_22 rfl rfl (o_iloadN X73 hx hby d25_23 rfl (o_aloadN X73 hx hby d25_24 rfl rfl (o_iload X73 hx hby d25_25 rfl (X73.iaload hx (j := (1 : Int32)) (v := (.int p18)) Ar97.1 (State.isArrayOf_alike hZ.alike Ar97.2.1) Ar97.2.2 hin97 hat97 (g := (mkF m 27 #[vR a1, vR a2, vI 3, vI 1, vI 1, vI p18] [(.int 1), (.ref a2), (.int 1), (.ref a2)])) rfl rfl (hb hby d25_27) _ (st99 _ (o_aloadN X99 hx hby d25_29 rfl rfl (o_iload X99 hx hby d25_30 rfl (o_iload X99 hx hby d25_32 rfl (st101 _ (o_iinc X101 hx hby d25_35 rfl (z := (0 : Int32)) (k' := -1) rfl (by decide +kernel) (Ls' := #[vR a1, vR a2, vI 3, vI 0, vI 1, vI p18]) rfl (o_goto X101 hx hby d25_38 (pc := 38) (pc' := 4) (by decide) (by decide) (o_iloadN X101 hx hby d25_4 rfl (o_ifY X101 hx hby d25_5 (pc := 5) (pc' := 41) (by decide +kernel) (by decide) (by decide) ?_))))))))))))))))))
        exact X101.returnOut hx hret (hb hby d25_41) hr
      · exact ⟨j75, rfl, N101, (((((((Keep.refl h0 [a1, a2]).trans Ku13 (allS (Or.inl (List.mem_of_getElem? (i := 0) rfl)) all0)).wr W68 (Or.inl (List.mem_of_getElem? (i := 1) rfl))).wr W70 (Or.inl (List.mem_of_getElem? (i := 1) rfl))).trans Ku80 (allS (Or.inl (List.mem_of_getElem? (i := 0) rfl)) all0)).wr W99 (Or.inl (List.mem_of_getElem? (i := 1) rfl))).wr W101 (Or.inl (List.mem_of_getElem? (i := 1) rfl))), f102, f103, f104, V101⟩
  · skip
    subst hq17
    have f105 : Arv Z T6.heap a2 k19 .int (3 : Int32) [(.int p18), (.int p18), (.int p18)] (.int (0 : Int32)) := (V20.keep Ku13 (ninS hne21 nin0))
    obtain ⟨cl106, Ar106, -, Sz106, -, Hh106, -⟩ := id f105
    have hin106 : ¬ ((2 : Int32) < 0 ∨ cl106.slots.size ≤ ((2 : Int32)).toNatClampNeg) := inb_of Sz106 ⟨by decide +kernel, by decide +kernel⟩
    have hat106 : cl106.slots[((2 : Int32)).toNatClampNeg]? = some (.int p18) := Has.at Hh106 hin106 rfl
    obtain ⟨cl107, Ar107, -, Sz107, -, Hh107, -⟩ := id f105
    have hin107 : ¬ ((2 : Int32) < 0 ∨ cl107.slots.size ≤ ((2 : Int32)).toNatClampNeg) := inb_of Sz107 ⟨by decide +kernel, by decide +kernel⟩
    have hat107 : cl107.slots[((2 : Int32)).toNatClampNeg]? = some (.int p18) := Has.at Hh107 hin107 rfl
    obtain ⟨cl108, Ar108, qk108, Sz108, Nn108, Hh108, Gg108⟩ := id f105
    have hin108 : ¬ ((2 : Int32) < 0 ∨ cl108.slots.size ≤ ((2 : Int32)).toNatClampNeg) := inb_of Sz108 ⟨by decide +kernel, by decide +kernel⟩
    obtain ⟨T109, h109, X109, e109, W109, st109⟩ := stI X6 hx hZ rfl Ar108 (j := (2 : Int32)) hin108 (g := (mkF m 28 #[vR a1, vR a2, vI 3, vI 2, vI 2, vI p18] [(.int p18), (.int 2), (.ref a2)])) rfl rfl (hb hby d25_28)
    have O109 : Old Z n0 h109 := Ou13.wr W109 g_a2
    have V109 : Arv Z h109 a2 k19 .int (3 : Int32) [(.int p18), (.int p18), (.int p18)] (.int (0 : Int32)) := Arv.set Ar108 qk108 Sz108 Nn108 Hh108 Gg108 rfl W109 2 rfl (Nat.le_of_ble_eq_true rfl)
    have N109 := Fr.snoc X109 N6 g_a2
    obtain ⟨cl110, Ar110, qk110, Sz110, Nn110, Hh110, Gg110⟩ := id V109
    have hin110 : ¬ ((2 : Int32) < 0 ∨ cl110.slots.size ≤ ((2 : Int32)).toNatClampNeg) := inb_of Sz110 ⟨by decide +kernel, by decide +kernel⟩
    obtain ⟨T111, h111, X111, e111, W111, st111⟩ := stI X109 hx hZ e109 Ar110 (j := (2 : Int32)) hin110 (g := (mkF m 34 #[vR a1, vR a2, vI 3, vI 2, vI 2, vI p18] [(.int p18), (.int 2), (.ref a2)])) rfl rfl (hb hby d25_34)
    have O111 : Old Z n0 h111 := O109.wr W111 g_a2
    have V111 : Arv Z h111 a2 k19 .int (3 : Int32) [(.int p18), (.int p18), (.int p18)] (.int (0 : Int32)) := Arv.set Ar110 qk110 Sz110 Nn110 Hh110 Gg110 rfl W111 2 rfl (Nat.le_of_ble_eq_true rfl)
    have N111 := Fr.snoc X111 N109 g_a2
    have f112 : Exa Z h111 a1 C_5 := (Exa.wr W111 (Exa.wr W109 u14))
    have f113 : Fld Z h111 a1 C_5 "state" "J" (.long j8) := (Fld.other W111 (Fld.other W109 u15 (Or.inl (Ne.symm hne21))) (Or.inl (Ne.symm hne21)))
    obtain ⟨_, T114, L114, X114, hQ114, st114⟩ := own_cV X111 hx hZ hown (ww195 hw) (ww196 hw) (notFace_of_selects (args := #[]) (mvT hZ (ww198 hw))) (ww198 hw) (ww197 hw) (ww35 hw) (ww199 hw) f112 (rm26_62 l Z a0 hw a1 j8 h111 n0 O111 f112 f113 g_a1) e111 pd_18 hml (hb hby d25_12) (Ls := #[vR a1, vR a2, vI 3, vI 1, vI 2, vI p18]) (W := 0) (argsL := [(.int 2)]) (rest := [])
    obtain ⟨i115, j116, u117, u118, rfl, u120, Ku121, u122, u123⟩ := hQ114
    have Ou121 : Old Z n0 T114.heap := O111.keep Ku121 (allS g_a1 all0)
    have N114 := Fr.app N111 u120
    have pre124 : ∀ t, Steps p.tables e below (T114.setTop (mkF m 15 #[vR a1, vR a2, vI 3, vI 1, vI 2, vI p18] [(.int i115)])) t → Steps p.tables e below EN t := by
      intro t kt
      refine pre16 t ?_
      refine o_istore X6 hx hby d25_15 (Ls' := #[vR a1, vR a2, vI 3, vI 2, vI 2, .unset]) rfl (o_aloadN X6 hx hby d25_17 rfl rfl (o_iloadN X6 hx hby d25_18 rfl (X6.iaload hx (j := (2 : Int32)) (v := (.int p18)) Ar106.1 (State.isArrayOf_alike hZ.alike Ar106.2.1) Ar106.2.2 hin106 hat106 (g := (mkF m 19 #[vR a1, vR a2, vI 3, vI 2, vI 2, .unset] [(.int 2), (.ref a2)])) rfl rfl (hb hby d25_19) _ (o_istore X6 hx hby d25_20 (Ls' := #[vR a1, vR a2, vI 3, vI 2, vI 2, vI p18]) rfl (o_aloadN X6 hx hby d25_22 rfl rfl (o_iloadN X6 hx hby d25_23 rfl (o_aloadN X6 hx hby d25_24 rfl rfl (o_iload X6 hx hby d25_25 rfl (X6.iaload hx (j := (2 : Int32)) (v := (.int p18)) Ar107.1 (State.isArrayOf_alike hZ.alike Ar107.2.1) Ar107.2.2 hin107 hat107 (g := (mkF m 27 #[vR a1, vR a2, vI 3, vI 2, vI 2, vI p18] [(.int 2), (.ref a2), (.int 2), (.ref a2)])) rfl rfl (hb hby d25_27) _ (st109 _ (o_aloadN X109 hx hby d25_29 rfl rfl (o_iload X109 hx hby d25_30 rfl (o_iload X109 hx hby d25_32 rfl (st111 _ (o_iinc X111 hx hby d25_35 rfl (z := (1 : Int32)) (k' := -1) rfl (by decide +kernel) (Ls' := #[vR a1, vR a2, vI 3, vI 1, vI 2, vI p18]) rfl (o_goto X111 hx hby d25_38 (pc := 38) (pc' := 4) (by decide) (by decide) (o_iloadN X111 hx hby d25_4 rfl (o_ifN X111 hx hby d25_5 (by decide +kernel) (o_aloadN X111 hx hby d25_8 rfl rfl (o_iloadN X111 hx hby d25_9 rfl (o_iconst X111 hx hby d25_10 (x := 1) rfl (o_iadd X111 hx hby d25_11 (z := (2 : Int32)) (by decide +kernel) (st114 _ ?_)))))))))))))))))))))))
      exact kt
    rcases (own_j2 u117 u118) with hq125 | hq125
    · skip
      subst hq125
      have f126 : Arv Z T114.heap a2 k19 .int (3 : Int32) [(.int p18), (.int p18), (.int p18)] (.int (0 : Int32)) := (V111.keep Ku121 (ninS hne21 nin0))
      obtain ⟨cl127, Ar127, -, Sz127, -, Hh127, -⟩ := id f126
      have hin127 : ¬ ((1 : Int32) < 0 ∨ cl127.slots.size ≤ ((1 : Int32)).toNatClampNeg) := inb_of Sz127 ⟨by decide +kernel, by decide +kernel⟩
      have hat127 : cl127.slots[((1 : Int32)).toNatClampNeg]? = some (.int p18) := Has.at Hh127 hin127 rfl
      obtain ⟨cl128, Ar128, -, Sz128, -, Hh128, -⟩ := id f126
      have hin128 : ¬ ((0 : Int32) < 0 ∨ cl128.slots.size ≤ ((0 : Int32)).toNatClampNeg) := inb_of Sz128 ⟨by decide +kernel, by decide +kernel⟩
      have hat128 : cl128.slots[((0 : Int32)).toNatClampNeg]? = some (.int p18) := Has.at Hh128 hin128 rfl
      obtain ⟨cl129, Ar129, qk129, Sz129, Nn129, Hh129, Gg129⟩ := id f126
      have hin129 : ¬ ((1 : Int32) < 0 ∨ cl129.slots.size ≤ ((1 : Int32)).toNatClampNeg) := inb_of Sz129 ⟨by decide +kernel, by decide +kernel⟩
      obtain ⟨T130, h130, X130, e130, W130, st130⟩ := stI X114 hx hZ rfl Ar129 (j := (1 : Int32)) hin129 (g := (mkF m 28 #[vR a1, vR a2, vI 3, vI 1, vI 0, vI p18] [(.int p18), (.int 1), (.ref a2)])) rfl rfl (hb hby d25_28)
      have O130 : Old Z n0 h130 := Ou121.wr W130 g_a2
      have V130 : Arv Z h130 a2 k19 .int (3 : Int32) [(.int p18), (.int p18), (.int p18)] (.int (0 : Int32)) := Arv.set Ar129 qk129 Sz129 Nn129 Hh129 Gg129 rfl W130 1 rfl (Nat.le_of_ble_eq_true rfl)
      have N130 := Fr.snoc X130 N114 g_a2
      obtain ⟨cl131, Ar131, qk131, Sz131, Nn131, Hh131, Gg131⟩ := id V130
      have hin131 : ¬ ((0 : Int32) < 0 ∨ cl131.slots.size ≤ ((0 : Int32)).toNatClampNeg) := inb_of Sz131 ⟨by decide +kernel, by decide +kernel⟩
      obtain ⟨T132, h132, X132, e132, W132, st132⟩ := stI X130 hx hZ e130 Ar131 (j := (0 : Int32)) hin131 (g := (mkF m 34 #[vR a1, vR a2, vI 3, vI 1, vI 0, vI p18] [(.int p18), (.int 0), (.ref a2)])) rfl rfl (hb hby d25_34)
      have O132 : Old Z n0 h132 := O130.wr W132 g_a2
      have V132 : Arv Z h132 a2 k19 .int (3 : Int32) [(.int p18), (.int p18), (.int p18)] (.int (0 : Int32)) := Arv.set Ar131 qk131 Sz131 Nn131 Hh131 Gg131 rfl W132 0 rfl (Nat.le_of_ble_eq_true rfl)
      have N132 := Fr.snoc X132 N130 g_a2
      have f133 : Exa Z h132 a1 C_5 := (Exa.wr W132 (Exa.wr W130 u122))
      have f134 : Fld Z h132 a1 C_5 "state" "J" (.long j116) := (Fld.other W132 (Fld.other W130 u123 (Or.inl (Ne.symm hne21))) (Or.inl (Ne.symm hne21)))
      have f135 : Exa Z h132 a2 "[I" := (Exa.wr W132 (Exa.wr W130 ((Exa.wr W111 (Exa.wr W109 (E_27.keep Ku13))).keep Ku121)))
      refine fin none _ _ _ _ X132 (fun _ => rfl) (fun fs hr => pre124 _ ?_) (own_atH e132 ?_) (by decide) (by decide)
      · refine o_istore X114 hx hby d25_15 (Ls' := #[vR a1, vR a2, vI 3, vI 1, vI 0, vI p18]) rfl (o_aloadN X114 hx hby d25_17 rfl rfl (o_iloadN X114 hx hby d25_18 rfl (X114.iaload hx (j := (1 : Int32)) (v := (.int p18)) Ar127.1 (State.isArrayOf_alike hZ.alike Ar127.2.1) Ar127.2.2 hin127 hat127 (g := (mkF m 19 #[vR a1, vR a2, vI 3, vI 1, vI 0, vI p18] [(.int 1), (.ref a2)])) rfl rfl (hb hby d25_19) _ (o_istore X114 hx hby d25_20 (Ls' := #[vR a1, vR a2, vI 3, vI 1, vI 0, vI p18]) rfl (o_aloadN X114 hx hby d25_22 rfl rfl (o_iloadN X114 hx hby d25_23 rfl (o_aloadN X114 hx hby d25_24 rfl rfl (o_iload X114 hx hby d25_25 rfl (X114.iaload hx (j := (0 : Int32)) (v := (.int p18)) Ar128.1 (State.isArrayOf_alike hZ.alike Ar128.2.1) Ar128.2.2 hin128 hat128 (g := (mkF m 27 #[vR a1, vR a2, vI 3, vI 1, vI 0, vI p18] [(.int 0), (.ref a2), (.int 1), (.ref a2)])) rfl rfl (hb hby d25_27) _ (st130 _ (o_aloadN X130 hx hby d25_29 rfl rfl (o_iload X130 hx hby d25_30 rfl (o_iload X130 hx hby d25_32 rfl (st132 _ (o_iinc X132 hx hby d25_35 rfl (z := (0 : Int32)) (k' := -1) rfl (by decide +kernel) (Ls' := #[vR a1, vR a2, vI 3, vI 0, vI 0, vI p18]) rfl (o_goto X132 hx hby d25_38 (pc := 38) (pc' := 4) (by decide) (by decide) (o_iloadN X132 hx hby d25_4 rfl (o_ifY X132 hx hby d25_5 (pc := 5) (pc' := 41) (by decide +kernel) (by decide) (by decide) ?_))))))))))))))))))
        exact X132.returnOut hx hret (hb hby d25_41) hr
      · exact ⟨j116, rfl, N132, (((((((Keep.refl h0 [a1, a2]).trans Ku13 (allS (Or.inl (List.mem_of_getElem? (i := 0) rfl)) all0)).wr W109 (Or.inl (List.mem_of_getElem? (i := 1) rfl))).wr W111 (Or.inl (List.mem_of_getElem? (i := 1) rfl))).trans Ku121 (allS (Or.inl (List.mem_of_getElem? (i := 0) rfl)) all0)).wr W130 (Or.inl (List.mem_of_getElem? (i := 1) rfl))).wr W132 (Or.inl (List.mem_of_getElem? (i := 1) rfl))), f133, f134, f135, V132⟩
    · skip
      subst hq125
      have f136 : Arv Z T114.heap a2 k19 .int (3 : Int32) [(.int p18), (.int p18), (.int p18)] (.int (0 : Int32)) := (V111.keep Ku121 (ninS hne21 nin0))
      obtain ⟨cl137, Ar137, -, Sz137, -, Hh137, -⟩ := id f136
      have hin137 : ¬ ((1 : Int32) < 0 ∨ cl137.slots.size ≤ ((1 : Int32)).toNatClampNeg) := inb_of Sz137 ⟨by decide +kernel, by decide +kernel⟩
      have hat137 : cl137.slots[((1 : Int32)).toNatClampNeg]? = some (.int p18) := Has.at Hh137 hin137 rfl
      obtain ⟨cl138, Ar138, -, Sz138, -, Hh138, -⟩ := id f136
      have hin138 : ¬ ((1 : Int32) < 0 ∨ cl138.slots.size ≤ ((1 : Int32)).toNatClampNeg) := inb_of Sz138 ⟨by decide +kernel, by decide +kernel⟩
      have hat138 : cl138.slots[((1 : Int32)).toNatClampNeg]? = some (.int p18) := Has.at Hh138 hin138 rfl
      obtain ⟨cl139, Ar139, qk139, Sz139, Nn139, Hh139, Gg139⟩ := id f136
      have hin139 : ¬ ((1 : Int32) < 0 ∨ cl139.slots.size ≤ ((1 : Int32)).toNatClampNeg) := inb_of Sz139 ⟨by decide +kernel, by decide +kernel⟩
      obtain ⟨T140, h140, X140, e140, W140, st140⟩ := stI X114 hx hZ rfl Ar139 (j := (1 : Int32)) hin139 (g := (mkF m 28 #[vR a1, vR a2, vI 3, vI 1, vI 1, vI p18] [(.int p18), (.int 1), (.ref a2)])) rfl rfl (hb hby d25_28)
      have O140 : Old Z n0 h140 := Ou121.wr W140 g_a2
      have V140 : Arv Z h140 a2 k19 .int (3 : Int32) [(.int p18), (.int p18), (.int p18)] (.int (0 : Int32)) := Arv.set Ar139 qk139 Sz139 Nn139 Hh139 Gg139 rfl W140 1 rfl (Nat.le_of_ble_eq_true rfl)
      have N140 := Fr.snoc X140 N114 g_a2
      obtain ⟨cl141, Ar141, qk141, Sz141, Nn141, Hh141, Gg141⟩ := id V140
      have hin141 : ¬ ((1 : Int32) < 0 ∨ cl141.slots.size ≤ ((1 : Int32)).toNatClampNeg) := inb_of Sz141 ⟨by decide +kernel, by decide +kernel⟩
      obtain ⟨T142, h142, X142, e142, W142, st142⟩ := stI X140 hx hZ e140 Ar141 (j := (1 : Int32)) hin141 (g := (mkF m 34 #[vR a1, vR a2, vI 3, vI 1, vI 1, vI p18] [(.int p18), (.int 1), (.ref a2)])) rfl rfl (hb hby d25_34)
      have O142 : Old Z n0 h142 := O140.wr W142 g_a2
      have V142 : Arv Z h142 a2 k19 .int (3 : Int32) [(.int p18), (.int p18), (.int p18)] (.int (0 : Int32)) := Arv.set Ar141 qk141 Sz141 Nn141 Hh141 Gg141 rfl W142 1 rfl (Nat.le_of_ble_eq_true rfl)
      have N142 := Fr.snoc X142 N140 g_a2
      have f143 : Exa Z h142 a1 C_5 := (Exa.wr W142 (Exa.wr W140 u122))
      have f144 : Fld Z h142 a1 C_5 "state" "J" (.long j116) := (Fld.other W142 (Fld.other W140 u123 (Or.inl (Ne.symm hne21))) (Or.inl (Ne.symm hne21)))
      have f145 : Exa Z h142 a2 "[I" := (Exa.wr W142 (Exa.wr W140 ((Exa.wr W111 (Exa.wr W109 (E_27.keep Ku13))).keep Ku121)))
      refine fin none _ _ _ _ X142 (fun _ => rfl) (fun fs hr => pre124 _ ?_) (own_atH e142 ?_) (by decide) (by decide)
      · refine o_istore X114 hx hby d25_15 (Ls' := #[vR a1, vR a2, vI 3, vI 1, vI 1, vI p18]) rfl (o_aloadN X114 hx hby d25_17 rfl rfl (o_iloadN X114 hx hby d25_18 rfl (X114.iaload hx (j := (1 : Int32)) (v := (.int p18)) Ar137.1 (State.isArrayOf_alike hZ.alike Ar137.2.1) Ar137.2.2 hin137 hat137 (g := (mkF m 19 #[vR a1, vR a2, vI 3, vI 1, vI 1, vI p18] [(.int 1), (.ref a2)])) rfl rfl (hb hby d25_19) _ (o_istore X114 hx hby d25_20 (Ls' := #[vR a1, vR a2, vI 3, vI 1, vI 1, vI p18]) rfl (o_aloadN X114 hx hby d25_22 rfl rfl (o_iloadN X114 hx hby d25_23 rfl (o_aloadN X114 hx hby d25_24 rfl rfl (o_iload X114 hx hby d25_25 rfl (X114.iaload hx (j := (1 : Int32)) (v := (.int p18)) Ar138.1 (State.isArrayOf_alike hZ.alike Ar138.2.1) Ar138.2.2 hin138 hat138 (g := (mkF m 27 #[vR a1, vR a2, vI 3, vI 1, vI 1, vI p18] [(.int 1), (.ref a2), (.int 1), (.ref a2)])) rfl rfl (hb hby d25_27) _ (st140 _ (o_aloadN X140 hx hby d25_29 rfl rfl (o_iload X140 hx hby d25_30 rfl (o_iload X140 hx hby d25_32 rfl (st142 _ (o_iinc X142 hx hby d25_35 rfl (z := (0 : Int32)) (k' := -1) rfl (by decide +kernel) (Ls' := #[vR a1, vR a2, vI 3, vI 0, vI 1, vI p18]) rfl (o_goto X142 hx hby d25_38 (pc := 38) (pc' := 4) (by decide) (by decide) (o_iloadN X142 hx hby d25_4 rfl (o_ifY X142 hx hby d25_5 (pc := 5) (pc' := 41) (by decide +kernel) (by decide) (by decide) ?_))))))))))))))))))
        exact X142.returnOut hx hret (hb hby d25_41) hr
      · exact ⟨j116, rfl, N142, (((((((Keep.refl h0 [a1, a2]).trans Ku13 (allS (Or.inl (List.mem_of_getElem? (i := 0) rfl)) all0)).wr W109 (Or.inl (List.mem_of_getElem? (i := 1) rfl))).wr W111 (Or.inl (List.mem_of_getElem? (i := 1) rfl))).trans Ku121 (allS (Or.inl (List.mem_of_getElem? (i := 0) rfl)) all0)).wr W140 (Or.inl (List.mem_of_getElem? (i := 1) rfl))).wr W142 (Or.inl (List.mem_of_getElem? (i := 1) rfl))), f143, f144, f145, V142⟩
def Q13_93 (Z : State) (a1 : Addr) (a6 : Addr) (a9 : Addr) (p13 : Int32) (k14 : ClassId) (p16 : Int32) (p17 : Int32) (p18 : Int32) (k19 : ClassId) (a27 : Addr) (a29 : Addr) (q44 : Int64) (h0 : Heap) (n0 : Nat) (v : Option Value) (h : Heap) (L : List Loc) : Prop := (∃ (j53 : Int64), v = some (.int p13) ∧ Fr n0 L ∧ Keep h0 h [a9, a1, a27] ∧ Exa Z h a9 "[I" ∧ Arv Z h a9 k19 .int (3 : Int32) [(.int p13), (.int p13), (.int p13)] (.int (0 : Int32)) ∧ Exa Z h a1 C_3 ∧ Fld Z h a1 C_3 "deck" "[I" (.ref a9) ∧ Fld Z h a1 C_3 "deckSize" "I" (.int 2) ∧ Fld Z h a1 C_3 "discard" "[I" (.ref a6) ∧ Fld Z h a1 C_3 "discardSize" "I" (.int 0) ∧ Fld Z h a1 C_3 "generator" C_4 (.ref a27) ∧ Fld Z h a1 C_3 "market" "[I" (.ref a29) ∧ Exa Z h a27 C_5 ∧ Fld Z h a27 C_5 "state" "J" (.long j53))
theorem rm13_93 (l : Launch) (Z : State) (a0 : Array Value) (hw : own_HW Z a0) (a1 : Addr) (a6 : Addr) (a9 : Addr) (p13 : Int32) (k14 : ClassId) (p16 : Int32) (p17 : Int32) (p18 : Int32) (k19 : ClassId) (a27 : Addr) (a29 : Addr) (q44 : Int64) (h0 : Heap) (n0 : Nat) (O0 : Old Z n0 h0) (F2 : Fld Z h0 a1 C_3 "deckSize" "I" (.int 0)) (F4 : Fld Z h0 a1 C_3 "discardSize" "I" (.int 3)) (F7 : Fld Z h0 a1 C_3 "discard" "[I" (.ref a6)) (F10 : Fld Z h0 a1 C_3 "deck" "[I" (.ref a9)) (V15 : Arv Z h0 a6 k14 .int (3 : Int32) [(.int p13), (.int p13), (.int p13)] (.int (0 : Int32))) (V20 : Arv Z h0 a9 k19 .int (3 : Int32) [(.int p16), (.int p17), (.int p18)] (.int (0 : Int32))) (E_21 : Exa Z h0 a9 "[I") (g_a9 : n0 ≤ a9) (hne23 : a1 ≠ a9) (E_26 : Exa Z h0 a1 C_3) (F28 : Fld Z h0 a1 C_3 "generator" C_4 (.ref a27)) (F30 : Fld Z h0 a1 C_3 "market" "[I" (.ref a29)) (g_a1 : n0 ≤ a1) (E_43 : Exa Z h0 a27 C_5) (F45 : Fld Z h0 a27 C_5 "state" "J" (.long q44)) (hne46 : a9 ≠ a27) (g_a27 : n0 ≤ a27) (hne48 : a27 ≠ a1) : own_Met l Z M_14 bc13 1 (some .int) ({ frames := 4, cells := 0, slots := 0, locals := 59 } : Room) #[(.ref a1)] h0 (Q13_93 Z a1 a6 a9 p13 k14 p16 p17 p18 k19 a27 a29 q44 h0 n0) := by
  refine own_body (L0 := #[vR a1]) (plainFor_of_name pn_6) (fun m => by first | (simp [entryFrame, mkF, argsToLocals, Value.category]; done) | rfl) fun p e s m below meth c s₁ EN hx hby hml hown hnm hret X0 hZ e0 hh pre0 fin => ?_
  have N0 := Fr.nil n0
  obtain ⟨T3, X3, e3, st3⟩ := getF X0 hx hZ hown (host := "") (Or.inl (ww111 hw)) Via.refl e0 F2 (g := (mkF m 1 #[vR a1] [(.ref a1)])) rfl rfl (hb hby d13_1)
  obtain ⟨T5, X5, e5, st5⟩ := getF X3 hx hZ hown (host := "") (Or.inl (ww113 hw)) Via.refl e3 F4 (g := (mkF m 8 #[vR a1] [(.ref a1)])) rfl rfl (hb hby d13_8)
  obtain ⟨T8, X8, e8, st8⟩ := getF X5 hx hZ hown (host := "") (Or.inl (ww64 hw)) Via.refl e5 F7 (g := (mkF m 17 #[vR a1] [(.ref a1)])) rfl rfl (hb hby d13_17)
  obtain ⟨T11, X11, e11, st11⟩ := getF X8 hx hZ hown (host := "") (Or.inl (ww62 hw)) Via.refl e8 F10 (g := (mkF m 22 #[vR a1] [(.ref a1), (.int 0), (.ref a6)])) rfl rfl (hb hby d13_22)
  obtain ⟨T12, X12, e12, st12⟩ := getF X11 hx hZ hown (host := "") (Or.inl (ww113 hw)) Via.refl e11 F4 (g := (mkF m 27 #[vR a1] [(.ref a1), (.int 0), (.ref a9), (.int 0), (.ref a6)])) rfl rfl (hb hby d13_27)
  obtain ⟨T22, h22, L22, X22, e22, N22, Ku22, V22, st22⟩ := cpA X12 hx hZ hown (ww186 hw) (ww189 hw) (ww187 hw) (ww188 hw) e12 (sp := (0 : Int32)) (dp := (0 : Int32)) (nn := (3 : Int32)) (us := [(.int p13), (.int p13), (.int p13)]) V15 V20 (Or.inl ⟨rfl, rfl⟩) (by decide +kernel) (by decide +kernel) (by decide +kernel) (by decide +kernel) (by decide +kernel) rfl (Nat.le_of_ble_eq_true rfl) N0 g_a9 (g := (mkF m 30 #[vR a1] [(.int 3), (.int 0), (.ref a9), (.int 0), (.ref a6)])) rfl (by rw [hml]; rfl) rfl (hb hby d13_30) (by decide) (W := 0) (by show 2 * 0 + _ ≤ _; exact Nat.le_of_eq rfl) (by decide +kernel)
  have Ou22 : Old Z n0 h22 := O0.keep Ku22 (allS g_a9 all0)
  have Vc22 : Arv Z h22 a9 k19 .int (3 : Int32) [(.int p13), (.int p13), (.int p13)] (.int (0 : Int32)) := V22
  have f24 : Fld Z h22 a1 C_3 "discardSize" "I" (.int 3) := (F4.keep Ku22 (ninS hne23 nin0))
  obtain ⟨T25, X25, e25, st25⟩ := getF X22 hx hZ hown (host := "") (Or.inl (ww113 hw)) Via.refl e22 f24 (g := (mkF m 35 #[vR a1] [(.ref a1), (.ref a1)])) rfl rfl (hb hby d13_35)
  have f31 : Fld Z h22 a1 C_3 "deckSize" "I" (.int 0) := (F2.keep Ku22 (ninS hne23 nin0))
  have f32 : Exa Z h22 a1 C_3 := (E_26.keep Ku22)
  obtain ⟨T33, h33, X33, e33, W33, st33⟩ := putF X25 hx hZ hown (host := "") (Or.inl (ww111 hw)) Via.refl e25 f31 f32 (Or.inl (ww112 hw)) (ww31 hw) (ty := .int) (by decide) rfl rfl (g := (mkF m 38 #[vR a1] [(.int 3), (.ref a1)])) rfl rfl (hb hby d13_38)
  have O33 : Old Z n0 h33 := Ou22.wr W33 g_a1
  have Fw33 : Fld Z h33 a1 C_3 "deckSize" "I" (.int 3) := Fld.same W33 f31
  have N33 := Fr.snoc X33 N22 g_a1
  have f34 : Fld Z h33 a1 C_3 "discardSize" "I" (.int 3) := (Fld.other W33 f24 (Or.inr (own_sl41 hw)))
  have f35 : Exa Z h33 a1 C_3 := (Exa.wr W33 f32)
  obtain ⟨T36, h36, X36, e36, W36, st36⟩ := putF X33 hx hZ hown (host := "") (Or.inl (ww113 hw)) Via.refl e33 f34 f35 (Or.inl (ww114 hw)) (ww31 hw) (ty := .int) (by decide) rfl rfl (g := (mkF m 43 #[vR a1] [(.int 0), (.ref a1)])) rfl rfl (hb hby d13_43)
  have O36 : Old Z n0 h36 := O33.wr W36 g_a1
  have Fw36 : Fld Z h36 a1 C_3 "discardSize" "I" (.int 0) := Fld.same W36 f34
  have N36 := Fr.snoc X36 N33 g_a1
  have f37 : Fld Z h36 a1 C_3 "generator" C_4 (.ref a27) := (Fld.other W36 (Fld.other W33 (F28.keep Ku22 (ninS hne23 nin0)) (Or.inr (own_sl42 hw))) (Or.inr (own_sl46 hw)))
  obtain ⟨T38, X38, e38, st38⟩ := getF X36 hx hZ hown (host := "") (Or.inl (ww49 hw)) Via.refl e36 f37 (g := (mkF m 47 #[vR a1] [(.ref a1)])) rfl rfl (hb hby d13_47)
  have f39 : Fld Z h36 a1 C_3 "deck" "[I" (.ref a9) := (Fld.other W36 (Fld.other W33 (F10.keep Ku22 (ninS hne23 nin0)) (Or.inr (own_sl39 hw))) (Or.inr (own_sl43 hw)))
  obtain ⟨T40, X40, e40, st40⟩ := getF X38 hx hZ hown (host := "") (Or.inl (ww62 hw)) Via.refl e38 f39 (g := (mkF m 51 #[vR a1] [(.ref a1), (.ref a27)])) rfl rfl (hb hby d13_51)
  have f41 : Fld Z h36 a1 C_3 "deckSize" "I" (.int 3) := (Fld.other W36 Fw33 (Or.inr (own_sl44 hw)))
  obtain ⟨T42, X42, e42, st42⟩ := getF X40 hx hZ hown (host := "") (Or.inl (ww111 hw)) Via.refl e40 f41 (g := (mkF m 55 #[vR a1] [(.ref a1), (.ref a9), (.ref a27)])) rfl rfl (hb hby d13_55)
  have f47 : Exa Z h36 a27 C_5 := (Exa.wr W36 (Exa.wr W33 (E_43.keep Ku22)))
  have f49 : Fld Z h36 a27 C_5 "state" "J" (.long q44) := (Fld.other W36 (Fld.other W33 (F45.keep Ku22 (ninS (Ne.symm hne46) nin0)) (Or.inl hne48)) (Or.inl hne48))
  have f50 : Arv Z h36 a9 k19 .int (3 : Int32) [(.int p13), (.int p13), (.int p13)] (.int (0 : Int32)) := ((Vc22.other W33 (Ne.symm hne23)).other W36 (Ne.symm hne23))
  have f51 : Exa Z h36 a9 "[I" := (Exa.wr W36 (Exa.wr W33 (E_21.keep Ku22)))
  obtain ⟨_, T52, L52, X52, hQ52, st52⟩ := own_cV X42 hx hZ hown (ww190 hw) (ww191 hw) (notFace_of_selects (args := #[]) (mvT hZ (ww193 hw))) (ww193 hw) (ww192 hw) (ww35 hw) (ww194 hw) f47 (rm25_94 l Z a0 hw a27 a9 q44 p13 k19 h36 n0 O36 f47 f49 g_a27 f50 hne46 g_a9 f51) e42 pd_7 hml (hb hby d13_58) (Ls := #[vR a1]) (W := 0) (argsL := [(.ref a9), (.int 3)]) (rest := [])
  obtain ⟨j53, rfl, u55, Ku56, u57, u58, u59, u60⟩ := hQ52
  have Ou56 : Old Z n0 T52.heap := O36.keep Ku56 (allS g_a27 (allS g_a9 all0))
  have N52 := Fr.app N36 u55
  have f61 : Fld Z T52.heap a1 C_3 "deck" "[I" (.ref a9) := (f39.keep Ku56 (ninS (Ne.symm hne48) (ninS hne23 nin0)))
  obtain ⟨T62, X62, e62, st62⟩ := getF X52 hx hZ hown (host := "") (Or.inl (ww62 hw)) Via.refl rfl f61 (g := (mkF m 62 #[vR a1] [(.ref a1)])) rfl rfl (hb hby d13_62)
  have f63 : Fld Z T52.heap a1 C_3 "deckSize" "I" (.int 3) := (f41.keep Ku56 (ninS (Ne.symm hne48) (ninS hne23 nin0)))
  obtain ⟨T64, X64, e64, st64⟩ := getF X62 hx hZ hown (host := "") (Or.inl (ww111 hw)) Via.refl e62 f63 (g := (mkF m 67 #[vR a1] [(.ref a1), (.ref a1), (.ref a9)])) rfl rfl (hb hby d13_67)
  have f65 : Exa Z T52.heap a1 C_3 := ((Exa.wr W36 f35).keep Ku56)
  obtain ⟨T66, h66, X66, e66, W66, st66⟩ := putF X64 hx hZ hown (host := "") (Or.inl (ww111 hw)) Via.refl e64 f63 f65 (Or.inl (ww112 hw)) (ww31 hw) (ty := .int) (by decide) rfl rfl (g := (mkF m 73 #[vR a1] [(.int 2), (.ref a1), (.int 2), (.ref a9)])) rfl rfl (hb hby d13_73)
  have O66 : Old Z n0 h66 := Ou56.wr W66 g_a1
  have Fw66 : Fld Z h66 a1 C_3 "deckSize" "I" (.int 2) := Fld.same W66 f63
  have N66 := Fr.snoc X66 N52 g_a1
  have f67 : Arv Z h66 a9 k19 .int (3 : Int32) [(.int p13), (.int p13), (.int p13)] (.int (0 : Int32)) := (u60.other W66 (Ne.symm hne23))
  obtain ⟨cl68, Ar68, -, Sz68, -, Hh68, -⟩ := id f67
  have hin68 : ¬ ((2 : Int32) < 0 ∨ cl68.slots.size ≤ ((2 : Int32)).toNatClampNeg) := inb_of Sz68 ⟨by decide +kernel, by decide +kernel⟩
  have hat68 : cl68.slots[((2 : Int32)).toNatClampNeg]? = some (.int p13) := Has.at Hh68 hin68 rfl
  have f69 : Exa Z h66 a9 "[I" := (Exa.wr W66 u59)
  have f70 : Exa Z h66 a1 C_3 := (Exa.wr W66 f65)
  have f71 : Fld Z h66 a1 C_3 "deck" "[I" (.ref a9) := (Fld.other W66 f61 (Or.inr (own_sl39 hw)))
  have f72 : Fld Z h66 a1 C_3 "discard" "[I" (.ref a6) := (Fld.other W66 ((Fld.other W36 (Fld.other W33 (F7.keep Ku22 (ninS hne23 nin0)) (Or.inr (own_sl40 hw))) (Or.inr (own_sl45 hw))).keep Ku56 (ninS (Ne.symm hne48) (ninS hne23 nin0))) (Or.inr (own_sl40 hw)))
  have f73 : Fld Z h66 a1 C_3 "discardSize" "I" (.int 0) := (Fld.other W66 (Fw36.keep Ku56 (ninS (Ne.symm hne48) (ninS hne23 nin0))) (Or.inr (own_sl41 hw)))
  have f74 : Fld Z h66 a1 C_3 "generator" C_4 (.ref a27) := (Fld.other W66 (f37.keep Ku56 (ninS (Ne.symm hne48) (ninS hne23 nin0))) (Or.inr (own_sl42 hw)))
  have f75 : Fld Z h66 a1 C_3 "market" "[I" (.ref a29) := (Fld.other W66 ((Fld.other W36 (Fld.other W33 (F30.keep Ku22 (ninS hne23 nin0)) (Or.inr (own_sl38 hw))) (Or.inr (own_sl47 hw))).keep Ku56 (ninS (Ne.symm hne48) (ninS hne23 nin0))) (Or.inr (own_sl38 hw)))
  have f76 : Exa Z h66 a27 C_5 := (Exa.wr W66 u57)
  have f77 : Fld Z h66 a27 C_5 "state" "J" (.long j53) := (Fld.other W66 u58 (Or.inl hne48))
  refine fin (some (.int p13)) _ _ _ _ X66 nofun (fun fs hr => pre0 _ ?_) (own_atH e66 ?_) (by decide) (by decide)
  · refine o_aloadN X0 hx hby d13_0 rfl rfl (st3 _ (o_ifN X3 hx hby d13_4 (by decide +kernel) (o_aloadN X3 hx hby d13_7 rfl rfl (st5 _ (o_ifY X5 hx hby d13_11 (pc := 11) (pc' := 16) (by decide +kernel) (by decide) (by decide) (o_aloadN X5 hx hby d13_16 rfl rfl (st8 _ (o_iconst X8 hx hby d13_20 (x := 0) rfl (o_aloadN X8 hx hby d13_21 rfl rfl (st11 _ (o_iconst X11 hx hby d13_25 (x := 0) rfl (o_aloadN X11 hx hby d13_26 rfl rfl (st12 _ (st22 _ (o_aloadN X22 hx hby d13_33 rfl rfl (o_aloadN X22 hx hby d13_34 rfl rfl (st25 _ (st33 _ (o_aloadN X33 hx hby d13_41 rfl rfl (o_iconst X33 hx hby d13_42 (x := 0) rfl (st36 _ (o_aloadN X36 hx hby d13_46 rfl rfl (st38 _ (o_aloadN X38 hx hby d13_50 rfl rfl (st40 _ (o_aloadN X40 hx hby d13_54 rfl rfl (st42 _ (st52 _ (o_aloadN X52 hx hby d13_61 rfl rfl (st62 _ (o_aloadN X62 hx hby d13_65 rfl rfl (o_dup X62 hx hby d13_66 rfl (st64 _ (o_iconst X64 hx hby d13_70 (x := 1) rfl (o_isub X64 hx hby d13_71 (z := (2 : Int32)) (by decide +kernel) (o_dupX1 X64 hx hby d13_72 rfl rfl (st66 _ (X66.iaload hx (j := (2 : Int32)) (v := (.int p13)) (by rw [e66]; exact Ar68.1) (State.isArrayOf_alike hZ.alike Ar68.2.1) Ar68.2.2 hin68 hat68 (g := (mkF m 76 #[vR a1] [(.int 2), (.ref a9)])) rfl rfl (hb hby d13_76) _ ?_))))))))))))))))))))))))))))))))))))))
    exact retI X66 hx hret (hb hby d13_77) hr
  · exact ⟨j53, rfl, N66, ((((((Keep.refl h0 [a9, a1, a27]).trans Ku22 (allS (Or.inl (List.mem_of_getElem? (i := 0) rfl)) all0)).wr W33 (Or.inl (List.mem_of_getElem? (i := 1) rfl))).wr W36 (Or.inl (List.mem_of_getElem? (i := 1) rfl))).trans Ku56 (allS (Or.inl (List.mem_of_getElem? (i := 2) rfl)) (allS (Or.inl (List.mem_of_getElem? (i := 0) rfl)) all0))).wr W66 (Or.inl (List.mem_of_getElem? (i := 1) rfl))), f69, f67, f70, f71, Fw66, f72, f73, f74, f75, f76, f77⟩
def Q0 (Z : State) (p1 : Int32) (p2 : Int32) (p3 : Int32) (p4 : Int32) (p5 : Int32) (q6 : Int64) (a42 : Addr) (a135 : Addr) (a139 : Addr) (a143 : Addr) (a147 : Addr) (k279 : ClassId) (h0 : Heap) (n0 : Nat) (v : Option Value) (h : Heap) (L : List Loc) : Prop := v = some (.int 1) ∧ Fr n0 L
theorem rm0 (l : Launch) (Z : State) (a0 : Array Value) (hw : own_HW Z a0) (ws : List Jvm.Cond) (p1 : Int32) (p2 : Int32) (p3 : Int32) (p4 : Int32) (p5 : Int32) (q6 : Int64) (a42 : Addr) (a135 : Addr) (a139 : Addr) (a143 : Addr) (a147 : Addr) (k279 : ClassId) (h0 : Heap) (n0 : Nat) (O0 : Old Z n0 h0) (S_43 : Sta Z Z.heap C_1 "DEFAULTCAPACITY_EMPTY_ELEMENTDATA" C_2 (.ref a42)) (S_136 : Sta Z Z.heap C_8 "BLUE" C_9 (.ref a135)) (E_137 : Exa Z Z.heap a135 C_8) (F138 : Fld Z Z.heap a135 C_10 "ordinal" "I" (.int 0)) (S_140 : Sta Z Z.heap C_8 "LOCOMOTIVE" C_9 (.ref a139)) (E_141 : Exa Z Z.heap a139 C_8) (F142 : Fld Z Z.heap a139 C_10 "ordinal" "I" (.int 3)) (S_144 : Sta Z Z.heap C_8 "RED" C_9 (.ref a143)) (E_145 : Exa Z Z.heap a143 C_8) (F146 : Fld Z Z.heap a143 C_10 "ordinal" "I" (.int 6)) (S_148 : Sta Z Z.heap C_8 "YELLOW" C_9 (.ref a147)) (E_149 : Exa Z Z.heap a147 C_8) (F150 : Fld Z Z.heap a147 C_10 "ordinal" "I" (.int 8)) (V280 : Arv Z Z.heap a42 k279 (.object "java/lang/Object") (0 : Int32) [] .null) : MetFree l x (head1 (Jvm.Cond.code x code maxLocals ret :: ws) room_1) (fun a U => a = #[(.int p1), (.int p2), (.int p3), (.int p4), (.int p5), (.long q6)] ∧ Z.Warmed39 U.vm ∧ U.heap = h0) (fun _ _ _ _ _ => True) (fun _ U o U' => ∃ v L, o = .returned v ∧ Q0 Z p1 p2 p3 p4 p5 q6 a42 a135 a139 a143 a147 k279 h0 n0 v U'.heap L ∧ FrameEnd U o U' L room_1.cells room_1.slots) := by
  refine own_body (L0 := #[vI p1, vI p2, vI p3, vI p4, vI p5, vJ q6, .second, .unset, .unset, .unset, .unset, .unset, .unset, .unset, .unset, .unset, .unset]) (plainFor_of_name pn_7) (fun m => by first | (simp [entryFrame, mkF, argsToLocals, Value.category, maxLocals]; done) | rfl) fun p e s m below meth c s₁ EN hx hby hml hown hnm hret X0 hZ e0 hh pre0 fin => ?_
  have N0 := Fr.nil n0
  have hml : c.maxLocals = 17 := hml
  have pre8 : ∀ t, Steps p.tables e below (s₁.setTop (mkF m 2 #[vI p1, vI p2, vI p3, vI p4, vI p5, vJ q6, .second, .unset, .unset, .unset, .unset, .unset, .unset, .unset, .unset, .unset, .unset] [(.int 3), (.int p1)])) t → Steps p.tables e below EN t := by
    intro t kt
    refine pre0 t ?_
    refine o_iloadN X0 hx hby at_0 rfl (o_iconst X0 hx hby at_1 (x := 3) rfl ?_)
    exact kt
  rcases (own_and3 p1) with hq7 | hq7 | hq7 | hq7
  · skip
    obtain ⟨i9, hi9⟩ : ∃ z, z = (p2 &&& (3 : Int32)) := ⟨_, rfl⟩
    have pre10 : ∀ t, Steps p.tables e below (s₁.setTop (mkF m 14 #[vI p1, vI p2, vI p3, vI p4, vI p5, vJ q6, .second, vI 0, vI i9, .unset, .unset, .unset, .unset, .unset, .unset, .unset, .unset] [(.int 0), (.int i9)])) t → Steps p.tables e below EN t := by
      intro t kt
      refine pre8 t ?_
      refine o_iand X0 hx hby at_2 (z := (0 : Int32)) hq7 (o_istore X0 hx hby at_3 (Ls' := #[vI p1, vI p2, vI p3, vI p4, vI p5, vJ q6, .second, vI 0, .unset, .unset, .unset, .unset, .unset, .unset, .unset, .unset, .unset]) rfl (o_iloadN X0 hx hby at_5 rfl (o_iconst X0 hx hby at_6 (x := 3) rfl (o_iand X0 hx hby at_7 (z := i9) hi9.symm (o_istore X0 hx hby at_8 (Ls' := #[vI p1, vI p2, vI p3, vI p4, vI p5, vJ q6, .second, vI 0, vI i9, .unset, .unset, .unset, .unset, .unset, .unset, .unset, .unset]) rfl (o_iload X0 hx hby at_10 rfl (o_iload X0 hx hby at_12 rfl ?_)))))))
      exact kt
    have join20 : ∀ (i21 : Int32), (((i9 = (0 : Int32) ∨ i9 = (1 : Int32) ∨ i9 = (2 : Int32) ∨ i9 = (3 : Int32)) ∧ i21 = (0 : Int32))) → ∀ T23 : State, own_SL n0 X0 T23 → T23.heap = h0 → (∀ t, Steps p.tables e below (T23.setTop (mkF m 17 #[vI p1, vI p2, vI p3, vI p4, vI p5, vJ q6, .second, vI 0, vI i9, .unset, .unset, .unset, .unset, .unset, .unset, .unset, .unset] [(.int i21)])) t → Steps p.tables e below EN t) → False := by
      rintro i21 hp22 T23 ⟨_, N23, X23⟩ e23 pre24
      obtain ⟨i25, hi25⟩ : ∃ z, z = (p3 &&& (3 : Int32)) := ⟨_, rfl⟩
      have pre26 : ∀ t, Steps p.tables e below (T23.setTop (mkF m 24 #[vI p1, vI p2, vI p3, vI p4, vI p5, vJ q6, .second, vI 0, vI i9, vI i21, .unset, .unset, .unset, .unset, .unset, .unset, .unset] [(.int i21), (.int i25)])) t → Steps p.tables e below EN t := by
        intro t kt
        refine pre24 t ?_
        refine o_istore X23 hx hby at_17 (Ls' := #[vI p1, vI p2, vI p3, vI p4, vI p5, vJ q6, .second, vI 0, vI i9, vI i21, .unset, .unset, .unset, .unset, .unset, .unset, .unset]) rfl (o_iloadN X23 hx hby at_19 rfl (o_iconst X23 hx hby at_20 (x := 3) rfl (o_iand X23 hx hby at_21 (z := i25) hi25.symm (o_iload X23 hx hby at_22 rfl ?_))))
        exact kt
      have join36 : ∀ (i37 : Int32), ((i37 = 0 ∨ i37 = 1 ∨ i37 = 2 ∨ i37 = 3) ∧ ¬ (i21 < i37)) → ∀ T39 : State, own_SL n0 X23 T39 → T39.heap = h0 → (∀ t, Steps p.tables e below (T39.setTop (mkF m 27 #[vI p1, vI p2, vI p3, vI p4, vI p5, vJ q6, .second, vI 0, vI i9, vI i21, .unset, .unset, .unset, .unset, .unset, .unset, .unset] [(.int i37)])) t → Steps p.tables e below EN t) → False := by
        rintro i37 hp38 T39 ⟨_, N39, X39⟩ e39 pre40
        obtain ⟨T41, h41, X41, e41, E41, A41, D41, -, st41⟩ := newO X39 hx hZ hown (ww4 hw) (ww5 hw) (ww6 hw) e39 (g := (mkF m 29 #[vI p1, vI p2, vI p3, vI p4, vI p5, vJ q6, .second, vI 0, vI i9, vI i21, vI i37, .unset, .unset, .unset, .unset, .unset, .unset] [])) rfl (hb hby at_29) (by decide) (by decide)
        obtain ⟨b41, g41⟩ : ∃ z, z = h0.size := ⟨_, rfl⟩
        rw [← g41] at A41 D41 st41
        have O41 : Old Z n0 h41 := O0.ext E41
        have bd_b41 : h0.size ≤ b41 := Nat.le_of_eq g41.symm
        have g_b41 : n0 ≤ b41 := Nat.le_trans (own_z O0) bd_b41
        have sz_b41 : h0.size ≤ b41 := Nat.le_trans (Nat.le_refl _) bd_b41
        have lt_b41 : b41 < h41.size := A41.lt
        have D41_26 : Fld Z h41 b41 C_0 "modCount" "I" (.int 0) := D41 (Or.inl (ww26 hw)) (ty := .int) (by decide)
        have D41_29 : Fld Z h41 b41 C_1 "elementData" C_2 .null := D41 (Or.inl (ww29 hw)) (ty := (.array (.object "java/lang/Object"))) (by decide)
        have D41_61 : Fld Z h41 b41 C_1 "size" "I" (.int 0) := D41 (Or.inl (ww61 hw)) (ty := .int) (by decide)
        obtain ⟨_, T44, L44, X44, hQ44, st44⟩ := own_cI X41 hx hZ hown (ww7 hw) (ww8 hw) (ww6 hw) (ww9 hw) (rm2_4 l Z a0 hw b41 a42 h41 n0 O41 A41 D41_29 D41_26 D41_61 g_b41 S_43) e41 pd_1 hml (hb hby at_33) (Ls := #[vI p1, vI p2, vI p3, vI p4, vI p5, vJ q6, .second, vI 0, vI i9, vI i21, vI i37, .unset, .unset, .unset, .unset, .unset, .unset]) (W := 1) (argsL := []) (rest := [(.ref b41)]) (b := b41)
        obtain ⟨rfl, u46, Ku47, u48, u49, u50, u51⟩ := hQ44
        have Ou47 : Old Z n0 T44.heap := O41.keep Ku47 (allS g_b41 all0)
        have N44 := Fr.app N39 u46
        obtain ⟨T52, h52, X52, e52, E52, A52, D52, -, st52⟩ := newO X44 hx hZ hown (ww30 hw) (ww31 hw) (ww32 hw) rfl (g := (mkF m 89 #[vI p1, vI p2, vI p3, vI p4, vI p5, vJ q6, .second, vI 0, vI i9, vI i21, vI i37, vR b41, .unset, .unset, .unset, .unset, .unset] [])) rfl (hb hby at_89) (by decide) (by decide)
        obtain ⟨b52, g52⟩ : ∃ z, z = T44.heap.size := ⟨_, rfl⟩
        rw [← g52] at A52 D52 st52
        have O52 : Old Z n0 h52 := Ou47.ext E52
        have bd_b52 : T44.heap.size ≤ b52 := Nat.le_of_eq g52.symm
        have g_b52 : n0 ≤ b52 := Nat.le_trans (own_z Ou47) bd_b52
        have sz_b52 : h0.size ≤ b52 := Nat.le_trans (Nat.le_trans E41.1 Ku47.1) bd_b52
        have lt_b52 : b52 < h52.size := A52.lt
        have D52_48 : Fld Z h52 b52 C_3 "market" "[I" .null := D52 (Or.inr (ww48 hw)) (ty := (.array .int)) (by decide)
        have D52_50 : Fld Z h52 b52 C_3 "generator" C_4 .null := D52 (Or.inr (ww50 hw)) (ty := (.object "com/example/railspan/railspan/game/Generator")) (by decide)
        have D52_63 : Fld Z h52 b52 C_3 "deck" "[I" .null := D52 (Or.inr (ww63 hw)) (ty := (.array .int)) (by decide)
        have D52_65 : Fld Z h52 b52 C_3 "discard" "[I" .null := D52 (Or.inr (ww65 hw)) (ty := (.array .int)) (by decide)
        have D52_112 : Fld Z h52 b52 C_3 "deckSize" "I" (.int 0) := D52 (Or.inl (ww112 hw)) (ty := .int) (by decide)
        have D52_114 : Fld Z h52 b52 C_3 "discardSize" "I" (.int 0) := D52 (Or.inl (ww114 hw)) (ty := .int) (by decide)
        obtain ⟨T53, h53, X53, e53, E53, A53, D53, -, st53⟩ := newO X52 hx hZ hown (ww33 hw) (ww34 hw) (ww35 hw) e52 (g := (mkF m 95 #[vI p1, vI p2, vI p3, vI p4, vI p5, vJ q6, .second, vI 0, vI i9, vI i21, vI i37, vR b41, .unset, .unset, .unset, .unset, .unset] [(.ref b41), (.ref b52), (.ref b52)])) rfl (hb hby at_95) (by decide) (by decide)
        obtain ⟨b53, g53⟩ : ∃ z, z = h52.size := ⟨_, rfl⟩
        rw [← g53] at A53 D53 st53
        have O53 : Old Z n0 h53 := O52.ext E53
        have bd_b53 : h52.size ≤ b53 := Nat.le_of_eq g53.symm
        have g_b53 : n0 ≤ b53 := Nat.le_trans (own_z O52) bd_b53
        have sz_b53 : h0.size ≤ b53 := Nat.le_trans (Nat.le_trans (Nat.le_trans E41.1 Ku47.1) E52.1) bd_b53
        have lt_b53 : b53 < h53.size := A53.lt
        have D53_41 : Fld Z h53 b53 C_5 "state" "J" (.long 0) := D53 (Or.inl (ww41 hw)) (ty := .long) (by decide)
        obtain ⟨_, T54, L54, X54, hQ54, st54⟩ := own_cI X53 hx hZ hown (ww36 hw) (ww37 hw) (ww35 hw) (ww38 hw) (rm6_7 l Z a0 hw b53 q6 h53 n0 O53 A53 D53_41 g_b53) e53 pd_2 hml (hb hby at_101) (Ls := #[vI p1, vI p2, vI p3, vI p4, vI p5, vJ q6, .second, vI 0, vI i9, vI i21, vI i37, vR b41, .unset, .unset, .unset, .unset, .unset]) (W := 4) (argsL := [(.long q6)]) (rest := [(.ref b53), (.ref b41), (.ref b52), (.ref b52)]) (b := b53)
        obtain ⟨rfl, u56, Ku57, u58, u59⟩ := hQ54
        have Ou57 : Old Z n0 T54.heap := O53.keep Ku57 (allS g_b53 all0)
        have N54 := Fr.app N44 u56
        have f60 : Exa Z T54.heap b52 C_3 := ((Exa.ext E53 A52).keep Ku57)
        have f61 : Fld Z T54.heap b52 C_3 "deck" "[I" .null := ((Fld.ext E53 D52_63).keep Ku57 (ninS (own_n lt_b52 bd_b53) nin0))
        have f62 : Fld Z T54.heap b52 C_3 "deckSize" "I" (.int 0) := ((Fld.ext E53 D52_112).keep Ku57 (ninS (own_n lt_b52 bd_b53) nin0))
        have f63 : Fld Z T54.heap b52 C_3 "discard" "[I" .null := ((Fld.ext E53 D52_65).keep Ku57 (ninS (own_n lt_b52 bd_b53) nin0))
        have f64 : Fld Z T54.heap b52 C_3 "discardSize" "I" (.int 0) := ((Fld.ext E53 D52_114).keep Ku57 (ninS (own_n lt_b52 bd_b53) nin0))
        have f65 : Fld Z T54.heap b52 C_3 "generator" C_4 .null := ((Fld.ext E53 D52_50).keep Ku57 (ninS (own_n lt_b52 bd_b53) nin0))
        have f66 : Fld Z T54.heap b52 C_3 "market" "[I" .null := ((Fld.ext E53 D52_48).keep Ku57 (ninS (own_n lt_b52 bd_b53) nin0))
        have f67 : Exa Z T54.heap b41 C_1 := ((Exa.ext E53 (Exa.ext E52 u48)).keep Ku57)
        have f68 : Fld Z T54.heap b41 C_1 "size" "I" (.int 0) := ((Fld.ext E53 (Fld.ext E52 u51)).keep Ku57 (ninS (own_n (own_t (own_t lt_b41 Ku47.1) E52.1) bd_b53) nin0))
        have f69 : Fld Z T54.heap b41 C_0 "modCount" "I" (.int 0) := ((Fld.ext E53 (Fld.ext E52 u50)).keep Ku57 (ninS (own_n (own_t (own_t lt_b41 Ku47.1) E52.1) bd_b53) nin0))
        obtain ⟨_, T70, L70, X70, hQ70, st70⟩ := own_cI X54 hx hZ hown (ww42 hw) (ww43 hw) (ww32 hw) (ww44 hw) (rm7_8 l Z a0 hw b52 b41 b53 T54.heap n0 Ou57 f60 f61 f62 f63 f64 f65 f66 g_b52 f67 f68 (own_n (own_t lt_b41 Ku47.1) bd_b52) f69 (own_t (own_t (own_t (own_t lt_b41 Ku47.1) E52.1) E53.1) Ku57.1) (own_t (own_t lt_b52 E53.1) Ku57.1)) rfl pd_8 hml (hb hby at_104) (Ls := #[vI p1, vI p2, vI p3, vI p4, vI p5, vJ q6, .second, vI 0, vI i9, vI i21, vI i37, vR b41, .unset, .unset, .unset, .unset, .unset]) (W := 1) (argsL := [(.ref b41), (.ref b53)]) (rest := [(.ref b52)]) (b := b52)
        obtain ⟨b71, b72, b73, k74, k75, k76, rfl, u78, u79, u80, u81, u82, u83, u84, u85, u86, u87, Ku88, u89, u90, u91, u92, u93, u94, u95, u96, u97, u98, u99, u100, u101⟩ := hQ70
        have Ou88 : Old Z n0 T70.heap := Ou57.keep Ku88 (allS g_b52 all0)
        have g_b71 : n0 ≤ b71 := Nat.le_trans (own_z Ou57) u79
        have sz_b71 : h0.size ≤ b71 := Nat.le_trans (Nat.le_trans (Nat.le_trans (Nat.le_trans (Nat.le_trans E41.1 Ku47.1) E52.1) E53.1) Ku57.1) u79
        have g_b72 : n0 ≤ b72 := Nat.le_trans (own_z Ou57) u81
        have sz_b72 : h0.size ≤ b72 := Nat.le_trans (Nat.le_trans (Nat.le_trans (Nat.le_trans (Nat.le_trans E41.1 Ku47.1) E52.1) E53.1) Ku57.1) u81
        have g_b73 : n0 ≤ b73 := Nat.le_trans (own_z Ou57) u83
        have sz_b73 : h0.size ≤ b73 := Nat.le_trans (Nat.le_trans (Nat.le_trans (Nat.le_trans (Nat.le_trans E41.1 Ku47.1) E52.1) E53.1) Ku57.1) u83
        have N70 := Fr.app N54 u78
        have pre102 : ∀ t, Steps p.tables e below (T70.setTop (mkF m 109 #[vI p1, vI p2, vI p3, vI p4, vI p5, vJ q6, .second, vI 0, vI i9, vI i21, vI i37, vR b41, vR b52, .unset, .unset, .unset, .unset] [])) t → Steps p.tables e below EN t := by
          intro t kt
          refine pre40 t ?_
          refine o_istore X39 hx hby at_27 (Ls' := #[vI p1, vI p2, vI p3, vI p4, vI p5, vJ q6, .second, vI 0, vI i9, vI i21, vI i37, .unset, .unset, .unset, .unset, .unset, .unset]) rfl (st41 _ (o_dup X41 hx hby at_32 rfl (st44 _ (o_astore X44 hx hby at_36 rfl (Ls' := #[vI p1, vI p2, vI p3, vI p4, vI p5, vJ q6, .second, vI 0, vI i9, vI i21, vI i37, vR b41, .unset, .unset, .unset, .unset, .unset]) rfl (o_iload X44 hx hby at_38 rfl (o_ifY X44 hx hby at_40 (pc := 40) (pc' := 53) (by decide +kernel) (by decide) (by decide) (o_iload X44 hx hby at_53 rfl (o_iconst X44 hx hby at_55 (x := 1) rfl (o_icmpY X44 hx hby at_56 (pc := 56) (pc' := 71) (by decide +kernel) (by decide) (by decide) (o_iload X44 hx hby at_71 rfl (o_iconst X44 hx hby at_73 (x := 2) rfl (o_icmpY X44 hx hby at_74 (pc := 74) (pc' := 89) (by decide +kernel) (by decide) (by decide) (st52 _ (o_dup X52 hx hby at_92 rfl (o_aload X52 hx hby at_93 rfl rfl (st53 _ (o_dup X53 hx hby at_98 rfl (o_lload X53 hx hby at_99 rfl (st54 _ (st70 _ (o_astore X70 hx hby at_107 rfl (Ls' := #[vI p1, vI p2, vI p3, vI p4, vI p5, vJ q6, .second, vI 0, vI i9, vI i21, vI i37, vR b41, vR b52, .unset, .unset, .unset, .unset]) rfl ?_)))))))))))))))))))))
          exact kt
        rcases hp22 with ⟨hq103, hq104⟩
        subst hq104
        have join130 : ∀ (i131 : Int32), ∀ T133 : State, own_SL n0 X70 T133 → T133.heap = T70.heap → (∀ t, Steps p.tables e below (T133.setTop (mkF m 144 #[vI p1, vI p2, vI p3, vI p4, vI p5, vJ q6, .second, vI 0, vI i131, vI 0, vI i37, vR b41, vR b52, .unset, .unset, .unset, .unset] [])) t → Steps p.tables e below EN t) → False := by
          rintro i131 T133 ⟨_, N133, X133⟩ e133 pre134
          obtain ⟨_, T151, L151, X151, hQ151, st151⟩ := own_cS X133 hx hZ hown (ww115 hw) (ww116 hw) (ww117 hw) (ww118 hw) (rm14_15 l Z a0 hw p5 a135 a139 a143 a147 T70.heap n0 Ou88 S_136 E_137 F138 S_140 E_141 F142 S_144 E_145 F146 S_148 E_149 F150) e133 pd_9 hml (hb hby at_148) (Ls := #[vI p1, vI p2, vI p3, vI p4, vI p5, vJ q6, .second, vI 0, vI i131, vI 0, vI i37, vR b41, vR b52, .unset, .unset, .unset, .unset]) (W := 1) (argsL := [(.int p5)]) (rest := [(.ref b52)])
          obtain ⟨b152, i153, u154, u155, u156, rfl, u158, u159⟩ := hQ151
          have N151 := Fr.app N133 u158
          have pre160 : ∀ t, Steps p.tables e below (T151.setTop (mkF m 151 #[vI p1, vI p2, vI p3, vI p4, vI p5, vJ q6, .second, vI 0, vI i131, vI 0, vI i37, vR b41, vR b52, .unset, .unset, .unset, .unset] [(.ref b152), (.ref b52)])) t → Steps p.tables e below EN t := by
            intro t kt
            refine pre134 t ?_
            refine o_aload X133 hx hby at_144 rfl rfl (o_iload X133 hx hby at_146 rfl (st151 _ ?_))
            exact kt
          rcases (own_m0 hp38) with hq161
          · skip
            subst hq161
            obtain ⟨_, T162, L162, X162, hQ162, st162⟩ := own_cV X151 hx hZ hown (ww122 hw) (ww123 hw) (notFace_of_selects (args := #[]) (mvT hZ (ww125 hw))) (ww125 hw) (ww124 hw) (ww32 hw) (ww126 hw) u89 (rm15_16 l Z a0 hw b52 b152 T70.heap n0 Ou88) u159 pd_10 hml (hb hby at_153) (Ls := #[vI p1, vI p2, vI p3, vI p4, vI p5, vJ q6, .second, vI 0, vI i131, vI 0, vI 0, vR b41, vR b52, .unset, .unset, .unset, .unset]) (W := 0) (argsL := [(.ref b152), (.int 0)]) (rest := [])
            obtain ⟨rfl, u164, u165⟩ := hQ162
            have N162 := Fr.app N151 u164
            obtain ⟨_, T166, L166, X166, hQ166, st166⟩ := own_cV X162 hx hZ hown (ww127 hw) (ww128 hw) (notFace_of_selects (args := #[]) (mvT hZ (ww130 hw))) (ww130 hw) (ww129 hw) (ww32 hw) (ww131 hw) u89 (rm16_17 l Z a0 hw b52 T70.heap n0 Ou88 u91 u93) u165 pd_6 hml (hb hby at_168) (Ls := #[vI p1, vI p2, vI p3, vI p4, vI p5, vJ q6, .second, vI 0, vI i131, vI 0, vI 0, vR b41, vR b52, vI 0, .unset, .unset, .unset]) (W := 0) (argsL := []) (rest := [])
            obtain ⟨rfl, u168, u169⟩ := hQ166
            have N166 := Fr.app N162 u168
            obtain ⟨_, T170, L170, X170, hQ170, st170⟩ := own_cV X166 hx hZ hown (ww106 hw) (ww107 hw) (notFace_of_selects (args := #[]) (mvT hZ (ww109 hw))) (ww109 hw) (ww108 hw) (ww32 hw) (ww110 hw) u89 (rm13_14 l Z a0 hw b52 T70.heap n0 Ou88 u91 u93) u169 pd_3 hml (hb hby at_175) (Ls := #[vI p1, vI p2, vI p3, vI p4, vI p5, vJ q6, .second, vI 0, vI i131, vI 0, vI 0, vR b41, vR b52, vI 0, vI 0, .unset, .unset]) (W := 0) (argsL := []) (rest := [])
            obtain ⟨rfl, u172, u173⟩ := hQ170
            have N170 := Fr.app N166 u172
            obtain ⟨_, T174, L174, X174, hQ174, st174⟩ := own_cV X170 hx hZ hown (ww127 hw) (ww128 hw) (notFace_of_selects (args := #[]) (mvT hZ (ww130 hw))) (ww130 hw) (ww129 hw) (ww32 hw) (ww131 hw) u89 (rm16_17 l Z a0 hw b52 T70.heap n0 Ou88 u91 u93) u173 pd_6 hml (hb hby at_182) (Ls := #[vI p1, vI p2, vI p3, vI p4, vI p5, vJ q6, .second, vI 0, vI i131, vI 0, vI 0, vR b41, vR b52, vI 0, vI 0, vI (-1), .unset]) (W := 0) (argsL := []) (rest := [])
            obtain ⟨rfl, u176, u177⟩ := hQ174
            have N174 := Fr.app N170 u176
            refine fin (some (.int 1)) _ _ _ _ X174 nofun (fun fs hr => pre160 _ ?_) (own_atH u177 ?_) (by decide) (by decide)
            · refine o_iload X151 hx hby at_151 rfl (st162 _ (o_iload X162 hx hby at_156 rfl (o_iload X162 hx hby at_158 rfl (o_isub X162 hx hby at_160 (z := (0 : Int32)) (by decide +kernel) (o_iload X162 hx hby at_161 rfl (o_iadd X162 hx hby at_163 (z := (0 : Int32)) (by decide +kernel) (o_istore X162 hx hby at_164 (Ls' := #[vI p1, vI p2, vI p3, vI p4, vI p5, vJ q6, .second, vI 0, vI i131, vI 0, vI 0, vR b41, vR b52, vI 0, .unset, .unset, .unset]) rfl (o_aload X162 hx hby at_166 rfl rfl (st166 _ (o_istore X166 hx hby at_171 (Ls' := #[vI p1, vI p2, vI p3, vI p4, vI p5, vJ q6, .second, vI 0, vI i131, vI 0, vI 0, vR b41, vR b52, vI 0, vI 0, .unset, .unset]) rfl (o_aload X166 hx hby at_173 rfl rfl (st170 _ (o_istore X170 hx hby at_178 (Ls' := #[vI p1, vI p2, vI p3, vI p4, vI p5, vJ q6, .second, vI 0, vI i131, vI 0, vI 0, vR b41, vR b52, vI 0, vI 0, vI (-1), .unset]) rfl (o_aload X170 hx hby at_180 rfl rfl (st174 _ (o_istore X174 hx hby at_185 (Ls' := #[vI p1, vI p2, vI p3, vI p4, vI p5, vJ q6, .second, vI 0, vI i131, vI 0, vI 0, vR b41, vR b52, vI 0, vI 0, vI (-1), vI 0]) rfl (o_iload X174 hx hby at_187 rfl (o_iload X174 hx hby at_189 rfl (o_ifY X174 hx hby at_191 (pc := 191) (pc' := 198) (by decide +kernel) (by decide) (by decide) (o_iconst X174 hx hby at_198 (x := 0) rfl (o_icmpN X174 hx hby at_199 (by decide +kernel) (o_iload X174 hx hby at_202 rfl (o_iconst X174 hx hby at_204 (x := -1) rfl (o_icmpY X174 hx hby at_205 (pc := 205) (pc' := 212) (by decide +kernel) (by decide) (by decide) (o_iconst X174 hx hby at_212 (x := 0) rfl (o_iload X174 hx hby at_213 rfl (o_ifY X174 hx hby at_215 (pc := 215) (pc' := 222) (by decide +kernel) (by decide) (by decide) (o_iconst X174 hx hby at_222 (x := 0) rfl (o_icmpN X174 hx hby at_223 (by decide +kernel) (o_iload X174 hx hby at_226 rfl (o_iload X174 hx hby at_228 rfl (o_iconst X174 hx hby at_230 (x := 1) rfl (o_icmpY X174 hx hby at_231 (pc := 231) (pc' := 238) (by decide +kernel) (by decide) (by decide) (o_iconst X174 hx hby at_238 (x := 0) rfl (o_icmpN X174 hx hby at_239 (by decide +kernel) (o_iconst X174 hx hby at_242 (x := 1) rfl (o_goto X174 hx hby at_243 (pc := 243) (pc' := 247) (by decide) (by decide) ?_)))))))))))))))))))))))))))))))))))))
              exact retN X174 hx (t := .boolean) hret (by simp) (hb hby at_247) hr
            · exact ⟨rfl, N174⟩
        rcases hq103 with hq178 | hq178 | hq178 | hq178
        · skip
          subst hq178
          have pre179 : ∀ t, Steps p.tables e below (T70.setTop (mkF m 144 #[vI p1, vI p2, vI p3, vI p4, vI p5, vJ q6, .second, vI 0, vI 0, vI 0, vI i37, vR b41, vR b52, .unset, .unset, .unset, .unset] [])) t → Steps p.tables e below EN t := by
            intro t kt
            refine pre102 t ?_
            refine o_iload X70 hx hby at_109 rfl (o_ifY X70 hx hby at_111 (pc := 111) (pc' := 120) (by decide +kernel) (by decide) (by decide) (o_iload X70 hx hby at_120 rfl (o_iconst X70 hx hby at_122 (x := 1) rfl (o_icmpY X70 hx hby at_123 (pc := 123) (pc' := 132) (by decide +kernel) (by decide) (by decide) (o_iload X70 hx hby at_132 rfl (o_iconst X70 hx hby at_134 (x := 2) rfl (o_icmpY X70 hx hby at_135 (pc := 135) (pc' := 144) (by decide +kernel) (by decide) (by decide) ?_)))))))
            exact kt
          exact join130 (0 : Int32) T70 ⟨_, N70, X70⟩ rfl pre179
        · skip
          subst hq178
          obtain ⟨_, T180, L180, X180, hQ180, st180⟩ := own_cV X70 hx hZ hown (ww106 hw) (ww107 hw) (notFace_of_selects (args := #[]) (mvT hZ (ww109 hw))) (ww109 hw) (ww108 hw) (ww32 hw) (ww110 hw) u89 (rm13_14 l Z a0 hw b52 T70.heap n0 Ou88 u91 u93) rfl pd_3 hml (hb hby at_116) (Ls := #[vI p1, vI p2, vI p3, vI p4, vI p5, vJ q6, .second, vI 0, vI 1, vI 0, vI i37, vR b41, vR b52, .unset, .unset, .unset, .unset]) (W := 0) (argsL := []) (rest := [])
          obtain ⟨rfl, u182, u183⟩ := hQ180
          have N180 := Fr.app N70 u182
          have pre184 : ∀ t, Steps p.tables e below (T180.setTop (mkF m 144 #[vI p1, vI p2, vI p3, vI p4, vI p5, vJ q6, .second, vI 0, vI 1, vI 0, vI i37, vR b41, vR b52, .unset, .unset, .unset, .unset] [])) t → Steps p.tables e below EN t := by
            intro t kt
            refine pre102 t ?_
            refine o_iload X70 hx hby at_109 rfl (o_ifN X70 hx hby at_111 (by decide +kernel) (o_aload X70 hx hby at_114 rfl rfl (st180 _ (o_pop X180 hx hby at_119 rfl (o_iload X180 hx hby at_120 rfl (o_iconst X180 hx hby at_122 (x := 1) rfl (o_icmpY X180 hx hby at_123 (pc := 123) (pc' := 132) (by decide +kernel) (by decide) (by decide) (o_iload X180 hx hby at_132 rfl (o_iconst X180 hx hby at_134 (x := 2) rfl (o_icmpY X180 hx hby at_135 (pc := 135) (pc' := 144) (by decide +kernel) (by decide) (by decide) ?_))))))))))
            exact kt
          exact join130 (1 : Int32) T180 ⟨_, N180, X180⟩ u183 pre184
        · skip
          subst hq178
          obtain ⟨_, T185, L185, X185, hQ185, st185⟩ := own_cV X70 hx hZ hown (ww106 hw) (ww107 hw) (notFace_of_selects (args := #[]) (mvT hZ (ww109 hw))) (ww109 hw) (ww108 hw) (ww32 hw) (ww110 hw) u89 (rm13_14 l Z a0 hw b52 T70.heap n0 Ou88 u91 u93) rfl pd_3 hml (hb hby at_116) (Ls := #[vI p1, vI p2, vI p3, vI p4, vI p5, vJ q6, .second, vI 0, vI 2, vI 0, vI i37, vR b41, vR b52, .unset, .unset, .unset, .unset]) (W := 0) (argsL := []) (rest := [])
          obtain ⟨rfl, u187, u188⟩ := hQ185
          have N185 := Fr.app N70 u187
          obtain ⟨_, T189, L189, X189, hQ189, st189⟩ := own_cV X185 hx hZ hown (ww106 hw) (ww107 hw) (notFace_of_selects (args := #[]) (mvT hZ (ww109 hw))) (ww109 hw) (ww108 hw) (ww32 hw) (ww110 hw) u89 (rm13_14 l Z a0 hw b52 T70.heap n0 Ou88 u91 u93) u188 pd_3 hml (hb hby at_128) (Ls := #[vI p1, vI p2, vI p3, vI p4, vI p5, vJ q6, .second, vI 0, vI 2, vI 0, vI i37, vR b41, vR b52, .unset, .unset, .unset, .unset]) (W := 0) (argsL := []) (rest := [])
          obtain ⟨rfl, u191, u192⟩ := hQ189
          have N189 := Fr.app N185 u191
          have pre193 : ∀ t, Steps p.tables e below (T189.setTop (mkF m 144 #[vI p1, vI p2, vI p3, vI p4, vI p5, vJ q6, .second, vI 0, vI 2, vI 0, vI i37, vR b41, vR b52, .unset, .unset, .unset, .unset] [])) t → Steps p.tables e below EN t := by
            intro t kt
            refine pre102 t ?_
            refine o_iload X70 hx hby at_109 rfl (o_ifN X70 hx hby at_111 (by decide +kernel) (o_aload X70 hx hby at_114 rfl rfl (st185 _ (o_pop X185 hx hby at_119 rfl (o_iload X185 hx hby at_120 rfl (o_iconst X185 hx hby at_122 (x := 1) rfl (o_icmpN X185 hx hby at_123 (by decide +kernel) (o_aload X185 hx hby at_126 rfl rfl (st189 _ (o_pop X189 hx hby at_131 rfl (o_iload X189 hx hby at_132 rfl (o_iconst X189 hx hby at_134 (x := 2) rfl (o_icmpY X189 hx hby at_135 (pc := 135) (pc' := 144) (by decide +kernel) (by decide) (by decide) ?_)))))))))))))
            exact kt
          exact join130 (2 : Int32) T189 ⟨_, N189, X189⟩ u192 pre193
        · skip
          subst hq178
          obtain ⟨_, T194, L194, X194, hQ194, st194⟩ := own_cV X70 hx hZ hown (ww106 hw) (ww107 hw) (notFace_of_selects (args := #[]) (mvT hZ (ww109 hw))) (ww109 hw) (ww108 hw) (ww32 hw) (ww110 hw) u89 (rm13_14 l Z a0 hw b52 T70.heap n0 Ou88 u91 u93) rfl pd_3 hml (hb hby at_116) (Ls := #[vI p1, vI p2, vI p3, vI p4, vI p5, vJ q6, .second, vI 0, vI 3, vI 0, vI i37, vR b41, vR b52, .unset, .unset, .unset, .unset]) (W := 0) (argsL := []) (rest := [])
          obtain ⟨rfl, u196, u197⟩ := hQ194
          have N194 := Fr.app N70 u196
          obtain ⟨_, T198, L198, X198, hQ198, st198⟩ := own_cV X194 hx hZ hown (ww106 hw) (ww107 hw) (notFace_of_selects (args := #[]) (mvT hZ (ww109 hw))) (ww109 hw) (ww108 hw) (ww32 hw) (ww110 hw) u89 (rm13_14 l Z a0 hw b52 T70.heap n0 Ou88 u91 u93) u197 pd_3 hml (hb hby at_128) (Ls := #[vI p1, vI p2, vI p3, vI p4, vI p5, vJ q6, .second, vI 0, vI 3, vI 0, vI i37, vR b41, vR b52, .unset, .unset, .unset, .unset]) (W := 0) (argsL := []) (rest := [])
          obtain ⟨rfl, u200, u201⟩ := hQ198
          have N198 := Fr.app N194 u200
          obtain ⟨_, T202, L202, X202, hQ202, st202⟩ := own_cV X198 hx hZ hown (ww106 hw) (ww107 hw) (notFace_of_selects (args := #[]) (mvT hZ (ww109 hw))) (ww109 hw) (ww108 hw) (ww32 hw) (ww110 hw) u89 (rm13_14 l Z a0 hw b52 T70.heap n0 Ou88 u91 u93) u201 pd_3 hml (hb hby at_140) (Ls := #[vI p1, vI p2, vI p3, vI p4, vI p5, vJ q6, .second, vI 0, vI 3, vI 0, vI i37, vR b41, vR b52, .unset, .unset, .unset, .unset]) (W := 0) (argsL := []) (rest := [])
          obtain ⟨rfl, u204, u205⟩ := hQ202
          have N202 := Fr.app N198 u204
          have pre206 : ∀ t, Steps p.tables e below (T202.setTop (mkF m 144 #[vI p1, vI p2, vI p3, vI p4, vI p5, vJ q6, .second, vI 0, vI 3, vI 0, vI i37, vR b41, vR b52, .unset, .unset, .unset, .unset] [])) t → Steps p.tables e below EN t := by
            intro t kt
            refine pre102 t ?_
            refine o_iload X70 hx hby at_109 rfl (o_ifN X70 hx hby at_111 (by decide +kernel) (o_aload X70 hx hby at_114 rfl rfl (st194 _ (o_pop X194 hx hby at_119 rfl (o_iload X194 hx hby at_120 rfl (o_iconst X194 hx hby at_122 (x := 1) rfl (o_icmpN X194 hx hby at_123 (by decide +kernel) (o_aload X194 hx hby at_126 rfl rfl (st198 _ (o_pop X198 hx hby at_131 rfl (o_iload X198 hx hby at_132 rfl (o_iconst X198 hx hby at_134 (x := 2) rfl (o_icmpN X198 hx hby at_135 (by decide +kernel) (o_aload X198 hx hby at_138 rfl rfl (st202 _ (o_pop X202 hx hby at_143 rfl ?_))))))))))))))))
            exact kt
          exact join130 (3 : Int32) T202 ⟨_, N202, X202⟩ u205 pre206
      obtain ⟨_, T207, L207, X207, hQ207, st207⟩ := own_cS X23 hx hZ hown (ww0 hw) (ww1 hw) (ww2 hw) (ww3 hw) (rm1_3 l Z a0 hw i25 i21 h0 n0 O0) e23 pd_0 hml (hb hby at_24) (Ls := #[vI p1, vI p2, vI p3, vI p4, vI p5, vJ q6, .second, vI 0, vI i9, vI i21, .unset, .unset, .unset, .unset, .unset, .unset, .unset]) (W := 0) (argsL := [(.int i25), (.int i21)]) (rest := [])
      rcases hQ207 with ⟨u208, rfl, u210, u211⟩ | ⟨u212, rfl, u214, u215⟩
      · skip
        have N207 := Fr.app N23 u210
        have pre216 : ∀ t, Steps p.tables e below (T207.setTop (mkF m 27 #[vI p1, vI p2, vI p3, vI p4, vI p5, vJ q6, .second, vI 0, vI i9, vI i21, .unset, .unset, .unset, .unset, .unset, .unset, .unset] [(.int i21)])) t → Steps p.tables e below EN t := by
          intro t kt
          refine pre26 t ?_
          refine st207 _ ?_
          exact kt
        exact join36 i21 (own_md0 hp22) T207 ⟨_, N207, X207⟩ u211 pre216
      · skip
        have N207 := Fr.app N23 u214
        have pre217 : ∀ t, Steps p.tables e below (T207.setTop (mkF m 27 #[vI p1, vI p2, vI p3, vI p4, vI p5, vJ q6, .second, vI 0, vI i9, vI i21, .unset, .unset, .unset, .unset, .unset, .unset, .unset] [(.int i25)])) t → Steps p.tables e below EN t := by
          intro t kt
          refine pre26 t ?_
          refine st207 _ ?_
          exact kt
        exact join36 i25 ⟨own_and3' hi25, u212⟩ T207 ⟨_, N207, X207⟩ u215 pre217
    obtain ⟨_, T218, L218, X218, hQ218, st218⟩ := own_cS X0 hx hZ hown (ww0 hw) (ww1 hw) (ww2 hw) (ww3 hw) (rm1_2 l Z a0 hw i9 h0 n0 O0) e0 pd_0 hml (hb hby at_14) (Ls := #[vI p1, vI p2, vI p3, vI p4, vI p5, vJ q6, .second, vI 0, vI i9, .unset, .unset, .unset, .unset, .unset, .unset, .unset, .unset]) (W := 0) (argsL := [(.int i9), (.int 0)]) (rest := [])
    rcases hQ218 with ⟨u219, rfl, u221, u222⟩ | ⟨u223, rfl, u225, u226⟩
    · skip
      have N218 := Fr.app N0 u221
      have pre227 : ∀ t, Steps p.tables e below (T218.setTop (mkF m 17 #[vI p1, vI p2, vI p3, vI p4, vI p5, vJ q6, .second, vI 0, vI i9, .unset, .unset, .unset, .unset, .unset, .unset, .unset, .unset] [(.int 0)])) t → Steps p.tables e below EN t := by
        intro t kt
        refine pre10 t ?_
        refine st218 _ ?_
        exact kt
      exact join20 (0 : Int32) (own_kd0_n hi9 u219) T218 ⟨_, N218, X218⟩ u222 pre227
    · skip
      have N218 := Fr.app N0 u225
      have pre228 : ∀ t, Steps p.tables e below (T218.setTop (mkF m 17 #[vI p1, vI p2, vI p3, vI p4, vI p5, vJ q6, .second, vI 0, vI i9, .unset, .unset, .unset, .unset, .unset, .unset, .unset, .unset] [(.int i9)])) t → Steps p.tables e below EN t := by
        intro t kt
        refine pre10 t ?_
        refine st218 _ ?_
        exact kt
      exact join20 i9 (own_kd0_k hi9 u223) T218 ⟨_, N218, X218⟩ u226 pre228
  · skip
    obtain ⟨i229, hi229⟩ : ∃ z, z = (p2 &&& (3 : Int32)) := ⟨_, rfl⟩
    have pre230 : ∀ t, Steps p.tables e below (s₁.setTop (mkF m 14 #[vI p1, vI p2, vI p3, vI p4, vI p5, vJ q6, .second, vI 1, vI i229, .unset, .unset, .unset, .unset, .unset, .unset, .unset, .unset] [(.int 1), (.int i229)])) t → Steps p.tables e below EN t := by
      intro t kt
      refine pre8 t ?_
      refine o_iand X0 hx hby at_2 (z := (1 : Int32)) hq7 (o_istore X0 hx hby at_3 (Ls' := #[vI p1, vI p2, vI p3, vI p4, vI p5, vJ q6, .second, vI 1, .unset, .unset, .unset, .unset, .unset, .unset, .unset, .unset, .unset]) rfl (o_iloadN X0 hx hby at_5 rfl (o_iconst X0 hx hby at_6 (x := 3) rfl (o_iand X0 hx hby at_7 (z := i229) hi229.symm (o_istore X0 hx hby at_8 (Ls' := #[vI p1, vI p2, vI p3, vI p4, vI p5, vJ q6, .second, vI 1, vI i229, .unset, .unset, .unset, .unset, .unset, .unset, .unset, .unset]) rfl (o_iload X0 hx hby at_10 rfl (o_iload X0 hx hby at_12 rfl ?_)))))))
      exact kt
    have join240 : ∀ (i241 : Int32), ((i229 = (0 : Int32) ∧ i241 = (0 : Int32)) ∨ ((i229 = (1 : Int32) ∨ i229 = (2 : Int32) ∨ i229 = (3 : Int32)) ∧ i241 = (1 : Int32))) → ∀ T243 : State, own_SL n0 X0 T243 → T243.heap = h0 → (∀ t, Steps p.tables e below (T243.setTop (mkF m 17 #[vI p1, vI p2, vI p3, vI p4, vI p5, vJ q6, .second, vI 1, vI i229, .unset, .unset, .unset, .unset, .unset, .unset, .unset, .unset] [(.int i241)])) t → Steps p.tables e below EN t) → False := by
      rintro i241 hp242 T243 ⟨_, N243, X243⟩ e243 pre244
      obtain ⟨i245, hi245⟩ : ∃ z, z = (p3 &&& (3 : Int32)) := ⟨_, rfl⟩
      have pre246 : ∀ t, Steps p.tables e below (T243.setTop (mkF m 24 #[vI p1, vI p2, vI p3, vI p4, vI p5, vJ q6, .second, vI 1, vI i229, vI i241, .unset, .unset, .unset, .unset, .unset, .unset, .unset] [(.int i241), (.int i245)])) t → Steps p.tables e below EN t := by
        intro t kt
        refine pre244 t ?_
        refine o_istore X243 hx hby at_17 (Ls' := #[vI p1, vI p2, vI p3, vI p4, vI p5, vJ q6, .second, vI 1, vI i229, vI i241, .unset, .unset, .unset, .unset, .unset, .unset, .unset]) rfl (o_iloadN X243 hx hby at_19 rfl (o_iconst X243 hx hby at_20 (x := 3) rfl (o_iand X243 hx hby at_21 (z := i245) hi245.symm (o_iload X243 hx hby at_22 rfl ?_))))
        exact kt
      have join256 : ∀ (i257 : Int32), ((i257 = 0 ∨ i257 = 1 ∨ i257 = 2 ∨ i257 = 3) ∧ ¬ (i241 < i257)) → ∀ T259 : State, own_SL n0 X243 T259 → T259.heap = h0 → (∀ t, Steps p.tables e below (T259.setTop (mkF m 27 #[vI p1, vI p2, vI p3, vI p4, vI p5, vJ q6, .second, vI 1, vI i229, vI i241, .unset, .unset, .unset, .unset, .unset, .unset, .unset] [(.int i257)])) t → Steps p.tables e below EN t) → False := by
        rintro i257 hp258 T259 ⟨_, N259, X259⟩ e259 pre260
        obtain ⟨T261, h261, X261, e261, E261, A261, D261, -, st261⟩ := newO X259 hx hZ hown (ww4 hw) (ww5 hw) (ww6 hw) e259 (g := (mkF m 29 #[vI p1, vI p2, vI p3, vI p4, vI p5, vJ q6, .second, vI 1, vI i229, vI i241, vI i257, .unset, .unset, .unset, .unset, .unset, .unset] [])) rfl (hb hby at_29) (by decide) (by decide)
        obtain ⟨b261, g261⟩ : ∃ z, z = h0.size := ⟨_, rfl⟩
        rw [← g261] at A261 D261 st261
        have O261 : Old Z n0 h261 := O0.ext E261
        have bd_b261 : h0.size ≤ b261 := Nat.le_of_eq g261.symm
        have g_b261 : n0 ≤ b261 := Nat.le_trans (own_z O0) bd_b261
        have sz_b261 : h0.size ≤ b261 := Nat.le_trans (Nat.le_refl _) bd_b261
        have lt_b261 : b261 < h261.size := A261.lt
        have D261_26 : Fld Z h261 b261 C_0 "modCount" "I" (.int 0) := D261 (Or.inl (ww26 hw)) (ty := .int) (by decide)
        have D261_29 : Fld Z h261 b261 C_1 "elementData" C_2 .null := D261 (Or.inl (ww29 hw)) (ty := (.array (.object "java/lang/Object"))) (by decide)
        have D261_61 : Fld Z h261 b261 C_1 "size" "I" (.int 0) := D261 (Or.inl (ww61 hw)) (ty := .int) (by decide)
        obtain ⟨_, T262, L262, X262, hQ262, st262⟩ := own_cI X261 hx hZ hown (ww7 hw) (ww8 hw) (ww6 hw) (ww9 hw) (rm2_4 l Z a0 hw b261 a42 h261 n0 O261 A261 D261_29 D261_26 D261_61 g_b261 S_43) e261 pd_1 hml (hb hby at_33) (Ls := #[vI p1, vI p2, vI p3, vI p4, vI p5, vJ q6, .second, vI 1, vI i229, vI i241, vI i257, .unset, .unset, .unset, .unset, .unset, .unset]) (W := 1) (argsL := []) (rest := [(.ref b261)]) (b := b261)
        obtain ⟨rfl, u264, Ku265, u266, u267, u268, u269⟩ := hQ262
        have Ou265 : Old Z n0 T262.heap := O261.keep Ku265 (allS g_b261 all0)
        have N262 := Fr.app N259 u264
        obtain ⟨_, T270, L270, X270, hQ270, st270⟩ := own_cS X262 hx hZ hown (ww115 hw) (ww116 hw) (ww117 hw) (ww118 hw) (rm14_15 l Z a0 hw p4 a135 a139 a143 a147 T262.heap n0 Ou265 S_136 E_137 F138 S_140 E_141 F142 S_144 E_145 F146 S_148 E_149 F150) rfl pd_9 hml (hb hby at_46) (Ls := #[vI p1, vI p2, vI p3, vI p4, vI p5, vJ q6, .second, vI 1, vI i229, vI i241, vI i257, vR b261, .unset, .unset, .unset, .unset, .unset]) (W := 1) (argsL := [(.int p4)]) (rest := [(.ref b261)])
        obtain ⟨b271, i272, u273, u274, u275, rfl, u277, u278⟩ := hQ270
        have N270 := Fr.app N262 u277
        obtain ⟨_, T281, L281, X281, hQ281, st281⟩ := own_cV X270 hx hZ hown (ww132 hw) (ww133 hw) (notFace_of_selects (args := #[]) (mvT hZ (ww135 hw))) (ww135 hw) (ww134 hw) (ww6 hw) (ww136 hw) u266 (rm17_19 l Z a0 hw b261 b271 a42 k279 T262.heap n0 Ou265 u268 u266 u267 u269 g_b261 V280 S_43 u273 (own_t lt_b261 Ku265.1)) u278 pd_14 hml (hb hby at_49) (Ls := #[vI p1, vI p2, vI p3, vI p4, vI p5, vJ q6, .second, vI 1, vI i229, vI i241, vI i257, vR b261, .unset, .unset, .unset, .unset, .unset]) (W := 0) (argsL := [(.ref b271)]) (rest := [])
        obtain ⟨b282, k283, rfl, u285, u286, u287, Ku288, u289, u290, u291, u292, u293, u294, u295⟩ := hQ281
        have Ou288 : Old Z n0 T281.heap := Ou265.keep Ku288 (allS g_b261 all0)
        have g_b282 : n0 ≤ b282 := Nat.le_trans (own_z Ou265) u286
        have sz_b282 : h0.size ≤ b282 := Nat.le_trans (Nat.le_trans E261.1 Ku265.1) u286
        have N281 := Fr.app N270 u285
        obtain ⟨T296, h296, X296, e296, E296, A296, D296, -, st296⟩ := newO X281 hx hZ hown (ww30 hw) (ww31 hw) (ww32 hw) rfl (g := (mkF m 89 #[vI p1, vI p2, vI p3, vI p4, vI p5, vJ q6, .second, vI 1, vI i229, vI i241, vI i257, vR b261, .unset, .unset, .unset, .unset, .unset] [])) rfl (hb hby at_89) (by decide) (by decide)
        obtain ⟨b296, g296⟩ : ∃ z, z = T281.heap.size := ⟨_, rfl⟩
        rw [← g296] at A296 D296 st296
        have O296 : Old Z n0 h296 := Ou288.ext E296
        have bd_b296 : T281.heap.size ≤ b296 := Nat.le_of_eq g296.symm
        have g_b296 : n0 ≤ b296 := Nat.le_trans (own_z Ou288) bd_b296
        have sz_b296 : h0.size ≤ b296 := Nat.le_trans (Nat.le_trans (Nat.le_trans E261.1 Ku265.1) Ku288.1) bd_b296
        have lt_b296 : b296 < h296.size := A296.lt
        have D296_48 : Fld Z h296 b296 C_3 "market" "[I" .null := D296 (Or.inr (ww48 hw)) (ty := (.array .int)) (by decide)
        have D296_50 : Fld Z h296 b296 C_3 "generator" C_4 .null := D296 (Or.inr (ww50 hw)) (ty := (.object "com/example/railspan/railspan/game/Generator")) (by decide)
        have D296_63 : Fld Z h296 b296 C_3 "deck" "[I" .null := D296 (Or.inr (ww63 hw)) (ty := (.array .int)) (by decide)
        have D296_65 : Fld Z h296 b296 C_3 "discard" "[I" .null := D296 (Or.inr (ww65 hw)) (ty := (.array .int)) (by decide)
        have D296_112 : Fld Z h296 b296 C_3 "deckSize" "I" (.int 0) := D296 (Or.inl (ww112 hw)) (ty := .int) (by decide)
        have D296_114 : Fld Z h296 b296 C_3 "discardSize" "I" (.int 0) := D296 (Or.inl (ww114 hw)) (ty := .int) (by decide)
        obtain ⟨T297, h297, X297, e297, E297, A297, D297, -, st297⟩ := newO X296 hx hZ hown (ww33 hw) (ww34 hw) (ww35 hw) e296 (g := (mkF m 95 #[vI p1, vI p2, vI p3, vI p4, vI p5, vJ q6, .second, vI 1, vI i229, vI i241, vI i257, vR b261, .unset, .unset, .unset, .unset, .unset] [(.ref b261), (.ref b296), (.ref b296)])) rfl (hb hby at_95) (by decide) (by decide)
        obtain ⟨b297, g297⟩ : ∃ z, z = h296.size := ⟨_, rfl⟩
        rw [← g297] at A297 D297 st297
        have O297 : Old Z n0 h297 := O296.ext E297
        have bd_b297 : h296.size ≤ b297 := Nat.le_of_eq g297.symm
        have g_b297 : n0 ≤ b297 := Nat.le_trans (own_z O296) bd_b297
        have sz_b297 : h0.size ≤ b297 := Nat.le_trans (Nat.le_trans (Nat.le_trans (Nat.le_trans E261.1 Ku265.1) Ku288.1) E296.1) bd_b297
        have lt_b297 : b297 < h297.size := A297.lt
        have D297_41 : Fld Z h297 b297 C_5 "state" "J" (.long 0) := D297 (Or.inl (ww41 hw)) (ty := .long) (by decide)
        obtain ⟨_, T298, L298, X298, hQ298, st298⟩ := own_cI X297 hx hZ hown (ww36 hw) (ww37 hw) (ww35 hw) (ww38 hw) (rm6_7 l Z a0 hw b297 q6 h297 n0 O297 A297 D297_41 g_b297) e297 pd_2 hml (hb hby at_101) (Ls := #[vI p1, vI p2, vI p3, vI p4, vI p5, vJ q6, .second, vI 1, vI i229, vI i241, vI i257, vR b261, .unset, .unset, .unset, .unset, .unset]) (W := 4) (argsL := [(.long q6)]) (rest := [(.ref b297), (.ref b261), (.ref b296), (.ref b296)]) (b := b297)
        obtain ⟨rfl, u300, Ku301, u302, u303⟩ := hQ298
        have Ou301 : Old Z n0 T298.heap := O297.keep Ku301 (allS g_b297 all0)
        have N298 := Fr.app N281 u300
        have f304 : Exa Z T298.heap b296 C_3 := ((Exa.ext E297 A296).keep Ku301)
        have f305 : Fld Z T298.heap b296 C_3 "deck" "[I" .null := ((Fld.ext E297 D296_63).keep Ku301 (ninS (own_n lt_b296 bd_b297) nin0))
        have f306 : Fld Z T298.heap b296 C_3 "deckSize" "I" (.int 0) := ((Fld.ext E297 D296_112).keep Ku301 (ninS (own_n lt_b296 bd_b297) nin0))
        have f307 : Fld Z T298.heap b296 C_3 "discard" "[I" .null := ((Fld.ext E297 D296_65).keep Ku301 (ninS (own_n lt_b296 bd_b297) nin0))
        have f308 : Fld Z T298.heap b296 C_3 "discardSize" "I" (.int 0) := ((Fld.ext E297 D296_114).keep Ku301 (ninS (own_n lt_b296 bd_b297) nin0))
        have f309 : Fld Z T298.heap b296 C_3 "generator" C_4 .null := ((Fld.ext E297 D296_50).keep Ku301 (ninS (own_n lt_b296 bd_b297) nin0))
        have f310 : Fld Z T298.heap b296 C_3 "market" "[I" .null := ((Fld.ext E297 D296_48).keep Ku301 (ninS (own_n lt_b296 bd_b297) nin0))
        have f311 : Exa Z T298.heap b261 C_1 := ((Exa.ext E297 (Exa.ext E296 u289)).keep Ku301)
        have ne312 : b261 ≠ b297 := (own_n (own_t (own_t (own_t lt_b261 Ku265.1) Ku288.1) E296.1) bd_b297)
        have f313 : Fld Z T298.heap b261 C_1 "size" "I" (.int 1) := ((Fld.ext E297 (Fld.ext E296 u292)).keep Ku301 (ninS ne312 nin0))
        have f314 : Fld Z T298.heap b261 C_0 "modCount" "I" (.int 1) := ((Fld.ext E297 (Fld.ext E296 u291)).keep Ku301 (ninS ne312 nin0))
        have f315 : Fld Z T298.heap b261 C_1 "elementData" C_2 (.ref b282) := ((Fld.ext E297 (Fld.ext E296 u290)).keep Ku301 (ninS ne312 nin0))
        have f316 : Arv Z T298.heap b282 k283 (.object "java/lang/Object") (10 : Int32) [(.ref b271)] .null := (((u294.ext E296).ext E297).keep Ku301 (ninS (own_n (own_t u287 E296.1) bd_b297) nin0))
        obtain ⟨_, T317, L317, X317, hQ317, st317⟩ := own_cI X298 hx hZ hown (ww42 hw) (ww43 hw) (ww32 hw) (ww44 hw) (rm7_24 l Z a0 hw b296 b261 b297 b282 b271 k283 i272 T298.heap n0 Ou301 f304 f305 f306 f307 f308 f309 f310 g_b296 f311 f313 (own_n (own_t (own_t lt_b261 Ku265.1) Ku288.1) bd_b296) f314 (own_t (own_t (own_t (own_t (own_t lt_b261 Ku265.1) Ku288.1) E296.1) E297.1) Ku301.1) f315 f316 (own_t (own_t (own_t u287 E296.1) E297.1) Ku301.1) (own_n u287 bd_b296) u273 (own_t (own_t lt_b296 E297.1) Ku301.1) u274) rfl pd_8 hml (hb hby at_104) (Ls := #[vI p1, vI p2, vI p3, vI p4, vI p5, vJ q6, .second, vI 1, vI i229, vI i241, vI i257, vR b261, .unset, .unset, .unset, .unset, .unset]) (W := 1) (argsL := [(.ref b261), (.ref b297)]) (rest := [(.ref b296)]) (b := b296)
        obtain ⟨b318, b319, b320, k321, k322, k323, rfl, u325, u326, u327, u328, u329, u330, u331, u332, u333, u334, Ku335, u336, u337, u338, u339, u340, u341, u342, u343, u344, u345, u346, u347, u348⟩ := hQ317
        have Ou335 : Old Z n0 T317.heap := Ou301.keep Ku335 (allS g_b296 all0)
        have g_b318 : n0 ≤ b318 := Nat.le_trans (own_z Ou301) u326
        have sz_b318 : h0.size ≤ b318 := Nat.le_trans (Nat.le_trans (Nat.le_trans (Nat.le_trans (Nat.le_trans (Nat.le_trans E261.1 Ku265.1) Ku288.1) E296.1) E297.1) Ku301.1) u326
        have g_b319 : n0 ≤ b319 := Nat.le_trans (own_z Ou301) u328
        have sz_b319 : h0.size ≤ b319 := Nat.le_trans (Nat.le_trans (Nat.le_trans (Nat.le_trans (Nat.le_trans (Nat.le_trans E261.1 Ku265.1) Ku288.1) E296.1) E297.1) Ku301.1) u328
        have g_b320 : n0 ≤ b320 := Nat.le_trans (own_z Ou301) u330
        have sz_b320 : h0.size ≤ b320 := Nat.le_trans (Nat.le_trans (Nat.le_trans (Nat.le_trans (Nat.le_trans (Nat.le_trans E261.1 Ku265.1) Ku288.1) E296.1) E297.1) Ku301.1) u330
        have N317 := Fr.app N298 u325
        have pre349 : ∀ t, Steps p.tables e below (T317.setTop (mkF m 109 #[vI p1, vI p2, vI p3, vI p4, vI p5, vJ q6, .second, vI 1, vI i229, vI i241, vI i257, vR b261, vR b296, .unset, .unset, .unset, .unset] [])) t → Steps p.tables e below EN t := by
          intro t kt
          refine pre260 t ?_
          refine o_istore X259 hx hby at_27 (Ls' := #[vI p1, vI p2, vI p3, vI p4, vI p5, vJ q6, .second, vI 1, vI i229, vI i241, vI i257, .unset, .unset, .unset, .unset, .unset, .unset]) rfl (st261 _ (o_dup X261 hx hby at_32 rfl (st262 _ (o_astore X262 hx hby at_36 rfl (Ls' := #[vI p1, vI p2, vI p3, vI p4, vI p5, vJ q6, .second, vI 1, vI i229, vI i241, vI i257, vR b261, .unset, .unset, .unset, .unset, .unset]) rfl (o_iload X262 hx hby at_38 rfl (o_ifN X262 hx hby at_40 (by decide +kernel) (o_aload X262 hx hby at_43 rfl rfl (o_iloadN X262 hx hby at_45 rfl (st270 _ (st281 _ (o_pop X281 hx hby at_52 rfl (o_iload X281 hx hby at_53 rfl (o_iconst X281 hx hby at_55 (x := 1) rfl (o_icmpY X281 hx hby at_56 (pc := 56) (pc' := 71) (by decide +kernel) (by decide) (by decide) (o_iload X281 hx hby at_71 rfl (o_iconst X281 hx hby at_73 (x := 2) rfl (o_icmpY X281 hx hby at_74 (pc := 74) (pc' := 89) (by decide +kernel) (by decide) (by decide) (st296 _ (o_dup X296 hx hby at_92 rfl (o_aload X296 hx hby at_93 rfl rfl (st297 _ (o_dup X297 hx hby at_98 rfl (o_lload X297 hx hby at_99 rfl (st298 _ (st317 _ (o_astore X317 hx hby at_107 rfl (Ls' := #[vI p1, vI p2, vI p3, vI p4, vI p5, vJ q6, .second, vI 1, vI i229, vI i241, vI i257, vR b261, vR b296, .unset, .unset, .unset, .unset]) rfl ?_))))))))))))))))))))))))))
          exact kt
        rcases hp242 with ⟨hq350, hq351⟩ | ⟨hq350, hq351⟩
        · skip
          subst hq350; subst hq351
          obtain ⟨_, T352, L352, X352, hQ352, st352⟩ := own_cS X317 hx hZ hown (ww115 hw) (ww116 hw) (ww117 hw) (ww118 hw) (rm14_15 l Z a0 hw p5 a135 a139 a143 a147 T317.heap n0 Ou335 S_136 E_137 F138 S_140 E_141 F142 S_144 E_145 F146 S_148 E_149 F150) rfl pd_9 hml (hb hby at_148) (Ls := #[vI p1, vI p2, vI p3, vI p4, vI p5, vJ q6, .second, vI 1, vI 0, vI 0, vI i257, vR b261, vR b296, .unset, .unset, .unset, .unset]) (W := 1) (argsL := [(.int p5)]) (rest := [(.ref b296)])
          obtain ⟨b353, i354, u355, u356, u357, rfl, u359, u360⟩ := hQ352
          have N352 := Fr.app N317 u359
          have pre361 : ∀ t, Steps p.tables e below (T352.setTop (mkF m 151 #[vI p1, vI p2, vI p3, vI p4, vI p5, vJ q6, .second, vI 1, vI 0, vI 0, vI i257, vR b261, vR b296, .unset, .unset, .unset, .unset] [(.ref b353), (.ref b296)])) t → Steps p.tables e below EN t := by
            intro t kt
            refine pre349 t ?_
            refine o_iload X317 hx hby at_109 rfl (o_ifY X317 hx hby at_111 (pc := 111) (pc' := 120) (by decide +kernel) (by decide) (by decide) (o_iload X317 hx hby at_120 rfl (o_iconst X317 hx hby at_122 (x := 1) rfl (o_icmpY X317 hx hby at_123 (pc := 123) (pc' := 132) (by decide +kernel) (by decide) (by decide) (o_iload X317 hx hby at_132 rfl (o_iconst X317 hx hby at_134 (x := 2) rfl (o_icmpY X317 hx hby at_135 (pc := 135) (pc' := 144) (by decide +kernel) (by decide) (by decide) (o_aload X317 hx hby at_144 rfl rfl (o_iload X317 hx hby at_146 rfl (st352 _ ?_))))))))))
            exact kt
          rcases (own_m0 hp258) with hq362
          · skip
            subst hq362
            obtain ⟨_, T363, L363, X363, hQ363, st363⟩ := own_cV X352 hx hZ hown (ww122 hw) (ww123 hw) (notFace_of_selects (args := #[]) (mvT hZ (ww125 hw))) (ww125 hw) (ww124 hw) (ww32 hw) (ww126 hw) u336 (rm15_16 l Z a0 hw b296 b353 T317.heap n0 Ou335) u360 pd_10 hml (hb hby at_153) (Ls := #[vI p1, vI p2, vI p3, vI p4, vI p5, vJ q6, .second, vI 1, vI 0, vI 0, vI 0, vR b261, vR b296, .unset, .unset, .unset, .unset]) (W := 0) (argsL := [(.ref b353), (.int 0)]) (rest := [])
            obtain ⟨rfl, u365, u366⟩ := hQ363
            have N363 := Fr.app N352 u365
            obtain ⟨_, T367, L367, X367, hQ367, st367⟩ := own_cV X363 hx hZ hown (ww127 hw) (ww128 hw) (notFace_of_selects (args := #[]) (mvT hZ (ww130 hw))) (ww130 hw) (ww129 hw) (ww32 hw) (ww131 hw) u336 (rm16_33 l Z a0 hw b296 T317.heap n0 Ou335 u338 u340) u366 pd_6 hml (hb hby at_168) (Ls := #[vI p1, vI p2, vI p3, vI p4, vI p5, vJ q6, .second, vI 1, vI 0, vI 0, vI 0, vR b261, vR b296, vI 1, .unset, .unset, .unset]) (W := 0) (argsL := []) (rest := [])
            obtain ⟨rfl, u369, u370⟩ := hQ367
            have N367 := Fr.app N363 u369
            obtain ⟨_, T371, L371, X371, hQ371, st371⟩ := own_cV X367 hx hZ hown (ww106 hw) (ww107 hw) (notFace_of_selects (args := #[]) (mvT hZ (ww109 hw))) (ww109 hw) (ww108 hw) (ww32 hw) (ww110 hw) u336 (rm13_34 l Z a0 hw b296 b318 b319 (0 : Int32) b297 b320 i272 k321 T317.heap n0 Ou335 u338 u337 u336 u339 u340 u341 u342 g_b296 u344 (Ne.symm (own_n (own_t (own_t lt_b296 E297.1) Ku301.1) u326))) u370 pd_3 hml (hb hby at_175) (Ls := #[vI p1, vI p2, vI p3, vI p4, vI p5, vJ q6, .second, vI 1, vI 0, vI 0, vI 0, vR b261, vR b296, vI 1, vI 1, .unset, .unset]) (W := 0) (argsL := []) (rest := [])
            obtain ⟨rfl, u373, Ku374, u375, u376, u377, u378, u379, u380, u381⟩ := hQ371
            have Ou374 : Old Z n0 T371.heap := Ou335.keep Ku374 (allS g_b296 all0)
            have N371 := Fr.app N367 u373
            obtain ⟨_, T382, L382, X382, hQ382, st382⟩ := own_cV X371 hx hZ hown (ww127 hw) (ww128 hw) (notFace_of_selects (args := #[]) (mvT hZ (ww130 hw))) (ww130 hw) (ww129 hw) (ww32 hw) (ww131 hw) u375 (rm16_17 l Z a0 hw b296 T371.heap n0 Ou374 u377 u379) rfl pd_6 hml (hb hby at_182) (Ls := #[vI p1, vI p2, vI p3, vI p4, vI p5, vJ q6, .second, vI 1, vI 0, vI 0, vI 0, vR b261, vR b296, vI 1, vI 1, vI i272, .unset]) (W := 0) (argsL := []) (rest := [])
            obtain ⟨rfl, u384, u385⟩ := hQ382
            have N382 := Fr.app N371 u384
            refine fin (some (.int 1)) _ _ _ _ X382 nofun (fun fs hr => pre361 _ ?_) (own_atH u385 ?_) (by decide) (by decide)
            · refine o_iload X352 hx hby at_151 rfl (st363 _ (o_iload X363 hx hby at_156 rfl (o_iload X363 hx hby at_158 rfl (o_isub X363 hx hby at_160 (z := (1 : Int32)) (by decide +kernel) (o_iload X363 hx hby at_161 rfl (o_iadd X363 hx hby at_163 (z := (1 : Int32)) (by decide +kernel) (o_istore X363 hx hby at_164 (Ls' := #[vI p1, vI p2, vI p3, vI p4, vI p5, vJ q6, .second, vI 1, vI 0, vI 0, vI 0, vR b261, vR b296, vI 1, .unset, .unset, .unset]) rfl (o_aload X363 hx hby at_166 rfl rfl (st367 _ (o_istore X367 hx hby at_171 (Ls' := #[vI p1, vI p2, vI p3, vI p4, vI p5, vJ q6, .second, vI 1, vI 0, vI 0, vI 0, vR b261, vR b296, vI 1, vI 1, .unset, .unset]) rfl (o_aload X367 hx hby at_173 rfl rfl (st371 _ (o_istore X371 hx hby at_178 (Ls' := #[vI p1, vI p2, vI p3, vI p4, vI p5, vJ q6, .second, vI 1, vI 0, vI 0, vI 0, vR b261, vR b296, vI 1, vI 1, vI i272, .unset]) rfl (o_aload X371 hx hby at_180 rfl rfl (st382 _ (o_istore X382 hx hby at_185 (Ls' := #[vI p1, vI p2, vI p3, vI p4, vI p5, vJ q6, .second, vI 1, vI 0, vI 0, vI 0, vR b261, vR b296, vI 1, vI 1, vI i272, vI 0]) rfl (o_iload X382 hx hby at_187 rfl (o_iload X382 hx hby at_189 rfl (o_ifN X382 hx hby at_191 (by decide +kernel) (o_iconst X382 hx hby at_194 (x := 1) rfl (o_goto X382 hx hby at_195 (pc := 195) (pc' := 199) (by decide) (by decide) (o_icmpN X382 hx hby at_199 (by decide +kernel) (o_iload X382 hx hby at_202 rfl (o_iconst X382 hx hby at_204 (x := -1) rfl (o_icmpN X382 hx hby at_205 (feq u275).1 (o_iconst X382 hx hby at_208 (x := 1) rfl (o_goto X382 hx hby at_209 (pc := 209) (pc' := 213) (by decide) (by decide) (o_iload X382 hx hby at_213 rfl (o_ifN X382 hx hby at_215 (by decide +kernel) (o_iconst X382 hx hby at_218 (x := 1) rfl (o_goto X382 hx hby at_219 (pc := 219) (pc' := 223) (by decide) (by decide) (o_icmpN X382 hx hby at_223 (by decide +kernel) (o_iload X382 hx hby at_226 rfl (o_iload X382 hx hby at_228 rfl (o_iconst X382 hx hby at_230 (x := 1) rfl (o_icmpY X382 hx hby at_231 (pc := 231) (pc' := 238) (by decide +kernel) (by decide) (by decide) (o_iconst X382 hx hby at_238 (x := 0) rfl (o_icmpN X382 hx hby at_239 (by decide +kernel) (o_iconst X382 hx hby at_242 (x := 1) rfl ?_)))))))))))))))))))))))))))))))))))))))
              refine o_goto X382 hx hby at_243 (pc := 243) (pc' := 247) (by decide) (by decide) ?_
              exact retN X382 hx (t := .boolean) hret (by simp) (hb hby at_247) hr
            · exact ⟨rfl, N382⟩
        · skip
          subst hq351
          obtain ⟨_, T386, L386, X386, hQ386, st386⟩ := own_cV X317 hx hZ hown (ww106 hw) (ww107 hw) (notFace_of_selects (args := #[]) (mvT hZ (ww109 hw))) (ww109 hw) (ww108 hw) (ww32 hw) (ww110 hw) u336 (rm13_34 l Z a0 hw b296 b318 b319 (0 : Int32) b297 b320 i272 k321 T317.heap n0 Ou335 u338 u337 u336 u339 u340 u341 u342 g_b296 u344 (Ne.symm (own_n (own_t (own_t lt_b296 E297.1) Ku301.1) u326))) rfl pd_3 hml (hb hby at_116) (Ls := #[vI p1, vI p2, vI p3, vI p4, vI p5, vJ q6, .second, vI 1, vI i229, vI 1, vI i257, vR b261, vR b296, .unset, .unset, .unset, .unset]) (W := 0) (argsL := []) (rest := [])
          obtain ⟨rfl, u388, Ku389, u390, u391, u392, u393, u394, u395, u396⟩ := hQ386
          have Ou389 : Old Z n0 T386.heap := Ou335.keep Ku389 (allS g_b296 all0)
          have N386 := Fr.app N317 u388
          have pre397 : ∀ t, Steps p.tables e below (T386.setTop (mkF m 120 #[vI p1, vI p2, vI p3, vI p4, vI p5, vJ q6, .second, vI 1, vI i229, vI 1, vI i257, vR b261, vR b296, .unset, .unset, .unset, .unset] [])) t → Steps p.tables e below EN t := by
            intro t kt
            refine pre349 t ?_
            refine o_iload X317 hx hby at_109 rfl (o_ifN X317 hx hby at_111 ((if0 _ _).trans (tlt (by rcases hq350 with h | h | h <;> subst h <;> decide +kernel : (0 : Int32) < i229)).2.2.2) (o_aload X317 hx hby at_114 rfl rfl (st386 _ (o_pop X386 hx hby at_119 rfl ?_))))
            exact kt
          have join411 : ∀ (i412 : Int32), ∀ T414 : State, own_SL n0 X386 T414 → T414.heap = T386.heap → (∀ t, Steps p.tables e below (T414.setTop (mkF m 144 #[vI p1, vI p2, vI p3, vI p4, vI p5, vJ q6, .second, vI 1, vI i412, vI 1, vI i257, vR b261, vR b296, .unset, .unset, .unset, .unset] [])) t → Steps p.tables e below EN t) → False := by
            rintro i412 T414 ⟨_, N414, X414⟩ e414 pre415
            obtain ⟨_, T416, L416, X416, hQ416, st416⟩ := own_cS X414 hx hZ hown (ww115 hw) (ww116 hw) (ww117 hw) (ww118 hw) (rm14_15 l Z a0 hw p5 a135 a139 a143 a147 T386.heap n0 Ou389 S_136 E_137 F138 S_140 E_141 F142 S_144 E_145 F146 S_148 E_149 F150) e414 pd_9 hml (hb hby at_148) (Ls := #[vI p1, vI p2, vI p3, vI p4, vI p5, vJ q6, .second, vI 1, vI i412, vI 1, vI i257, vR b261, vR b296, .unset, .unset, .unset, .unset]) (W := 1) (argsL := [(.int p5)]) (rest := [(.ref b296)])
            obtain ⟨b417, i418, u419, u420, u421, rfl, u423, u424⟩ := hQ416
            have N416 := Fr.app N414 u423
            have pre425 : ∀ t, Steps p.tables e below (T416.setTop (mkF m 151 #[vI p1, vI p2, vI p3, vI p4, vI p5, vJ q6, .second, vI 1, vI i412, vI 1, vI i257, vR b261, vR b296, .unset, .unset, .unset, .unset] [(.ref b417), (.ref b296)])) t → Steps p.tables e below EN t := by
              intro t kt
              refine pre415 t ?_
              refine o_aload X414 hx hby at_144 rfl rfl (o_iload X414 hx hby at_146 rfl (st416 _ ?_))
              exact kt
            rcases (own_m1 hp258) with hq426 | hq426
            · skip
              subst hq426
              obtain ⟨_, T427, L427, X427, hQ427, st427⟩ := own_cV X416 hx hZ hown (ww122 hw) (ww123 hw) (notFace_of_selects (args := #[]) (mvT hZ (ww125 hw))) (ww125 hw) (ww124 hw) (ww32 hw) (ww126 hw) u390 (rm15_16 l Z a0 hw b296 b417 T386.heap n0 Ou389) u424 pd_10 hml (hb hby at_153) (Ls := #[vI p1, vI p2, vI p3, vI p4, vI p5, vJ q6, .second, vI 1, vI i412, vI 1, vI 0, vR b261, vR b296, .unset, .unset, .unset, .unset]) (W := 0) (argsL := [(.ref b417), (.int 0)]) (rest := [])
              obtain ⟨rfl, u429, u430⟩ := hQ427
              have N427 := Fr.app N416 u429
              obtain ⟨_, T431, L431, X431, hQ431, st431⟩ := own_cV X427 hx hZ hown (ww127 hw) (ww128 hw) (notFace_of_selects (args := #[]) (mvT hZ (ww130 hw))) (ww130 hw) (ww129 hw) (ww32 hw) (ww131 hw) u390 (rm16_17 l Z a0 hw b296 T386.heap n0 Ou389 u392 u394) u430 pd_6 hml (hb hby at_168) (Ls := #[vI p1, vI p2, vI p3, vI p4, vI p5, vJ q6, .second, vI 1, vI i412, vI 1, vI 0, vR b261, vR b296, vI 0, .unset, .unset, .unset]) (W := 0) (argsL := []) (rest := [])
              obtain ⟨rfl, u433, u434⟩ := hQ431
              have N431 := Fr.app N427 u433
              obtain ⟨_, T435, L435, X435, hQ435, st435⟩ := own_cV X431 hx hZ hown (ww106 hw) (ww107 hw) (notFace_of_selects (args := #[]) (mvT hZ (ww109 hw))) (ww109 hw) (ww108 hw) (ww32 hw) (ww110 hw) u390 (rm13_14 l Z a0 hw b296 T386.heap n0 Ou389 u392 u394) u434 pd_3 hml (hb hby at_175) (Ls := #[vI p1, vI p2, vI p3, vI p4, vI p5, vJ q6, .second, vI 1, vI i412, vI 1, vI 0, vR b261, vR b296, vI 0, vI 0, .unset, .unset]) (W := 0) (argsL := []) (rest := [])
              obtain ⟨rfl, u437, u438⟩ := hQ435
              have N435 := Fr.app N431 u437
              obtain ⟨_, T439, L439, X439, hQ439, st439⟩ := own_cV X435 hx hZ hown (ww127 hw) (ww128 hw) (notFace_of_selects (args := #[]) (mvT hZ (ww130 hw))) (ww130 hw) (ww129 hw) (ww32 hw) (ww131 hw) u390 (rm16_17 l Z a0 hw b296 T386.heap n0 Ou389 u392 u394) u438 pd_6 hml (hb hby at_182) (Ls := #[vI p1, vI p2, vI p3, vI p4, vI p5, vJ q6, .second, vI 1, vI i412, vI 1, vI 0, vR b261, vR b296, vI 0, vI 0, vI (-1), .unset]) (W := 0) (argsL := []) (rest := [])
              obtain ⟨rfl, u441, u442⟩ := hQ439
              have N439 := Fr.app N435 u441
              refine fin (some (.int 1)) _ _ _ _ X439 nofun (fun fs hr => pre425 _ ?_) (own_atH u442 ?_) (by decide) (by decide)
              · refine o_iload X416 hx hby at_151 rfl (st427 _ (o_iload X427 hx hby at_156 rfl (o_iload X427 hx hby at_158 rfl (o_isub X427 hx hby at_160 (z := (0 : Int32)) (by decide +kernel) (o_iload X427 hx hby at_161 rfl (o_iadd X427 hx hby at_163 (z := (0 : Int32)) (by decide +kernel) (o_istore X427 hx hby at_164 (Ls' := #[vI p1, vI p2, vI p3, vI p4, vI p5, vJ q6, .second, vI 1, vI i412, vI 1, vI 0, vR b261, vR b296, vI 0, .unset, .unset, .unset]) rfl (o_aload X427 hx hby at_166 rfl rfl (st431 _ (o_istore X431 hx hby at_171 (Ls' := #[vI p1, vI p2, vI p3, vI p4, vI p5, vJ q6, .second, vI 1, vI i412, vI 1, vI 0, vR b261, vR b296, vI 0, vI 0, .unset, .unset]) rfl (o_aload X431 hx hby at_173 rfl rfl (st435 _ (o_istore X435 hx hby at_178 (Ls' := #[vI p1, vI p2, vI p3, vI p4, vI p5, vJ q6, .second, vI 1, vI i412, vI 1, vI 0, vR b261, vR b296, vI 0, vI 0, vI (-1), .unset]) rfl (o_aload X435 hx hby at_180 rfl rfl (st439 _ (o_istore X439 hx hby at_185 (Ls' := #[vI p1, vI p2, vI p3, vI p4, vI p5, vJ q6, .second, vI 1, vI i412, vI 1, vI 0, vR b261, vR b296, vI 0, vI 0, vI (-1), vI 0]) rfl (o_iload X439 hx hby at_187 rfl (o_iload X439 hx hby at_189 rfl (o_ifY X439 hx hby at_191 (pc := 191) (pc' := 198) (by decide +kernel) (by decide) (by decide) (o_iconst X439 hx hby at_198 (x := 0) rfl (o_icmpN X439 hx hby at_199 (by decide +kernel) (o_iload X439 hx hby at_202 rfl (o_iconst X439 hx hby at_204 (x := -1) rfl (o_icmpY X439 hx hby at_205 (pc := 205) (pc' := 212) (by decide +kernel) (by decide) (by decide) (o_iconst X439 hx hby at_212 (x := 0) rfl (o_iload X439 hx hby at_213 rfl (o_ifY X439 hx hby at_215 (pc := 215) (pc' := 222) (by decide +kernel) (by decide) (by decide) (o_iconst X439 hx hby at_222 (x := 0) rfl (o_icmpN X439 hx hby at_223 (by decide +kernel) (o_iload X439 hx hby at_226 rfl (o_iload X439 hx hby at_228 rfl (o_iconst X439 hx hby at_230 (x := 1) rfl (o_icmpY X439 hx hby at_231 (pc := 231) (pc' := 238) (by decide +kernel) (by decide) (by decide) (o_iconst X439 hx hby at_238 (x := 0) rfl (o_icmpN X439 hx hby at_239 (by decide +kernel) (o_iconst X439 hx hby at_242 (x := 1) rfl (o_goto X439 hx hby at_243 (pc := 243) (pc' := 247) (by decide) (by decide) ?_)))))))))))))))))))))))))))))))))))))
                exact retN X439 hx (t := .boolean) hret (by simp) (hb hby at_247) hr
              · exact ⟨rfl, N439⟩
            · skip
              subst hq426
              have f443 : Arv Z T386.heap b319 k322 .int (1 : Int32) [] (.int (0 : Int32)) := (u346.keep Ku389 (ninS (Ne.symm (own_n (own_t (own_t lt_b296 E297.1) Ku301.1) u328)) nin0))
              have f444 : Exa Z T386.heap b319 "[I" := (u345.keep Ku389)
              obtain ⟨_, T445, L445, X445, hQ445, st445⟩ := own_cV X416 hx hZ hown (ww122 hw) (ww123 hw) (notFace_of_selects (args := #[]) (mvT hZ (ww125 hw))) (ww125 hw) (ww124 hw) (ww32 hw) (ww126 hw) u390 (rm15_35 l Z a0 hw b296 b417 b319 b318 (0 : Int32) b297 b320 i418 k322 T386.heap n0 Ou389 u393 u394 u390 u391 u392 u395 u396 g_b296 u419 u420 f443 (Ne.symm (own_n (own_t (own_t lt_b296 E297.1) Ku301.1) u328)) g_b319 f444) u424 pd_10 hml (hb hby at_153) (Ls := #[vI p1, vI p2, vI p3, vI p4, vI p5, vJ q6, .second, vI 1, vI i412, vI 1, vI 1, vR b261, vR b296, .unset, .unset, .unset, .unset]) (W := 0) (argsL := [(.ref b417), (.int 1)]) (rest := [])
              obtain ⟨rfl, u447, Ku448, u449, u450, u451, u452, u453, u454, u455, u456, u457⟩ := hQ445
              have Ou448 : Old Z n0 T445.heap := Ou389.keep Ku448 (allS g_b296 (allS g_b319 all0))
              have N445 := Fr.app N416 u447
              obtain ⟨_, T458, L458, X458, hQ458, st458⟩ := own_cV X445 hx hZ hown (ww127 hw) (ww128 hw) (notFace_of_selects (args := #[]) (mvT hZ (ww130 hw))) (ww130 hw) (ww129 hw) (ww32 hw) (ww131 hw) u449 (rm16_36 l Z a0 hw b296 T445.heap n0 Ou448 u451 u453) rfl pd_6 hml (hb hby at_168) (Ls := #[vI p1, vI p2, vI p3, vI p4, vI p5, vJ q6, .second, vI 1, vI i412, vI 1, vI 1, vR b261, vR b296, vI 1, .unset, .unset, .unset]) (W := 0) (argsL := []) (rest := [])
              obtain ⟨rfl, u460, u461⟩ := hQ458
              have N458 := Fr.app N445 u460
              have f462 : Arv Z T445.heap b318 k321 .int (1 : Int32) [(.int i272)] (.int (0 : Int32)) := ((u344.keep Ku389 (ninS (Ne.symm (own_n (own_t (own_t lt_b296 E297.1) Ku301.1) u326)) nin0)).keep Ku448 (ninS (Ne.symm (own_n (own_t (own_t lt_b296 E297.1) Ku301.1) u326)) (ninS u332 nin0)))
              have f463 : Exa Z T445.heap b318 "[I" := ((u343.keep Ku389).keep Ku448)
              have f464 : Exa Z T445.heap b297 C_5 := (((u302.keep Ku335).keep Ku389).keep Ku448)
              obtain ⟨_, T465, L465, X465, hQ465, st465⟩ := own_cV X458 hx hZ hown (ww106 hw) (ww107 hw) (notFace_of_selects (args := #[]) (mvT hZ (ww109 hw))) (ww109 hw) (ww108 hw) (ww32 hw) (ww110 hw) u449 (rm13_37 l Z a0 hw b296 b319 b318 i418 k322 i272 k321 b297 b320 T445.heap n0 Ou448 u451 u453 u452 u450 u457 f462 f463 g_b318 (own_n (own_t (own_t lt_b296 E297.1) Ku301.1) u326) u449 u454 u455 g_b296 f464) u461 pd_3 hml (hb hby at_175) (Ls := #[vI p1, vI p2, vI p3, vI p4, vI p5, vJ q6, .second, vI 1, vI i412, vI 1, vI 1, vR b261, vR b296, vI 1, vI 1, .unset, .unset]) (W := 0) (argsL := []) (rest := [])
              obtain ⟨rfl, u467, Ku468, u469, u470, u471, u472, u473, u474, u475, u476, u477⟩ := hQ465
              have Ou468 : Old Z n0 T465.heap := Ou448.keep Ku468 (allS g_b318 (allS g_b296 all0))
              have N465 := Fr.app N458 u467
              obtain ⟨_, T478, L478, X478, hQ478, st478⟩ := own_cV X465 hx hZ hown (ww127 hw) (ww128 hw) (notFace_of_selects (args := #[]) (mvT hZ (ww130 hw))) (ww130 hw) (ww129 hw) (ww32 hw) (ww131 hw) u471 (rm16_17 l Z a0 hw b296 T465.heap n0 Ou468 u473 u475) rfl pd_6 hml (hb hby at_182) (Ls := #[vI p1, vI p2, vI p3, vI p4, vI p5, vJ q6, .second, vI 1, vI i412, vI 1, vI 1, vR b261, vR b296, vI 1, vI 1, vI i418, .unset]) (W := 0) (argsL := []) (rest := [])
              obtain ⟨rfl, u480, u481⟩ := hQ478
              have N478 := Fr.app N465 u480
              refine fin (some (.int 1)) _ _ _ _ X478 nofun (fun fs hr => pre425 _ ?_) (own_atH u481 ?_) (by decide) (by decide)
              · refine o_iload X416 hx hby at_151 rfl (st445 _ (o_iload X445 hx hby at_156 rfl (o_iload X445 hx hby at_158 rfl (o_isub X445 hx hby at_160 (z := (0 : Int32)) (by decide +kernel) (o_iload X445 hx hby at_161 rfl (o_iadd X445 hx hby at_163 (z := (1 : Int32)) (by decide +kernel) (o_istore X445 hx hby at_164 (Ls' := #[vI p1, vI p2, vI p3, vI p4, vI p5, vJ q6, .second, vI 1, vI i412, vI 1, vI 1, vR b261, vR b296, vI 1, .unset, .unset, .unset]) rfl (o_aload X445 hx hby at_166 rfl rfl (st458 _ (o_istore X458 hx hby at_171 (Ls' := #[vI p1, vI p2, vI p3, vI p4, vI p5, vJ q6, .second, vI 1, vI i412, vI 1, vI 1, vR b261, vR b296, vI 1, vI 1, .unset, .unset]) rfl (o_aload X458 hx hby at_173 rfl rfl (st465 _ (o_istore X465 hx hby at_178 (Ls' := #[vI p1, vI p2, vI p3, vI p4, vI p5, vJ q6, .second, vI 1, vI i412, vI 1, vI 1, vR b261, vR b296, vI 1, vI 1, vI i418, .unset]) rfl (o_aload X465 hx hby at_180 rfl rfl (st478 _ (o_istore X478 hx hby at_185 (Ls' := #[vI p1, vI p2, vI p3, vI p4, vI p5, vJ q6, .second, vI 1, vI i412, vI 1, vI 1, vR b261, vR b296, vI 1, vI 1, vI i418, vI 0]) rfl (o_iload X478 hx hby at_187 rfl (o_iload X478 hx hby at_189 rfl (o_ifN X478 hx hby at_191 (by decide +kernel) (o_iconst X478 hx hby at_194 (x := 1) rfl (o_goto X478 hx hby at_195 (pc := 195) (pc' := 199) (by decide) (by decide) (o_icmpN X478 hx hby at_199 (by decide +kernel) (o_iload X478 hx hby at_202 rfl (o_iconst X478 hx hby at_204 (x := -1) rfl (o_icmpN X478 hx hby at_205 (feq u421).1 (o_iconst X478 hx hby at_208 (x := 1) rfl (o_goto X478 hx hby at_209 (pc := 209) (pc' := 213) (by decide) (by decide) (o_iload X478 hx hby at_213 rfl (o_ifN X478 hx hby at_215 (by decide +kernel) (o_iconst X478 hx hby at_218 (x := 1) rfl (o_goto X478 hx hby at_219 (pc := 219) (pc' := 223) (by decide) (by decide) (o_icmpN X478 hx hby at_223 (by decide +kernel) (o_iload X478 hx hby at_226 rfl (o_iload X478 hx hby at_228 rfl (o_iconst X478 hx hby at_230 (x := 1) rfl (o_icmpY X478 hx hby at_231 (pc := 231) (pc' := 238) (by decide +kernel) (by decide) (by decide) (o_iconst X478 hx hby at_238 (x := 0) rfl (o_icmpN X478 hx hby at_239 (by decide +kernel) (o_iconst X478 hx hby at_242 (x := 1) rfl ?_)))))))))))))))))))))))))))))))))))))))
                refine o_goto X478 hx hby at_243 (pc := 243) (pc' := 247) (by decide) (by decide) ?_
                exact retN X478 hx (t := .boolean) hret (by simp) (hb hby at_247) hr
              · exact ⟨rfl, N478⟩
          rcases hq350 with hq482 | hq482 | hq482
          · skip
            subst hq482
            have pre483 : ∀ t, Steps p.tables e below (T386.setTop (mkF m 144 #[vI p1, vI p2, vI p3, vI p4, vI p5, vJ q6, .second, vI 1, vI 1, vI 1, vI i257, vR b261, vR b296, .unset, .unset, .unset, .unset] [])) t → Steps p.tables e below EN t := by
              intro t kt
              refine pre397 t ?_
              refine o_iload X386 hx hby at_120 rfl (o_iconst X386 hx hby at_122 (x := 1) rfl (o_icmpY X386 hx hby at_123 (pc := 123) (pc' := 132) (by decide +kernel) (by decide) (by decide) (o_iload X386 hx hby at_132 rfl (o_iconst X386 hx hby at_134 (x := 2) rfl (o_icmpY X386 hx hby at_135 (pc := 135) (pc' := 144) (by decide +kernel) (by decide) (by decide) ?_)))))
              exact kt
            exact join411 (1 : Int32) T386 ⟨_, N386, X386⟩ rfl pre483
          · skip
            subst hq482
            obtain ⟨_, T484, L484, X484, hQ484, st484⟩ := own_cV X386 hx hZ hown (ww106 hw) (ww107 hw) (notFace_of_selects (args := #[]) (mvT hZ (ww109 hw))) (ww109 hw) (ww108 hw) (ww32 hw) (ww110 hw) u390 (rm13_14 l Z a0 hw b296 T386.heap n0 Ou389 u392 u394) rfl pd_3 hml (hb hby at_128) (Ls := #[vI p1, vI p2, vI p3, vI p4, vI p5, vJ q6, .second, vI 1, vI 2, vI 1, vI i257, vR b261, vR b296, .unset, .unset, .unset, .unset]) (W := 0) (argsL := []) (rest := [])
            obtain ⟨rfl, u486, u487⟩ := hQ484
            have N484 := Fr.app N386 u486
            have pre488 : ∀ t, Steps p.tables e below (T484.setTop (mkF m 144 #[vI p1, vI p2, vI p3, vI p4, vI p5, vJ q6, .second, vI 1, vI 2, vI 1, vI i257, vR b261, vR b296, .unset, .unset, .unset, .unset] [])) t → Steps p.tables e below EN t := by
              intro t kt
              refine pre397 t ?_
              refine o_iload X386 hx hby at_120 rfl (o_iconst X386 hx hby at_122 (x := 1) rfl (o_icmpN X386 hx hby at_123 (by decide +kernel) (o_aload X386 hx hby at_126 rfl rfl (st484 _ (o_pop X484 hx hby at_131 rfl (o_iload X484 hx hby at_132 rfl (o_iconst X484 hx hby at_134 (x := 2) rfl (o_icmpY X484 hx hby at_135 (pc := 135) (pc' := 144) (by decide +kernel) (by decide) (by decide) ?_))))))))
              exact kt
            exact join411 (2 : Int32) T484 ⟨_, N484, X484⟩ u487 pre488
          · skip
            subst hq482
            obtain ⟨_, T489, L489, X489, hQ489, st489⟩ := own_cV X386 hx hZ hown (ww106 hw) (ww107 hw) (notFace_of_selects (args := #[]) (mvT hZ (ww109 hw))) (ww109 hw) (ww108 hw) (ww32 hw) (ww110 hw) u390 (rm13_14 l Z a0 hw b296 T386.heap n0 Ou389 u392 u394) rfl pd_3 hml (hb hby at_128) (Ls := #[vI p1, vI p2, vI p3, vI p4, vI p5, vJ q6, .second, vI 1, vI 3, vI 1, vI i257, vR b261, vR b296, .unset, .unset, .unset, .unset]) (W := 0) (argsL := []) (rest := [])
            obtain ⟨rfl, u491, u492⟩ := hQ489
            have N489 := Fr.app N386 u491
            obtain ⟨_, T493, L493, X493, hQ493, st493⟩ := own_cV X489 hx hZ hown (ww106 hw) (ww107 hw) (notFace_of_selects (args := #[]) (mvT hZ (ww109 hw))) (ww109 hw) (ww108 hw) (ww32 hw) (ww110 hw) u390 (rm13_14 l Z a0 hw b296 T386.heap n0 Ou389 u392 u394) u492 pd_3 hml (hb hby at_140) (Ls := #[vI p1, vI p2, vI p3, vI p4, vI p5, vJ q6, .second, vI 1, vI 3, vI 1, vI i257, vR b261, vR b296, .unset, .unset, .unset, .unset]) (W := 0) (argsL := []) (rest := [])
            obtain ⟨rfl, u495, u496⟩ := hQ493
            have N493 := Fr.app N489 u495
            have pre497 : ∀ t, Steps p.tables e below (T493.setTop (mkF m 144 #[vI p1, vI p2, vI p3, vI p4, vI p5, vJ q6, .second, vI 1, vI 3, vI 1, vI i257, vR b261, vR b296, .unset, .unset, .unset, .unset] [])) t → Steps p.tables e below EN t := by
              intro t kt
              refine pre397 t ?_
              refine o_iload X386 hx hby at_120 rfl (o_iconst X386 hx hby at_122 (x := 1) rfl (o_icmpN X386 hx hby at_123 (by decide +kernel) (o_aload X386 hx hby at_126 rfl rfl (st489 _ (o_pop X489 hx hby at_131 rfl (o_iload X489 hx hby at_132 rfl (o_iconst X489 hx hby at_134 (x := 2) rfl (o_icmpN X489 hx hby at_135 (by decide +kernel) (o_aload X489 hx hby at_138 rfl rfl (st493 _ (o_pop X493 hx hby at_143 rfl ?_)))))))))))
              exact kt
            exact join411 (3 : Int32) T493 ⟨_, N493, X493⟩ u496 pre497
      obtain ⟨_, T498, L498, X498, hQ498, st498⟩ := own_cS X243 hx hZ hown (ww0 hw) (ww1 hw) (ww2 hw) (ww3 hw) (rm1_3 l Z a0 hw i245 i241 h0 n0 O0) e243 pd_0 hml (hb hby at_24) (Ls := #[vI p1, vI p2, vI p3, vI p4, vI p5, vJ q6, .second, vI 1, vI i229, vI i241, .unset, .unset, .unset, .unset, .unset, .unset, .unset]) (W := 0) (argsL := [(.int i245), (.int i241)]) (rest := [])
      rcases hQ498 with ⟨u499, rfl, u501, u502⟩ | ⟨u503, rfl, u505, u506⟩
      · skip
        have N498 := Fr.app N243 u501
        have pre507 : ∀ t, Steps p.tables e below (T498.setTop (mkF m 27 #[vI p1, vI p2, vI p3, vI p4, vI p5, vJ q6, .second, vI 1, vI i229, vI i241, .unset, .unset, .unset, .unset, .unset, .unset, .unset] [(.int i241)])) t → Steps p.tables e below EN t := by
          intro t kt
          refine pre246 t ?_
          refine st498 _ ?_
          exact kt
        exact join256 i241 (own_md1 hp242) T498 ⟨_, N498, X498⟩ u502 pre507
      · skip
        have N498 := Fr.app N243 u505
        have pre508 : ∀ t, Steps p.tables e below (T498.setTop (mkF m 27 #[vI p1, vI p2, vI p3, vI p4, vI p5, vJ q6, .second, vI 1, vI i229, vI i241, .unset, .unset, .unset, .unset, .unset, .unset, .unset] [(.int i245)])) t → Steps p.tables e below EN t := by
          intro t kt
          refine pre246 t ?_
          refine st498 _ ?_
          exact kt
        exact join256 i245 ⟨own_and3' hi245, u503⟩ T498 ⟨_, N498, X498⟩ u506 pre508
    obtain ⟨_, T509, L509, X509, hQ509, st509⟩ := own_cS X0 hx hZ hown (ww0 hw) (ww1 hw) (ww2 hw) (ww3 hw) (rm1_18 l Z a0 hw i229 h0 n0 O0) e0 pd_0 hml (hb hby at_14) (Ls := #[vI p1, vI p2, vI p3, vI p4, vI p5, vJ q6, .second, vI 1, vI i229, .unset, .unset, .unset, .unset, .unset, .unset, .unset, .unset]) (W := 0) (argsL := [(.int i229), (.int 1)]) (rest := [])
    rcases hQ509 with ⟨u510, rfl, u512, u513⟩ | ⟨u514, rfl, u516, u517⟩
    · skip
      have N509 := Fr.app N0 u512
      have pre518 : ∀ t, Steps p.tables e below (T509.setTop (mkF m 17 #[vI p1, vI p2, vI p3, vI p4, vI p5, vJ q6, .second, vI 1, vI i229, .unset, .unset, .unset, .unset, .unset, .unset, .unset, .unset] [(.int 1)])) t → Steps p.tables e below EN t := by
        intro t kt
        refine pre230 t ?_
        refine st509 _ ?_
        exact kt
      exact join240 (1 : Int32) (own_kd1_n hi229 u510) T509 ⟨_, N509, X509⟩ u513 pre518
    · skip
      have N509 := Fr.app N0 u516
      have pre519 : ∀ t, Steps p.tables e below (T509.setTop (mkF m 17 #[vI p1, vI p2, vI p3, vI p4, vI p5, vJ q6, .second, vI 1, vI i229, .unset, .unset, .unset, .unset, .unset, .unset, .unset, .unset] [(.int i229)])) t → Steps p.tables e below EN t := by
        intro t kt
        refine pre230 t ?_
        refine st509 _ ?_
        exact kt
      exact join240 i229 (own_kd1_k hi229 u514) T509 ⟨_, N509, X509⟩ u517 pre519
  · skip
    obtain ⟨i520, hi520⟩ : ∃ z, z = (p2 &&& (3 : Int32)) := ⟨_, rfl⟩
    have pre521 : ∀ t, Steps p.tables e below (s₁.setTop (mkF m 14 #[vI p1, vI p2, vI p3, vI p4, vI p5, vJ q6, .second, vI 2, vI i520, .unset, .unset, .unset, .unset, .unset, .unset, .unset, .unset] [(.int 2), (.int i520)])) t → Steps p.tables e below EN t := by
      intro t kt
      refine pre8 t ?_
      refine o_iand X0 hx hby at_2 (z := (2 : Int32)) hq7 (o_istore X0 hx hby at_3 (Ls' := #[vI p1, vI p2, vI p3, vI p4, vI p5, vJ q6, .second, vI 2, .unset, .unset, .unset, .unset, .unset, .unset, .unset, .unset, .unset]) rfl (o_iloadN X0 hx hby at_5 rfl (o_iconst X0 hx hby at_6 (x := 3) rfl (o_iand X0 hx hby at_7 (z := i520) hi520.symm (o_istore X0 hx hby at_8 (Ls' := #[vI p1, vI p2, vI p3, vI p4, vI p5, vJ q6, .second, vI 2, vI i520, .unset, .unset, .unset, .unset, .unset, .unset, .unset, .unset]) rfl (o_iload X0 hx hby at_10 rfl (o_iload X0 hx hby at_12 rfl ?_)))))))
      exact kt
    have join531 : ∀ (i532 : Int32), ((i520 = (0 : Int32) ∧ i532 = (0 : Int32)) ∨ (i520 = (1 : Int32) ∧ i532 = (1 : Int32)) ∨ ((i520 = (2 : Int32) ∨ i520 = (3 : Int32)) ∧ i532 = (2 : Int32))) → ∀ T534 : State, own_SL n0 X0 T534 → T534.heap = h0 → (∀ t, Steps p.tables e below (T534.setTop (mkF m 17 #[vI p1, vI p2, vI p3, vI p4, vI p5, vJ q6, .second, vI 2, vI i520, .unset, .unset, .unset, .unset, .unset, .unset, .unset, .unset] [(.int i532)])) t → Steps p.tables e below EN t) → False := by
      rintro i532 hp533 T534 ⟨_, N534, X534⟩ e534 pre535
      obtain ⟨i536, hi536⟩ : ∃ z, z = (p3 &&& (3 : Int32)) := ⟨_, rfl⟩
      have pre537 : ∀ t, Steps p.tables e below (T534.setTop (mkF m 24 #[vI p1, vI p2, vI p3, vI p4, vI p5, vJ q6, .second, vI 2, vI i520, vI i532, .unset, .unset, .unset, .unset, .unset, .unset, .unset] [(.int i532), (.int i536)])) t → Steps p.tables e below EN t := by
        intro t kt
        refine pre535 t ?_
        refine o_istore X534 hx hby at_17 (Ls' := #[vI p1, vI p2, vI p3, vI p4, vI p5, vJ q6, .second, vI 2, vI i520, vI i532, .unset, .unset, .unset, .unset, .unset, .unset, .unset]) rfl (o_iloadN X534 hx hby at_19 rfl (o_iconst X534 hx hby at_20 (x := 3) rfl (o_iand X534 hx hby at_21 (z := i536) hi536.symm (o_iload X534 hx hby at_22 rfl ?_))))
        exact kt
      have join547 : ∀ (i548 : Int32), ((i548 = 0 ∨ i548 = 1 ∨ i548 = 2 ∨ i548 = 3) ∧ ¬ (i532 < i548)) → ∀ T550 : State, own_SL n0 X534 T550 → T550.heap = h0 → (∀ t, Steps p.tables e below (T550.setTop (mkF m 27 #[vI p1, vI p2, vI p3, vI p4, vI p5, vJ q6, .second, vI 2, vI i520, vI i532, .unset, .unset, .unset, .unset, .unset, .unset, .unset] [(.int i548)])) t → Steps p.tables e below EN t) → False := by
        rintro i548 hp549 T550 ⟨_, N550, X550⟩ e550 pre551
        obtain ⟨T552, h552, X552, e552, E552, A552, D552, -, st552⟩ := newO X550 hx hZ hown (ww4 hw) (ww5 hw) (ww6 hw) e550 (g := (mkF m 29 #[vI p1, vI p2, vI p3, vI p4, vI p5, vJ q6, .second, vI 2, vI i520, vI i532, vI i548, .unset, .unset, .unset, .unset, .unset, .unset] [])) rfl (hb hby at_29) (by decide) (by decide)
        obtain ⟨b552, g552⟩ : ∃ z, z = h0.size := ⟨_, rfl⟩
        rw [← g552] at A552 D552 st552
        have O552 : Old Z n0 h552 := O0.ext E552
        have bd_b552 : h0.size ≤ b552 := Nat.le_of_eq g552.symm
        have g_b552 : n0 ≤ b552 := Nat.le_trans (own_z O0) bd_b552
        have sz_b552 : h0.size ≤ b552 := Nat.le_trans (Nat.le_refl _) bd_b552
        have lt_b552 : b552 < h552.size := A552.lt
        have D552_26 : Fld Z h552 b552 C_0 "modCount" "I" (.int 0) := D552 (Or.inl (ww26 hw)) (ty := .int) (by decide)
        have D552_29 : Fld Z h552 b552 C_1 "elementData" C_2 .null := D552 (Or.inl (ww29 hw)) (ty := (.array (.object "java/lang/Object"))) (by decide)
        have D552_61 : Fld Z h552 b552 C_1 "size" "I" (.int 0) := D552 (Or.inl (ww61 hw)) (ty := .int) (by decide)
        obtain ⟨_, T553, L553, X553, hQ553, st553⟩ := own_cI X552 hx hZ hown (ww7 hw) (ww8 hw) (ww6 hw) (ww9 hw) (rm2_4 l Z a0 hw b552 a42 h552 n0 O552 A552 D552_29 D552_26 D552_61 g_b552 S_43) e552 pd_1 hml (hb hby at_33) (Ls := #[vI p1, vI p2, vI p3, vI p4, vI p5, vJ q6, .second, vI 2, vI i520, vI i532, vI i548, .unset, .unset, .unset, .unset, .unset, .unset]) (W := 1) (argsL := []) (rest := [(.ref b552)]) (b := b552)
        obtain ⟨rfl, u555, Ku556, u557, u558, u559, u560⟩ := hQ553
        have Ou556 : Old Z n0 T553.heap := O552.keep Ku556 (allS g_b552 all0)
        have N553 := Fr.app N550 u555
        obtain ⟨_, T561, L561, X561, hQ561, st561⟩ := own_cS X553 hx hZ hown (ww115 hw) (ww116 hw) (ww117 hw) (ww118 hw) (rm14_15 l Z a0 hw p4 a135 a139 a143 a147 T553.heap n0 Ou556 S_136 E_137 F138 S_140 E_141 F142 S_144 E_145 F146 S_148 E_149 F150) rfl pd_9 hml (hb hby at_46) (Ls := #[vI p1, vI p2, vI p3, vI p4, vI p5, vJ q6, .second, vI 2, vI i520, vI i532, vI i548, vR b552, .unset, .unset, .unset, .unset, .unset]) (W := 1) (argsL := [(.int p4)]) (rest := [(.ref b552)])
        obtain ⟨b562, i563, u564, u565, u566, rfl, u568, u569⟩ := hQ561
        have N561 := Fr.app N553 u568
        obtain ⟨_, T570, L570, X570, hQ570, st570⟩ := own_cV X561 hx hZ hown (ww132 hw) (ww133 hw) (notFace_of_selects (args := #[]) (mvT hZ (ww135 hw))) (ww135 hw) (ww134 hw) (ww6 hw) (ww136 hw) u557 (rm17_19 l Z a0 hw b552 b562 a42 k279 T553.heap n0 Ou556 u559 u557 u558 u560 g_b552 V280 S_43 u564 (own_t lt_b552 Ku556.1)) u569 pd_14 hml (hb hby at_49) (Ls := #[vI p1, vI p2, vI p3, vI p4, vI p5, vJ q6, .second, vI 2, vI i520, vI i532, vI i548, vR b552, .unset, .unset, .unset, .unset, .unset]) (W := 0) (argsL := [(.ref b562)]) (rest := [])
        obtain ⟨b571, k572, rfl, u574, u575, u576, Ku577, u578, u579, u580, u581, u582, u583, u584⟩ := hQ570
        have Ou577 : Old Z n0 T570.heap := Ou556.keep Ku577 (allS g_b552 all0)
        have g_b571 : n0 ≤ b571 := Nat.le_trans (own_z Ou556) u575
        have sz_b571 : h0.size ≤ b571 := Nat.le_trans (Nat.le_trans E552.1 Ku556.1) u575
        have N570 := Fr.app N561 u574
        obtain ⟨i585, hi585⟩ : ∃ z, z = ((p4.toUInt32 >>> ((2 : Int32) &&& 31).toUInt32).toInt32) := ⟨_, rfl⟩
        obtain ⟨_, T586, L586, X586, hQ586, st586⟩ := own_cS X570 hx hZ hown (ww115 hw) (ww116 hw) (ww117 hw) (ww118 hw) (rm14_15 l Z a0 hw i585 a135 a139 a143 a147 T570.heap n0 Ou577 S_136 E_137 F138 S_140 E_141 F142 S_144 E_145 F146 S_148 E_149 F150) rfl pd_9 hml (hb hby at_64) (Ls := #[vI p1, vI p2, vI p3, vI p4, vI p5, vJ q6, .second, vI 2, vI i520, vI i532, vI i548, vR b552, .unset, .unset, .unset, .unset, .unset]) (W := 1) (argsL := [(.int i585)]) (rest := [(.ref b552)])
        obtain ⟨b587, i588, u589, u590, u591, rfl, u593, u594⟩ := hQ586
        have N586 := Fr.app N570 u593
        obtain ⟨_, T595, L595, X595, hQ595, st595⟩ := own_cV X586 hx hZ hown (ww132 hw) (ww133 hw) (notFace_of_selects (args := #[]) (mvT hZ (ww135 hw))) (ww135 hw) (ww134 hw) (ww6 hw) (ww136 hw) u578 (rm17_40 l Z a0 hw b552 b587 b571 b562 k572 T570.heap n0 Ou577 u580 u578 u579 u581 g_b552 u583 u584 u589 u582 (own_n (own_t lt_b552 Ku556.1) u575) g_b571) u594 pd_14 hml (hb hby at_67) (Ls := #[vI p1, vI p2, vI p3, vI p4, vI p5, vJ q6, .second, vI 2, vI i520, vI i532, vI i548, vR b552, .unset, .unset, .unset, .unset, .unset]) (W := 0) (argsL := [(.ref b587)]) (rest := [])
        obtain ⟨rfl, u597, Ku598, u599, u600, u601, u602, u603, u604, u605⟩ := hQ595
        have Ou598 : Old Z n0 T595.heap := Ou577.keep Ku598 (allS g_b552 (allS g_b571 all0))
        have N595 := Fr.app N586 u597
        obtain ⟨T606, h606, X606, e606, E606, A606, D606, -, st606⟩ := newO X595 hx hZ hown (ww30 hw) (ww31 hw) (ww32 hw) rfl (g := (mkF m 89 #[vI p1, vI p2, vI p3, vI p4, vI p5, vJ q6, .second, vI 2, vI i520, vI i532, vI i548, vR b552, .unset, .unset, .unset, .unset, .unset] [])) rfl (hb hby at_89) (by decide) (by decide)
        obtain ⟨b606, g606⟩ : ∃ z, z = T595.heap.size := ⟨_, rfl⟩
        rw [← g606] at A606 D606 st606
        have O606 : Old Z n0 h606 := Ou598.ext E606
        have bd_b606 : T595.heap.size ≤ b606 := Nat.le_of_eq g606.symm
        have g_b606 : n0 ≤ b606 := Nat.le_trans (own_z Ou598) bd_b606
        have sz_b606 : h0.size ≤ b606 := Nat.le_trans (Nat.le_trans (Nat.le_trans (Nat.le_trans E552.1 Ku556.1) Ku577.1) Ku598.1) bd_b606
        have lt_b606 : b606 < h606.size := A606.lt
        have D606_48 : Fld Z h606 b606 C_3 "market" "[I" .null := D606 (Or.inr (ww48 hw)) (ty := (.array .int)) (by decide)
        have D606_50 : Fld Z h606 b606 C_3 "generator" C_4 .null := D606 (Or.inr (ww50 hw)) (ty := (.object "com/example/railspan/railspan/game/Generator")) (by decide)
        have D606_63 : Fld Z h606 b606 C_3 "deck" "[I" .null := D606 (Or.inr (ww63 hw)) (ty := (.array .int)) (by decide)
        have D606_65 : Fld Z h606 b606 C_3 "discard" "[I" .null := D606 (Or.inr (ww65 hw)) (ty := (.array .int)) (by decide)
        have D606_112 : Fld Z h606 b606 C_3 "deckSize" "I" (.int 0) := D606 (Or.inl (ww112 hw)) (ty := .int) (by decide)
        have D606_114 : Fld Z h606 b606 C_3 "discardSize" "I" (.int 0) := D606 (Or.inl (ww114 hw)) (ty := .int) (by decide)
        obtain ⟨T607, h607, X607, e607, E607, A607, D607, -, st607⟩ := newO X606 hx hZ hown (ww33 hw) (ww34 hw) (ww35 hw) e606 (g := (mkF m 95 #[vI p1, vI p2, vI p3, vI p4, vI p5, vJ q6, .second, vI 2, vI i520, vI i532, vI i548, vR b552, .unset, .unset, .unset, .unset, .unset] [(.ref b552), (.ref b606), (.ref b606)])) rfl (hb hby at_95) (by decide) (by decide)
        obtain ⟨b607, g607⟩ : ∃ z, z = h606.size := ⟨_, rfl⟩
        rw [← g607] at A607 D607 st607
        have O607 : Old Z n0 h607 := O606.ext E607
        have bd_b607 : h606.size ≤ b607 := Nat.le_of_eq g607.symm
        have g_b607 : n0 ≤ b607 := Nat.le_trans (own_z O606) bd_b607
        have sz_b607 : h0.size ≤ b607 := Nat.le_trans (Nat.le_trans (Nat.le_trans (Nat.le_trans (Nat.le_trans E552.1 Ku556.1) Ku577.1) Ku598.1) E606.1) bd_b607
        have lt_b607 : b607 < h607.size := A607.lt
        have D607_41 : Fld Z h607 b607 C_5 "state" "J" (.long 0) := D607 (Or.inl (ww41 hw)) (ty := .long) (by decide)
        obtain ⟨_, T608, L608, X608, hQ608, st608⟩ := own_cI X607 hx hZ hown (ww36 hw) (ww37 hw) (ww35 hw) (ww38 hw) (rm6_7 l Z a0 hw b607 q6 h607 n0 O607 A607 D607_41 g_b607) e607 pd_2 hml (hb hby at_101) (Ls := #[vI p1, vI p2, vI p3, vI p4, vI p5, vJ q6, .second, vI 2, vI i520, vI i532, vI i548, vR b552, .unset, .unset, .unset, .unset, .unset]) (W := 4) (argsL := [(.long q6)]) (rest := [(.ref b607), (.ref b552), (.ref b606), (.ref b606)]) (b := b607)
        obtain ⟨rfl, u610, Ku611, u612, u613⟩ := hQ608
        have Ou611 : Old Z n0 T608.heap := O607.keep Ku611 (allS g_b607 all0)
        have N608 := Fr.app N595 u610
        have ne614 : b552 ≠ b606 := (own_n (own_t (own_t (own_t lt_b552 Ku556.1) Ku577.1) Ku598.1) bd_b606)
        have lt615 : b552 < T608.heap.size := (own_t (own_t (own_t (own_t (own_t (own_t lt_b552 Ku556.1) Ku577.1) Ku598.1) E606.1) E607.1) Ku611.1)
        have f616 : Exa Z T608.heap b606 C_3 := ((Exa.ext E607 A606).keep Ku611)
        have f617 : Fld Z T608.heap b606 C_3 "deck" "[I" .null := ((Fld.ext E607 D606_63).keep Ku611 (ninS (own_n lt_b606 bd_b607) nin0))
        have f618 : Fld Z T608.heap b606 C_3 "deckSize" "I" (.int 0) := ((Fld.ext E607 D606_112).keep Ku611 (ninS (own_n lt_b606 bd_b607) nin0))
        have f619 : Fld Z T608.heap b606 C_3 "discard" "[I" .null := ((Fld.ext E607 D606_65).keep Ku611 (ninS (own_n lt_b606 bd_b607) nin0))
        have f620 : Fld Z T608.heap b606 C_3 "discardSize" "I" (.int 0) := ((Fld.ext E607 D606_114).keep Ku611 (ninS (own_n lt_b606 bd_b607) nin0))
        have f621 : Fld Z T608.heap b606 C_3 "generator" C_4 .null := ((Fld.ext E607 D606_50).keep Ku611 (ninS (own_n lt_b606 bd_b607) nin0))
        have f622 : Fld Z T608.heap b606 C_3 "market" "[I" .null := ((Fld.ext E607 D606_48).keep Ku611 (ninS (own_n lt_b606 bd_b607) nin0))
        have f623 : Exa Z T608.heap b552 C_1 := ((Exa.ext E607 (Exa.ext E606 u599)).keep Ku611)
        have ne624 : b552 ≠ b607 := (own_n (own_t (own_t (own_t (own_t lt_b552 Ku556.1) Ku577.1) Ku598.1) E606.1) bd_b607)
        have f625 : Fld Z T608.heap b552 C_1 "size" "I" (.int 2) := ((Fld.ext E607 (Fld.ext E606 u602)).keep Ku611 (ninS ne624 nin0))
        have f626 : Fld Z T608.heap b552 C_0 "modCount" "I" (.int 2) := ((Fld.ext E607 (Fld.ext E606 u601)).keep Ku611 (ninS ne624 nin0))
        have f627 : Fld Z T608.heap b552 C_1 "elementData" C_2 (.ref b571) := ((Fld.ext E607 (Fld.ext E606 u600)).keep Ku611 (ninS ne624 nin0))
        have f628 : Arv Z T608.heap b571 k572 (.object "java/lang/Object") (10 : Int32) [(.ref b562), (.ref b587)] .null := (((u604.ext E606).ext E607).keep Ku611 (ninS (own_n (own_t (own_t u576 Ku598.1) E606.1) bd_b607) nin0))
        obtain ⟨_, T629, L629, X629, hQ629, st629⟩ := own_cI X608 hx hZ hown (ww42 hw) (ww43 hw) (ww32 hw) (ww44 hw) (rm7_42 l Z a0 hw b606 b552 b607 b571 b562 b587 k572 i563 i588 T608.heap n0 Ou611 f616 f617 f618 f619 f620 f621 f622 g_b606 f623 f625 ne614 f626 lt615 f627 f628 (own_t (own_t (own_t (own_t u576 Ku598.1) E606.1) E607.1) Ku611.1) (own_n (own_t u576 Ku598.1) bd_b606) u564 (own_t (own_t lt_b606 E607.1) Ku611.1) u565 u589 u590) rfl pd_8 hml (hb hby at_104) (Ls := #[vI p1, vI p2, vI p3, vI p4, vI p5, vJ q6, .second, vI 2, vI i520, vI i532, vI i548, vR b552, .unset, .unset, .unset, .unset, .unset]) (W := 1) (argsL := [(.ref b552), (.ref b607)]) (rest := [(.ref b606)]) (b := b606)
        obtain ⟨b630, b631, b632, k633, k634, k635, rfl, u637, u638, u639, u640, u641, u642, u643, u644, u645, u646, Ku647, u648, u649, u650, u651, u652, u653, u654, u655, u656, u657, u658, u659, u660⟩ := hQ629
        have Ou647 : Old Z n0 T629.heap := Ou611.keep Ku647 (allS g_b606 all0)
        have g_b630 : n0 ≤ b630 := Nat.le_trans (own_z Ou611) u638
        have sz_b630 : h0.size ≤ b630 := Nat.le_trans (Nat.le_trans (Nat.le_trans (Nat.le_trans (Nat.le_trans (Nat.le_trans (Nat.le_trans E552.1 Ku556.1) Ku577.1) Ku598.1) E606.1) E607.1) Ku611.1) u638
        have g_b631 : n0 ≤ b631 := Nat.le_trans (own_z Ou611) u640
        have sz_b631 : h0.size ≤ b631 := Nat.le_trans (Nat.le_trans (Nat.le_trans (Nat.le_trans (Nat.le_trans (Nat.le_trans (Nat.le_trans E552.1 Ku556.1) Ku577.1) Ku598.1) E606.1) E607.1) Ku611.1) u640
        have g_b632 : n0 ≤ b632 := Nat.le_trans (own_z Ou611) u642
        have sz_b632 : h0.size ≤ b632 := Nat.le_trans (Nat.le_trans (Nat.le_trans (Nat.le_trans (Nat.le_trans (Nat.le_trans (Nat.le_trans E552.1 Ku556.1) Ku577.1) Ku598.1) E606.1) E607.1) Ku611.1) u642
        have N629 := Fr.app N608 u637
        have pre661 : ∀ t, Steps p.tables e below (T629.setTop (mkF m 109 #[vI p1, vI p2, vI p3, vI p4, vI p5, vJ q6, .second, vI 2, vI i520, vI i532, vI i548, vR b552, vR b606, .unset, .unset, .unset, .unset] [])) t → Steps p.tables e below EN t := by
          intro t kt
          refine pre551 t ?_
          refine o_istore X550 hx hby at_27 (Ls' := #[vI p1, vI p2, vI p3, vI p4, vI p5, vJ q6, .second, vI 2, vI i520, vI i532, vI i548, .unset, .unset, .unset, .unset, .unset, .unset]) rfl (st552 _ (o_dup X552 hx hby at_32 rfl (st553 _ (o_astore X553 hx hby at_36 rfl (Ls' := #[vI p1, vI p2, vI p3, vI p4, vI p5, vJ q6, .second, vI 2, vI i520, vI i532, vI i548, vR b552, .unset, .unset, .unset, .unset, .unset]) rfl (o_iload X553 hx hby at_38 rfl (o_ifN X553 hx hby at_40 (by decide +kernel) (o_aload X553 hx hby at_43 rfl rfl (o_iloadN X553 hx hby at_45 rfl (st561 _ (st570 _ (o_pop X570 hx hby at_52 rfl (o_iload X570 hx hby at_53 rfl (o_iconst X570 hx hby at_55 (x := 1) rfl (o_icmpN X570 hx hby at_56 (by decide +kernel) (o_aload X570 hx hby at_59 rfl rfl (o_iloadN X570 hx hby at_61 rfl (o_iconst X570 hx hby at_62 (x := 2) rfl (o_iushr X570 hx hby at_63 (z := i585) hi585.symm (st586 _ (st595 _ (o_pop X595 hx hby at_70 rfl (o_iload X595 hx hby at_71 rfl (o_iconst X595 hx hby at_73 (x := 2) rfl (o_icmpY X595 hx hby at_74 (pc := 74) (pc' := 89) (by decide +kernel) (by decide) (by decide) (st606 _ (o_dup X606 hx hby at_92 rfl (o_aload X606 hx hby at_93 rfl rfl (st607 _ (o_dup X607 hx hby at_98 rfl (o_lload X607 hx hby at_99 rfl (st608 _ (st629 _ (o_astore X629 hx hby at_107 rfl (Ls' := #[vI p1, vI p2, vI p3, vI p4, vI p5, vJ q6, .second, vI 2, vI i520, vI i532, vI i548, vR b552, vR b606, .unset, .unset, .unset, .unset]) rfl ?_)))))))))))))))))))))))))))))))))
          exact kt
        rcases hp533 with ⟨hq662, hq663⟩ | ⟨hq662, hq663⟩ | ⟨hq662, hq663⟩
        · skip
          subst hq662; subst hq663
          obtain ⟨_, T664, L664, X664, hQ664, st664⟩ := own_cS X629 hx hZ hown (ww115 hw) (ww116 hw) (ww117 hw) (ww118 hw) (rm14_15 l Z a0 hw p5 a135 a139 a143 a147 T629.heap n0 Ou647 S_136 E_137 F138 S_140 E_141 F142 S_144 E_145 F146 S_148 E_149 F150) rfl pd_9 hml (hb hby at_148) (Ls := #[vI p1, vI p2, vI p3, vI p4, vI p5, vJ q6, .second, vI 2, vI 0, vI 0, vI i548, vR b552, vR b606, .unset, .unset, .unset, .unset]) (W := 1) (argsL := [(.int p5)]) (rest := [(.ref b606)])
          obtain ⟨b665, i666, u667, u668, u669, rfl, u671, u672⟩ := hQ664
          have N664 := Fr.app N629 u671
          have pre673 : ∀ t, Steps p.tables e below (T664.setTop (mkF m 151 #[vI p1, vI p2, vI p3, vI p4, vI p5, vJ q6, .second, vI 2, vI 0, vI 0, vI i548, vR b552, vR b606, .unset, .unset, .unset, .unset] [(.ref b665), (.ref b606)])) t → Steps p.tables e below EN t := by
            intro t kt
            refine pre661 t ?_
            refine o_iload X629 hx hby at_109 rfl (o_ifY X629 hx hby at_111 (pc := 111) (pc' := 120) (by decide +kernel) (by decide) (by decide) (o_iload X629 hx hby at_120 rfl (o_iconst X629 hx hby at_122 (x := 1) rfl (o_icmpY X629 hx hby at_123 (pc := 123) (pc' := 132) (by decide +kernel) (by decide) (by decide) (o_iload X629 hx hby at_132 rfl (o_iconst X629 hx hby at_134 (x := 2) rfl (o_icmpY X629 hx hby at_135 (pc := 135) (pc' := 144) (by decide +kernel) (by decide) (by decide) (o_aload X629 hx hby at_144 rfl rfl (o_iload X629 hx hby at_146 rfl (st664 _ ?_))))))))))
            exact kt
          rcases (own_m0 hp549) with hq674
          · skip
            subst hq674
            obtain ⟨_, T675, L675, X675, hQ675, st675⟩ := own_cV X664 hx hZ hown (ww122 hw) (ww123 hw) (notFace_of_selects (args := #[]) (mvT hZ (ww125 hw))) (ww125 hw) (ww124 hw) (ww32 hw) (ww126 hw) u648 (rm15_16 l Z a0 hw b606 b665 T629.heap n0 Ou647) u672 pd_10 hml (hb hby at_153) (Ls := #[vI p1, vI p2, vI p3, vI p4, vI p5, vJ q6, .second, vI 2, vI 0, vI 0, vI 0, vR b552, vR b606, .unset, .unset, .unset, .unset]) (W := 0) (argsL := [(.ref b665), (.int 0)]) (rest := [])
            obtain ⟨rfl, u677, u678⟩ := hQ675
            have N675 := Fr.app N664 u677
            obtain ⟨_, T679, L679, X679, hQ679, st679⟩ := own_cV X675 hx hZ hown (ww127 hw) (ww128 hw) (notFace_of_selects (args := #[]) (mvT hZ (ww130 hw))) (ww130 hw) (ww129 hw) (ww32 hw) (ww131 hw) u648 (rm16_52 l Z a0 hw b606 T629.heap n0 Ou647 u650 u652) u678 pd_6 hml (hb hby at_168) (Ls := #[vI p1, vI p2, vI p3, vI p4, vI p5, vJ q6, .second, vI 2, vI 0, vI 0, vI 0, vR b552, vR b606, vI 2, .unset, .unset, .unset]) (W := 0) (argsL := []) (rest := [])
            obtain ⟨rfl, u681, u682⟩ := hQ679
            have N679 := Fr.app N675 u681
            obtain ⟨_, T683, L683, X683, hQ683, st683⟩ := own_cV X679 hx hZ hown (ww106 hw) (ww107 hw) (notFace_of_selects (args := #[]) (mvT hZ (ww109 hw))) (ww109 hw) (ww108 hw) (ww32 hw) (ww110 hw) u648 (rm13_53 l Z a0 hw b606 b630 b631 (0 : Int32) b607 b632 i588 i563 k633 T629.heap n0 Ou647 u650 u649 u648 u651 u652 u653 u654 g_b606 u656 (Ne.symm (own_n (own_t (own_t lt_b606 E607.1) Ku611.1) u638))) u682 pd_3 hml (hb hby at_175) (Ls := #[vI p1, vI p2, vI p3, vI p4, vI p5, vJ q6, .second, vI 2, vI 0, vI 0, vI 0, vR b552, vR b606, vI 2, vI 1, .unset, .unset]) (W := 0) (argsL := []) (rest := [])
            obtain ⟨rfl, u685, Ku686, u687, u688, u689, u690, u691, u692, u693⟩ := hQ683
            have Ou686 : Old Z n0 T683.heap := Ou647.keep Ku686 (allS g_b606 all0)
            have N683 := Fr.app N679 u685
            obtain ⟨_, T694, L694, X694, hQ694, st694⟩ := own_cV X683 hx hZ hown (ww127 hw) (ww128 hw) (notFace_of_selects (args := #[]) (mvT hZ (ww130 hw))) (ww130 hw) (ww129 hw) (ww32 hw) (ww131 hw) u687 (rm16_33 l Z a0 hw b606 T683.heap n0 Ou686 u689 u691) rfl pd_6 hml (hb hby at_182) (Ls := #[vI p1, vI p2, vI p3, vI p4, vI p5, vJ q6, .second, vI 2, vI 0, vI 0, vI 0, vR b552, vR b606, vI 2, vI 1, vI i563, .unset]) (W := 0) (argsL := []) (rest := [])
            obtain ⟨rfl, u696, u697⟩ := hQ694
            have N694 := Fr.app N683 u696
            refine fin (some (.int 1)) _ _ _ _ X694 nofun (fun fs hr => pre673 _ ?_) (own_atH u697 ?_) (by decide) (by decide)
            · refine o_iload X664 hx hby at_151 rfl (st675 _ (o_iload X675 hx hby at_156 rfl (o_iload X675 hx hby at_158 rfl (o_isub X675 hx hby at_160 (z := (2 : Int32)) (by decide +kernel) (o_iload X675 hx hby at_161 rfl (o_iadd X675 hx hby at_163 (z := (2 : Int32)) (by decide +kernel) (o_istore X675 hx hby at_164 (Ls' := #[vI p1, vI p2, vI p3, vI p4, vI p5, vJ q6, .second, vI 2, vI 0, vI 0, vI 0, vR b552, vR b606, vI 2, .unset, .unset, .unset]) rfl (o_aload X675 hx hby at_166 rfl rfl (st679 _ (o_istore X679 hx hby at_171 (Ls' := #[vI p1, vI p2, vI p3, vI p4, vI p5, vJ q6, .second, vI 2, vI 0, vI 0, vI 0, vR b552, vR b606, vI 2, vI 1, .unset, .unset]) rfl (o_aload X679 hx hby at_173 rfl rfl (st683 _ (o_istore X683 hx hby at_178 (Ls' := #[vI p1, vI p2, vI p3, vI p4, vI p5, vJ q6, .second, vI 2, vI 0, vI 0, vI 0, vR b552, vR b606, vI 2, vI 1, vI i563, .unset]) rfl (o_aload X683 hx hby at_180 rfl rfl (st694 _ (o_istore X694 hx hby at_185 (Ls' := #[vI p1, vI p2, vI p3, vI p4, vI p5, vJ q6, .second, vI 2, vI 0, vI 0, vI 0, vR b552, vR b606, vI 2, vI 1, vI i563, vI 1]) rfl (o_iload X694 hx hby at_187 rfl (o_iload X694 hx hby at_189 rfl (o_ifN X694 hx hby at_191 (by decide +kernel) (o_iconst X694 hx hby at_194 (x := 1) rfl (o_goto X694 hx hby at_195 (pc := 195) (pc' := 199) (by decide) (by decide) (o_icmpN X694 hx hby at_199 (by decide +kernel) (o_iload X694 hx hby at_202 rfl (o_iconst X694 hx hby at_204 (x := -1) rfl (o_icmpN X694 hx hby at_205 (feq u566).1 (o_iconst X694 hx hby at_208 (x := 1) rfl (o_goto X694 hx hby at_209 (pc := 209) (pc' := 213) (by decide) (by decide) (o_iload X694 hx hby at_213 rfl (o_ifN X694 hx hby at_215 (by decide +kernel) (o_iconst X694 hx hby at_218 (x := 1) rfl (o_goto X694 hx hby at_219 (pc := 219) (pc' := 223) (by decide) (by decide) (o_icmpN X694 hx hby at_223 (by decide +kernel) (o_iload X694 hx hby at_226 rfl (o_iload X694 hx hby at_228 rfl (o_iconst X694 hx hby at_230 (x := 1) rfl (o_icmpN X694 hx hby at_231 (by decide +kernel) (o_iconst X694 hx hby at_234 (x := 1) rfl (o_goto X694 hx hby at_235 (pc := 235) (pc' := 239) (by decide) (by decide) (o_icmpN X694 hx hby at_239 (by decide +kernel) ?_)))))))))))))))))))))))))))))))))))))))
              refine o_iconst X694 hx hby at_242 (x := 1) rfl (o_goto X694 hx hby at_243 (pc := 243) (pc' := 247) (by decide) (by decide) ?_)
              exact retN X694 hx (t := .boolean) hret (by simp) (hb hby at_247) hr
            · exact ⟨rfl, N694⟩
        · skip
          subst hq662; subst hq663
          obtain ⟨_, T698, L698, X698, hQ698, st698⟩ := own_cV X629 hx hZ hown (ww106 hw) (ww107 hw) (notFace_of_selects (args := #[]) (mvT hZ (ww109 hw))) (ww109 hw) (ww108 hw) (ww32 hw) (ww110 hw) u648 (rm13_53 l Z a0 hw b606 b630 b631 (0 : Int32) b607 b632 i588 i563 k633 T629.heap n0 Ou647 u650 u649 u648 u651 u652 u653 u654 g_b606 u656 (Ne.symm (own_n (own_t (own_t lt_b606 E607.1) Ku611.1) u638))) rfl pd_3 hml (hb hby at_116) (Ls := #[vI p1, vI p2, vI p3, vI p4, vI p5, vJ q6, .second, vI 2, vI 1, vI 1, vI i548, vR b552, vR b606, .unset, .unset, .unset, .unset]) (W := 0) (argsL := []) (rest := [])
          obtain ⟨rfl, u700, Ku701, u702, u703, u704, u705, u706, u707, u708⟩ := hQ698
          have Ou701 : Old Z n0 T698.heap := Ou647.keep Ku701 (allS g_b606 all0)
          have N698 := Fr.app N629 u700
          obtain ⟨_, T709, L709, X709, hQ709, st709⟩ := own_cS X698 hx hZ hown (ww115 hw) (ww116 hw) (ww117 hw) (ww118 hw) (rm14_15 l Z a0 hw p5 a135 a139 a143 a147 T698.heap n0 Ou701 S_136 E_137 F138 S_140 E_141 F142 S_144 E_145 F146 S_148 E_149 F150) rfl pd_9 hml (hb hby at_148) (Ls := #[vI p1, vI p2, vI p3, vI p4, vI p5, vJ q6, .second, vI 2, vI 1, vI 1, vI i548, vR b552, vR b606, .unset, .unset, .unset, .unset]) (W := 1) (argsL := [(.int p5)]) (rest := [(.ref b606)])
          obtain ⟨b710, i711, u712, u713, u714, rfl, u716, u717⟩ := hQ709
          have N709 := Fr.app N698 u716
          have pre718 : ∀ t, Steps p.tables e below (T709.setTop (mkF m 151 #[vI p1, vI p2, vI p3, vI p4, vI p5, vJ q6, .second, vI 2, vI 1, vI 1, vI i548, vR b552, vR b606, .unset, .unset, .unset, .unset] [(.ref b710), (.ref b606)])) t → Steps p.tables e below EN t := by
            intro t kt
            refine pre661 t ?_
            refine o_iload X629 hx hby at_109 rfl (o_ifN X629 hx hby at_111 (by decide +kernel) (o_aload X629 hx hby at_114 rfl rfl (st698 _ (o_pop X698 hx hby at_119 rfl (o_iload X698 hx hby at_120 rfl (o_iconst X698 hx hby at_122 (x := 1) rfl (o_icmpY X698 hx hby at_123 (pc := 123) (pc' := 132) (by decide +kernel) (by decide) (by decide) (o_iload X698 hx hby at_132 rfl (o_iconst X698 hx hby at_134 (x := 2) rfl (o_icmpY X698 hx hby at_135 (pc := 135) (pc' := 144) (by decide +kernel) (by decide) (by decide) (o_aload X698 hx hby at_144 rfl rfl (o_iload X698 hx hby at_146 rfl (st709 _ ?_)))))))))))))
            exact kt
          rcases (own_m1 hp549) with hq719 | hq719
          · skip
            subst hq719
            obtain ⟨_, T720, L720, X720, hQ720, st720⟩ := own_cV X709 hx hZ hown (ww122 hw) (ww123 hw) (notFace_of_selects (args := #[]) (mvT hZ (ww125 hw))) (ww125 hw) (ww124 hw) (ww32 hw) (ww126 hw) u702 (rm15_16 l Z a0 hw b606 b710 T698.heap n0 Ou701) u717 pd_10 hml (hb hby at_153) (Ls := #[vI p1, vI p2, vI p3, vI p4, vI p5, vJ q6, .second, vI 2, vI 1, vI 1, vI 0, vR b552, vR b606, .unset, .unset, .unset, .unset]) (W := 0) (argsL := [(.ref b710), (.int 0)]) (rest := [])
            obtain ⟨rfl, u722, u723⟩ := hQ720
            have N720 := Fr.app N709 u722
            obtain ⟨_, T724, L724, X724, hQ724, st724⟩ := own_cV X720 hx hZ hown (ww127 hw) (ww128 hw) (notFace_of_selects (args := #[]) (mvT hZ (ww130 hw))) (ww130 hw) (ww129 hw) (ww32 hw) (ww131 hw) u702 (rm16_33 l Z a0 hw b606 T698.heap n0 Ou701 u704 u706) u723 pd_6 hml (hb hby at_168) (Ls := #[vI p1, vI p2, vI p3, vI p4, vI p5, vJ q6, .second, vI 2, vI 1, vI 1, vI 0, vR b552, vR b606, vI 1, .unset, .unset, .unset]) (W := 0) (argsL := []) (rest := [])
            obtain ⟨rfl, u726, u727⟩ := hQ724
            have N724 := Fr.app N720 u726
            have f728 : Arv Z T698.heap b630 k633 .int (2 : Int32) [(.int i588), (.int i563)] (.int (0 : Int32)) := (u656.keep Ku701 (ninS (Ne.symm (own_n (own_t (own_t lt_b606 E607.1) Ku611.1) u638)) nin0))
            obtain ⟨_, T729, L729, X729, hQ729, st729⟩ := own_cV X724 hx hZ hown (ww106 hw) (ww107 hw) (notFace_of_selects (args := #[]) (mvT hZ (ww109 hw))) (ww109 hw) (ww108 hw) (ww32 hw) (ww110 hw) u702 (rm13_54 l Z a0 hw b606 b630 b631 (0 : Int32) b607 b632 i588 i563 k633 T698.heap n0 Ou701 u704 u703 u702 u705 u706 u707 u708 g_b606 f728 (Ne.symm (own_n (own_t (own_t lt_b606 E607.1) Ku611.1) u638))) u727 pd_3 hml (hb hby at_175) (Ls := #[vI p1, vI p2, vI p3, vI p4, vI p5, vJ q6, .second, vI 2, vI 1, vI 1, vI 0, vR b552, vR b606, vI 1, vI 1, .unset, .unset]) (W := 0) (argsL := []) (rest := [])
            obtain ⟨rfl, u731, Ku732, u733, u734, u735, u736, u737, u738, u739⟩ := hQ729
            have Ou732 : Old Z n0 T729.heap := Ou701.keep Ku732 (allS g_b606 all0)
            have N729 := Fr.app N724 u731
            obtain ⟨_, T740, L740, X740, hQ740, st740⟩ := own_cV X729 hx hZ hown (ww127 hw) (ww128 hw) (notFace_of_selects (args := #[]) (mvT hZ (ww130 hw))) (ww130 hw) (ww129 hw) (ww32 hw) (ww131 hw) u733 (rm16_17 l Z a0 hw b606 T729.heap n0 Ou732 u735 u737) rfl pd_6 hml (hb hby at_182) (Ls := #[vI p1, vI p2, vI p3, vI p4, vI p5, vJ q6, .second, vI 2, vI 1, vI 1, vI 0, vR b552, vR b606, vI 1, vI 1, vI i588, .unset]) (W := 0) (argsL := []) (rest := [])
            obtain ⟨rfl, u742, u743⟩ := hQ740
            have N740 := Fr.app N729 u742
            refine fin (some (.int 1)) _ _ _ _ X740 nofun (fun fs hr => pre718 _ ?_) (own_atH u743 ?_) (by decide) (by decide)
            · refine o_iload X709 hx hby at_151 rfl (st720 _ (o_iload X720 hx hby at_156 rfl (o_iload X720 hx hby at_158 rfl (o_isub X720 hx hby at_160 (z := (1 : Int32)) (by decide +kernel) (o_iload X720 hx hby at_161 rfl (o_iadd X720 hx hby at_163 (z := (1 : Int32)) (by decide +kernel) (o_istore X720 hx hby at_164 (Ls' := #[vI p1, vI p2, vI p3, vI p4, vI p5, vJ q6, .second, vI 2, vI 1, vI 1, vI 0, vR b552, vR b606, vI 1, .unset, .unset, .unset]) rfl (o_aload X720 hx hby at_166 rfl rfl (st724 _ (o_istore X724 hx hby at_171 (Ls' := #[vI p1, vI p2, vI p3, vI p4, vI p5, vJ q6, .second, vI 2, vI 1, vI 1, vI 0, vR b552, vR b606, vI 1, vI 1, .unset, .unset]) rfl (o_aload X724 hx hby at_173 rfl rfl (st729 _ (o_istore X729 hx hby at_178 (Ls' := #[vI p1, vI p2, vI p3, vI p4, vI p5, vJ q6, .second, vI 2, vI 1, vI 1, vI 0, vR b552, vR b606, vI 1, vI 1, vI i588, .unset]) rfl (o_aload X729 hx hby at_180 rfl rfl (st740 _ (o_istore X740 hx hby at_185 (Ls' := #[vI p1, vI p2, vI p3, vI p4, vI p5, vJ q6, .second, vI 2, vI 1, vI 1, vI 0, vR b552, vR b606, vI 1, vI 1, vI i588, vI 0]) rfl (o_iload X740 hx hby at_187 rfl (o_iload X740 hx hby at_189 rfl (o_ifN X740 hx hby at_191 (by decide +kernel) (o_iconst X740 hx hby at_194 (x := 1) rfl (o_goto X740 hx hby at_195 (pc := 195) (pc' := 199) (by decide) (by decide) (o_icmpN X740 hx hby at_199 (by decide +kernel) (o_iload X740 hx hby at_202 rfl (o_iconst X740 hx hby at_204 (x := -1) rfl (o_icmpN X740 hx hby at_205 (feq u591).1 (o_iconst X740 hx hby at_208 (x := 1) rfl (o_goto X740 hx hby at_209 (pc := 209) (pc' := 213) (by decide) (by decide) (o_iload X740 hx hby at_213 rfl (o_ifN X740 hx hby at_215 (by decide +kernel) (o_iconst X740 hx hby at_218 (x := 1) rfl (o_goto X740 hx hby at_219 (pc := 219) (pc' := 223) (by decide) (by decide) (o_icmpN X740 hx hby at_223 (by decide +kernel) (o_iload X740 hx hby at_226 rfl (o_iload X740 hx hby at_228 rfl (o_iconst X740 hx hby at_230 (x := 1) rfl (o_icmpY X740 hx hby at_231 (pc := 231) (pc' := 238) (by decide +kernel) (by decide) (by decide) (o_iconst X740 hx hby at_238 (x := 0) rfl (o_icmpN X740 hx hby at_239 (by decide +kernel) (o_iconst X740 hx hby at_242 (x := 1) rfl ?_)))))))))))))))))))))))))))))))))))))))
              refine o_goto X740 hx hby at_243 (pc := 243) (pc' := 247) (by decide) (by decide) ?_
              exact retN X740 hx (t := .boolean) hret (by simp) (hb hby at_247) hr
            · exact ⟨rfl, N740⟩
          · skip
            subst hq719
            have f744 : Arv Z T698.heap b631 k634 .int (2 : Int32) [] (.int (0 : Int32)) := (u658.keep Ku701 (ninS (Ne.symm (own_n (own_t (own_t lt_b606 E607.1) Ku611.1) u640)) nin0))
            have f745 : Exa Z T698.heap b631 "[I" := (u657.keep Ku701)
            obtain ⟨_, T746, L746, X746, hQ746, st746⟩ := own_cV X709 hx hZ hown (ww122 hw) (ww123 hw) (notFace_of_selects (args := #[]) (mvT hZ (ww125 hw))) (ww125 hw) (ww124 hw) (ww32 hw) (ww126 hw) u702 (rm15_55 l Z a0 hw b606 b710 b631 b630 (1 : Int32) b607 b632 i711 k634 T698.heap n0 Ou701 u705 u706 u702 u703 u704 u707 u708 g_b606 u712 u713 f744 (Ne.symm (own_n (own_t (own_t lt_b606 E607.1) Ku611.1) u640)) g_b631 f745) u717 pd_10 hml (hb hby at_153) (Ls := #[vI p1, vI p2, vI p3, vI p4, vI p5, vJ q6, .second, vI 2, vI 1, vI 1, vI 1, vR b552, vR b606, .unset, .unset, .unset, .unset]) (W := 0) (argsL := [(.ref b710), (.int 1)]) (rest := [])
            obtain ⟨rfl, u748, Ku749, u750, u751, u752, u753, u754, u755, u756, u757, u758⟩ := hQ746
            have Ou749 : Old Z n0 T746.heap := Ou701.keep Ku749 (allS g_b606 (allS g_b631 all0))
            have N746 := Fr.app N709 u748
            obtain ⟨_, T759, L759, X759, hQ759, st759⟩ := own_cV X746 hx hZ hown (ww127 hw) (ww128 hw) (notFace_of_selects (args := #[]) (mvT hZ (ww130 hw))) (ww130 hw) (ww129 hw) (ww32 hw) (ww131 hw) u750 (rm16_56 l Z a0 hw b606 T746.heap n0 Ou749 u752 u754) rfl pd_6 hml (hb hby at_168) (Ls := #[vI p1, vI p2, vI p3, vI p4, vI p5, vJ q6, .second, vI 2, vI 1, vI 1, vI 1, vR b552, vR b606, vI 2, .unset, .unset, .unset]) (W := 0) (argsL := []) (rest := [])
            obtain ⟨rfl, u761, u762⟩ := hQ759
            have N759 := Fr.app N746 u761
            have f763 : Arv Z T746.heap b630 k633 .int (2 : Int32) [(.int i588), (.int i563)] (.int (0 : Int32)) := ((u656.keep Ku701 (ninS (Ne.symm (own_n (own_t (own_t lt_b606 E607.1) Ku611.1) u638)) nin0)).keep Ku749 (ninS (Ne.symm (own_n (own_t (own_t lt_b606 E607.1) Ku611.1) u638)) (ninS u644 nin0)))
            obtain ⟨_, T764, L764, X764, hQ764, st764⟩ := own_cV X759 hx hZ hown (ww106 hw) (ww107 hw) (notFace_of_selects (args := #[]) (mvT hZ (ww109 hw))) (ww109 hw) (ww108 hw) (ww32 hw) (ww110 hw) u750 (rm13_54 l Z a0 hw b606 b630 b631 (1 : Int32) b607 b632 i588 i563 k633 T746.heap n0 Ou749 u752 u751 u750 u753 u754 u755 u756 g_b606 f763 (Ne.symm (own_n (own_t (own_t lt_b606 E607.1) Ku611.1) u638))) u762 pd_3 hml (hb hby at_175) (Ls := #[vI p1, vI p2, vI p3, vI p4, vI p5, vJ q6, .second, vI 2, vI 1, vI 1, vI 1, vR b552, vR b606, vI 2, vI 1, .unset, .unset]) (W := 0) (argsL := []) (rest := [])
            obtain ⟨rfl, u766, Ku767, u768, u769, u770, u771, u772, u773, u774⟩ := hQ764
            have Ou767 : Old Z n0 T764.heap := Ou749.keep Ku767 (allS g_b606 all0)
            have N764 := Fr.app N759 u766
            obtain ⟨_, T775, L775, X775, hQ775, st775⟩ := own_cV X764 hx hZ hown (ww127 hw) (ww128 hw) (notFace_of_selects (args := #[]) (mvT hZ (ww130 hw))) (ww130 hw) (ww129 hw) (ww32 hw) (ww131 hw) u768 (rm16_36 l Z a0 hw b606 T764.heap n0 Ou767 u770 u772) rfl pd_6 hml (hb hby at_182) (Ls := #[vI p1, vI p2, vI p3, vI p4, vI p5, vJ q6, .second, vI 2, vI 1, vI 1, vI 1, vR b552, vR b606, vI 2, vI 1, vI i588, .unset]) (W := 0) (argsL := []) (rest := [])
            obtain ⟨rfl, u777, u778⟩ := hQ775
            have N775 := Fr.app N764 u777
            refine fin (some (.int 1)) _ _ _ _ X775 nofun (fun fs hr => pre718 _ ?_) (own_atH u778 ?_) (by decide) (by decide)
            · refine o_iload X709 hx hby at_151 rfl (st746 _ (o_iload X746 hx hby at_156 rfl (o_iload X746 hx hby at_158 rfl (o_isub X746 hx hby at_160 (z := (1 : Int32)) (by decide +kernel) (o_iload X746 hx hby at_161 rfl (o_iadd X746 hx hby at_163 (z := (2 : Int32)) (by decide +kernel) (o_istore X746 hx hby at_164 (Ls' := #[vI p1, vI p2, vI p3, vI p4, vI p5, vJ q6, .second, vI 2, vI 1, vI 1, vI 1, vR b552, vR b606, vI 2, .unset, .unset, .unset]) rfl (o_aload X746 hx hby at_166 rfl rfl (st759 _ (o_istore X759 hx hby at_171 (Ls' := #[vI p1, vI p2, vI p3, vI p4, vI p5, vJ q6, .second, vI 2, vI 1, vI 1, vI 1, vR b552, vR b606, vI 2, vI 1, .unset, .unset]) rfl (o_aload X759 hx hby at_173 rfl rfl (st764 _ (o_istore X764 hx hby at_178 (Ls' := #[vI p1, vI p2, vI p3, vI p4, vI p5, vJ q6, .second, vI 2, vI 1, vI 1, vI 1, vR b552, vR b606, vI 2, vI 1, vI i588, .unset]) rfl (o_aload X764 hx hby at_180 rfl rfl (st775 _ (o_istore X775 hx hby at_185 (Ls' := #[vI p1, vI p2, vI p3, vI p4, vI p5, vJ q6, .second, vI 2, vI 1, vI 1, vI 1, vR b552, vR b606, vI 2, vI 1, vI i588, vI 1]) rfl (o_iload X775 hx hby at_187 rfl (o_iload X775 hx hby at_189 rfl (o_ifN X775 hx hby at_191 (by decide +kernel) (o_iconst X775 hx hby at_194 (x := 1) rfl (o_goto X775 hx hby at_195 (pc := 195) (pc' := 199) (by decide) (by decide) (o_icmpN X775 hx hby at_199 (by decide +kernel) (o_iload X775 hx hby at_202 rfl (o_iconst X775 hx hby at_204 (x := -1) rfl (o_icmpN X775 hx hby at_205 (feq u591).1 (o_iconst X775 hx hby at_208 (x := 1) rfl (o_goto X775 hx hby at_209 (pc := 209) (pc' := 213) (by decide) (by decide) (o_iload X775 hx hby at_213 rfl (o_ifN X775 hx hby at_215 (by decide +kernel) (o_iconst X775 hx hby at_218 (x := 1) rfl (o_goto X775 hx hby at_219 (pc := 219) (pc' := 223) (by decide) (by decide) (o_icmpN X775 hx hby at_223 (by decide +kernel) (o_iload X775 hx hby at_226 rfl (o_iload X775 hx hby at_228 rfl (o_iconst X775 hx hby at_230 (x := 1) rfl (o_icmpN X775 hx hby at_231 (by decide +kernel) (o_iconst X775 hx hby at_234 (x := 1) rfl (o_goto X775 hx hby at_235 (pc := 235) (pc' := 239) (by decide) (by decide) (o_icmpN X775 hx hby at_239 (by decide +kernel) ?_)))))))))))))))))))))))))))))))))))))))
              refine o_iconst X775 hx hby at_242 (x := 1) rfl (o_goto X775 hx hby at_243 (pc := 243) (pc' := 247) (by decide) (by decide) ?_)
              exact retN X775 hx (t := .boolean) hret (by simp) (hb hby at_247) hr
            · exact ⟨rfl, N775⟩
        · skip
          subst hq663
          obtain ⟨_, T779, L779, X779, hQ779, st779⟩ := own_cV X629 hx hZ hown (ww106 hw) (ww107 hw) (notFace_of_selects (args := #[]) (mvT hZ (ww109 hw))) (ww109 hw) (ww108 hw) (ww32 hw) (ww110 hw) u648 (rm13_53 l Z a0 hw b606 b630 b631 (0 : Int32) b607 b632 i588 i563 k633 T629.heap n0 Ou647 u650 u649 u648 u651 u652 u653 u654 g_b606 u656 (Ne.symm (own_n (own_t (own_t lt_b606 E607.1) Ku611.1) u638))) rfl pd_3 hml (hb hby at_116) (Ls := #[vI p1, vI p2, vI p3, vI p4, vI p5, vJ q6, .second, vI 2, vI i520, vI 2, vI i548, vR b552, vR b606, .unset, .unset, .unset, .unset]) (W := 0) (argsL := []) (rest := [])
          obtain ⟨rfl, u781, Ku782, u783, u784, u785, u786, u787, u788, u789⟩ := hQ779
          have Ou782 : Old Z n0 T779.heap := Ou647.keep Ku782 (allS g_b606 all0)
          have N779 := Fr.app N629 u781
          have f790 : Arv Z T779.heap b630 k633 .int (2 : Int32) [(.int i588), (.int i563)] (.int (0 : Int32)) := (u656.keep Ku782 (ninS (Ne.symm (own_n (own_t (own_t lt_b606 E607.1) Ku611.1) u638)) nin0))
          obtain ⟨_, T791, L791, X791, hQ791, st791⟩ := own_cV X779 hx hZ hown (ww106 hw) (ww107 hw) (notFace_of_selects (args := #[]) (mvT hZ (ww109 hw))) (ww109 hw) (ww108 hw) (ww32 hw) (ww110 hw) u783 (rm13_54 l Z a0 hw b606 b630 b631 (0 : Int32) b607 b632 i588 i563 k633 T779.heap n0 Ou782 u785 u784 u783 u786 u787 u788 u789 g_b606 f790 (Ne.symm (own_n (own_t (own_t lt_b606 E607.1) Ku611.1) u638))) rfl pd_3 hml (hb hby at_128) (Ls := #[vI p1, vI p2, vI p3, vI p4, vI p5, vJ q6, .second, vI 2, vI i520, vI 2, vI i548, vR b552, vR b606, .unset, .unset, .unset, .unset]) (W := 0) (argsL := []) (rest := [])
          obtain ⟨rfl, u793, Ku794, u795, u796, u797, u798, u799, u800, u801⟩ := hQ791
          have Ou794 : Old Z n0 T791.heap := Ou782.keep Ku794 (allS g_b606 all0)
          have N791 := Fr.app N779 u793
          have pre802 : ∀ t, Steps p.tables e below (T791.setTop (mkF m 132 #[vI p1, vI p2, vI p3, vI p4, vI p5, vJ q6, .second, vI 2, vI i520, vI 2, vI i548, vR b552, vR b606, .unset, .unset, .unset, .unset] [])) t → Steps p.tables e below EN t := by
            intro t kt
            refine pre661 t ?_
            refine o_iload X629 hx hby at_109 rfl (o_ifN X629 hx hby at_111 ((if0 _ _).trans (tlt (by rcases hq662 with h | h <;> subst h <;> decide +kernel : (0 : Int32) < i520)).2.2.2) (o_aload X629 hx hby at_114 rfl rfl (st779 _ (o_pop X779 hx hby at_119 rfl (o_iload X779 hx hby at_120 rfl (o_iconst X779 hx hby at_122 (x := 1) rfl (o_icmpN X779 hx hby at_123 (tlt (by rcases hq662 with h | h <;> subst h <;> decide +kernel : (1 : Int32) < i520)).2.2.2 (o_aload X779 hx hby at_126 rfl rfl (st791 _ (o_pop X791 hx hby at_131 rfl ?_))))))))))
            exact kt
          have join808 : ∀ (i809 : Int32), ∀ T811 : State, own_SL n0 X791 T811 → T811.heap = T791.heap → (∀ t, Steps p.tables e below (T811.setTop (mkF m 144 #[vI p1, vI p2, vI p3, vI p4, vI p5, vJ q6, .second, vI 2, vI i809, vI 2, vI i548, vR b552, vR b606, .unset, .unset, .unset, .unset] [])) t → Steps p.tables e below EN t) → False := by
            rintro i809 T811 ⟨_, N811, X811⟩ e811 pre812
            obtain ⟨_, T813, L813, X813, hQ813, st813⟩ := own_cS X811 hx hZ hown (ww115 hw) (ww116 hw) (ww117 hw) (ww118 hw) (rm14_15 l Z a0 hw p5 a135 a139 a143 a147 T791.heap n0 Ou794 S_136 E_137 F138 S_140 E_141 F142 S_144 E_145 F146 S_148 E_149 F150) e811 pd_9 hml (hb hby at_148) (Ls := #[vI p1, vI p2, vI p3, vI p4, vI p5, vJ q6, .second, vI 2, vI i809, vI 2, vI i548, vR b552, vR b606, .unset, .unset, .unset, .unset]) (W := 1) (argsL := [(.int p5)]) (rest := [(.ref b606)])
            obtain ⟨b814, i815, u816, u817, u818, rfl, u820, u821⟩ := hQ813
            have N813 := Fr.app N811 u820
            have pre822 : ∀ t, Steps p.tables e below (T813.setTop (mkF m 151 #[vI p1, vI p2, vI p3, vI p4, vI p5, vJ q6, .second, vI 2, vI i809, vI 2, vI i548, vR b552, vR b606, .unset, .unset, .unset, .unset] [(.ref b814), (.ref b606)])) t → Steps p.tables e below EN t := by
              intro t kt
              refine pre812 t ?_
              refine o_aload X811 hx hby at_144 rfl rfl (o_iload X811 hx hby at_146 rfl (st813 _ ?_))
              exact kt
            rcases (own_m2 hp549) with hq823 | hq823 | hq823
            · skip
              subst hq823
              obtain ⟨_, T824, L824, X824, hQ824, st824⟩ := own_cV X813 hx hZ hown (ww122 hw) (ww123 hw) (notFace_of_selects (args := #[]) (mvT hZ (ww125 hw))) (ww125 hw) (ww124 hw) (ww32 hw) (ww126 hw) u795 (rm15_16 l Z a0 hw b606 b814 T791.heap n0 Ou794) u821 pd_10 hml (hb hby at_153) (Ls := #[vI p1, vI p2, vI p3, vI p4, vI p5, vJ q6, .second, vI 2, vI i809, vI 2, vI 0, vR b552, vR b606, .unset, .unset, .unset, .unset]) (W := 0) (argsL := [(.ref b814), (.int 0)]) (rest := [])
              obtain ⟨rfl, u826, u827⟩ := hQ824
              have N824 := Fr.app N813 u826
              obtain ⟨_, T828, L828, X828, hQ828, st828⟩ := own_cV X824 hx hZ hown (ww127 hw) (ww128 hw) (notFace_of_selects (args := #[]) (mvT hZ (ww130 hw))) (ww130 hw) (ww129 hw) (ww32 hw) (ww131 hw) u795 (rm16_17 l Z a0 hw b606 T791.heap n0 Ou794 u797 u799) u827 pd_6 hml (hb hby at_168) (Ls := #[vI p1, vI p2, vI p3, vI p4, vI p5, vJ q6, .second, vI 2, vI i809, vI 2, vI 0, vR b552, vR b606, vI 0, .unset, .unset, .unset]) (W := 0) (argsL := []) (rest := [])
              obtain ⟨rfl, u830, u831⟩ := hQ828
              have N828 := Fr.app N824 u830
              obtain ⟨_, T832, L832, X832, hQ832, st832⟩ := own_cV X828 hx hZ hown (ww106 hw) (ww107 hw) (notFace_of_selects (args := #[]) (mvT hZ (ww109 hw))) (ww109 hw) (ww108 hw) (ww32 hw) (ww110 hw) u795 (rm13_14 l Z a0 hw b606 T791.heap n0 Ou794 u797 u799) u831 pd_3 hml (hb hby at_175) (Ls := #[vI p1, vI p2, vI p3, vI p4, vI p5, vJ q6, .second, vI 2, vI i809, vI 2, vI 0, vR b552, vR b606, vI 0, vI 0, .unset, .unset]) (W := 0) (argsL := []) (rest := [])
              obtain ⟨rfl, u834, u835⟩ := hQ832
              have N832 := Fr.app N828 u834
              obtain ⟨_, T836, L836, X836, hQ836, st836⟩ := own_cV X832 hx hZ hown (ww127 hw) (ww128 hw) (notFace_of_selects (args := #[]) (mvT hZ (ww130 hw))) (ww130 hw) (ww129 hw) (ww32 hw) (ww131 hw) u795 (rm16_17 l Z a0 hw b606 T791.heap n0 Ou794 u797 u799) u835 pd_6 hml (hb hby at_182) (Ls := #[vI p1, vI p2, vI p3, vI p4, vI p5, vJ q6, .second, vI 2, vI i809, vI 2, vI 0, vR b552, vR b606, vI 0, vI 0, vI (-1), .unset]) (W := 0) (argsL := []) (rest := [])
              obtain ⟨rfl, u838, u839⟩ := hQ836
              have N836 := Fr.app N832 u838
              refine fin (some (.int 1)) _ _ _ _ X836 nofun (fun fs hr => pre822 _ ?_) (own_atH u839 ?_) (by decide) (by decide)
              · refine o_iload X813 hx hby at_151 rfl (st824 _ (o_iload X824 hx hby at_156 rfl (o_iload X824 hx hby at_158 rfl (o_isub X824 hx hby at_160 (z := (0 : Int32)) (by decide +kernel) (o_iload X824 hx hby at_161 rfl (o_iadd X824 hx hby at_163 (z := (0 : Int32)) (by decide +kernel) (o_istore X824 hx hby at_164 (Ls' := #[vI p1, vI p2, vI p3, vI p4, vI p5, vJ q6, .second, vI 2, vI i809, vI 2, vI 0, vR b552, vR b606, vI 0, .unset, .unset, .unset]) rfl (o_aload X824 hx hby at_166 rfl rfl (st828 _ (o_istore X828 hx hby at_171 (Ls' := #[vI p1, vI p2, vI p3, vI p4, vI p5, vJ q6, .second, vI 2, vI i809, vI 2, vI 0, vR b552, vR b606, vI 0, vI 0, .unset, .unset]) rfl (o_aload X828 hx hby at_173 rfl rfl (st832 _ (o_istore X832 hx hby at_178 (Ls' := #[vI p1, vI p2, vI p3, vI p4, vI p5, vJ q6, .second, vI 2, vI i809, vI 2, vI 0, vR b552, vR b606, vI 0, vI 0, vI (-1), .unset]) rfl (o_aload X832 hx hby at_180 rfl rfl (st836 _ (o_istore X836 hx hby at_185 (Ls' := #[vI p1, vI p2, vI p3, vI p4, vI p5, vJ q6, .second, vI 2, vI i809, vI 2, vI 0, vR b552, vR b606, vI 0, vI 0, vI (-1), vI 0]) rfl (o_iload X836 hx hby at_187 rfl (o_iload X836 hx hby at_189 rfl (o_ifY X836 hx hby at_191 (pc := 191) (pc' := 198) (by decide +kernel) (by decide) (by decide) (o_iconst X836 hx hby at_198 (x := 0) rfl (o_icmpN X836 hx hby at_199 (by decide +kernel) (o_iload X836 hx hby at_202 rfl (o_iconst X836 hx hby at_204 (x := -1) rfl (o_icmpY X836 hx hby at_205 (pc := 205) (pc' := 212) (by decide +kernel) (by decide) (by decide) (o_iconst X836 hx hby at_212 (x := 0) rfl (o_iload X836 hx hby at_213 rfl (o_ifY X836 hx hby at_215 (pc := 215) (pc' := 222) (by decide +kernel) (by decide) (by decide) (o_iconst X836 hx hby at_222 (x := 0) rfl (o_icmpN X836 hx hby at_223 (by decide +kernel) (o_iload X836 hx hby at_226 rfl (o_iload X836 hx hby at_228 rfl (o_iconst X836 hx hby at_230 (x := 1) rfl (o_icmpY X836 hx hby at_231 (pc := 231) (pc' := 238) (by decide +kernel) (by decide) (by decide) (o_iconst X836 hx hby at_238 (x := 0) rfl (o_icmpN X836 hx hby at_239 (by decide +kernel) (o_iconst X836 hx hby at_242 (x := 1) rfl (o_goto X836 hx hby at_243 (pc := 243) (pc' := 247) (by decide) (by decide) ?_)))))))))))))))))))))))))))))))))))))
                exact retN X836 hx (t := .boolean) hret (by simp) (hb hby at_247) hr
              · exact ⟨rfl, N836⟩
            · skip
              subst hq823
              have f840 : Arv Z T791.heap b631 k634 .int (2 : Int32) [] (.int (0 : Int32)) := ((u658.keep Ku782 (ninS (Ne.symm (own_n (own_t (own_t lt_b606 E607.1) Ku611.1) u640)) nin0)).keep Ku794 (ninS (Ne.symm (own_n (own_t (own_t lt_b606 E607.1) Ku611.1) u640)) nin0))
              have f841 : Exa Z T791.heap b631 "[I" := ((u657.keep Ku782).keep Ku794)
              obtain ⟨_, T842, L842, X842, hQ842, st842⟩ := own_cV X813 hx hZ hown (ww122 hw) (ww123 hw) (notFace_of_selects (args := #[]) (mvT hZ (ww125 hw))) (ww125 hw) (ww124 hw) (ww32 hw) (ww126 hw) u795 (rm15_55 l Z a0 hw b606 b814 b631 b630 (0 : Int32) b607 b632 i815 k634 T791.heap n0 Ou794 u798 u799 u795 u796 u797 u800 u801 g_b606 u816 u817 f840 (Ne.symm (own_n (own_t (own_t lt_b606 E607.1) Ku611.1) u640)) g_b631 f841) u821 pd_10 hml (hb hby at_153) (Ls := #[vI p1, vI p2, vI p3, vI p4, vI p5, vJ q6, .second, vI 2, vI i809, vI 2, vI 1, vR b552, vR b606, .unset, .unset, .unset, .unset]) (W := 0) (argsL := [(.ref b814), (.int 1)]) (rest := [])
              obtain ⟨rfl, u844, Ku845, u846, u847, u848, u849, u850, u851, u852, u853, u854⟩ := hQ842
              have Ou845 : Old Z n0 T842.heap := Ou794.keep Ku845 (allS g_b606 (allS g_b631 all0))
              have N842 := Fr.app N813 u844
              obtain ⟨_, T855, L855, X855, hQ855, st855⟩ := own_cV X842 hx hZ hown (ww127 hw) (ww128 hw) (notFace_of_selects (args := #[]) (mvT hZ (ww130 hw))) (ww130 hw) (ww129 hw) (ww32 hw) (ww131 hw) u846 (rm16_36 l Z a0 hw b606 T842.heap n0 Ou845 u848 u850) rfl pd_6 hml (hb hby at_168) (Ls := #[vI p1, vI p2, vI p3, vI p4, vI p5, vJ q6, .second, vI 2, vI i809, vI 2, vI 1, vR b552, vR b606, vI 1, .unset, .unset, .unset]) (W := 0) (argsL := []) (rest := [])
              obtain ⟨rfl, u857, u858⟩ := hQ855
              have N855 := Fr.app N842 u857
              have f859 : Arv Z T842.heap b630 k633 .int (2 : Int32) [(.int i588), (.int i563)] (.int (0 : Int32)) := ((f790.keep Ku794 (ninS (Ne.symm (own_n (own_t (own_t lt_b606 E607.1) Ku611.1) u638)) nin0)).keep Ku845 (ninS (Ne.symm (own_n (own_t (own_t lt_b606 E607.1) Ku611.1) u638)) (ninS u644 nin0)))
              have f860 : Exa Z T842.heap b630 "[I" := (((u655.keep Ku782).keep Ku794).keep Ku845)
              have f861 : Exa Z T842.heap b607 C_5 := ((((u612.keep Ku647).keep Ku782).keep Ku794).keep Ku845)
              obtain ⟨_, T862, L862, X862, hQ862, st862⟩ := own_cV X855 hx hZ hown (ww106 hw) (ww107 hw) (notFace_of_selects (args := #[]) (mvT hZ (ww109 hw))) (ww109 hw) (ww108 hw) (ww32 hw) (ww110 hw) u846 (rm13_57 l Z a0 hw b606 b631 b630 i815 k634 i588 i563 k633 b607 b632 T842.heap n0 Ou845 u848 u850 u849 u847 u854 f859 f860 g_b630 (own_n (own_t (own_t lt_b606 E607.1) Ku611.1) u638) u846 u851 u852 g_b606 f861) u858 pd_3 hml (hb hby at_175) (Ls := #[vI p1, vI p2, vI p3, vI p4, vI p5, vJ q6, .second, vI 2, vI i809, vI 2, vI 1, vR b552, vR b606, vI 1, vI 1, .unset, .unset]) (W := 0) (argsL := []) (rest := [])
              obtain ⟨rfl, u864, Ku865, u866, u867, u868, u869, u870, u871, u872, u873, u874⟩ := hQ862
              have Ou865 : Old Z n0 T862.heap := Ou845.keep Ku865 (allS g_b630 (allS g_b606 all0))
              have N862 := Fr.app N855 u864
              obtain ⟨_, T875, L875, X875, hQ875, st875⟩ := own_cV X862 hx hZ hown (ww127 hw) (ww128 hw) (notFace_of_selects (args := #[]) (mvT hZ (ww130 hw))) (ww130 hw) (ww129 hw) (ww32 hw) (ww131 hw) u868 (rm16_17 l Z a0 hw b606 T862.heap n0 Ou865 u870 u872) rfl pd_6 hml (hb hby at_182) (Ls := #[vI p1, vI p2, vI p3, vI p4, vI p5, vJ q6, .second, vI 2, vI i809, vI 2, vI 1, vR b552, vR b606, vI 1, vI 1, vI i815, .unset]) (W := 0) (argsL := []) (rest := [])
              obtain ⟨rfl, u877, u878⟩ := hQ875
              have N875 := Fr.app N862 u877
              refine fin (some (.int 1)) _ _ _ _ X875 nofun (fun fs hr => pre822 _ ?_) (own_atH u878 ?_) (by decide) (by decide)
              · refine o_iload X813 hx hby at_151 rfl (st842 _ (o_iload X842 hx hby at_156 rfl (o_iload X842 hx hby at_158 rfl (o_isub X842 hx hby at_160 (z := (0 : Int32)) (by decide +kernel) (o_iload X842 hx hby at_161 rfl (o_iadd X842 hx hby at_163 (z := (1 : Int32)) (by decide +kernel) (o_istore X842 hx hby at_164 (Ls' := #[vI p1, vI p2, vI p3, vI p4, vI p5, vJ q6, .second, vI 2, vI i809, vI 2, vI 1, vR b552, vR b606, vI 1, .unset, .unset, .unset]) rfl (o_aload X842 hx hby at_166 rfl rfl (st855 _ (o_istore X855 hx hby at_171 (Ls' := #[vI p1, vI p2, vI p3, vI p4, vI p5, vJ q6, .second, vI 2, vI i809, vI 2, vI 1, vR b552, vR b606, vI 1, vI 1, .unset, .unset]) rfl (o_aload X855 hx hby at_173 rfl rfl (st862 _ (o_istore X862 hx hby at_178 (Ls' := #[vI p1, vI p2, vI p3, vI p4, vI p5, vJ q6, .second, vI 2, vI i809, vI 2, vI 1, vR b552, vR b606, vI 1, vI 1, vI i815, .unset]) rfl (o_aload X862 hx hby at_180 rfl rfl (st875 _ (o_istore X875 hx hby at_185 (Ls' := #[vI p1, vI p2, vI p3, vI p4, vI p5, vJ q6, .second, vI 2, vI i809, vI 2, vI 1, vR b552, vR b606, vI 1, vI 1, vI i815, vI 0]) rfl (o_iload X875 hx hby at_187 rfl (o_iload X875 hx hby at_189 rfl (o_ifN X875 hx hby at_191 (by decide +kernel) (o_iconst X875 hx hby at_194 (x := 1) rfl (o_goto X875 hx hby at_195 (pc := 195) (pc' := 199) (by decide) (by decide) (o_icmpN X875 hx hby at_199 (by decide +kernel) (o_iload X875 hx hby at_202 rfl (o_iconst X875 hx hby at_204 (x := -1) rfl (o_icmpN X875 hx hby at_205 (feq u818).1 (o_iconst X875 hx hby at_208 (x := 1) rfl (o_goto X875 hx hby at_209 (pc := 209) (pc' := 213) (by decide) (by decide) (o_iload X875 hx hby at_213 rfl (o_ifN X875 hx hby at_215 (by decide +kernel) (o_iconst X875 hx hby at_218 (x := 1) rfl (o_goto X875 hx hby at_219 (pc := 219) (pc' := 223) (by decide) (by decide) (o_icmpN X875 hx hby at_223 (by decide +kernel) (o_iload X875 hx hby at_226 rfl (o_iload X875 hx hby at_228 rfl (o_iconst X875 hx hby at_230 (x := 1) rfl (o_icmpY X875 hx hby at_231 (pc := 231) (pc' := 238) (by decide +kernel) (by decide) (by decide) (o_iconst X875 hx hby at_238 (x := 0) rfl (o_icmpN X875 hx hby at_239 (by decide +kernel) (o_iconst X875 hx hby at_242 (x := 1) rfl ?_)))))))))))))))))))))))))))))))))))))))
                refine o_goto X875 hx hby at_243 (pc := 243) (pc' := 247) (by decide) (by decide) ?_
                exact retN X875 hx (t := .boolean) hret (by simp) (hb hby at_247) hr
              · exact ⟨rfl, N875⟩
            · skip
              subst hq823
              have f879 : Arv Z T791.heap b631 k634 .int (2 : Int32) [] (.int (0 : Int32)) := ((u658.keep Ku782 (ninS (Ne.symm (own_n (own_t (own_t lt_b606 E607.1) Ku611.1) u640)) nin0)).keep Ku794 (ninS (Ne.symm (own_n (own_t (own_t lt_b606 E607.1) Ku611.1) u640)) nin0))
              have f880 : Exa Z T791.heap b631 "[I" := ((u657.keep Ku782).keep Ku794)
              obtain ⟨_, T881, L881, X881, hQ881, st881⟩ := own_cV X813 hx hZ hown (ww122 hw) (ww123 hw) (notFace_of_selects (args := #[]) (mvT hZ (ww125 hw))) (ww125 hw) (ww124 hw) (ww32 hw) (ww126 hw) u795 (rm15_58 l Z a0 hw b606 b814 b631 b630 (0 : Int32) b607 b632 i815 k634 T791.heap n0 Ou794 u798 u799 u795 u796 u797 u800 u801 g_b606 u816 u817 f879 (Ne.symm (own_n (own_t (own_t lt_b606 E607.1) Ku611.1) u640)) g_b631 f880) u821 pd_10 hml (hb hby at_153) (Ls := #[vI p1, vI p2, vI p3, vI p4, vI p5, vJ q6, .second, vI 2, vI i809, vI 2, vI 2, vR b552, vR b606, .unset, .unset, .unset, .unset]) (W := 0) (argsL := [(.ref b814), (.int 2)]) (rest := [])
              obtain ⟨rfl, u883, Ku884, u885, u886, u887, u888, u889, u890, u891, u892, u893⟩ := hQ881
              have Ou884 : Old Z n0 T881.heap := Ou794.keep Ku884 (allS g_b606 (allS g_b631 all0))
              have N881 := Fr.app N813 u883
              obtain ⟨_, T894, L894, X894, hQ894, st894⟩ := own_cV X881 hx hZ hown (ww127 hw) (ww128 hw) (notFace_of_selects (args := #[]) (mvT hZ (ww130 hw))) (ww130 hw) (ww129 hw) (ww32 hw) (ww131 hw) u885 (rm16_59 l Z a0 hw b606 T881.heap n0 Ou884 u887 u889) rfl pd_6 hml (hb hby at_168) (Ls := #[vI p1, vI p2, vI p3, vI p4, vI p5, vJ q6, .second, vI 2, vI i809, vI 2, vI 2, vR b552, vR b606, vI 2, .unset, .unset, .unset]) (W := 0) (argsL := []) (rest := [])
              obtain ⟨rfl, u896, u897⟩ := hQ894
              have N894 := Fr.app N881 u896
              have f898 : Arv Z T881.heap b630 k633 .int (2 : Int32) [(.int i588), (.int i563)] (.int (0 : Int32)) := ((f790.keep Ku794 (ninS (Ne.symm (own_n (own_t (own_t lt_b606 E607.1) Ku611.1) u638)) nin0)).keep Ku884 (ninS (Ne.symm (own_n (own_t (own_t lt_b606 E607.1) Ku611.1) u638)) (ninS u644 nin0)))
              have f899 : Exa Z T881.heap b630 "[I" := (((u655.keep Ku782).keep Ku794).keep Ku884)
              have f900 : Exa Z T881.heap b607 C_5 := ((((u612.keep Ku647).keep Ku782).keep Ku794).keep Ku884)
              have f901 : Fld Z T881.heap b607 C_5 "state" "J" (.long q6) := ((((u613.keep Ku647 (ninS (Ne.symm (own_n lt_b606 bd_b607)) nin0)).keep Ku782 (ninS (Ne.symm (own_n lt_b606 bd_b607)) nin0)).keep Ku794 (ninS (Ne.symm (own_n lt_b606 bd_b607)) nin0)).keep Ku884 (ninS (Ne.symm (own_n lt_b606 bd_b607)) (ninS (own_n (own_t lt_b607 Ku611.1) u640) nin0)))
              obtain ⟨_, T902, L902, X902, hQ902, st902⟩ := own_cV X894 hx hZ hown (ww106 hw) (ww107 hw) (notFace_of_selects (args := #[]) (mvT hZ (ww109 hw))) (ww109 hw) (ww108 hw) (ww32 hw) (ww110 hw) u885 (rm13_60 l Z a0 hw b606 b631 b630 i815 k634 i588 i563 k633 b607 b632 q6 T881.heap n0 Ou884 u887 u889 u888 u886 u893 f898 f899 g_b630 (own_n (own_t (own_t lt_b606 E607.1) Ku611.1) u638) u885 u890 u891 g_b606 f900 f901 (Ne.symm (own_n (own_t lt_b607 Ku611.1) u638)) g_b607 (Ne.symm (own_n lt_b606 bd_b607))) u897 pd_3 hml (hb hby at_175) (Ls := #[vI p1, vI p2, vI p3, vI p4, vI p5, vJ q6, .second, vI 2, vI i809, vI 2, vI 2, vR b552, vR b606, vI 2, vI 1, .unset, .unset]) (W := 0) (argsL := []) (rest := [])
              obtain ⟨j903, rfl, u905, Ku906, u907, u908, u909, u910, u911, u912, u913, u914, u915, u916, u917⟩ := hQ902
              have Ou906 : Old Z n0 T902.heap := Ou884.keep Ku906 (allS g_b630 (allS g_b606 (allS g_b607 all0)))
              have N902 := Fr.app N894 u905
              obtain ⟨_, T918, L918, X918, hQ918, st918⟩ := own_cV X902 hx hZ hown (ww127 hw) (ww128 hw) (notFace_of_selects (args := #[]) (mvT hZ (ww130 hw))) (ww130 hw) (ww129 hw) (ww32 hw) (ww131 hw) u909 (rm16_33 l Z a0 hw b606 T902.heap n0 Ou906 u911 u913) rfl pd_6 hml (hb hby at_182) (Ls := #[vI p1, vI p2, vI p3, vI p4, vI p5, vJ q6, .second, vI 2, vI i809, vI 2, vI 2, vR b552, vR b606, vI 2, vI 1, vI i815, .unset]) (W := 0) (argsL := []) (rest := [])
              obtain ⟨rfl, u920, u921⟩ := hQ918
              have N918 := Fr.app N902 u920
              refine fin (some (.int 1)) _ _ _ _ X918 nofun (fun fs hr => pre822 _ ?_) (own_atH u921 ?_) (by decide) (by decide)
              · refine o_iload X813 hx hby at_151 rfl (st881 _ (o_iload X881 hx hby at_156 rfl (o_iload X881 hx hby at_158 rfl (o_isub X881 hx hby at_160 (z := (0 : Int32)) (by decide +kernel) (o_iload X881 hx hby at_161 rfl (o_iadd X881 hx hby at_163 (z := (2 : Int32)) (by decide +kernel) (o_istore X881 hx hby at_164 (Ls' := #[vI p1, vI p2, vI p3, vI p4, vI p5, vJ q6, .second, vI 2, vI i809, vI 2, vI 2, vR b552, vR b606, vI 2, .unset, .unset, .unset]) rfl (o_aload X881 hx hby at_166 rfl rfl (st894 _ (o_istore X894 hx hby at_171 (Ls' := #[vI p1, vI p2, vI p3, vI p4, vI p5, vJ q6, .second, vI 2, vI i809, vI 2, vI 2, vR b552, vR b606, vI 2, vI 1, .unset, .unset]) rfl (o_aload X894 hx hby at_173 rfl rfl (st902 _ (o_istore X902 hx hby at_178 (Ls' := #[vI p1, vI p2, vI p3, vI p4, vI p5, vJ q6, .second, vI 2, vI i809, vI 2, vI 2, vR b552, vR b606, vI 2, vI 1, vI i815, .unset]) rfl (o_aload X902 hx hby at_180 rfl rfl (st918 _ (o_istore X918 hx hby at_185 (Ls' := #[vI p1, vI p2, vI p3, vI p4, vI p5, vJ q6, .second, vI 2, vI i809, vI 2, vI 2, vR b552, vR b606, vI 2, vI 1, vI i815, vI 1]) rfl (o_iload X918 hx hby at_187 rfl (o_iload X918 hx hby at_189 rfl (o_ifN X918 hx hby at_191 (by decide +kernel) (o_iconst X918 hx hby at_194 (x := 1) rfl (o_goto X918 hx hby at_195 (pc := 195) (pc' := 199) (by decide) (by decide) (o_icmpN X918 hx hby at_199 (by decide +kernel) (o_iload X918 hx hby at_202 rfl (o_iconst X918 hx hby at_204 (x := -1) rfl (o_icmpN X918 hx hby at_205 (feq u818).1 (o_iconst X918 hx hby at_208 (x := 1) rfl (o_goto X918 hx hby at_209 (pc := 209) (pc' := 213) (by decide) (by decide) (o_iload X918 hx hby at_213 rfl (o_ifN X918 hx hby at_215 (by decide +kernel) (o_iconst X918 hx hby at_218 (x := 1) rfl (o_goto X918 hx hby at_219 (pc := 219) (pc' := 223) (by decide) (by decide) (o_icmpN X918 hx hby at_223 (by decide +kernel) (o_iload X918 hx hby at_226 rfl (o_iload X918 hx hby at_228 rfl (o_iconst X918 hx hby at_230 (x := 1) rfl (o_icmpN X918 hx hby at_231 (by decide +kernel) (o_iconst X918 hx hby at_234 (x := 1) rfl (o_goto X918 hx hby at_235 (pc := 235) (pc' := 239) (by decide) (by decide) (o_icmpN X918 hx hby at_239 (by decide +kernel) ?_)))))))))))))))))))))))))))))))))))))))
                refine o_iconst X918 hx hby at_242 (x := 1) rfl (o_goto X918 hx hby at_243 (pc := 243) (pc' := 247) (by decide) (by decide) ?_)
                exact retN X918 hx (t := .boolean) hret (by simp) (hb hby at_247) hr
              · exact ⟨rfl, N918⟩
          rcases hq662 with hq922 | hq922
          · skip
            subst hq922
            have pre923 : ∀ t, Steps p.tables e below (T791.setTop (mkF m 144 #[vI p1, vI p2, vI p3, vI p4, vI p5, vJ q6, .second, vI 2, vI 2, vI 2, vI i548, vR b552, vR b606, .unset, .unset, .unset, .unset] [])) t → Steps p.tables e below EN t := by
              intro t kt
              refine pre802 t ?_
              refine o_iload X791 hx hby at_132 rfl (o_iconst X791 hx hby at_134 (x := 2) rfl (o_icmpY X791 hx hby at_135 (pc := 135) (pc' := 144) (by decide +kernel) (by decide) (by decide) ?_))
              exact kt
            exact join808 (2 : Int32) T791 ⟨_, N791, X791⟩ rfl pre923
          · skip
            subst hq922
            obtain ⟨_, T924, L924, X924, hQ924, st924⟩ := own_cV X791 hx hZ hown (ww106 hw) (ww107 hw) (notFace_of_selects (args := #[]) (mvT hZ (ww109 hw))) (ww109 hw) (ww108 hw) (ww32 hw) (ww110 hw) u795 (rm13_14 l Z a0 hw b606 T791.heap n0 Ou794 u797 u799) rfl pd_3 hml (hb hby at_140) (Ls := #[vI p1, vI p2, vI p3, vI p4, vI p5, vJ q6, .second, vI 2, vI 3, vI 2, vI i548, vR b552, vR b606, .unset, .unset, .unset, .unset]) (W := 0) (argsL := []) (rest := [])
            obtain ⟨rfl, u926, u927⟩ := hQ924
            have N924 := Fr.app N791 u926
            have pre928 : ∀ t, Steps p.tables e below (T924.setTop (mkF m 144 #[vI p1, vI p2, vI p3, vI p4, vI p5, vJ q6, .second, vI 2, vI 3, vI 2, vI i548, vR b552, vR b606, .unset, .unset, .unset, .unset] [])) t → Steps p.tables e below EN t := by
              intro t kt
              refine pre802 t ?_
              refine o_iload X791 hx hby at_132 rfl (o_iconst X791 hx hby at_134 (x := 2) rfl (o_icmpN X791 hx hby at_135 (by decide +kernel) (o_aload X791 hx hby at_138 rfl rfl (st924 _ (o_pop X924 hx hby at_143 rfl ?_)))))
              exact kt
            exact join808 (3 : Int32) T924 ⟨_, N924, X924⟩ u927 pre928
      obtain ⟨_, T929, L929, X929, hQ929, st929⟩ := own_cS X534 hx hZ hown (ww0 hw) (ww1 hw) (ww2 hw) (ww3 hw) (rm1_3 l Z a0 hw i536 i532 h0 n0 O0) e534 pd_0 hml (hb hby at_24) (Ls := #[vI p1, vI p2, vI p3, vI p4, vI p5, vJ q6, .second, vI 2, vI i520, vI i532, .unset, .unset, .unset, .unset, .unset, .unset, .unset]) (W := 0) (argsL := [(.int i536), (.int i532)]) (rest := [])
      rcases hQ929 with ⟨u930, rfl, u932, u933⟩ | ⟨u934, rfl, u936, u937⟩
      · skip
        have N929 := Fr.app N534 u932
        have pre938 : ∀ t, Steps p.tables e below (T929.setTop (mkF m 27 #[vI p1, vI p2, vI p3, vI p4, vI p5, vJ q6, .second, vI 2, vI i520, vI i532, .unset, .unset, .unset, .unset, .unset, .unset, .unset] [(.int i532)])) t → Steps p.tables e below EN t := by
          intro t kt
          refine pre537 t ?_
          refine st929 _ ?_
          exact kt
        exact join547 i532 (own_md2 hp533) T929 ⟨_, N929, X929⟩ u933 pre938
      · skip
        have N929 := Fr.app N534 u936
        have pre939 : ∀ t, Steps p.tables e below (T929.setTop (mkF m 27 #[vI p1, vI p2, vI p3, vI p4, vI p5, vJ q6, .second, vI 2, vI i520, vI i532, .unset, .unset, .unset, .unset, .unset, .unset, .unset] [(.int i536)])) t → Steps p.tables e below EN t := by
          intro t kt
          refine pre537 t ?_
          refine st929 _ ?_
          exact kt
        exact join547 i536 ⟨own_and3' hi536, u934⟩ T929 ⟨_, N929, X929⟩ u937 pre939
    obtain ⟨_, T940, L940, X940, hQ940, st940⟩ := own_cS X0 hx hZ hown (ww0 hw) (ww1 hw) (ww2 hw) (ww3 hw) (rm1_39 l Z a0 hw i520 h0 n0 O0) e0 pd_0 hml (hb hby at_14) (Ls := #[vI p1, vI p2, vI p3, vI p4, vI p5, vJ q6, .second, vI 2, vI i520, .unset, .unset, .unset, .unset, .unset, .unset, .unset, .unset]) (W := 0) (argsL := [(.int i520), (.int 2)]) (rest := [])
    rcases hQ940 with ⟨u941, rfl, u943, u944⟩ | ⟨u945, rfl, u947, u948⟩
    · skip
      have N940 := Fr.app N0 u943
      have pre949 : ∀ t, Steps p.tables e below (T940.setTop (mkF m 17 #[vI p1, vI p2, vI p3, vI p4, vI p5, vJ q6, .second, vI 2, vI i520, .unset, .unset, .unset, .unset, .unset, .unset, .unset, .unset] [(.int 2)])) t → Steps p.tables e below EN t := by
        intro t kt
        refine pre521 t ?_
        refine st940 _ ?_
        exact kt
      exact join531 (2 : Int32) (own_kd2_n hi520 u941) T940 ⟨_, N940, X940⟩ u944 pre949
    · skip
      have N940 := Fr.app N0 u947
      have pre950 : ∀ t, Steps p.tables e below (T940.setTop (mkF m 17 #[vI p1, vI p2, vI p3, vI p4, vI p5, vJ q6, .second, vI 2, vI i520, .unset, .unset, .unset, .unset, .unset, .unset, .unset, .unset] [(.int i520)])) t → Steps p.tables e below EN t := by
        intro t kt
        refine pre521 t ?_
        refine st940 _ ?_
        exact kt
      exact join531 i520 (own_kd2_k hi520 u945) T940 ⟨_, N940, X940⟩ u948 pre950
  · skip
    obtain ⟨i951, hi951⟩ : ∃ z, z = (p2 &&& (3 : Int32)) := ⟨_, rfl⟩
    have pre952 : ∀ t, Steps p.tables e below (s₁.setTop (mkF m 14 #[vI p1, vI p2, vI p3, vI p4, vI p5, vJ q6, .second, vI 3, vI i951, .unset, .unset, .unset, .unset, .unset, .unset, .unset, .unset] [(.int 3), (.int i951)])) t → Steps p.tables e below EN t := by
      intro t kt
      refine pre8 t ?_
      refine o_iand X0 hx hby at_2 (z := (3 : Int32)) hq7 (o_istore X0 hx hby at_3 (Ls' := #[vI p1, vI p2, vI p3, vI p4, vI p5, vJ q6, .second, vI 3, .unset, .unset, .unset, .unset, .unset, .unset, .unset, .unset, .unset]) rfl (o_iloadN X0 hx hby at_5 rfl (o_iconst X0 hx hby at_6 (x := 3) rfl (o_iand X0 hx hby at_7 (z := i951) hi951.symm (o_istore X0 hx hby at_8 (Ls' := #[vI p1, vI p2, vI p3, vI p4, vI p5, vJ q6, .second, vI 3, vI i951, .unset, .unset, .unset, .unset, .unset, .unset, .unset, .unset]) rfl (o_iload X0 hx hby at_10 rfl (o_iload X0 hx hby at_12 rfl ?_)))))))
      exact kt
    have join962 : ∀ (i963 : Int32), ((i951 = (0 : Int32) ∧ i963 = (0 : Int32)) ∨ (i951 = (1 : Int32) ∧ i963 = (1 : Int32)) ∨ (i951 = (2 : Int32) ∧ i963 = (2 : Int32)) ∨ (i951 = (3 : Int32) ∧ i963 = (3 : Int32))) → ∀ T965 : State, own_SL n0 X0 T965 → T965.heap = h0 → (∀ t, Steps p.tables e below (T965.setTop (mkF m 17 #[vI p1, vI p2, vI p3, vI p4, vI p5, vJ q6, .second, vI 3, vI i951, .unset, .unset, .unset, .unset, .unset, .unset, .unset, .unset] [(.int i963)])) t → Steps p.tables e below EN t) → False := by
      rintro i963 hp964 T965 ⟨_, N965, X965⟩ e965 pre966
      obtain ⟨i967, hi967⟩ : ∃ z, z = (p3 &&& (3 : Int32)) := ⟨_, rfl⟩
      have pre968 : ∀ t, Steps p.tables e below (T965.setTop (mkF m 24 #[vI p1, vI p2, vI p3, vI p4, vI p5, vJ q6, .second, vI 3, vI i951, vI i963, .unset, .unset, .unset, .unset, .unset, .unset, .unset] [(.int i963), (.int i967)])) t → Steps p.tables e below EN t := by
        intro t kt
        refine pre966 t ?_
        refine o_istore X965 hx hby at_17 (Ls' := #[vI p1, vI p2, vI p3, vI p4, vI p5, vJ q6, .second, vI 3, vI i951, vI i963, .unset, .unset, .unset, .unset, .unset, .unset, .unset]) rfl (o_iloadN X965 hx hby at_19 rfl (o_iconst X965 hx hby at_20 (x := 3) rfl (o_iand X965 hx hby at_21 (z := i967) hi967.symm (o_iload X965 hx hby at_22 rfl ?_))))
        exact kt
      have join978 : ∀ (i979 : Int32), ((i979 = 0 ∨ i979 = 1 ∨ i979 = 2 ∨ i979 = 3) ∧ ¬ (i963 < i979)) → ∀ T981 : State, own_SL n0 X965 T981 → T981.heap = h0 → (∀ t, Steps p.tables e below (T981.setTop (mkF m 27 #[vI p1, vI p2, vI p3, vI p4, vI p5, vJ q6, .second, vI 3, vI i951, vI i963, .unset, .unset, .unset, .unset, .unset, .unset, .unset] [(.int i979)])) t → Steps p.tables e below EN t) → False := by
        rintro i979 hp980 T981 ⟨_, N981, X981⟩ e981 pre982
        obtain ⟨T983, h983, X983, e983, E983, A983, D983, -, st983⟩ := newO X981 hx hZ hown (ww4 hw) (ww5 hw) (ww6 hw) e981 (g := (mkF m 29 #[vI p1, vI p2, vI p3, vI p4, vI p5, vJ q6, .second, vI 3, vI i951, vI i963, vI i979, .unset, .unset, .unset, .unset, .unset, .unset] [])) rfl (hb hby at_29) (by decide) (by decide)
        obtain ⟨b983, g983⟩ : ∃ z, z = h0.size := ⟨_, rfl⟩
        rw [← g983] at A983 D983 st983
        have O983 : Old Z n0 h983 := O0.ext E983
        have bd_b983 : h0.size ≤ b983 := Nat.le_of_eq g983.symm
        have g_b983 : n0 ≤ b983 := Nat.le_trans (own_z O0) bd_b983
        have sz_b983 : h0.size ≤ b983 := Nat.le_trans (Nat.le_refl _) bd_b983
        have lt_b983 : b983 < h983.size := A983.lt
        have D983_26 : Fld Z h983 b983 C_0 "modCount" "I" (.int 0) := D983 (Or.inl (ww26 hw)) (ty := .int) (by decide)
        have D983_29 : Fld Z h983 b983 C_1 "elementData" C_2 .null := D983 (Or.inl (ww29 hw)) (ty := (.array (.object "java/lang/Object"))) (by decide)
        have D983_61 : Fld Z h983 b983 C_1 "size" "I" (.int 0) := D983 (Or.inl (ww61 hw)) (ty := .int) (by decide)
        obtain ⟨_, T984, L984, X984, hQ984, st984⟩ := own_cI X983 hx hZ hown (ww7 hw) (ww8 hw) (ww6 hw) (ww9 hw) (rm2_4 l Z a0 hw b983 a42 h983 n0 O983 A983 D983_29 D983_26 D983_61 g_b983 S_43) e983 pd_1 hml (hb hby at_33) (Ls := #[vI p1, vI p2, vI p3, vI p4, vI p5, vJ q6, .second, vI 3, vI i951, vI i963, vI i979, .unset, .unset, .unset, .unset, .unset, .unset]) (W := 1) (argsL := []) (rest := [(.ref b983)]) (b := b983)
        obtain ⟨rfl, u986, Ku987, u988, u989, u990, u991⟩ := hQ984
        have Ou987 : Old Z n0 T984.heap := O983.keep Ku987 (allS g_b983 all0)
        have N984 := Fr.app N981 u986
        obtain ⟨_, T992, L992, X992, hQ992, st992⟩ := own_cS X984 hx hZ hown (ww115 hw) (ww116 hw) (ww117 hw) (ww118 hw) (rm14_15 l Z a0 hw p4 a135 a139 a143 a147 T984.heap n0 Ou987 S_136 E_137 F138 S_140 E_141 F142 S_144 E_145 F146 S_148 E_149 F150) rfl pd_9 hml (hb hby at_46) (Ls := #[vI p1, vI p2, vI p3, vI p4, vI p5, vJ q6, .second, vI 3, vI i951, vI i963, vI i979, vR b983, .unset, .unset, .unset, .unset, .unset]) (W := 1) (argsL := [(.int p4)]) (rest := [(.ref b983)])
        obtain ⟨b993, i994, u995, u996, u997, rfl, u999, u1000⟩ := hQ992
        have N992 := Fr.app N984 u999
        obtain ⟨_, T1001, L1001, X1001, hQ1001, st1001⟩ := own_cV X992 hx hZ hown (ww132 hw) (ww133 hw) (notFace_of_selects (args := #[]) (mvT hZ (ww135 hw))) (ww135 hw) (ww134 hw) (ww6 hw) (ww136 hw) u988 (rm17_19 l Z a0 hw b983 b993 a42 k279 T984.heap n0 Ou987 u990 u988 u989 u991 g_b983 V280 S_43 u995 (own_t lt_b983 Ku987.1)) u1000 pd_14 hml (hb hby at_49) (Ls := #[vI p1, vI p2, vI p3, vI p4, vI p5, vJ q6, .second, vI 3, vI i951, vI i963, vI i979, vR b983, .unset, .unset, .unset, .unset, .unset]) (W := 0) (argsL := [(.ref b993)]) (rest := [])
        obtain ⟨b1002, k1003, rfl, u1005, u1006, u1007, Ku1008, u1009, u1010, u1011, u1012, u1013, u1014, u1015⟩ := hQ1001
        have Ou1008 : Old Z n0 T1001.heap := Ou987.keep Ku1008 (allS g_b983 all0)
        have g_b1002 : n0 ≤ b1002 := Nat.le_trans (own_z Ou987) u1006
        have sz_b1002 : h0.size ≤ b1002 := Nat.le_trans (Nat.le_trans E983.1 Ku987.1) u1006
        have N1001 := Fr.app N992 u1005
        obtain ⟨i1016, hi1016⟩ : ∃ z, z = ((p4.toUInt32 >>> ((2 : Int32) &&& 31).toUInt32).toInt32) := ⟨_, rfl⟩
        obtain ⟨_, T1017, L1017, X1017, hQ1017, st1017⟩ := own_cS X1001 hx hZ hown (ww115 hw) (ww116 hw) (ww117 hw) (ww118 hw) (rm14_15 l Z a0 hw i1016 a135 a139 a143 a147 T1001.heap n0 Ou1008 S_136 E_137 F138 S_140 E_141 F142 S_144 E_145 F146 S_148 E_149 F150) rfl pd_9 hml (hb hby at_64) (Ls := #[vI p1, vI p2, vI p3, vI p4, vI p5, vJ q6, .second, vI 3, vI i951, vI i963, vI i979, vR b983, .unset, .unset, .unset, .unset, .unset]) (W := 1) (argsL := [(.int i1016)]) (rest := [(.ref b983)])
        obtain ⟨b1018, i1019, u1020, u1021, u1022, rfl, u1024, u1025⟩ := hQ1017
        have N1017 := Fr.app N1001 u1024
        obtain ⟨_, T1026, L1026, X1026, hQ1026, st1026⟩ := own_cV X1017 hx hZ hown (ww132 hw) (ww133 hw) (notFace_of_selects (args := #[]) (mvT hZ (ww135 hw))) (ww135 hw) (ww134 hw) (ww6 hw) (ww136 hw) u1009 (rm17_40 l Z a0 hw b983 b1018 b1002 b993 k1003 T1001.heap n0 Ou1008 u1011 u1009 u1010 u1012 g_b983 u1014 u1015 u1020 u1013 (own_n (own_t lt_b983 Ku987.1) u1006) g_b1002) u1025 pd_14 hml (hb hby at_67) (Ls := #[vI p1, vI p2, vI p3, vI p4, vI p5, vJ q6, .second, vI 3, vI i951, vI i963, vI i979, vR b983, .unset, .unset, .unset, .unset, .unset]) (W := 0) (argsL := [(.ref b1018)]) (rest := [])
        obtain ⟨rfl, u1028, Ku1029, u1030, u1031, u1032, u1033, u1034, u1035, u1036⟩ := hQ1026
        have Ou1029 : Old Z n0 T1026.heap := Ou1008.keep Ku1029 (allS g_b983 (allS g_b1002 all0))
        have N1026 := Fr.app N1017 u1028
        obtain ⟨i1037, hi1037⟩ : ∃ z, z = ((p4.toUInt32 >>> ((4 : Int32) &&& 31).toUInt32).toInt32) := ⟨_, rfl⟩
        obtain ⟨_, T1038, L1038, X1038, hQ1038, st1038⟩ := own_cS X1026 hx hZ hown (ww115 hw) (ww116 hw) (ww117 hw) (ww118 hw) (rm14_15 l Z a0 hw i1037 a135 a139 a143 a147 T1026.heap n0 Ou1029 S_136 E_137 F138 S_140 E_141 F142 S_144 E_145 F146 S_148 E_149 F150) rfl pd_9 hml (hb hby at_82) (Ls := #[vI p1, vI p2, vI p3, vI p4, vI p5, vJ q6, .second, vI 3, vI i951, vI i963, vI i979, vR b983, .unset, .unset, .unset, .unset, .unset]) (W := 1) (argsL := [(.int i1037)]) (rest := [(.ref b983)])
        obtain ⟨b1039, i1040, u1041, u1042, u1043, rfl, u1045, u1046⟩ := hQ1038
        have N1038 := Fr.app N1026 u1045
        obtain ⟨_, T1047, L1047, X1047, hQ1047, st1047⟩ := own_cV X1038 hx hZ hown (ww132 hw) (ww133 hw) (notFace_of_selects (args := #[]) (mvT hZ (ww135 hw))) (ww135 hw) (ww134 hw) (ww6 hw) (ww136 hw) u1030 (rm17_66 l Z a0 hw b983 b1039 b1002 b993 b1018 k1003 T1026.heap n0 Ou1029 u1032 u1030 u1031 u1033 g_b983 u1035 u1036 u1041 u1034 (own_n (own_t lt_b983 Ku987.1) u1006) g_b1002) u1046 pd_14 hml (hb hby at_85) (Ls := #[vI p1, vI p2, vI p3, vI p4, vI p5, vJ q6, .second, vI 3, vI i951, vI i963, vI i979, vR b983, .unset, .unset, .unset, .unset, .unset]) (W := 0) (argsL := [(.ref b1039)]) (rest := [])
        obtain ⟨rfl, u1049, Ku1050, u1051, u1052, u1053, u1054, u1055, u1056, u1057⟩ := hQ1047
        have Ou1050 : Old Z n0 T1047.heap := Ou1029.keep Ku1050 (allS g_b983 (allS g_b1002 all0))
        have N1047 := Fr.app N1038 u1049
        obtain ⟨T1058, h1058, X1058, e1058, E1058, A1058, D1058, -, st1058⟩ := newO X1047 hx hZ hown (ww30 hw) (ww31 hw) (ww32 hw) rfl (g := (mkF m 89 #[vI p1, vI p2, vI p3, vI p4, vI p5, vJ q6, .second, vI 3, vI i951, vI i963, vI i979, vR b983, .unset, .unset, .unset, .unset, .unset] [])) rfl (hb hby at_89) (by decide) (by decide)
        obtain ⟨b1058, g1058⟩ : ∃ z, z = T1047.heap.size := ⟨_, rfl⟩
        rw [← g1058] at A1058 D1058 st1058
        have O1058 : Old Z n0 h1058 := Ou1050.ext E1058
        have bd_b1058 : T1047.heap.size ≤ b1058 := Nat.le_of_eq g1058.symm
        have g_b1058 : n0 ≤ b1058 := Nat.le_trans (own_z Ou1050) bd_b1058
        have sz_b1058 : h0.size ≤ b1058 := Nat.le_trans (Nat.le_trans (Nat.le_trans (Nat.le_trans (Nat.le_trans E983.1 Ku987.1) Ku1008.1) Ku1029.1) Ku1050.1) bd_b1058
        have lt_b1058 : b1058 < h1058.size := A1058.lt
        have D1058_48 : Fld Z h1058 b1058 C_3 "market" "[I" .null := D1058 (Or.inr (ww48 hw)) (ty := (.array .int)) (by decide)
        have D1058_50 : Fld Z h1058 b1058 C_3 "generator" C_4 .null := D1058 (Or.inr (ww50 hw)) (ty := (.object "com/example/railspan/railspan/game/Generator")) (by decide)
        have D1058_63 : Fld Z h1058 b1058 C_3 "deck" "[I" .null := D1058 (Or.inr (ww63 hw)) (ty := (.array .int)) (by decide)
        have D1058_65 : Fld Z h1058 b1058 C_3 "discard" "[I" .null := D1058 (Or.inr (ww65 hw)) (ty := (.array .int)) (by decide)
        have D1058_112 : Fld Z h1058 b1058 C_3 "deckSize" "I" (.int 0) := D1058 (Or.inl (ww112 hw)) (ty := .int) (by decide)
        have D1058_114 : Fld Z h1058 b1058 C_3 "discardSize" "I" (.int 0) := D1058 (Or.inl (ww114 hw)) (ty := .int) (by decide)
        obtain ⟨T1059, h1059, X1059, e1059, E1059, A1059, D1059, -, st1059⟩ := newO X1058 hx hZ hown (ww33 hw) (ww34 hw) (ww35 hw) e1058 (g := (mkF m 95 #[vI p1, vI p2, vI p3, vI p4, vI p5, vJ q6, .second, vI 3, vI i951, vI i963, vI i979, vR b983, .unset, .unset, .unset, .unset, .unset] [(.ref b983), (.ref b1058), (.ref b1058)])) rfl (hb hby at_95) (by decide) (by decide)
        obtain ⟨b1059, g1059⟩ : ∃ z, z = h1058.size := ⟨_, rfl⟩
        rw [← g1059] at A1059 D1059 st1059
        have O1059 : Old Z n0 h1059 := O1058.ext E1059
        have bd_b1059 : h1058.size ≤ b1059 := Nat.le_of_eq g1059.symm
        have g_b1059 : n0 ≤ b1059 := Nat.le_trans (own_z O1058) bd_b1059
        have sz_b1059 : h0.size ≤ b1059 := Nat.le_trans (Nat.le_trans (Nat.le_trans (Nat.le_trans (Nat.le_trans (Nat.le_trans E983.1 Ku987.1) Ku1008.1) Ku1029.1) Ku1050.1) E1058.1) bd_b1059
        have lt_b1059 : b1059 < h1059.size := A1059.lt
        have D1059_41 : Fld Z h1059 b1059 C_5 "state" "J" (.long 0) := D1059 (Or.inl (ww41 hw)) (ty := .long) (by decide)
        obtain ⟨_, T1060, L1060, X1060, hQ1060, st1060⟩ := own_cI X1059 hx hZ hown (ww36 hw) (ww37 hw) (ww35 hw) (ww38 hw) (rm6_7 l Z a0 hw b1059 q6 h1059 n0 O1059 A1059 D1059_41 g_b1059) e1059 pd_2 hml (hb hby at_101) (Ls := #[vI p1, vI p2, vI p3, vI p4, vI p5, vJ q6, .second, vI 3, vI i951, vI i963, vI i979, vR b983, .unset, .unset, .unset, .unset, .unset]) (W := 4) (argsL := [(.long q6)]) (rest := [(.ref b1059), (.ref b983), (.ref b1058), (.ref b1058)]) (b := b1059)
        obtain ⟨rfl, u1062, Ku1063, u1064, u1065⟩ := hQ1060
        have Ou1063 : Old Z n0 T1060.heap := O1059.keep Ku1063 (allS g_b1059 all0)
        have N1060 := Fr.app N1047 u1062
        have ne1066 : b983 ≠ b1058 := (own_n (own_t (own_t (own_t (own_t lt_b983 Ku987.1) Ku1008.1) Ku1029.1) Ku1050.1) bd_b1058)
        have lt1067 : b983 < T1060.heap.size := (own_t (own_t (own_t (own_t (own_t (own_t (own_t lt_b983 Ku987.1) Ku1008.1) Ku1029.1) Ku1050.1) E1058.1) E1059.1) Ku1063.1)
        have f1068 : Exa Z T1060.heap b1058 C_3 := ((Exa.ext E1059 A1058).keep Ku1063)
        have f1069 : Fld Z T1060.heap b1058 C_3 "deck" "[I" .null := ((Fld.ext E1059 D1058_63).keep Ku1063 (ninS (own_n lt_b1058 bd_b1059) nin0))
        have f1070 : Fld Z T1060.heap b1058 C_3 "deckSize" "I" (.int 0) := ((Fld.ext E1059 D1058_112).keep Ku1063 (ninS (own_n lt_b1058 bd_b1059) nin0))
        have f1071 : Fld Z T1060.heap b1058 C_3 "discard" "[I" .null := ((Fld.ext E1059 D1058_65).keep Ku1063 (ninS (own_n lt_b1058 bd_b1059) nin0))
        have f1072 : Fld Z T1060.heap b1058 C_3 "discardSize" "I" (.int 0) := ((Fld.ext E1059 D1058_114).keep Ku1063 (ninS (own_n lt_b1058 bd_b1059) nin0))
        have f1073 : Fld Z T1060.heap b1058 C_3 "generator" C_4 .null := ((Fld.ext E1059 D1058_50).keep Ku1063 (ninS (own_n lt_b1058 bd_b1059) nin0))
        have f1074 : Fld Z T1060.heap b1058 C_3 "market" "[I" .null := ((Fld.ext E1059 D1058_48).keep Ku1063 (ninS (own_n lt_b1058 bd_b1059) nin0))
        have f1075 : Exa Z T1060.heap b983 C_1 := ((Exa.ext E1059 (Exa.ext E1058 u1051)).keep Ku1063)
        have ne1076 : b983 ≠ b1059 := (own_n (own_t (own_t (own_t (own_t (own_t lt_b983 Ku987.1) Ku1008.1) Ku1029.1) Ku1050.1) E1058.1) bd_b1059)
        have f1077 : Fld Z T1060.heap b983 C_1 "size" "I" (.int 3) := ((Fld.ext E1059 (Fld.ext E1058 u1054)).keep Ku1063 (ninS ne1076 nin0))
        have f1078 : Fld Z T1060.heap b983 C_0 "modCount" "I" (.int 3) := ((Fld.ext E1059 (Fld.ext E1058 u1053)).keep Ku1063 (ninS ne1076 nin0))
        have f1079 : Fld Z T1060.heap b983 C_1 "elementData" C_2 (.ref b1002) := ((Fld.ext E1059 (Fld.ext E1058 u1052)).keep Ku1063 (ninS ne1076 nin0))
        have ne1080 : b1002 ≠ b1059 := (own_n (own_t (own_t (own_t u1007 Ku1029.1) Ku1050.1) E1058.1) bd_b1059)
        have f1081 : Arv Z T1060.heap b1002 k1003 (.object "java/lang/Object") (10 : Int32) [(.ref b993), (.ref b1018), (.ref b1039)] .null := (((u1056.ext E1058).ext E1059).keep Ku1063 (ninS ne1080 nin0))
        obtain ⟨_, T1082, L1082, X1082, hQ1082, st1082⟩ := own_cI X1060 hx hZ hown (ww42 hw) (ww43 hw) (ww32 hw) (ww44 hw) (rm7_68 l Z a0 hw b1058 b983 b1059 b1002 b993 b1018 b1039 k1003 i994 i1019 i1040 T1060.heap n0 Ou1063 f1068 f1069 f1070 f1071 f1072 f1073 f1074 g_b1058 f1075 f1077 ne1066 f1078 lt1067 f1079 f1081 (own_t (own_t (own_t (own_t (own_t u1007 Ku1029.1) Ku1050.1) E1058.1) E1059.1) Ku1063.1) (own_n (own_t (own_t u1007 Ku1029.1) Ku1050.1) bd_b1058) u995 (own_t (own_t lt_b1058 E1059.1) Ku1063.1) u996 u1020 u1021 u1041 u1042) rfl pd_8 hml (hb hby at_104) (Ls := #[vI p1, vI p2, vI p3, vI p4, vI p5, vJ q6, .second, vI 3, vI i951, vI i963, vI i979, vR b983, .unset, .unset, .unset, .unset, .unset]) (W := 1) (argsL := [(.ref b983), (.ref b1059)]) (rest := [(.ref b1058)]) (b := b1058)
        obtain ⟨b1083, b1084, b1085, k1086, k1087, k1088, rfl, u1090, u1091, u1092, u1093, u1094, u1095, u1096, u1097, u1098, u1099, Ku1100, u1101, u1102, u1103, u1104, u1105, u1106, u1107, u1108, u1109, u1110, u1111, u1112, u1113⟩ := hQ1082
        have Ou1100 : Old Z n0 T1082.heap := Ou1063.keep Ku1100 (allS g_b1058 all0)
        have g_b1083 : n0 ≤ b1083 := Nat.le_trans (own_z Ou1063) u1091
        have sz_b1083 : h0.size ≤ b1083 := Nat.le_trans (Nat.le_trans (Nat.le_trans (Nat.le_trans (Nat.le_trans (Nat.le_trans (Nat.le_trans (Nat.le_trans E983.1 Ku987.1) Ku1008.1) Ku1029.1) Ku1050.1) E1058.1) E1059.1) Ku1063.1) u1091
        have g_b1084 : n0 ≤ b1084 := Nat.le_trans (own_z Ou1063) u1093
        have sz_b1084 : h0.size ≤ b1084 := Nat.le_trans (Nat.le_trans (Nat.le_trans (Nat.le_trans (Nat.le_trans (Nat.le_trans (Nat.le_trans (Nat.le_trans E983.1 Ku987.1) Ku1008.1) Ku1029.1) Ku1050.1) E1058.1) E1059.1) Ku1063.1) u1093
        have g_b1085 : n0 ≤ b1085 := Nat.le_trans (own_z Ou1063) u1095
        have sz_b1085 : h0.size ≤ b1085 := Nat.le_trans (Nat.le_trans (Nat.le_trans (Nat.le_trans (Nat.le_trans (Nat.le_trans (Nat.le_trans (Nat.le_trans E983.1 Ku987.1) Ku1008.1) Ku1029.1) Ku1050.1) E1058.1) E1059.1) Ku1063.1) u1095
        have N1082 := Fr.app N1060 u1090
        have pre1114 : ∀ t, Steps p.tables e below (T1082.setTop (mkF m 109 #[vI p1, vI p2, vI p3, vI p4, vI p5, vJ q6, .second, vI 3, vI i951, vI i963, vI i979, vR b983, vR b1058, .unset, .unset, .unset, .unset] [])) t → Steps p.tables e below EN t := by
          intro t kt
          refine pre982 t ?_
          refine o_istore X981 hx hby at_27 (Ls' := #[vI p1, vI p2, vI p3, vI p4, vI p5, vJ q6, .second, vI 3, vI i951, vI i963, vI i979, .unset, .unset, .unset, .unset, .unset, .unset]) rfl (st983 _ (o_dup X983 hx hby at_32 rfl (st984 _ (o_astore X984 hx hby at_36 rfl (Ls' := #[vI p1, vI p2, vI p3, vI p4, vI p5, vJ q6, .second, vI 3, vI i951, vI i963, vI i979, vR b983, .unset, .unset, .unset, .unset, .unset]) rfl (o_iload X984 hx hby at_38 rfl (o_ifN X984 hx hby at_40 (by decide +kernel) (o_aload X984 hx hby at_43 rfl rfl (o_iloadN X984 hx hby at_45 rfl (st992 _ (st1001 _ (o_pop X1001 hx hby at_52 rfl (o_iload X1001 hx hby at_53 rfl (o_iconst X1001 hx hby at_55 (x := 1) rfl (o_icmpN X1001 hx hby at_56 (by decide +kernel) (o_aload X1001 hx hby at_59 rfl rfl (o_iloadN X1001 hx hby at_61 rfl (o_iconst X1001 hx hby at_62 (x := 2) rfl (o_iushr X1001 hx hby at_63 (z := i1016) hi1016.symm (st1017 _ (st1026 _ (o_pop X1026 hx hby at_70 rfl (o_iload X1026 hx hby at_71 rfl (o_iconst X1026 hx hby at_73 (x := 2) rfl (o_icmpN X1026 hx hby at_74 (by decide +kernel) (o_aload X1026 hx hby at_77 rfl rfl (o_iloadN X1026 hx hby at_79 rfl (o_iconst X1026 hx hby at_80 (x := 4) rfl (o_iushr X1026 hx hby at_81 (z := i1037) hi1037.symm (st1038 _ (st1047 _ (o_pop X1047 hx hby at_88 rfl (st1058 _ (o_dup X1058 hx hby at_92 rfl (o_aload X1058 hx hby at_93 rfl rfl (st1059 _ (o_dup X1059 hx hby at_98 rfl (o_lload X1059 hx hby at_99 rfl (st1060 _ (st1082 _ ?_)))))))))))))))))))))))))))))))))))))))
          refine o_astore X1082 hx hby at_107 rfl (Ls' := #[vI p1, vI p2, vI p3, vI p4, vI p5, vJ q6, .second, vI 3, vI i951, vI i963, vI i979, vR b983, vR b1058, .unset, .unset, .unset, .unset]) rfl ?_
          exact kt
        rcases hp964 with ⟨hq1115, hq1116⟩ | ⟨hq1115, hq1116⟩ | ⟨hq1115, hq1116⟩ | ⟨hq1115, hq1116⟩
        · skip
          subst hq1115; subst hq1116
          obtain ⟨_, T1117, L1117, X1117, hQ1117, st1117⟩ := own_cS X1082 hx hZ hown (ww115 hw) (ww116 hw) (ww117 hw) (ww118 hw) (rm14_15 l Z a0 hw p5 a135 a139 a143 a147 T1082.heap n0 Ou1100 S_136 E_137 F138 S_140 E_141 F142 S_144 E_145 F146 S_148 E_149 F150) rfl pd_9 hml (hb hby at_148) (Ls := #[vI p1, vI p2, vI p3, vI p4, vI p5, vJ q6, .second, vI 3, vI 0, vI 0, vI i979, vR b983, vR b1058, .unset, .unset, .unset, .unset]) (W := 1) (argsL := [(.int p5)]) (rest := [(.ref b1058)])
          obtain ⟨b1118, i1119, u1120, u1121, u1122, rfl, u1124, u1125⟩ := hQ1117
          have N1117 := Fr.app N1082 u1124
          have pre1126 : ∀ t, Steps p.tables e below (T1117.setTop (mkF m 151 #[vI p1, vI p2, vI p3, vI p4, vI p5, vJ q6, .second, vI 3, vI 0, vI 0, vI i979, vR b983, vR b1058, .unset, .unset, .unset, .unset] [(.ref b1118), (.ref b1058)])) t → Steps p.tables e below EN t := by
            intro t kt
            refine pre1114 t ?_
            refine o_iload X1082 hx hby at_109 rfl (o_ifY X1082 hx hby at_111 (pc := 111) (pc' := 120) (by decide +kernel) (by decide) (by decide) (o_iload X1082 hx hby at_120 rfl (o_iconst X1082 hx hby at_122 (x := 1) rfl (o_icmpY X1082 hx hby at_123 (pc := 123) (pc' := 132) (by decide +kernel) (by decide) (by decide) (o_iload X1082 hx hby at_132 rfl (o_iconst X1082 hx hby at_134 (x := 2) rfl (o_icmpY X1082 hx hby at_135 (pc := 135) (pc' := 144) (by decide +kernel) (by decide) (by decide) (o_aload X1082 hx hby at_144 rfl rfl (o_iload X1082 hx hby at_146 rfl (st1117 _ ?_))))))))))
            exact kt
          rcases (own_m0 hp980) with hq1127
          · skip
            subst hq1127
            obtain ⟨_, T1128, L1128, X1128, hQ1128, st1128⟩ := own_cV X1117 hx hZ hown (ww122 hw) (ww123 hw) (notFace_of_selects (args := #[]) (mvT hZ (ww125 hw))) (ww125 hw) (ww124 hw) (ww32 hw) (ww126 hw) u1101 (rm15_16 l Z a0 hw b1058 b1118 T1082.heap n0 Ou1100) u1125 pd_10 hml (hb hby at_153) (Ls := #[vI p1, vI p2, vI p3, vI p4, vI p5, vJ q6, .second, vI 3, vI 0, vI 0, vI 0, vR b983, vR b1058, .unset, .unset, .unset, .unset]) (W := 0) (argsL := [(.ref b1118), (.int 0)]) (rest := [])
            obtain ⟨rfl, u1130, u1131⟩ := hQ1128
            have N1128 := Fr.app N1117 u1130
            obtain ⟨_, T1132, L1132, X1132, hQ1132, st1132⟩ := own_cV X1128 hx hZ hown (ww127 hw) (ww128 hw) (notFace_of_selects (args := #[]) (mvT hZ (ww130 hw))) (ww130 hw) (ww129 hw) (ww32 hw) (ww131 hw) u1101 (rm16_80 l Z a0 hw b1058 T1082.heap n0 Ou1100 u1103 u1105) u1131 pd_6 hml (hb hby at_168) (Ls := #[vI p1, vI p2, vI p3, vI p4, vI p5, vJ q6, .second, vI 3, vI 0, vI 0, vI 0, vR b983, vR b1058, vI 3, .unset, .unset, .unset]) (W := 0) (argsL := []) (rest := [])
            obtain ⟨rfl, u1134, u1135⟩ := hQ1132
            have N1132 := Fr.app N1128 u1134
            obtain ⟨_, T1136, L1136, X1136, hQ1136, st1136⟩ := own_cV X1132 hx hZ hown (ww106 hw) (ww107 hw) (notFace_of_selects (args := #[]) (mvT hZ (ww109 hw))) (ww109 hw) (ww108 hw) (ww32 hw) (ww110 hw) u1101 (rm13_81 l Z a0 hw b1058 b1083 b1084 (0 : Int32) b1059 b1085 i1040 i1019 i994 k1086 T1082.heap n0 Ou1100 u1103 u1102 u1101 u1104 u1105 u1106 u1107 g_b1058 u1109 (Ne.symm (own_n (own_t (own_t lt_b1058 E1059.1) Ku1063.1) u1091))) u1135 pd_3 hml (hb hby at_175) (Ls := #[vI p1, vI p2, vI p3, vI p4, vI p5, vJ q6, .second, vI 3, vI 0, vI 0, vI 0, vR b983, vR b1058, vI 3, vI 1, .unset, .unset]) (W := 0) (argsL := []) (rest := [])
            obtain ⟨rfl, u1138, Ku1139, u1140, u1141, u1142, u1143, u1144, u1145, u1146⟩ := hQ1136
            have Ou1139 : Old Z n0 T1136.heap := Ou1100.keep Ku1139 (allS g_b1058 all0)
            have N1136 := Fr.app N1132 u1138
            obtain ⟨_, T1147, L1147, X1147, hQ1147, st1147⟩ := own_cV X1136 hx hZ hown (ww127 hw) (ww128 hw) (notFace_of_selects (args := #[]) (mvT hZ (ww130 hw))) (ww130 hw) (ww129 hw) (ww32 hw) (ww131 hw) u1140 (rm16_52 l Z a0 hw b1058 T1136.heap n0 Ou1139 u1142 u1144) rfl pd_6 hml (hb hby at_182) (Ls := #[vI p1, vI p2, vI p3, vI p4, vI p5, vJ q6, .second, vI 3, vI 0, vI 0, vI 0, vR b983, vR b1058, vI 3, vI 1, vI i994, .unset]) (W := 0) (argsL := []) (rest := [])
            obtain ⟨rfl, u1149, u1150⟩ := hQ1147
            have N1147 := Fr.app N1136 u1149
            refine fin (some (.int 1)) _ _ _ _ X1147 nofun (fun fs hr => pre1126 _ ?_) (own_atH u1150 ?_) (by decide) (by decide)
            · refine o_iload X1117 hx hby at_151 rfl (st1128 _ (o_iload X1128 hx hby at_156 rfl (o_iload X1128 hx hby at_158 rfl (o_isub X1128 hx hby at_160 (z := (3 : Int32)) (by decide +kernel) (o_iload X1128 hx hby at_161 rfl (o_iadd X1128 hx hby at_163 (z := (3 : Int32)) (by decide +kernel) (o_istore X1128 hx hby at_164 (Ls' := #[vI p1, vI p2, vI p3, vI p4, vI p5, vJ q6, .second, vI 3, vI 0, vI 0, vI 0, vR b983, vR b1058, vI 3, .unset, .unset, .unset]) rfl (o_aload X1128 hx hby at_166 rfl rfl (st1132 _ (o_istore X1132 hx hby at_171 (Ls' := #[vI p1, vI p2, vI p3, vI p4, vI p5, vJ q6, .second, vI 3, vI 0, vI 0, vI 0, vR b983, vR b1058, vI 3, vI 1, .unset, .unset]) rfl (o_aload X1132 hx hby at_173 rfl rfl (st1136 _ (o_istore X1136 hx hby at_178 (Ls' := #[vI p1, vI p2, vI p3, vI p4, vI p5, vJ q6, .second, vI 3, vI 0, vI 0, vI 0, vR b983, vR b1058, vI 3, vI 1, vI i994, .unset]) rfl (o_aload X1136 hx hby at_180 rfl rfl (st1147 _ (o_istore X1147 hx hby at_185 (Ls' := #[vI p1, vI p2, vI p3, vI p4, vI p5, vJ q6, .second, vI 3, vI 0, vI 0, vI 0, vR b983, vR b1058, vI 3, vI 1, vI i994, vI 1]) rfl (o_iload X1147 hx hby at_187 rfl (o_iload X1147 hx hby at_189 rfl (o_ifN X1147 hx hby at_191 (by decide +kernel) (o_iconst X1147 hx hby at_194 (x := 1) rfl (o_goto X1147 hx hby at_195 (pc := 195) (pc' := 199) (by decide) (by decide) (o_icmpN X1147 hx hby at_199 (by decide +kernel) (o_iload X1147 hx hby at_202 rfl (o_iconst X1147 hx hby at_204 (x := -1) rfl (o_icmpN X1147 hx hby at_205 (feq u997).1 (o_iconst X1147 hx hby at_208 (x := 1) rfl (o_goto X1147 hx hby at_209 (pc := 209) (pc' := 213) (by decide) (by decide) (o_iload X1147 hx hby at_213 rfl (o_ifN X1147 hx hby at_215 (by decide +kernel) (o_iconst X1147 hx hby at_218 (x := 1) rfl (o_goto X1147 hx hby at_219 (pc := 219) (pc' := 223) (by decide) (by decide) (o_icmpN X1147 hx hby at_223 (by decide +kernel) (o_iload X1147 hx hby at_226 rfl (o_iload X1147 hx hby at_228 rfl (o_iconst X1147 hx hby at_230 (x := 1) rfl (o_icmpN X1147 hx hby at_231 (by decide +kernel) (o_iconst X1147 hx hby at_234 (x := 1) rfl (o_goto X1147 hx hby at_235 (pc := 235) (pc' := 239) (by decide) (by decide) (o_icmpN X1147 hx hby at_239 (by decide +kernel) ?_)))))))))))))))))))))))))))))))))))))))
              refine o_iconst X1147 hx hby at_242 (x := 1) rfl (o_goto X1147 hx hby at_243 (pc := 243) (pc' := 247) (by decide) (by decide) ?_)
              exact retN X1147 hx (t := .boolean) hret (by simp) (hb hby at_247) hr
            · exact ⟨rfl, N1147⟩
        · skip
          subst hq1115; subst hq1116
          obtain ⟨_, T1151, L1151, X1151, hQ1151, st1151⟩ := own_cV X1082 hx hZ hown (ww106 hw) (ww107 hw) (notFace_of_selects (args := #[]) (mvT hZ (ww109 hw))) (ww109 hw) (ww108 hw) (ww32 hw) (ww110 hw) u1101 (rm13_81 l Z a0 hw b1058 b1083 b1084 (0 : Int32) b1059 b1085 i1040 i1019 i994 k1086 T1082.heap n0 Ou1100 u1103 u1102 u1101 u1104 u1105 u1106 u1107 g_b1058 u1109 (Ne.symm (own_n (own_t (own_t lt_b1058 E1059.1) Ku1063.1) u1091))) rfl pd_3 hml (hb hby at_116) (Ls := #[vI p1, vI p2, vI p3, vI p4, vI p5, vJ q6, .second, vI 3, vI 1, vI 1, vI i979, vR b983, vR b1058, .unset, .unset, .unset, .unset]) (W := 0) (argsL := []) (rest := [])
          obtain ⟨rfl, u1153, Ku1154, u1155, u1156, u1157, u1158, u1159, u1160, u1161⟩ := hQ1151
          have Ou1154 : Old Z n0 T1151.heap := Ou1100.keep Ku1154 (allS g_b1058 all0)
          have N1151 := Fr.app N1082 u1153
          obtain ⟨_, T1162, L1162, X1162, hQ1162, st1162⟩ := own_cS X1151 hx hZ hown (ww115 hw) (ww116 hw) (ww117 hw) (ww118 hw) (rm14_15 l Z a0 hw p5 a135 a139 a143 a147 T1151.heap n0 Ou1154 S_136 E_137 F138 S_140 E_141 F142 S_144 E_145 F146 S_148 E_149 F150) rfl pd_9 hml (hb hby at_148) (Ls := #[vI p1, vI p2, vI p3, vI p4, vI p5, vJ q6, .second, vI 3, vI 1, vI 1, vI i979, vR b983, vR b1058, .unset, .unset, .unset, .unset]) (W := 1) (argsL := [(.int p5)]) (rest := [(.ref b1058)])
          obtain ⟨b1163, i1164, u1165, u1166, u1167, rfl, u1169, u1170⟩ := hQ1162
          have N1162 := Fr.app N1151 u1169
          have pre1171 : ∀ t, Steps p.tables e below (T1162.setTop (mkF m 151 #[vI p1, vI p2, vI p3, vI p4, vI p5, vJ q6, .second, vI 3, vI 1, vI 1, vI i979, vR b983, vR b1058, .unset, .unset, .unset, .unset] [(.ref b1163), (.ref b1058)])) t → Steps p.tables e below EN t := by
            intro t kt
            refine pre1114 t ?_
            refine o_iload X1082 hx hby at_109 rfl (o_ifN X1082 hx hby at_111 (by decide +kernel) (o_aload X1082 hx hby at_114 rfl rfl (st1151 _ (o_pop X1151 hx hby at_119 rfl (o_iload X1151 hx hby at_120 rfl (o_iconst X1151 hx hby at_122 (x := 1) rfl (o_icmpY X1151 hx hby at_123 (pc := 123) (pc' := 132) (by decide +kernel) (by decide) (by decide) (o_iload X1151 hx hby at_132 rfl (o_iconst X1151 hx hby at_134 (x := 2) rfl (o_icmpY X1151 hx hby at_135 (pc := 135) (pc' := 144) (by decide +kernel) (by decide) (by decide) (o_aload X1151 hx hby at_144 rfl rfl (o_iload X1151 hx hby at_146 rfl (st1162 _ ?_)))))))))))))
            exact kt
          rcases (own_m1 hp980) with hq1172 | hq1172
          · skip
            subst hq1172
            obtain ⟨_, T1173, L1173, X1173, hQ1173, st1173⟩ := own_cV X1162 hx hZ hown (ww122 hw) (ww123 hw) (notFace_of_selects (args := #[]) (mvT hZ (ww125 hw))) (ww125 hw) (ww124 hw) (ww32 hw) (ww126 hw) u1155 (rm15_16 l Z a0 hw b1058 b1163 T1151.heap n0 Ou1154) u1170 pd_10 hml (hb hby at_153) (Ls := #[vI p1, vI p2, vI p3, vI p4, vI p5, vJ q6, .second, vI 3, vI 1, vI 1, vI 0, vR b983, vR b1058, .unset, .unset, .unset, .unset]) (W := 0) (argsL := [(.ref b1163), (.int 0)]) (rest := [])
            obtain ⟨rfl, u1175, u1176⟩ := hQ1173
            have N1173 := Fr.app N1162 u1175
            obtain ⟨_, T1177, L1177, X1177, hQ1177, st1177⟩ := own_cV X1173 hx hZ hown (ww127 hw) (ww128 hw) (notFace_of_selects (args := #[]) (mvT hZ (ww130 hw))) (ww130 hw) (ww129 hw) (ww32 hw) (ww131 hw) u1155 (rm16_52 l Z a0 hw b1058 T1151.heap n0 Ou1154 u1157 u1159) u1176 pd_6 hml (hb hby at_168) (Ls := #[vI p1, vI p2, vI p3, vI p4, vI p5, vJ q6, .second, vI 3, vI 1, vI 1, vI 0, vR b983, vR b1058, vI 2, .unset, .unset, .unset]) (W := 0) (argsL := []) (rest := [])
            obtain ⟨rfl, u1179, u1180⟩ := hQ1177
            have N1177 := Fr.app N1173 u1179
            have f1181 : Arv Z T1151.heap b1083 k1086 .int (3 : Int32) [(.int i1040), (.int i1019), (.int i994)] (.int (0 : Int32)) := (u1109.keep Ku1154 (ninS (Ne.symm (own_n (own_t (own_t lt_b1058 E1059.1) Ku1063.1) u1091)) nin0))
            obtain ⟨_, T1182, L1182, X1182, hQ1182, st1182⟩ := own_cV X1177 hx hZ hown (ww106 hw) (ww107 hw) (notFace_of_selects (args := #[]) (mvT hZ (ww109 hw))) (ww109 hw) (ww108 hw) (ww32 hw) (ww110 hw) u1155 (rm13_82 l Z a0 hw b1058 b1083 b1084 (0 : Int32) b1059 b1085 i1040 i1019 i994 k1086 T1151.heap n0 Ou1154 u1157 u1156 u1155 u1158 u1159 u1160 u1161 g_b1058 f1181 (Ne.symm (own_n (own_t (own_t lt_b1058 E1059.1) Ku1063.1) u1091))) u1180 pd_3 hml (hb hby at_175) (Ls := #[vI p1, vI p2, vI p3, vI p4, vI p5, vJ q6, .second, vI 3, vI 1, vI 1, vI 0, vR b983, vR b1058, vI 2, vI 1, .unset, .unset]) (W := 0) (argsL := []) (rest := [])
            obtain ⟨rfl, u1184, Ku1185, u1186, u1187, u1188, u1189, u1190, u1191, u1192⟩ := hQ1182
            have Ou1185 : Old Z n0 T1182.heap := Ou1154.keep Ku1185 (allS g_b1058 all0)
            have N1182 := Fr.app N1177 u1184
            obtain ⟨_, T1193, L1193, X1193, hQ1193, st1193⟩ := own_cV X1182 hx hZ hown (ww127 hw) (ww128 hw) (notFace_of_selects (args := #[]) (mvT hZ (ww130 hw))) (ww130 hw) (ww129 hw) (ww32 hw) (ww131 hw) u1186 (rm16_33 l Z a0 hw b1058 T1182.heap n0 Ou1185 u1188 u1190) rfl pd_6 hml (hb hby at_182) (Ls := #[vI p1, vI p2, vI p3, vI p4, vI p5, vJ q6, .second, vI 3, vI 1, vI 1, vI 0, vR b983, vR b1058, vI 2, vI 1, vI i1019, .unset]) (W := 0) (argsL := []) (rest := [])
            obtain ⟨rfl, u1195, u1196⟩ := hQ1193
            have N1193 := Fr.app N1182 u1195
            refine fin (some (.int 1)) _ _ _ _ X1193 nofun (fun fs hr => pre1171 _ ?_) (own_atH u1196 ?_) (by decide) (by decide)
            · refine o_iload X1162 hx hby at_151 rfl (st1173 _ (o_iload X1173 hx hby at_156 rfl (o_iload X1173 hx hby at_158 rfl (o_isub X1173 hx hby at_160 (z := (2 : Int32)) (by decide +kernel) (o_iload X1173 hx hby at_161 rfl (o_iadd X1173 hx hby at_163 (z := (2 : Int32)) (by decide +kernel) (o_istore X1173 hx hby at_164 (Ls' := #[vI p1, vI p2, vI p3, vI p4, vI p5, vJ q6, .second, vI 3, vI 1, vI 1, vI 0, vR b983, vR b1058, vI 2, .unset, .unset, .unset]) rfl (o_aload X1173 hx hby at_166 rfl rfl (st1177 _ (o_istore X1177 hx hby at_171 (Ls' := #[vI p1, vI p2, vI p3, vI p4, vI p5, vJ q6, .second, vI 3, vI 1, vI 1, vI 0, vR b983, vR b1058, vI 2, vI 1, .unset, .unset]) rfl (o_aload X1177 hx hby at_173 rfl rfl (st1182 _ (o_istore X1182 hx hby at_178 (Ls' := #[vI p1, vI p2, vI p3, vI p4, vI p5, vJ q6, .second, vI 3, vI 1, vI 1, vI 0, vR b983, vR b1058, vI 2, vI 1, vI i1019, .unset]) rfl (o_aload X1182 hx hby at_180 rfl rfl (st1193 _ (o_istore X1193 hx hby at_185 (Ls' := #[vI p1, vI p2, vI p3, vI p4, vI p5, vJ q6, .second, vI 3, vI 1, vI 1, vI 0, vR b983, vR b1058, vI 2, vI 1, vI i1019, vI 1]) rfl (o_iload X1193 hx hby at_187 rfl (o_iload X1193 hx hby at_189 rfl (o_ifN X1193 hx hby at_191 (by decide +kernel) (o_iconst X1193 hx hby at_194 (x := 1) rfl (o_goto X1193 hx hby at_195 (pc := 195) (pc' := 199) (by decide) (by decide) (o_icmpN X1193 hx hby at_199 (by decide +kernel) (o_iload X1193 hx hby at_202 rfl (o_iconst X1193 hx hby at_204 (x := -1) rfl (o_icmpN X1193 hx hby at_205 (feq u1022).1 (o_iconst X1193 hx hby at_208 (x := 1) rfl (o_goto X1193 hx hby at_209 (pc := 209) (pc' := 213) (by decide) (by decide) (o_iload X1193 hx hby at_213 rfl (o_ifN X1193 hx hby at_215 (by decide +kernel) (o_iconst X1193 hx hby at_218 (x := 1) rfl (o_goto X1193 hx hby at_219 (pc := 219) (pc' := 223) (by decide) (by decide) (o_icmpN X1193 hx hby at_223 (by decide +kernel) (o_iload X1193 hx hby at_226 rfl (o_iload X1193 hx hby at_228 rfl (o_iconst X1193 hx hby at_230 (x := 1) rfl (o_icmpN X1193 hx hby at_231 (by decide +kernel) (o_iconst X1193 hx hby at_234 (x := 1) rfl (o_goto X1193 hx hby at_235 (pc := 235) (pc' := 239) (by decide) (by decide) (o_icmpN X1193 hx hby at_239 (by decide +kernel) ?_)))))))))))))))))))))))))))))))))))))))
              refine o_iconst X1193 hx hby at_242 (x := 1) rfl (o_goto X1193 hx hby at_243 (pc := 243) (pc' := 247) (by decide) (by decide) ?_)
              exact retN X1193 hx (t := .boolean) hret (by simp) (hb hby at_247) hr
            · exact ⟨rfl, N1193⟩
          · skip
            subst hq1172
            have f1197 : Arv Z T1151.heap b1084 k1087 .int (3 : Int32) [] (.int (0 : Int32)) := (u1111.keep Ku1154 (ninS (Ne.symm (own_n (own_t (own_t lt_b1058 E1059.1) Ku1063.1) u1093)) nin0))
            have f1198 : Exa Z T1151.heap b1084 "[I" := (u1110.keep Ku1154)
            obtain ⟨_, T1199, L1199, X1199, hQ1199, st1199⟩ := own_cV X1162 hx hZ hown (ww122 hw) (ww123 hw) (notFace_of_selects (args := #[]) (mvT hZ (ww125 hw))) (ww125 hw) (ww124 hw) (ww32 hw) (ww126 hw) u1155 (rm15_83 l Z a0 hw b1058 b1163 b1084 b1083 (2 : Int32) b1059 b1085 i1164 k1087 T1151.heap n0 Ou1154 u1158 u1159 u1155 u1156 u1157 u1160 u1161 g_b1058 u1165 u1166 f1197 (Ne.symm (own_n (own_t (own_t lt_b1058 E1059.1) Ku1063.1) u1093)) g_b1084 f1198) u1170 pd_10 hml (hb hby at_153) (Ls := #[vI p1, vI p2, vI p3, vI p4, vI p5, vJ q6, .second, vI 3, vI 1, vI 1, vI 1, vR b983, vR b1058, .unset, .unset, .unset, .unset]) (W := 0) (argsL := [(.ref b1163), (.int 1)]) (rest := [])
            obtain ⟨rfl, u1201, Ku1202, u1203, u1204, u1205, u1206, u1207, u1208, u1209, u1210, u1211⟩ := hQ1199
            have Ou1202 : Old Z n0 T1199.heap := Ou1154.keep Ku1202 (allS g_b1058 (allS g_b1084 all0))
            have N1199 := Fr.app N1162 u1201
            obtain ⟨_, T1212, L1212, X1212, hQ1212, st1212⟩ := own_cV X1199 hx hZ hown (ww127 hw) (ww128 hw) (notFace_of_selects (args := #[]) (mvT hZ (ww130 hw))) (ww130 hw) (ww129 hw) (ww32 hw) (ww131 hw) u1203 (rm16_84 l Z a0 hw b1058 T1199.heap n0 Ou1202 u1205 u1207) rfl pd_6 hml (hb hby at_168) (Ls := #[vI p1, vI p2, vI p3, vI p4, vI p5, vJ q6, .second, vI 3, vI 1, vI 1, vI 1, vR b983, vR b1058, vI 3, .unset, .unset, .unset]) (W := 0) (argsL := []) (rest := [])
            obtain ⟨rfl, u1214, u1215⟩ := hQ1212
            have N1212 := Fr.app N1199 u1214
            have f1216 : Arv Z T1199.heap b1083 k1086 .int (3 : Int32) [(.int i1040), (.int i1019), (.int i994)] (.int (0 : Int32)) := ((u1109.keep Ku1154 (ninS (Ne.symm (own_n (own_t (own_t lt_b1058 E1059.1) Ku1063.1) u1091)) nin0)).keep Ku1202 (ninS (Ne.symm (own_n (own_t (own_t lt_b1058 E1059.1) Ku1063.1) u1091)) (ninS u1097 nin0)))
            obtain ⟨_, T1217, L1217, X1217, hQ1217, st1217⟩ := own_cV X1212 hx hZ hown (ww106 hw) (ww107 hw) (notFace_of_selects (args := #[]) (mvT hZ (ww109 hw))) (ww109 hw) (ww108 hw) (ww32 hw) (ww110 hw) u1203 (rm13_82 l Z a0 hw b1058 b1083 b1084 (1 : Int32) b1059 b1085 i1040 i1019 i994 k1086 T1199.heap n0 Ou1202 u1205 u1204 u1203 u1206 u1207 u1208 u1209 g_b1058 f1216 (Ne.symm (own_n (own_t (own_t lt_b1058 E1059.1) Ku1063.1) u1091))) u1215 pd_3 hml (hb hby at_175) (Ls := #[vI p1, vI p2, vI p3, vI p4, vI p5, vJ q6, .second, vI 3, vI 1, vI 1, vI 1, vR b983, vR b1058, vI 3, vI 1, .unset, .unset]) (W := 0) (argsL := []) (rest := [])
            obtain ⟨rfl, u1219, Ku1220, u1221, u1222, u1223, u1224, u1225, u1226, u1227⟩ := hQ1217
            have Ou1220 : Old Z n0 T1217.heap := Ou1202.keep Ku1220 (allS g_b1058 all0)
            have N1217 := Fr.app N1212 u1219
            obtain ⟨_, T1228, L1228, X1228, hQ1228, st1228⟩ := own_cV X1217 hx hZ hown (ww127 hw) (ww128 hw) (notFace_of_selects (args := #[]) (mvT hZ (ww130 hw))) (ww130 hw) (ww129 hw) (ww32 hw) (ww131 hw) u1221 (rm16_56 l Z a0 hw b1058 T1217.heap n0 Ou1220 u1223 u1225) rfl pd_6 hml (hb hby at_182) (Ls := #[vI p1, vI p2, vI p3, vI p4, vI p5, vJ q6, .second, vI 3, vI 1, vI 1, vI 1, vR b983, vR b1058, vI 3, vI 1, vI i1019, .unset]) (W := 0) (argsL := []) (rest := [])
            obtain ⟨rfl, u1230, u1231⟩ := hQ1228
            have N1228 := Fr.app N1217 u1230
            refine fin (some (.int 1)) _ _ _ _ X1228 nofun (fun fs hr => pre1171 _ ?_) (own_atH u1231 ?_) (by decide) (by decide)
            · refine o_iload X1162 hx hby at_151 rfl (st1199 _ (o_iload X1199 hx hby at_156 rfl (o_iload X1199 hx hby at_158 rfl (o_isub X1199 hx hby at_160 (z := (2 : Int32)) (by decide +kernel) (o_iload X1199 hx hby at_161 rfl (o_iadd X1199 hx hby at_163 (z := (3 : Int32)) (by decide +kernel) (o_istore X1199 hx hby at_164 (Ls' := #[vI p1, vI p2, vI p3, vI p4, vI p5, vJ q6, .second, vI 3, vI 1, vI 1, vI 1, vR b983, vR b1058, vI 3, .unset, .unset, .unset]) rfl (o_aload X1199 hx hby at_166 rfl rfl (st1212 _ (o_istore X1212 hx hby at_171 (Ls' := #[vI p1, vI p2, vI p3, vI p4, vI p5, vJ q6, .second, vI 3, vI 1, vI 1, vI 1, vR b983, vR b1058, vI 3, vI 1, .unset, .unset]) rfl (o_aload X1212 hx hby at_173 rfl rfl (st1217 _ (o_istore X1217 hx hby at_178 (Ls' := #[vI p1, vI p2, vI p3, vI p4, vI p5, vJ q6, .second, vI 3, vI 1, vI 1, vI 1, vR b983, vR b1058, vI 3, vI 1, vI i1019, .unset]) rfl (o_aload X1217 hx hby at_180 rfl rfl (st1228 _ (o_istore X1228 hx hby at_185 (Ls' := #[vI p1, vI p2, vI p3, vI p4, vI p5, vJ q6, .second, vI 3, vI 1, vI 1, vI 1, vR b983, vR b1058, vI 3, vI 1, vI i1019, vI 1]) rfl (o_iload X1228 hx hby at_187 rfl (o_iload X1228 hx hby at_189 rfl (o_ifN X1228 hx hby at_191 (by decide +kernel) (o_iconst X1228 hx hby at_194 (x := 1) rfl (o_goto X1228 hx hby at_195 (pc := 195) (pc' := 199) (by decide) (by decide) (o_icmpN X1228 hx hby at_199 (by decide +kernel) (o_iload X1228 hx hby at_202 rfl (o_iconst X1228 hx hby at_204 (x := -1) rfl (o_icmpN X1228 hx hby at_205 (feq u1022).1 (o_iconst X1228 hx hby at_208 (x := 1) rfl (o_goto X1228 hx hby at_209 (pc := 209) (pc' := 213) (by decide) (by decide) (o_iload X1228 hx hby at_213 rfl (o_ifN X1228 hx hby at_215 (by decide +kernel) (o_iconst X1228 hx hby at_218 (x := 1) rfl (o_goto X1228 hx hby at_219 (pc := 219) (pc' := 223) (by decide) (by decide) (o_icmpN X1228 hx hby at_223 (by decide +kernel) (o_iload X1228 hx hby at_226 rfl (o_iload X1228 hx hby at_228 rfl (o_iconst X1228 hx hby at_230 (x := 1) rfl (o_icmpN X1228 hx hby at_231 (by decide +kernel) (o_iconst X1228 hx hby at_234 (x := 1) rfl (o_goto X1228 hx hby at_235 (pc := 235) (pc' := 239) (by decide) (by decide) (o_icmpN X1228 hx hby at_239 (by decide +kernel) ?_)))))))))))))))))))))))))))))))))))))))
              refine o_iconst X1228 hx hby at_242 (x := 1) rfl (o_goto X1228 hx hby at_243 (pc := 243) (pc' := 247) (by decide) (by decide) ?_)
              exact retN X1228 hx (t := .boolean) hret (by simp) (hb hby at_247) hr
            · exact ⟨rfl, N1228⟩
        · skip
          subst hq1115; subst hq1116
          obtain ⟨_, T1232, L1232, X1232, hQ1232, st1232⟩ := own_cV X1082 hx hZ hown (ww106 hw) (ww107 hw) (notFace_of_selects (args := #[]) (mvT hZ (ww109 hw))) (ww109 hw) (ww108 hw) (ww32 hw) (ww110 hw) u1101 (rm13_81 l Z a0 hw b1058 b1083 b1084 (0 : Int32) b1059 b1085 i1040 i1019 i994 k1086 T1082.heap n0 Ou1100 u1103 u1102 u1101 u1104 u1105 u1106 u1107 g_b1058 u1109 (Ne.symm (own_n (own_t (own_t lt_b1058 E1059.1) Ku1063.1) u1091))) rfl pd_3 hml (hb hby at_116) (Ls := #[vI p1, vI p2, vI p3, vI p4, vI p5, vJ q6, .second, vI 3, vI 2, vI 2, vI i979, vR b983, vR b1058, .unset, .unset, .unset, .unset]) (W := 0) (argsL := []) (rest := [])
          obtain ⟨rfl, u1234, Ku1235, u1236, u1237, u1238, u1239, u1240, u1241, u1242⟩ := hQ1232
          have Ou1235 : Old Z n0 T1232.heap := Ou1100.keep Ku1235 (allS g_b1058 all0)
          have N1232 := Fr.app N1082 u1234
          have f1243 : Arv Z T1232.heap b1083 k1086 .int (3 : Int32) [(.int i1040), (.int i1019), (.int i994)] (.int (0 : Int32)) := (u1109.keep Ku1235 (ninS (Ne.symm (own_n (own_t (own_t lt_b1058 E1059.1) Ku1063.1) u1091)) nin0))
          obtain ⟨_, T1244, L1244, X1244, hQ1244, st1244⟩ := own_cV X1232 hx hZ hown (ww106 hw) (ww107 hw) (notFace_of_selects (args := #[]) (mvT hZ (ww109 hw))) (ww109 hw) (ww108 hw) (ww32 hw) (ww110 hw) u1236 (rm13_82 l Z a0 hw b1058 b1083 b1084 (0 : Int32) b1059 b1085 i1040 i1019 i994 k1086 T1232.heap n0 Ou1235 u1238 u1237 u1236 u1239 u1240 u1241 u1242 g_b1058 f1243 (Ne.symm (own_n (own_t (own_t lt_b1058 E1059.1) Ku1063.1) u1091))) rfl pd_3 hml (hb hby at_128) (Ls := #[vI p1, vI p2, vI p3, vI p4, vI p5, vJ q6, .second, vI 3, vI 2, vI 2, vI i979, vR b983, vR b1058, .unset, .unset, .unset, .unset]) (W := 0) (argsL := []) (rest := [])
          obtain ⟨rfl, u1246, Ku1247, u1248, u1249, u1250, u1251, u1252, u1253, u1254⟩ := hQ1244
          have Ou1247 : Old Z n0 T1244.heap := Ou1235.keep Ku1247 (allS g_b1058 all0)
          have N1244 := Fr.app N1232 u1246
          obtain ⟨_, T1255, L1255, X1255, hQ1255, st1255⟩ := own_cS X1244 hx hZ hown (ww115 hw) (ww116 hw) (ww117 hw) (ww118 hw) (rm14_15 l Z a0 hw p5 a135 a139 a143 a147 T1244.heap n0 Ou1247 S_136 E_137 F138 S_140 E_141 F142 S_144 E_145 F146 S_148 E_149 F150) rfl pd_9 hml (hb hby at_148) (Ls := #[vI p1, vI p2, vI p3, vI p4, vI p5, vJ q6, .second, vI 3, vI 2, vI 2, vI i979, vR b983, vR b1058, .unset, .unset, .unset, .unset]) (W := 1) (argsL := [(.int p5)]) (rest := [(.ref b1058)])
          obtain ⟨b1256, i1257, u1258, u1259, u1260, rfl, u1262, u1263⟩ := hQ1255
          have N1255 := Fr.app N1244 u1262
          have pre1264 : ∀ t, Steps p.tables e below (T1255.setTop (mkF m 151 #[vI p1, vI p2, vI p3, vI p4, vI p5, vJ q6, .second, vI 3, vI 2, vI 2, vI i979, vR b983, vR b1058, .unset, .unset, .unset, .unset] [(.ref b1256), (.ref b1058)])) t → Steps p.tables e below EN t := by
            intro t kt
            refine pre1114 t ?_
            refine o_iload X1082 hx hby at_109 rfl (o_ifN X1082 hx hby at_111 (by decide +kernel) (o_aload X1082 hx hby at_114 rfl rfl (st1232 _ (o_pop X1232 hx hby at_119 rfl (o_iload X1232 hx hby at_120 rfl (o_iconst X1232 hx hby at_122 (x := 1) rfl (o_icmpN X1232 hx hby at_123 (by decide +kernel) (o_aload X1232 hx hby at_126 rfl rfl (st1244 _ (o_pop X1244 hx hby at_131 rfl (o_iload X1244 hx hby at_132 rfl (o_iconst X1244 hx hby at_134 (x := 2) rfl (o_icmpY X1244 hx hby at_135 (pc := 135) (pc' := 144) (by decide +kernel) (by decide) (by decide) (o_aload X1244 hx hby at_144 rfl rfl (o_iload X1244 hx hby at_146 rfl (st1255 _ ?_))))))))))))))))
            exact kt
          rcases (own_m2 hp980) with hq1265 | hq1265 | hq1265
          · skip
            subst hq1265
            obtain ⟨_, T1266, L1266, X1266, hQ1266, st1266⟩ := own_cV X1255 hx hZ hown (ww122 hw) (ww123 hw) (notFace_of_selects (args := #[]) (mvT hZ (ww125 hw))) (ww125 hw) (ww124 hw) (ww32 hw) (ww126 hw) u1248 (rm15_16 l Z a0 hw b1058 b1256 T1244.heap n0 Ou1247) u1263 pd_10 hml (hb hby at_153) (Ls := #[vI p1, vI p2, vI p3, vI p4, vI p5, vJ q6, .second, vI 3, vI 2, vI 2, vI 0, vR b983, vR b1058, .unset, .unset, .unset, .unset]) (W := 0) (argsL := [(.ref b1256), (.int 0)]) (rest := [])
            obtain ⟨rfl, u1268, u1269⟩ := hQ1266
            have N1266 := Fr.app N1255 u1268
            obtain ⟨_, T1270, L1270, X1270, hQ1270, st1270⟩ := own_cV X1266 hx hZ hown (ww127 hw) (ww128 hw) (notFace_of_selects (args := #[]) (mvT hZ (ww130 hw))) (ww130 hw) (ww129 hw) (ww32 hw) (ww131 hw) u1248 (rm16_33 l Z a0 hw b1058 T1244.heap n0 Ou1247 u1250 u1252) u1269 pd_6 hml (hb hby at_168) (Ls := #[vI p1, vI p2, vI p3, vI p4, vI p5, vJ q6, .second, vI 3, vI 2, vI 2, vI 0, vR b983, vR b1058, vI 1, .unset, .unset, .unset]) (W := 0) (argsL := []) (rest := [])
            obtain ⟨rfl, u1272, u1273⟩ := hQ1270
            have N1270 := Fr.app N1266 u1272
            have f1274 : Arv Z T1244.heap b1083 k1086 .int (3 : Int32) [(.int i1040), (.int i1019), (.int i994)] (.int (0 : Int32)) := (f1243.keep Ku1247 (ninS (Ne.symm (own_n (own_t (own_t lt_b1058 E1059.1) Ku1063.1) u1091)) nin0))
            obtain ⟨_, T1275, L1275, X1275, hQ1275, st1275⟩ := own_cV X1270 hx hZ hown (ww106 hw) (ww107 hw) (notFace_of_selects (args := #[]) (mvT hZ (ww109 hw))) (ww109 hw) (ww108 hw) (ww32 hw) (ww110 hw) u1248 (rm13_85 l Z a0 hw b1058 b1083 b1084 (0 : Int32) b1059 b1085 i1040 i1019 i994 k1086 T1244.heap n0 Ou1247 u1250 u1249 u1248 u1251 u1252 u1253 u1254 g_b1058 f1274 (Ne.symm (own_n (own_t (own_t lt_b1058 E1059.1) Ku1063.1) u1091))) u1273 pd_3 hml (hb hby at_175) (Ls := #[vI p1, vI p2, vI p3, vI p4, vI p5, vJ q6, .second, vI 3, vI 2, vI 2, vI 0, vR b983, vR b1058, vI 1, vI 1, .unset, .unset]) (W := 0) (argsL := []) (rest := [])
            obtain ⟨rfl, u1277, Ku1278, u1279, u1280, u1281, u1282, u1283, u1284, u1285⟩ := hQ1275
            have Ou1278 : Old Z n0 T1275.heap := Ou1247.keep Ku1278 (allS g_b1058 all0)
            have N1275 := Fr.app N1270 u1277
            obtain ⟨_, T1286, L1286, X1286, hQ1286, st1286⟩ := own_cV X1275 hx hZ hown (ww127 hw) (ww128 hw) (notFace_of_selects (args := #[]) (mvT hZ (ww130 hw))) (ww130 hw) (ww129 hw) (ww32 hw) (ww131 hw) u1279 (rm16_17 l Z a0 hw b1058 T1275.heap n0 Ou1278 u1281 u1283) rfl pd_6 hml (hb hby at_182) (Ls := #[vI p1, vI p2, vI p3, vI p4, vI p5, vJ q6, .second, vI 3, vI 2, vI 2, vI 0, vR b983, vR b1058, vI 1, vI 1, vI i1040, .unset]) (W := 0) (argsL := []) (rest := [])
            obtain ⟨rfl, u1288, u1289⟩ := hQ1286
            have N1286 := Fr.app N1275 u1288
            refine fin (some (.int 1)) _ _ _ _ X1286 nofun (fun fs hr => pre1264 _ ?_) (own_atH u1289 ?_) (by decide) (by decide)
            · refine o_iload X1255 hx hby at_151 rfl (st1266 _ (o_iload X1266 hx hby at_156 rfl (o_iload X1266 hx hby at_158 rfl (o_isub X1266 hx hby at_160 (z := (1 : Int32)) (by decide +kernel) (o_iload X1266 hx hby at_161 rfl (o_iadd X1266 hx hby at_163 (z := (1 : Int32)) (by decide +kernel) (o_istore X1266 hx hby at_164 (Ls' := #[vI p1, vI p2, vI p3, vI p4, vI p5, vJ q6, .second, vI 3, vI 2, vI 2, vI 0, vR b983, vR b1058, vI 1, .unset, .unset, .unset]) rfl (o_aload X1266 hx hby at_166 rfl rfl (st1270 _ (o_istore X1270 hx hby at_171 (Ls' := #[vI p1, vI p2, vI p3, vI p4, vI p5, vJ q6, .second, vI 3, vI 2, vI 2, vI 0, vR b983, vR b1058, vI 1, vI 1, .unset, .unset]) rfl (o_aload X1270 hx hby at_173 rfl rfl (st1275 _ (o_istore X1275 hx hby at_178 (Ls' := #[vI p1, vI p2, vI p3, vI p4, vI p5, vJ q6, .second, vI 3, vI 2, vI 2, vI 0, vR b983, vR b1058, vI 1, vI 1, vI i1040, .unset]) rfl (o_aload X1275 hx hby at_180 rfl rfl (st1286 _ (o_istore X1286 hx hby at_185 (Ls' := #[vI p1, vI p2, vI p3, vI p4, vI p5, vJ q6, .second, vI 3, vI 2, vI 2, vI 0, vR b983, vR b1058, vI 1, vI 1, vI i1040, vI 0]) rfl (o_iload X1286 hx hby at_187 rfl (o_iload X1286 hx hby at_189 rfl (o_ifN X1286 hx hby at_191 (by decide +kernel) (o_iconst X1286 hx hby at_194 (x := 1) rfl (o_goto X1286 hx hby at_195 (pc := 195) (pc' := 199) (by decide) (by decide) (o_icmpN X1286 hx hby at_199 (by decide +kernel) (o_iload X1286 hx hby at_202 rfl (o_iconst X1286 hx hby at_204 (x := -1) rfl (o_icmpN X1286 hx hby at_205 (feq u1043).1 (o_iconst X1286 hx hby at_208 (x := 1) rfl (o_goto X1286 hx hby at_209 (pc := 209) (pc' := 213) (by decide) (by decide) (o_iload X1286 hx hby at_213 rfl (o_ifN X1286 hx hby at_215 (by decide +kernel) (o_iconst X1286 hx hby at_218 (x := 1) rfl (o_goto X1286 hx hby at_219 (pc := 219) (pc' := 223) (by decide) (by decide) (o_icmpN X1286 hx hby at_223 (by decide +kernel) (o_iload X1286 hx hby at_226 rfl (o_iload X1286 hx hby at_228 rfl (o_iconst X1286 hx hby at_230 (x := 1) rfl (o_icmpY X1286 hx hby at_231 (pc := 231) (pc' := 238) (by decide +kernel) (by decide) (by decide) (o_iconst X1286 hx hby at_238 (x := 0) rfl (o_icmpN X1286 hx hby at_239 (by decide +kernel) (o_iconst X1286 hx hby at_242 (x := 1) rfl ?_)))))))))))))))))))))))))))))))))))))))
              refine o_goto X1286 hx hby at_243 (pc := 243) (pc' := 247) (by decide) (by decide) ?_
              exact retN X1286 hx (t := .boolean) hret (by simp) (hb hby at_247) hr
            · exact ⟨rfl, N1286⟩
          · skip
            subst hq1265
            have f1290 : Arv Z T1244.heap b1084 k1087 .int (3 : Int32) [] (.int (0 : Int32)) := ((u1111.keep Ku1235 (ninS (Ne.symm (own_n (own_t (own_t lt_b1058 E1059.1) Ku1063.1) u1093)) nin0)).keep Ku1247 (ninS (Ne.symm (own_n (own_t (own_t lt_b1058 E1059.1) Ku1063.1) u1093)) nin0))
            have f1291 : Exa Z T1244.heap b1084 "[I" := ((u1110.keep Ku1235).keep Ku1247)
            obtain ⟨_, T1292, L1292, X1292, hQ1292, st1292⟩ := own_cV X1255 hx hZ hown (ww122 hw) (ww123 hw) (notFace_of_selects (args := #[]) (mvT hZ (ww125 hw))) (ww125 hw) (ww124 hw) (ww32 hw) (ww126 hw) u1248 (rm15_83 l Z a0 hw b1058 b1256 b1084 b1083 (1 : Int32) b1059 b1085 i1257 k1087 T1244.heap n0 Ou1247 u1251 u1252 u1248 u1249 u1250 u1253 u1254 g_b1058 u1258 u1259 f1290 (Ne.symm (own_n (own_t (own_t lt_b1058 E1059.1) Ku1063.1) u1093)) g_b1084 f1291) u1263 pd_10 hml (hb hby at_153) (Ls := #[vI p1, vI p2, vI p3, vI p4, vI p5, vJ q6, .second, vI 3, vI 2, vI 2, vI 1, vR b983, vR b1058, .unset, .unset, .unset, .unset]) (W := 0) (argsL := [(.ref b1256), (.int 1)]) (rest := [])
            obtain ⟨rfl, u1294, Ku1295, u1296, u1297, u1298, u1299, u1300, u1301, u1302, u1303, u1304⟩ := hQ1292
            have Ou1295 : Old Z n0 T1292.heap := Ou1247.keep Ku1295 (allS g_b1058 (allS g_b1084 all0))
            have N1292 := Fr.app N1255 u1294
            obtain ⟨_, T1305, L1305, X1305, hQ1305, st1305⟩ := own_cV X1292 hx hZ hown (ww127 hw) (ww128 hw) (notFace_of_selects (args := #[]) (mvT hZ (ww130 hw))) (ww130 hw) (ww129 hw) (ww32 hw) (ww131 hw) u1296 (rm16_56 l Z a0 hw b1058 T1292.heap n0 Ou1295 u1298 u1300) rfl pd_6 hml (hb hby at_168) (Ls := #[vI p1, vI p2, vI p3, vI p4, vI p5, vJ q6, .second, vI 3, vI 2, vI 2, vI 1, vR b983, vR b1058, vI 2, .unset, .unset, .unset]) (W := 0) (argsL := []) (rest := [])
            obtain ⟨rfl, u1307, u1308⟩ := hQ1305
            have N1305 := Fr.app N1292 u1307
            have f1309 : Arv Z T1292.heap b1083 k1086 .int (3 : Int32) [(.int i1040), (.int i1019), (.int i994)] (.int (0 : Int32)) := ((f1243.keep Ku1247 (ninS (Ne.symm (own_n (own_t (own_t lt_b1058 E1059.1) Ku1063.1) u1091)) nin0)).keep Ku1295 (ninS (Ne.symm (own_n (own_t (own_t lt_b1058 E1059.1) Ku1063.1) u1091)) (ninS u1097 nin0)))
            obtain ⟨_, T1310, L1310, X1310, hQ1310, st1310⟩ := own_cV X1305 hx hZ hown (ww106 hw) (ww107 hw) (notFace_of_selects (args := #[]) (mvT hZ (ww109 hw))) (ww109 hw) (ww108 hw) (ww32 hw) (ww110 hw) u1296 (rm13_85 l Z a0 hw b1058 b1083 b1084 (1 : Int32) b1059 b1085 i1040 i1019 i994 k1086 T1292.heap n0 Ou1295 u1298 u1297 u1296 u1299 u1300 u1301 u1302 g_b1058 f1309 (Ne.symm (own_n (own_t (own_t lt_b1058 E1059.1) Ku1063.1) u1091))) u1308 pd_3 hml (hb hby at_175) (Ls := #[vI p1, vI p2, vI p3, vI p4, vI p5, vJ q6, .second, vI 3, vI 2, vI 2, vI 1, vR b983, vR b1058, vI 2, vI 1, .unset, .unset]) (W := 0) (argsL := []) (rest := [])
            obtain ⟨rfl, u1312, Ku1313, u1314, u1315, u1316, u1317, u1318, u1319, u1320⟩ := hQ1310
            have Ou1313 : Old Z n0 T1310.heap := Ou1295.keep Ku1313 (allS g_b1058 all0)
            have N1310 := Fr.app N1305 u1312
            obtain ⟨_, T1321, L1321, X1321, hQ1321, st1321⟩ := own_cV X1310 hx hZ hown (ww127 hw) (ww128 hw) (notFace_of_selects (args := #[]) (mvT hZ (ww130 hw))) (ww130 hw) (ww129 hw) (ww32 hw) (ww131 hw) u1314 (rm16_36 l Z a0 hw b1058 T1310.heap n0 Ou1313 u1316 u1318) rfl pd_6 hml (hb hby at_182) (Ls := #[vI p1, vI p2, vI p3, vI p4, vI p5, vJ q6, .second, vI 3, vI 2, vI 2, vI 1, vR b983, vR b1058, vI 2, vI 1, vI i1040, .unset]) (W := 0) (argsL := []) (rest := [])
            obtain ⟨rfl, u1323, u1324⟩ := hQ1321
            have N1321 := Fr.app N1310 u1323
            refine fin (some (.int 1)) _ _ _ _ X1321 nofun (fun fs hr => pre1264 _ ?_) (own_atH u1324 ?_) (by decide) (by decide)
            · refine o_iload X1255 hx hby at_151 rfl (st1292 _ (o_iload X1292 hx hby at_156 rfl (o_iload X1292 hx hby at_158 rfl (o_isub X1292 hx hby at_160 (z := (1 : Int32)) (by decide +kernel) (o_iload X1292 hx hby at_161 rfl (o_iadd X1292 hx hby at_163 (z := (2 : Int32)) (by decide +kernel) (o_istore X1292 hx hby at_164 (Ls' := #[vI p1, vI p2, vI p3, vI p4, vI p5, vJ q6, .second, vI 3, vI 2, vI 2, vI 1, vR b983, vR b1058, vI 2, .unset, .unset, .unset]) rfl (o_aload X1292 hx hby at_166 rfl rfl (st1305 _ (o_istore X1305 hx hby at_171 (Ls' := #[vI p1, vI p2, vI p3, vI p4, vI p5, vJ q6, .second, vI 3, vI 2, vI 2, vI 1, vR b983, vR b1058, vI 2, vI 1, .unset, .unset]) rfl (o_aload X1305 hx hby at_173 rfl rfl (st1310 _ (o_istore X1310 hx hby at_178 (Ls' := #[vI p1, vI p2, vI p3, vI p4, vI p5, vJ q6, .second, vI 3, vI 2, vI 2, vI 1, vR b983, vR b1058, vI 2, vI 1, vI i1040, .unset]) rfl (o_aload X1310 hx hby at_180 rfl rfl (st1321 _ (o_istore X1321 hx hby at_185 (Ls' := #[vI p1, vI p2, vI p3, vI p4, vI p5, vJ q6, .second, vI 3, vI 2, vI 2, vI 1, vR b983, vR b1058, vI 2, vI 1, vI i1040, vI 1]) rfl (o_iload X1321 hx hby at_187 rfl (o_iload X1321 hx hby at_189 rfl (o_ifN X1321 hx hby at_191 (by decide +kernel) (o_iconst X1321 hx hby at_194 (x := 1) rfl (o_goto X1321 hx hby at_195 (pc := 195) (pc' := 199) (by decide) (by decide) (o_icmpN X1321 hx hby at_199 (by decide +kernel) (o_iload X1321 hx hby at_202 rfl (o_iconst X1321 hx hby at_204 (x := -1) rfl (o_icmpN X1321 hx hby at_205 (feq u1043).1 (o_iconst X1321 hx hby at_208 (x := 1) rfl (o_goto X1321 hx hby at_209 (pc := 209) (pc' := 213) (by decide) (by decide) (o_iload X1321 hx hby at_213 rfl (o_ifN X1321 hx hby at_215 (by decide +kernel) (o_iconst X1321 hx hby at_218 (x := 1) rfl (o_goto X1321 hx hby at_219 (pc := 219) (pc' := 223) (by decide) (by decide) (o_icmpN X1321 hx hby at_223 (by decide +kernel) (o_iload X1321 hx hby at_226 rfl (o_iload X1321 hx hby at_228 rfl (o_iconst X1321 hx hby at_230 (x := 1) rfl (o_icmpN X1321 hx hby at_231 (by decide +kernel) (o_iconst X1321 hx hby at_234 (x := 1) rfl (o_goto X1321 hx hby at_235 (pc := 235) (pc' := 239) (by decide) (by decide) (o_icmpN X1321 hx hby at_239 (by decide +kernel) ?_)))))))))))))))))))))))))))))))))))))))
              refine o_iconst X1321 hx hby at_242 (x := 1) rfl (o_goto X1321 hx hby at_243 (pc := 243) (pc' := 247) (by decide) (by decide) ?_)
              exact retN X1321 hx (t := .boolean) hret (by simp) (hb hby at_247) hr
            · exact ⟨rfl, N1321⟩
          · skip
            subst hq1265
            have f1325 : Arv Z T1244.heap b1084 k1087 .int (3 : Int32) [] (.int (0 : Int32)) := ((u1111.keep Ku1235 (ninS (Ne.symm (own_n (own_t (own_t lt_b1058 E1059.1) Ku1063.1) u1093)) nin0)).keep Ku1247 (ninS (Ne.symm (own_n (own_t (own_t lt_b1058 E1059.1) Ku1063.1) u1093)) nin0))
            have f1326 : Exa Z T1244.heap b1084 "[I" := ((u1110.keep Ku1235).keep Ku1247)
            obtain ⟨_, T1327, L1327, X1327, hQ1327, st1327⟩ := own_cV X1255 hx hZ hown (ww122 hw) (ww123 hw) (notFace_of_selects (args := #[]) (mvT hZ (ww125 hw))) (ww125 hw) (ww124 hw) (ww32 hw) (ww126 hw) u1248 (rm15_86 l Z a0 hw b1058 b1256 b1084 b1083 (1 : Int32) b1059 b1085 i1257 k1087 T1244.heap n0 Ou1247 u1251 u1252 u1248 u1249 u1250 u1253 u1254 g_b1058 u1258 u1259 f1325 (Ne.symm (own_n (own_t (own_t lt_b1058 E1059.1) Ku1063.1) u1093)) g_b1084 f1326) u1263 pd_10 hml (hb hby at_153) (Ls := #[vI p1, vI p2, vI p3, vI p4, vI p5, vJ q6, .second, vI 3, vI 2, vI 2, vI 2, vR b983, vR b1058, .unset, .unset, .unset, .unset]) (W := 0) (argsL := [(.ref b1256), (.int 2)]) (rest := [])
            obtain ⟨rfl, u1329, Ku1330, u1331, u1332, u1333, u1334, u1335, u1336, u1337, u1338, u1339⟩ := hQ1327
            have Ou1330 : Old Z n0 T1327.heap := Ou1247.keep Ku1330 (allS g_b1058 (allS g_b1084 all0))
            have N1327 := Fr.app N1255 u1329
            obtain ⟨_, T1340, L1340, X1340, hQ1340, st1340⟩ := own_cV X1327 hx hZ hown (ww127 hw) (ww128 hw) (notFace_of_selects (args := #[]) (mvT hZ (ww130 hw))) (ww130 hw) (ww129 hw) (ww32 hw) (ww131 hw) u1331 (rm16_87 l Z a0 hw b1058 T1327.heap n0 Ou1330 u1333 u1335) rfl pd_6 hml (hb hby at_168) (Ls := #[vI p1, vI p2, vI p3, vI p4, vI p5, vJ q6, .second, vI 3, vI 2, vI 2, vI 2, vR b983, vR b1058, vI 3, .unset, .unset, .unset]) (W := 0) (argsL := []) (rest := [])
            obtain ⟨rfl, u1342, u1343⟩ := hQ1340
            have N1340 := Fr.app N1327 u1342
            have f1344 : Arv Z T1327.heap b1083 k1086 .int (3 : Int32) [(.int i1040), (.int i1019), (.int i994)] (.int (0 : Int32)) := ((f1243.keep Ku1247 (ninS (Ne.symm (own_n (own_t (own_t lt_b1058 E1059.1) Ku1063.1) u1091)) nin0)).keep Ku1330 (ninS (Ne.symm (own_n (own_t (own_t lt_b1058 E1059.1) Ku1063.1) u1091)) (ninS u1097 nin0)))
            obtain ⟨_, T1345, L1345, X1345, hQ1345, st1345⟩ := own_cV X1340 hx hZ hown (ww106 hw) (ww107 hw) (notFace_of_selects (args := #[]) (mvT hZ (ww109 hw))) (ww109 hw) (ww108 hw) (ww32 hw) (ww110 hw) u1331 (rm13_85 l Z a0 hw b1058 b1083 b1084 (2 : Int32) b1059 b1085 i1040 i1019 i994 k1086 T1327.heap n0 Ou1330 u1333 u1332 u1331 u1334 u1335 u1336 u1337 g_b1058 f1344 (Ne.symm (own_n (own_t (own_t lt_b1058 E1059.1) Ku1063.1) u1091))) u1343 pd_3 hml (hb hby at_175) (Ls := #[vI p1, vI p2, vI p3, vI p4, vI p5, vJ q6, .second, vI 3, vI 2, vI 2, vI 2, vR b983, vR b1058, vI 3, vI 1, .unset, .unset]) (W := 0) (argsL := []) (rest := [])
            obtain ⟨rfl, u1347, Ku1348, u1349, u1350, u1351, u1352, u1353, u1354, u1355⟩ := hQ1345
            have Ou1348 : Old Z n0 T1345.heap := Ou1330.keep Ku1348 (allS g_b1058 all0)
            have N1345 := Fr.app N1340 u1347
            obtain ⟨_, T1356, L1356, X1356, hQ1356, st1356⟩ := own_cV X1345 hx hZ hown (ww127 hw) (ww128 hw) (notFace_of_selects (args := #[]) (mvT hZ (ww130 hw))) (ww130 hw) (ww129 hw) (ww32 hw) (ww131 hw) u1349 (rm16_59 l Z a0 hw b1058 T1345.heap n0 Ou1348 u1351 u1353) rfl pd_6 hml (hb hby at_182) (Ls := #[vI p1, vI p2, vI p3, vI p4, vI p5, vJ q6, .second, vI 3, vI 2, vI 2, vI 2, vR b983, vR b1058, vI 3, vI 1, vI i1040, .unset]) (W := 0) (argsL := []) (rest := [])
            obtain ⟨rfl, u1358, u1359⟩ := hQ1356
            have N1356 := Fr.app N1345 u1358
            refine fin (some (.int 1)) _ _ _ _ X1356 nofun (fun fs hr => pre1264 _ ?_) (own_atH u1359 ?_) (by decide) (by decide)
            · refine o_iload X1255 hx hby at_151 rfl (st1327 _ (o_iload X1327 hx hby at_156 rfl (o_iload X1327 hx hby at_158 rfl (o_isub X1327 hx hby at_160 (z := (1 : Int32)) (by decide +kernel) (o_iload X1327 hx hby at_161 rfl (o_iadd X1327 hx hby at_163 (z := (3 : Int32)) (by decide +kernel) (o_istore X1327 hx hby at_164 (Ls' := #[vI p1, vI p2, vI p3, vI p4, vI p5, vJ q6, .second, vI 3, vI 2, vI 2, vI 2, vR b983, vR b1058, vI 3, .unset, .unset, .unset]) rfl (o_aload X1327 hx hby at_166 rfl rfl (st1340 _ (o_istore X1340 hx hby at_171 (Ls' := #[vI p1, vI p2, vI p3, vI p4, vI p5, vJ q6, .second, vI 3, vI 2, vI 2, vI 2, vR b983, vR b1058, vI 3, vI 1, .unset, .unset]) rfl (o_aload X1340 hx hby at_173 rfl rfl (st1345 _ (o_istore X1345 hx hby at_178 (Ls' := #[vI p1, vI p2, vI p3, vI p4, vI p5, vJ q6, .second, vI 3, vI 2, vI 2, vI 2, vR b983, vR b1058, vI 3, vI 1, vI i1040, .unset]) rfl (o_aload X1345 hx hby at_180 rfl rfl (st1356 _ (o_istore X1356 hx hby at_185 (Ls' := #[vI p1, vI p2, vI p3, vI p4, vI p5, vJ q6, .second, vI 3, vI 2, vI 2, vI 2, vR b983, vR b1058, vI 3, vI 1, vI i1040, vI 1]) rfl (o_iload X1356 hx hby at_187 rfl (o_iload X1356 hx hby at_189 rfl (o_ifN X1356 hx hby at_191 (by decide +kernel) (o_iconst X1356 hx hby at_194 (x := 1) rfl (o_goto X1356 hx hby at_195 (pc := 195) (pc' := 199) (by decide) (by decide) (o_icmpN X1356 hx hby at_199 (by decide +kernel) (o_iload X1356 hx hby at_202 rfl (o_iconst X1356 hx hby at_204 (x := -1) rfl (o_icmpN X1356 hx hby at_205 (feq u1043).1 (o_iconst X1356 hx hby at_208 (x := 1) rfl (o_goto X1356 hx hby at_209 (pc := 209) (pc' := 213) (by decide) (by decide) (o_iload X1356 hx hby at_213 rfl (o_ifN X1356 hx hby at_215 (by decide +kernel) (o_iconst X1356 hx hby at_218 (x := 1) rfl (o_goto X1356 hx hby at_219 (pc := 219) (pc' := 223) (by decide) (by decide) (o_icmpN X1356 hx hby at_223 (by decide +kernel) (o_iload X1356 hx hby at_226 rfl (o_iload X1356 hx hby at_228 rfl (o_iconst X1356 hx hby at_230 (x := 1) rfl (o_icmpN X1356 hx hby at_231 (by decide +kernel) (o_iconst X1356 hx hby at_234 (x := 1) rfl (o_goto X1356 hx hby at_235 (pc := 235) (pc' := 239) (by decide) (by decide) (o_icmpN X1356 hx hby at_239 (by decide +kernel) ?_)))))))))))))))))))))))))))))))))))))))
              refine o_iconst X1356 hx hby at_242 (x := 1) rfl (o_goto X1356 hx hby at_243 (pc := 243) (pc' := 247) (by decide) (by decide) ?_)
              exact retN X1356 hx (t := .boolean) hret (by simp) (hb hby at_247) hr
            · exact ⟨rfl, N1356⟩
        · skip
          subst hq1115; subst hq1116
          obtain ⟨_, T1360, L1360, X1360, hQ1360, st1360⟩ := own_cV X1082 hx hZ hown (ww106 hw) (ww107 hw) (notFace_of_selects (args := #[]) (mvT hZ (ww109 hw))) (ww109 hw) (ww108 hw) (ww32 hw) (ww110 hw) u1101 (rm13_81 l Z a0 hw b1058 b1083 b1084 (0 : Int32) b1059 b1085 i1040 i1019 i994 k1086 T1082.heap n0 Ou1100 u1103 u1102 u1101 u1104 u1105 u1106 u1107 g_b1058 u1109 (Ne.symm (own_n (own_t (own_t lt_b1058 E1059.1) Ku1063.1) u1091))) rfl pd_3 hml (hb hby at_116) (Ls := #[vI p1, vI p2, vI p3, vI p4, vI p5, vJ q6, .second, vI 3, vI 3, vI 3, vI i979, vR b983, vR b1058, .unset, .unset, .unset, .unset]) (W := 0) (argsL := []) (rest := [])
          obtain ⟨rfl, u1362, Ku1363, u1364, u1365, u1366, u1367, u1368, u1369, u1370⟩ := hQ1360
          have Ou1363 : Old Z n0 T1360.heap := Ou1100.keep Ku1363 (allS g_b1058 all0)
          have N1360 := Fr.app N1082 u1362
          have f1371 : Arv Z T1360.heap b1083 k1086 .int (3 : Int32) [(.int i1040), (.int i1019), (.int i994)] (.int (0 : Int32)) := (u1109.keep Ku1363 (ninS (Ne.symm (own_n (own_t (own_t lt_b1058 E1059.1) Ku1063.1) u1091)) nin0))
          obtain ⟨_, T1372, L1372, X1372, hQ1372, st1372⟩ := own_cV X1360 hx hZ hown (ww106 hw) (ww107 hw) (notFace_of_selects (args := #[]) (mvT hZ (ww109 hw))) (ww109 hw) (ww108 hw) (ww32 hw) (ww110 hw) u1364 (rm13_82 l Z a0 hw b1058 b1083 b1084 (0 : Int32) b1059 b1085 i1040 i1019 i994 k1086 T1360.heap n0 Ou1363 u1366 u1365 u1364 u1367 u1368 u1369 u1370 g_b1058 f1371 (Ne.symm (own_n (own_t (own_t lt_b1058 E1059.1) Ku1063.1) u1091))) rfl pd_3 hml (hb hby at_128) (Ls := #[vI p1, vI p2, vI p3, vI p4, vI p5, vJ q6, .second, vI 3, vI 3, vI 3, vI i979, vR b983, vR b1058, .unset, .unset, .unset, .unset]) (W := 0) (argsL := []) (rest := [])
          obtain ⟨rfl, u1374, Ku1375, u1376, u1377, u1378, u1379, u1380, u1381, u1382⟩ := hQ1372
          have Ou1375 : Old Z n0 T1372.heap := Ou1363.keep Ku1375 (allS g_b1058 all0)
          have N1372 := Fr.app N1360 u1374
          have f1383 : Arv Z T1372.heap b1083 k1086 .int (3 : Int32) [(.int i1040), (.int i1019), (.int i994)] (.int (0 : Int32)) := (f1371.keep Ku1375 (ninS (Ne.symm (own_n (own_t (own_t lt_b1058 E1059.1) Ku1063.1) u1091)) nin0))
          obtain ⟨_, T1384, L1384, X1384, hQ1384, st1384⟩ := own_cV X1372 hx hZ hown (ww106 hw) (ww107 hw) (notFace_of_selects (args := #[]) (mvT hZ (ww109 hw))) (ww109 hw) (ww108 hw) (ww32 hw) (ww110 hw) u1376 (rm13_85 l Z a0 hw b1058 b1083 b1084 (0 : Int32) b1059 b1085 i1040 i1019 i994 k1086 T1372.heap n0 Ou1375 u1378 u1377 u1376 u1379 u1380 u1381 u1382 g_b1058 f1383 (Ne.symm (own_n (own_t (own_t lt_b1058 E1059.1) Ku1063.1) u1091))) rfl pd_3 hml (hb hby at_140) (Ls := #[vI p1, vI p2, vI p3, vI p4, vI p5, vJ q6, .second, vI 3, vI 3, vI 3, vI i979, vR b983, vR b1058, .unset, .unset, .unset, .unset]) (W := 0) (argsL := []) (rest := [])
          obtain ⟨rfl, u1386, Ku1387, u1388, u1389, u1390, u1391, u1392, u1393, u1394⟩ := hQ1384
          have Ou1387 : Old Z n0 T1384.heap := Ou1375.keep Ku1387 (allS g_b1058 all0)
          have N1384 := Fr.app N1372 u1386
          obtain ⟨_, T1395, L1395, X1395, hQ1395, st1395⟩ := own_cS X1384 hx hZ hown (ww115 hw) (ww116 hw) (ww117 hw) (ww118 hw) (rm14_15 l Z a0 hw p5 a135 a139 a143 a147 T1384.heap n0 Ou1387 S_136 E_137 F138 S_140 E_141 F142 S_144 E_145 F146 S_148 E_149 F150) rfl pd_9 hml (hb hby at_148) (Ls := #[vI p1, vI p2, vI p3, vI p4, vI p5, vJ q6, .second, vI 3, vI 3, vI 3, vI i979, vR b983, vR b1058, .unset, .unset, .unset, .unset]) (W := 1) (argsL := [(.int p5)]) (rest := [(.ref b1058)])
          obtain ⟨b1396, i1397, u1398, u1399, u1400, rfl, u1402, u1403⟩ := hQ1395
          have N1395 := Fr.app N1384 u1402
          have pre1404 : ∀ t, Steps p.tables e below (T1395.setTop (mkF m 151 #[vI p1, vI p2, vI p3, vI p4, vI p5, vJ q6, .second, vI 3, vI 3, vI 3, vI i979, vR b983, vR b1058, .unset, .unset, .unset, .unset] [(.ref b1396), (.ref b1058)])) t → Steps p.tables e below EN t := by
            intro t kt
            refine pre1114 t ?_
            refine o_iload X1082 hx hby at_109 rfl (o_ifN X1082 hx hby at_111 (by decide +kernel) (o_aload X1082 hx hby at_114 rfl rfl (st1360 _ (o_pop X1360 hx hby at_119 rfl (o_iload X1360 hx hby at_120 rfl (o_iconst X1360 hx hby at_122 (x := 1) rfl (o_icmpN X1360 hx hby at_123 (by decide +kernel) (o_aload X1360 hx hby at_126 rfl rfl (st1372 _ (o_pop X1372 hx hby at_131 rfl (o_iload X1372 hx hby at_132 rfl (o_iconst X1372 hx hby at_134 (x := 2) rfl (o_icmpN X1372 hx hby at_135 (by decide +kernel) (o_aload X1372 hx hby at_138 rfl rfl (st1384 _ (o_pop X1384 hx hby at_143 rfl (o_aload X1384 hx hby at_144 rfl rfl (o_iload X1384 hx hby at_146 rfl (st1395 _ ?_)))))))))))))))))))
            exact kt
          rcases (own_m3 hp980) with hq1405 | hq1405 | hq1405 | hq1405
          · skip
            subst hq1405
            obtain ⟨_, T1406, L1406, X1406, hQ1406, st1406⟩ := own_cV X1395 hx hZ hown (ww122 hw) (ww123 hw) (notFace_of_selects (args := #[]) (mvT hZ (ww125 hw))) (ww125 hw) (ww124 hw) (ww32 hw) (ww126 hw) u1388 (rm15_16 l Z a0 hw b1058 b1396 T1384.heap n0 Ou1387) u1403 pd_10 hml (hb hby at_153) (Ls := #[vI p1, vI p2, vI p3, vI p4, vI p5, vJ q6, .second, vI 3, vI 3, vI 3, vI 0, vR b983, vR b1058, .unset, .unset, .unset, .unset]) (W := 0) (argsL := [(.ref b1396), (.int 0)]) (rest := [])
            obtain ⟨rfl, u1408, u1409⟩ := hQ1406
            have N1406 := Fr.app N1395 u1408
            obtain ⟨_, T1410, L1410, X1410, hQ1410, st1410⟩ := own_cV X1406 hx hZ hown (ww127 hw) (ww128 hw) (notFace_of_selects (args := #[]) (mvT hZ (ww130 hw))) (ww130 hw) (ww129 hw) (ww32 hw) (ww131 hw) u1388 (rm16_17 l Z a0 hw b1058 T1384.heap n0 Ou1387 u1390 u1392) u1409 pd_6 hml (hb hby at_168) (Ls := #[vI p1, vI p2, vI p3, vI p4, vI p5, vJ q6, .second, vI 3, vI 3, vI 3, vI 0, vR b983, vR b1058, vI 0, .unset, .unset, .unset]) (W := 0) (argsL := []) (rest := [])
            obtain ⟨rfl, u1412, u1413⟩ := hQ1410
            have N1410 := Fr.app N1406 u1412
            obtain ⟨_, T1414, L1414, X1414, hQ1414, st1414⟩ := own_cV X1410 hx hZ hown (ww106 hw) (ww107 hw) (notFace_of_selects (args := #[]) (mvT hZ (ww109 hw))) (ww109 hw) (ww108 hw) (ww32 hw) (ww110 hw) u1388 (rm13_14 l Z a0 hw b1058 T1384.heap n0 Ou1387 u1390 u1392) u1413 pd_3 hml (hb hby at_175) (Ls := #[vI p1, vI p2, vI p3, vI p4, vI p5, vJ q6, .second, vI 3, vI 3, vI 3, vI 0, vR b983, vR b1058, vI 0, vI 0, .unset, .unset]) (W := 0) (argsL := []) (rest := [])
            obtain ⟨rfl, u1416, u1417⟩ := hQ1414
            have N1414 := Fr.app N1410 u1416
            obtain ⟨_, T1418, L1418, X1418, hQ1418, st1418⟩ := own_cV X1414 hx hZ hown (ww127 hw) (ww128 hw) (notFace_of_selects (args := #[]) (mvT hZ (ww130 hw))) (ww130 hw) (ww129 hw) (ww32 hw) (ww131 hw) u1388 (rm16_17 l Z a0 hw b1058 T1384.heap n0 Ou1387 u1390 u1392) u1417 pd_6 hml (hb hby at_182) (Ls := #[vI p1, vI p2, vI p3, vI p4, vI p5, vJ q6, .second, vI 3, vI 3, vI 3, vI 0, vR b983, vR b1058, vI 0, vI 0, vI (-1), .unset]) (W := 0) (argsL := []) (rest := [])
            obtain ⟨rfl, u1420, u1421⟩ := hQ1418
            have N1418 := Fr.app N1414 u1420
            refine fin (some (.int 1)) _ _ _ _ X1418 nofun (fun fs hr => pre1404 _ ?_) (own_atH u1421 ?_) (by decide) (by decide)
            · refine o_iload X1395 hx hby at_151 rfl (st1406 _ (o_iload X1406 hx hby at_156 rfl (o_iload X1406 hx hby at_158 rfl (o_isub X1406 hx hby at_160 (z := (0 : Int32)) (by decide +kernel) (o_iload X1406 hx hby at_161 rfl (o_iadd X1406 hx hby at_163 (z := (0 : Int32)) (by decide +kernel) (o_istore X1406 hx hby at_164 (Ls' := #[vI p1, vI p2, vI p3, vI p4, vI p5, vJ q6, .second, vI 3, vI 3, vI 3, vI 0, vR b983, vR b1058, vI 0, .unset, .unset, .unset]) rfl (o_aload X1406 hx hby at_166 rfl rfl (st1410 _ (o_istore X1410 hx hby at_171 (Ls' := #[vI p1, vI p2, vI p3, vI p4, vI p5, vJ q6, .second, vI 3, vI 3, vI 3, vI 0, vR b983, vR b1058, vI 0, vI 0, .unset, .unset]) rfl (o_aload X1410 hx hby at_173 rfl rfl (st1414 _ (o_istore X1414 hx hby at_178 (Ls' := #[vI p1, vI p2, vI p3, vI p4, vI p5, vJ q6, .second, vI 3, vI 3, vI 3, vI 0, vR b983, vR b1058, vI 0, vI 0, vI (-1), .unset]) rfl (o_aload X1414 hx hby at_180 rfl rfl (st1418 _ (o_istore X1418 hx hby at_185 (Ls' := #[vI p1, vI p2, vI p3, vI p4, vI p5, vJ q6, .second, vI 3, vI 3, vI 3, vI 0, vR b983, vR b1058, vI 0, vI 0, vI (-1), vI 0]) rfl (o_iload X1418 hx hby at_187 rfl (o_iload X1418 hx hby at_189 rfl (o_ifY X1418 hx hby at_191 (pc := 191) (pc' := 198) (by decide +kernel) (by decide) (by decide) (o_iconst X1418 hx hby at_198 (x := 0) rfl (o_icmpN X1418 hx hby at_199 (by decide +kernel) (o_iload X1418 hx hby at_202 rfl (o_iconst X1418 hx hby at_204 (x := -1) rfl (o_icmpY X1418 hx hby at_205 (pc := 205) (pc' := 212) (by decide +kernel) (by decide) (by decide) (o_iconst X1418 hx hby at_212 (x := 0) rfl (o_iload X1418 hx hby at_213 rfl (o_ifY X1418 hx hby at_215 (pc := 215) (pc' := 222) (by decide +kernel) (by decide) (by decide) (o_iconst X1418 hx hby at_222 (x := 0) rfl (o_icmpN X1418 hx hby at_223 (by decide +kernel) (o_iload X1418 hx hby at_226 rfl (o_iload X1418 hx hby at_228 rfl (o_iconst X1418 hx hby at_230 (x := 1) rfl (o_icmpY X1418 hx hby at_231 (pc := 231) (pc' := 238) (by decide +kernel) (by decide) (by decide) (o_iconst X1418 hx hby at_238 (x := 0) rfl (o_icmpN X1418 hx hby at_239 (by decide +kernel) (o_iconst X1418 hx hby at_242 (x := 1) rfl (o_goto X1418 hx hby at_243 (pc := 243) (pc' := 247) (by decide) (by decide) ?_)))))))))))))))))))))))))))))))))))))
              exact retN X1418 hx (t := .boolean) hret (by simp) (hb hby at_247) hr
            · exact ⟨rfl, N1418⟩
          · skip
            subst hq1405
            have f1422 : Arv Z T1384.heap b1084 k1087 .int (3 : Int32) [] (.int (0 : Int32)) := (((u1111.keep Ku1363 (ninS (Ne.symm (own_n (own_t (own_t lt_b1058 E1059.1) Ku1063.1) u1093)) nin0)).keep Ku1375 (ninS (Ne.symm (own_n (own_t (own_t lt_b1058 E1059.1) Ku1063.1) u1093)) nin0)).keep Ku1387 (ninS (Ne.symm (own_n (own_t (own_t lt_b1058 E1059.1) Ku1063.1) u1093)) nin0))
            have f1423 : Exa Z T1384.heap b1084 "[I" := (((u1110.keep Ku1363).keep Ku1375).keep Ku1387)
            obtain ⟨_, T1424, L1424, X1424, hQ1424, st1424⟩ := own_cV X1395 hx hZ hown (ww122 hw) (ww123 hw) (notFace_of_selects (args := #[]) (mvT hZ (ww125 hw))) (ww125 hw) (ww124 hw) (ww32 hw) (ww126 hw) u1388 (rm15_83 l Z a0 hw b1058 b1396 b1084 b1083 (0 : Int32) b1059 b1085 i1397 k1087 T1384.heap n0 Ou1387 u1391 u1392 u1388 u1389 u1390 u1393 u1394 g_b1058 u1398 u1399 f1422 (Ne.symm (own_n (own_t (own_t lt_b1058 E1059.1) Ku1063.1) u1093)) g_b1084 f1423) u1403 pd_10 hml (hb hby at_153) (Ls := #[vI p1, vI p2, vI p3, vI p4, vI p5, vJ q6, .second, vI 3, vI 3, vI 3, vI 1, vR b983, vR b1058, .unset, .unset, .unset, .unset]) (W := 0) (argsL := [(.ref b1396), (.int 1)]) (rest := [])
            obtain ⟨rfl, u1426, Ku1427, u1428, u1429, u1430, u1431, u1432, u1433, u1434, u1435, u1436⟩ := hQ1424
            have Ou1427 : Old Z n0 T1424.heap := Ou1387.keep Ku1427 (allS g_b1058 (allS g_b1084 all0))
            have N1424 := Fr.app N1395 u1426
            obtain ⟨_, T1437, L1437, X1437, hQ1437, st1437⟩ := own_cV X1424 hx hZ hown (ww127 hw) (ww128 hw) (notFace_of_selects (args := #[]) (mvT hZ (ww130 hw))) (ww130 hw) (ww129 hw) (ww32 hw) (ww131 hw) u1428 (rm16_36 l Z a0 hw b1058 T1424.heap n0 Ou1427 u1430 u1432) rfl pd_6 hml (hb hby at_168) (Ls := #[vI p1, vI p2, vI p3, vI p4, vI p5, vJ q6, .second, vI 3, vI 3, vI 3, vI 1, vR b983, vR b1058, vI 1, .unset, .unset, .unset]) (W := 0) (argsL := []) (rest := [])
            obtain ⟨rfl, u1439, u1440⟩ := hQ1437
            have N1437 := Fr.app N1424 u1439
            have f1441 : Arv Z T1424.heap b1083 k1086 .int (3 : Int32) [(.int i1040), (.int i1019), (.int i994)] (.int (0 : Int32)) := ((f1383.keep Ku1387 (ninS (Ne.symm (own_n (own_t (own_t lt_b1058 E1059.1) Ku1063.1) u1091)) nin0)).keep Ku1427 (ninS (Ne.symm (own_n (own_t (own_t lt_b1058 E1059.1) Ku1063.1) u1091)) (ninS u1097 nin0)))
            have f1442 : Exa Z T1424.heap b1083 "[I" := ((((u1108.keep Ku1363).keep Ku1375).keep Ku1387).keep Ku1427)
            have f1443 : Exa Z T1424.heap b1059 C_5 := (((((u1064.keep Ku1100).keep Ku1363).keep Ku1375).keep Ku1387).keep Ku1427)
            obtain ⟨_, T1444, L1444, X1444, hQ1444, st1444⟩ := own_cV X1437 hx hZ hown (ww106 hw) (ww107 hw) (notFace_of_selects (args := #[]) (mvT hZ (ww109 hw))) (ww109 hw) (ww108 hw) (ww32 hw) (ww110 hw) u1428 (rm13_88 l Z a0 hw b1058 b1084 b1083 i1397 k1087 i1040 i1019 i994 k1086 b1059 b1085 T1424.heap n0 Ou1427 u1430 u1432 u1431 u1429 u1436 f1441 f1442 g_b1083 (own_n (own_t (own_t lt_b1058 E1059.1) Ku1063.1) u1091) u1428 u1433 u1434 g_b1058 f1443) u1440 pd_3 hml (hb hby at_175) (Ls := #[vI p1, vI p2, vI p3, vI p4, vI p5, vJ q6, .second, vI 3, vI 3, vI 3, vI 1, vR b983, vR b1058, vI 1, vI 1, .unset, .unset]) (W := 0) (argsL := []) (rest := [])
            obtain ⟨rfl, u1446, Ku1447, u1448, u1449, u1450, u1451, u1452, u1453, u1454, u1455, u1456⟩ := hQ1444
            have Ou1447 : Old Z n0 T1444.heap := Ou1427.keep Ku1447 (allS g_b1083 (allS g_b1058 all0))
            have N1444 := Fr.app N1437 u1446
            obtain ⟨_, T1457, L1457, X1457, hQ1457, st1457⟩ := own_cV X1444 hx hZ hown (ww127 hw) (ww128 hw) (notFace_of_selects (args := #[]) (mvT hZ (ww130 hw))) (ww130 hw) (ww129 hw) (ww32 hw) (ww131 hw) u1450 (rm16_17 l Z a0 hw b1058 T1444.heap n0 Ou1447 u1452 u1454) rfl pd_6 hml (hb hby at_182) (Ls := #[vI p1, vI p2, vI p3, vI p4, vI p5, vJ q6, .second, vI 3, vI 3, vI 3, vI 1, vR b983, vR b1058, vI 1, vI 1, vI i1397, .unset]) (W := 0) (argsL := []) (rest := [])
            obtain ⟨rfl, u1459, u1460⟩ := hQ1457
            have N1457 := Fr.app N1444 u1459
            refine fin (some (.int 1)) _ _ _ _ X1457 nofun (fun fs hr => pre1404 _ ?_) (own_atH u1460 ?_) (by decide) (by decide)
            · refine o_iload X1395 hx hby at_151 rfl (st1424 _ (o_iload X1424 hx hby at_156 rfl (o_iload X1424 hx hby at_158 rfl (o_isub X1424 hx hby at_160 (z := (0 : Int32)) (by decide +kernel) (o_iload X1424 hx hby at_161 rfl (o_iadd X1424 hx hby at_163 (z := (1 : Int32)) (by decide +kernel) (o_istore X1424 hx hby at_164 (Ls' := #[vI p1, vI p2, vI p3, vI p4, vI p5, vJ q6, .second, vI 3, vI 3, vI 3, vI 1, vR b983, vR b1058, vI 1, .unset, .unset, .unset]) rfl (o_aload X1424 hx hby at_166 rfl rfl (st1437 _ (o_istore X1437 hx hby at_171 (Ls' := #[vI p1, vI p2, vI p3, vI p4, vI p5, vJ q6, .second, vI 3, vI 3, vI 3, vI 1, vR b983, vR b1058, vI 1, vI 1, .unset, .unset]) rfl (o_aload X1437 hx hby at_173 rfl rfl (st1444 _ (o_istore X1444 hx hby at_178 (Ls' := #[vI p1, vI p2, vI p3, vI p4, vI p5, vJ q6, .second, vI 3, vI 3, vI 3, vI 1, vR b983, vR b1058, vI 1, vI 1, vI i1397, .unset]) rfl (o_aload X1444 hx hby at_180 rfl rfl (st1457 _ (o_istore X1457 hx hby at_185 (Ls' := #[vI p1, vI p2, vI p3, vI p4, vI p5, vJ q6, .second, vI 3, vI 3, vI 3, vI 1, vR b983, vR b1058, vI 1, vI 1, vI i1397, vI 0]) rfl (o_iload X1457 hx hby at_187 rfl (o_iload X1457 hx hby at_189 rfl (o_ifN X1457 hx hby at_191 (by decide +kernel) (o_iconst X1457 hx hby at_194 (x := 1) rfl (o_goto X1457 hx hby at_195 (pc := 195) (pc' := 199) (by decide) (by decide) (o_icmpN X1457 hx hby at_199 (by decide +kernel) (o_iload X1457 hx hby at_202 rfl (o_iconst X1457 hx hby at_204 (x := -1) rfl (o_icmpN X1457 hx hby at_205 (feq u1400).1 (o_iconst X1457 hx hby at_208 (x := 1) rfl (o_goto X1457 hx hby at_209 (pc := 209) (pc' := 213) (by decide) (by decide) (o_iload X1457 hx hby at_213 rfl (o_ifN X1457 hx hby at_215 (by decide +kernel) (o_iconst X1457 hx hby at_218 (x := 1) rfl (o_goto X1457 hx hby at_219 (pc := 219) (pc' := 223) (by decide) (by decide) (o_icmpN X1457 hx hby at_223 (by decide +kernel) (o_iload X1457 hx hby at_226 rfl (o_iload X1457 hx hby at_228 rfl (o_iconst X1457 hx hby at_230 (x := 1) rfl (o_icmpY X1457 hx hby at_231 (pc := 231) (pc' := 238) (by decide +kernel) (by decide) (by decide) (o_iconst X1457 hx hby at_238 (x := 0) rfl (o_icmpN X1457 hx hby at_239 (by decide +kernel) (o_iconst X1457 hx hby at_242 (x := 1) rfl ?_)))))))))))))))))))))))))))))))))))))))
              refine o_goto X1457 hx hby at_243 (pc := 243) (pc' := 247) (by decide) (by decide) ?_
              exact retN X1457 hx (t := .boolean) hret (by simp) (hb hby at_247) hr
            · exact ⟨rfl, N1457⟩
          · skip
            subst hq1405
            have f1461 : Arv Z T1384.heap b1084 k1087 .int (3 : Int32) [] (.int (0 : Int32)) := (((u1111.keep Ku1363 (ninS (Ne.symm (own_n (own_t (own_t lt_b1058 E1059.1) Ku1063.1) u1093)) nin0)).keep Ku1375 (ninS (Ne.symm (own_n (own_t (own_t lt_b1058 E1059.1) Ku1063.1) u1093)) nin0)).keep Ku1387 (ninS (Ne.symm (own_n (own_t (own_t lt_b1058 E1059.1) Ku1063.1) u1093)) nin0))
            have f1462 : Exa Z T1384.heap b1084 "[I" := (((u1110.keep Ku1363).keep Ku1375).keep Ku1387)
            obtain ⟨_, T1463, L1463, X1463, hQ1463, st1463⟩ := own_cV X1395 hx hZ hown (ww122 hw) (ww123 hw) (notFace_of_selects (args := #[]) (mvT hZ (ww125 hw))) (ww125 hw) (ww124 hw) (ww32 hw) (ww126 hw) u1388 (rm15_86 l Z a0 hw b1058 b1396 b1084 b1083 (0 : Int32) b1059 b1085 i1397 k1087 T1384.heap n0 Ou1387 u1391 u1392 u1388 u1389 u1390 u1393 u1394 g_b1058 u1398 u1399 f1461 (Ne.symm (own_n (own_t (own_t lt_b1058 E1059.1) Ku1063.1) u1093)) g_b1084 f1462) u1403 pd_10 hml (hb hby at_153) (Ls := #[vI p1, vI p2, vI p3, vI p4, vI p5, vJ q6, .second, vI 3, vI 3, vI 3, vI 2, vR b983, vR b1058, .unset, .unset, .unset, .unset]) (W := 0) (argsL := [(.ref b1396), (.int 2)]) (rest := [])
            obtain ⟨rfl, u1465, Ku1466, u1467, u1468, u1469, u1470, u1471, u1472, u1473, u1474, u1475⟩ := hQ1463
            have Ou1466 : Old Z n0 T1463.heap := Ou1387.keep Ku1466 (allS g_b1058 (allS g_b1084 all0))
            have N1463 := Fr.app N1395 u1465
            obtain ⟨_, T1476, L1476, X1476, hQ1476, st1476⟩ := own_cV X1463 hx hZ hown (ww127 hw) (ww128 hw) (notFace_of_selects (args := #[]) (mvT hZ (ww130 hw))) (ww130 hw) (ww129 hw) (ww32 hw) (ww131 hw) u1467 (rm16_59 l Z a0 hw b1058 T1463.heap n0 Ou1466 u1469 u1471) rfl pd_6 hml (hb hby at_168) (Ls := #[vI p1, vI p2, vI p3, vI p4, vI p5, vJ q6, .second, vI 3, vI 3, vI 3, vI 2, vR b983, vR b1058, vI 2, .unset, .unset, .unset]) (W := 0) (argsL := []) (rest := [])
            obtain ⟨rfl, u1478, u1479⟩ := hQ1476
            have N1476 := Fr.app N1463 u1478
            have f1480 : Arv Z T1463.heap b1083 k1086 .int (3 : Int32) [(.int i1040), (.int i1019), (.int i994)] (.int (0 : Int32)) := ((f1383.keep Ku1387 (ninS (Ne.symm (own_n (own_t (own_t lt_b1058 E1059.1) Ku1063.1) u1091)) nin0)).keep Ku1466 (ninS (Ne.symm (own_n (own_t (own_t lt_b1058 E1059.1) Ku1063.1) u1091)) (ninS u1097 nin0)))
            have f1481 : Exa Z T1463.heap b1083 "[I" := ((((u1108.keep Ku1363).keep Ku1375).keep Ku1387).keep Ku1466)
            have f1482 : Exa Z T1463.heap b1059 C_5 := (((((u1064.keep Ku1100).keep Ku1363).keep Ku1375).keep Ku1387).keep Ku1466)
            have f1483 : Fld Z T1463.heap b1059 C_5 "state" "J" (.long q6) := (((((u1065.keep Ku1100 (ninS (Ne.symm (own_n lt_b1058 bd_b1059)) nin0)).keep Ku1363 (ninS (Ne.symm (own_n lt_b1058 bd_b1059)) nin0)).keep Ku1375 (ninS (Ne.symm (own_n lt_b1058 bd_b1059)) nin0)).keep Ku1387 (ninS (Ne.symm (own_n lt_b1058 bd_b1059)) nin0)).keep Ku1466 (ninS (Ne.symm (own_n lt_b1058 bd_b1059)) (ninS (own_n (own_t lt_b1059 Ku1063.1) u1093) nin0)))
            obtain ⟨_, T1484, L1484, X1484, hQ1484, st1484⟩ := own_cV X1476 hx hZ hown (ww106 hw) (ww107 hw) (notFace_of_selects (args := #[]) (mvT hZ (ww109 hw))) (ww109 hw) (ww108 hw) (ww32 hw) (ww110 hw) u1467 (rm13_89 l Z a0 hw b1058 b1084 b1083 i1397 k1087 i1040 i1019 i994 k1086 b1059 b1085 q6 T1463.heap n0 Ou1466 u1469 u1471 u1470 u1468 u1475 f1480 f1481 g_b1083 (own_n (own_t (own_t lt_b1058 E1059.1) Ku1063.1) u1091) u1467 u1472 u1473 g_b1058 f1482 f1483 g_b1059 (Ne.symm (own_n (own_t lt_b1059 Ku1063.1) u1091)) (Ne.symm (own_n lt_b1058 bd_b1059))) u1479 pd_3 hml (hb hby at_175) (Ls := #[vI p1, vI p2, vI p3, vI p4, vI p5, vJ q6, .second, vI 3, vI 3, vI 3, vI 2, vR b983, vR b1058, vI 2, vI 1, .unset, .unset]) (W := 0) (argsL := []) (rest := [])
            obtain ⟨j1485, rfl, u1487, Ku1488, u1489, u1490, u1491, u1492, u1493, u1494, u1495, u1496, u1497, u1498, u1499⟩ := hQ1484
            have Ou1488 : Old Z n0 T1484.heap := Ou1466.keep Ku1488 (allS g_b1083 (allS g_b1058 (allS g_b1059 all0)))
            have N1484 := Fr.app N1476 u1487
            obtain ⟨_, T1500, L1500, X1500, hQ1500, st1500⟩ := own_cV X1484 hx hZ hown (ww127 hw) (ww128 hw) (notFace_of_selects (args := #[]) (mvT hZ (ww130 hw))) (ww130 hw) (ww129 hw) (ww32 hw) (ww131 hw) u1491 (rm16_33 l Z a0 hw b1058 T1484.heap n0 Ou1488 u1493 u1495) rfl pd_6 hml (hb hby at_182) (Ls := #[vI p1, vI p2, vI p3, vI p4, vI p5, vJ q6, .second, vI 3, vI 3, vI 3, vI 2, vR b983, vR b1058, vI 2, vI 1, vI i1397, .unset]) (W := 0) (argsL := []) (rest := [])
            obtain ⟨rfl, u1502, u1503⟩ := hQ1500
            have N1500 := Fr.app N1484 u1502
            refine fin (some (.int 1)) _ _ _ _ X1500 nofun (fun fs hr => pre1404 _ ?_) (own_atH u1503 ?_) (by decide) (by decide)
            · refine o_iload X1395 hx hby at_151 rfl (st1463 _ (o_iload X1463 hx hby at_156 rfl (o_iload X1463 hx hby at_158 rfl (o_isub X1463 hx hby at_160 (z := (0 : Int32)) (by decide +kernel) (o_iload X1463 hx hby at_161 rfl (o_iadd X1463 hx hby at_163 (z := (2 : Int32)) (by decide +kernel) (o_istore X1463 hx hby at_164 (Ls' := #[vI p1, vI p2, vI p3, vI p4, vI p5, vJ q6, .second, vI 3, vI 3, vI 3, vI 2, vR b983, vR b1058, vI 2, .unset, .unset, .unset]) rfl (o_aload X1463 hx hby at_166 rfl rfl (st1476 _ (o_istore X1476 hx hby at_171 (Ls' := #[vI p1, vI p2, vI p3, vI p4, vI p5, vJ q6, .second, vI 3, vI 3, vI 3, vI 2, vR b983, vR b1058, vI 2, vI 1, .unset, .unset]) rfl (o_aload X1476 hx hby at_173 rfl rfl (st1484 _ (o_istore X1484 hx hby at_178 (Ls' := #[vI p1, vI p2, vI p3, vI p4, vI p5, vJ q6, .second, vI 3, vI 3, vI 3, vI 2, vR b983, vR b1058, vI 2, vI 1, vI i1397, .unset]) rfl (o_aload X1484 hx hby at_180 rfl rfl (st1500 _ (o_istore X1500 hx hby at_185 (Ls' := #[vI p1, vI p2, vI p3, vI p4, vI p5, vJ q6, .second, vI 3, vI 3, vI 3, vI 2, vR b983, vR b1058, vI 2, vI 1, vI i1397, vI 1]) rfl (o_iload X1500 hx hby at_187 rfl (o_iload X1500 hx hby at_189 rfl (o_ifN X1500 hx hby at_191 (by decide +kernel) (o_iconst X1500 hx hby at_194 (x := 1) rfl (o_goto X1500 hx hby at_195 (pc := 195) (pc' := 199) (by decide) (by decide) (o_icmpN X1500 hx hby at_199 (by decide +kernel) (o_iload X1500 hx hby at_202 rfl (o_iconst X1500 hx hby at_204 (x := -1) rfl (o_icmpN X1500 hx hby at_205 (feq u1400).1 (o_iconst X1500 hx hby at_208 (x := 1) rfl (o_goto X1500 hx hby at_209 (pc := 209) (pc' := 213) (by decide) (by decide) (o_iload X1500 hx hby at_213 rfl (o_ifN X1500 hx hby at_215 (by decide +kernel) (o_iconst X1500 hx hby at_218 (x := 1) rfl (o_goto X1500 hx hby at_219 (pc := 219) (pc' := 223) (by decide) (by decide) (o_icmpN X1500 hx hby at_223 (by decide +kernel) (o_iload X1500 hx hby at_226 rfl (o_iload X1500 hx hby at_228 rfl (o_iconst X1500 hx hby at_230 (x := 1) rfl (o_icmpN X1500 hx hby at_231 (by decide +kernel) (o_iconst X1500 hx hby at_234 (x := 1) rfl (o_goto X1500 hx hby at_235 (pc := 235) (pc' := 239) (by decide) (by decide) (o_icmpN X1500 hx hby at_239 (by decide +kernel) ?_)))))))))))))))))))))))))))))))))))))))
              refine o_iconst X1500 hx hby at_242 (x := 1) rfl (o_goto X1500 hx hby at_243 (pc := 243) (pc' := 247) (by decide) (by decide) ?_)
              exact retN X1500 hx (t := .boolean) hret (by simp) (hb hby at_247) hr
            · exact ⟨rfl, N1500⟩
          · skip
            subst hq1405
            have f1504 : Arv Z T1384.heap b1084 k1087 .int (3 : Int32) [] (.int (0 : Int32)) := (((u1111.keep Ku1363 (ninS (Ne.symm (own_n (own_t (own_t lt_b1058 E1059.1) Ku1063.1) u1093)) nin0)).keep Ku1375 (ninS (Ne.symm (own_n (own_t (own_t lt_b1058 E1059.1) Ku1063.1) u1093)) nin0)).keep Ku1387 (ninS (Ne.symm (own_n (own_t (own_t lt_b1058 E1059.1) Ku1063.1) u1093)) nin0))
            have f1505 : Exa Z T1384.heap b1084 "[I" := (((u1110.keep Ku1363).keep Ku1375).keep Ku1387)
            obtain ⟨_, T1506, L1506, X1506, hQ1506, st1506⟩ := own_cV X1395 hx hZ hown (ww122 hw) (ww123 hw) (notFace_of_selects (args := #[]) (mvT hZ (ww125 hw))) (ww125 hw) (ww124 hw) (ww32 hw) (ww126 hw) u1388 (rm15_91 l Z a0 hw b1058 b1396 b1084 b1083 (0 : Int32) b1059 b1085 i1397 k1087 T1384.heap n0 Ou1387 u1391 u1392 u1388 u1389 u1390 u1393 u1394 g_b1058 u1398 u1399 f1504 (Ne.symm (own_n (own_t (own_t lt_b1058 E1059.1) Ku1063.1) u1093)) g_b1084 f1505) u1403 pd_10 hml (hb hby at_153) (Ls := #[vI p1, vI p2, vI p3, vI p4, vI p5, vJ q6, .second, vI 3, vI 3, vI 3, vI 3, vR b983, vR b1058, .unset, .unset, .unset, .unset]) (W := 0) (argsL := [(.ref b1396), (.int 3)]) (rest := [])
            obtain ⟨rfl, u1508, Ku1509, u1510, u1511, u1512, u1513, u1514, u1515, u1516, u1517, u1518⟩ := hQ1506
            have Ou1509 : Old Z n0 T1506.heap := Ou1387.keep Ku1509 (allS g_b1058 (allS g_b1084 all0))
            have N1506 := Fr.app N1395 u1508
            obtain ⟨_, T1519, L1519, X1519, hQ1519, st1519⟩ := own_cV X1506 hx hZ hown (ww127 hw) (ww128 hw) (notFace_of_selects (args := #[]) (mvT hZ (ww130 hw))) (ww130 hw) (ww129 hw) (ww32 hw) (ww131 hw) u1510 (rm16_92 l Z a0 hw b1058 T1506.heap n0 Ou1509 u1512 u1514) rfl pd_6 hml (hb hby at_168) (Ls := #[vI p1, vI p2, vI p3, vI p4, vI p5, vJ q6, .second, vI 3, vI 3, vI 3, vI 3, vR b983, vR b1058, vI 3, .unset, .unset, .unset]) (W := 0) (argsL := []) (rest := [])
            obtain ⟨rfl, u1521, u1522⟩ := hQ1519
            have N1519 := Fr.app N1506 u1521
            have f1523 : Arv Z T1506.heap b1083 k1086 .int (3 : Int32) [(.int i1040), (.int i1019), (.int i994)] (.int (0 : Int32)) := ((f1383.keep Ku1387 (ninS (Ne.symm (own_n (own_t (own_t lt_b1058 E1059.1) Ku1063.1) u1091)) nin0)).keep Ku1509 (ninS (Ne.symm (own_n (own_t (own_t lt_b1058 E1059.1) Ku1063.1) u1091)) (ninS u1097 nin0)))
            have f1524 : Exa Z T1506.heap b1083 "[I" := ((((u1108.keep Ku1363).keep Ku1375).keep Ku1387).keep Ku1509)
            have f1525 : Exa Z T1506.heap b1059 C_5 := (((((u1064.keep Ku1100).keep Ku1363).keep Ku1375).keep Ku1387).keep Ku1509)
            have f1526 : Fld Z T1506.heap b1059 C_5 "state" "J" (.long q6) := (((((u1065.keep Ku1100 (ninS (Ne.symm (own_n lt_b1058 bd_b1059)) nin0)).keep Ku1363 (ninS (Ne.symm (own_n lt_b1058 bd_b1059)) nin0)).keep Ku1375 (ninS (Ne.symm (own_n lt_b1058 bd_b1059)) nin0)).keep Ku1387 (ninS (Ne.symm (own_n lt_b1058 bd_b1059)) nin0)).keep Ku1509 (ninS (Ne.symm (own_n lt_b1058 bd_b1059)) (ninS (own_n (own_t lt_b1059 Ku1063.1) u1093) nin0)))
            obtain ⟨_, T1527, L1527, X1527, hQ1527, st1527⟩ := own_cV X1519 hx hZ hown (ww106 hw) (ww107 hw) (notFace_of_selects (args := #[]) (mvT hZ (ww109 hw))) (ww109 hw) (ww108 hw) (ww32 hw) (ww110 hw) u1510 (rm13_93 l Z a0 hw b1058 b1084 b1083 i1397 k1087 i1040 i1019 i994 k1086 b1059 b1085 q6 T1506.heap n0 Ou1509 u1512 u1514 u1513 u1511 u1518 f1523 f1524 g_b1083 (own_n (own_t (own_t lt_b1058 E1059.1) Ku1063.1) u1091) u1510 u1515 u1516 g_b1058 f1525 f1526 (Ne.symm (own_n (own_t lt_b1059 Ku1063.1) u1091)) g_b1059 (Ne.symm (own_n lt_b1058 bd_b1059))) u1522 pd_3 hml (hb hby at_175) (Ls := #[vI p1, vI p2, vI p3, vI p4, vI p5, vJ q6, .second, vI 3, vI 3, vI 3, vI 3, vR b983, vR b1058, vI 3, vI 1, .unset, .unset]) (W := 0) (argsL := []) (rest := [])
            obtain ⟨j1528, rfl, u1530, Ku1531, u1532, u1533, u1534, u1535, u1536, u1537, u1538, u1539, u1540, u1541, u1542⟩ := hQ1527
            have Ou1531 : Old Z n0 T1527.heap := Ou1509.keep Ku1531 (allS g_b1083 (allS g_b1058 (allS g_b1059 all0)))
            have N1527 := Fr.app N1519 u1530
            obtain ⟨_, T1543, L1543, X1543, hQ1543, st1543⟩ := own_cV X1527 hx hZ hown (ww127 hw) (ww128 hw) (notFace_of_selects (args := #[]) (mvT hZ (ww130 hw))) (ww130 hw) (ww129 hw) (ww32 hw) (ww131 hw) u1534 (rm16_52 l Z a0 hw b1058 T1527.heap n0 Ou1531 u1536 u1538) rfl pd_6 hml (hb hby at_182) (Ls := #[vI p1, vI p2, vI p3, vI p4, vI p5, vJ q6, .second, vI 3, vI 3, vI 3, vI 3, vR b983, vR b1058, vI 3, vI 1, vI i1397, .unset]) (W := 0) (argsL := []) (rest := [])
            obtain ⟨rfl, u1545, u1546⟩ := hQ1543
            have N1543 := Fr.app N1527 u1545
            refine fin (some (.int 1)) _ _ _ _ X1543 nofun (fun fs hr => pre1404 _ ?_) (own_atH u1546 ?_) (by decide) (by decide)
            · refine o_iload X1395 hx hby at_151 rfl (st1506 _ (o_iload X1506 hx hby at_156 rfl (o_iload X1506 hx hby at_158 rfl (o_isub X1506 hx hby at_160 (z := (0 : Int32)) (by decide +kernel) (o_iload X1506 hx hby at_161 rfl (o_iadd X1506 hx hby at_163 (z := (3 : Int32)) (by decide +kernel) (o_istore X1506 hx hby at_164 (Ls' := #[vI p1, vI p2, vI p3, vI p4, vI p5, vJ q6, .second, vI 3, vI 3, vI 3, vI 3, vR b983, vR b1058, vI 3, .unset, .unset, .unset]) rfl (o_aload X1506 hx hby at_166 rfl rfl (st1519 _ (o_istore X1519 hx hby at_171 (Ls' := #[vI p1, vI p2, vI p3, vI p4, vI p5, vJ q6, .second, vI 3, vI 3, vI 3, vI 3, vR b983, vR b1058, vI 3, vI 1, .unset, .unset]) rfl (o_aload X1519 hx hby at_173 rfl rfl (st1527 _ (o_istore X1527 hx hby at_178 (Ls' := #[vI p1, vI p2, vI p3, vI p4, vI p5, vJ q6, .second, vI 3, vI 3, vI 3, vI 3, vR b983, vR b1058, vI 3, vI 1, vI i1397, .unset]) rfl (o_aload X1527 hx hby at_180 rfl rfl (st1543 _ (o_istore X1543 hx hby at_185 (Ls' := #[vI p1, vI p2, vI p3, vI p4, vI p5, vJ q6, .second, vI 3, vI 3, vI 3, vI 3, vR b983, vR b1058, vI 3, vI 1, vI i1397, vI 1]) rfl (o_iload X1543 hx hby at_187 rfl (o_iload X1543 hx hby at_189 rfl (o_ifN X1543 hx hby at_191 (by decide +kernel) (o_iconst X1543 hx hby at_194 (x := 1) rfl (o_goto X1543 hx hby at_195 (pc := 195) (pc' := 199) (by decide) (by decide) (o_icmpN X1543 hx hby at_199 (by decide +kernel) (o_iload X1543 hx hby at_202 rfl (o_iconst X1543 hx hby at_204 (x := -1) rfl (o_icmpN X1543 hx hby at_205 (feq u1400).1 (o_iconst X1543 hx hby at_208 (x := 1) rfl (o_goto X1543 hx hby at_209 (pc := 209) (pc' := 213) (by decide) (by decide) (o_iload X1543 hx hby at_213 rfl (o_ifN X1543 hx hby at_215 (by decide +kernel) (o_iconst X1543 hx hby at_218 (x := 1) rfl (o_goto X1543 hx hby at_219 (pc := 219) (pc' := 223) (by decide) (by decide) (o_icmpN X1543 hx hby at_223 (by decide +kernel) (o_iload X1543 hx hby at_226 rfl (o_iload X1543 hx hby at_228 rfl (o_iconst X1543 hx hby at_230 (x := 1) rfl (o_icmpN X1543 hx hby at_231 (by decide +kernel) (o_iconst X1543 hx hby at_234 (x := 1) rfl (o_goto X1543 hx hby at_235 (pc := 235) (pc' := 239) (by decide) (by decide) (o_icmpN X1543 hx hby at_239 (by decide +kernel) ?_)))))))))))))))))))))))))))))))))))))))
              refine o_iconst X1543 hx hby at_242 (x := 1) rfl (o_goto X1543 hx hby at_243 (pc := 243) (pc' := 247) (by decide) (by decide) ?_)
              exact retN X1543 hx (t := .boolean) hret (by simp) (hb hby at_247) hr
            · exact ⟨rfl, N1543⟩
      obtain ⟨_, T1547, L1547, X1547, hQ1547, st1547⟩ := own_cS X965 hx hZ hown (ww0 hw) (ww1 hw) (ww2 hw) (ww3 hw) (rm1_3 l Z a0 hw i967 i963 h0 n0 O0) e965 pd_0 hml (hb hby at_24) (Ls := #[vI p1, vI p2, vI p3, vI p4, vI p5, vJ q6, .second, vI 3, vI i951, vI i963, .unset, .unset, .unset, .unset, .unset, .unset, .unset]) (W := 0) (argsL := [(.int i967), (.int i963)]) (rest := [])
      rcases hQ1547 with ⟨u1548, rfl, u1550, u1551⟩ | ⟨u1552, rfl, u1554, u1555⟩
      · skip
        have N1547 := Fr.app N965 u1550
        have pre1556 : ∀ t, Steps p.tables e below (T1547.setTop (mkF m 27 #[vI p1, vI p2, vI p3, vI p4, vI p5, vJ q6, .second, vI 3, vI i951, vI i963, .unset, .unset, .unset, .unset, .unset, .unset, .unset] [(.int i963)])) t → Steps p.tables e below EN t := by
          intro t kt
          refine pre968 t ?_
          refine st1547 _ ?_
          exact kt
        exact join978 i963 (own_md3 hp964) T1547 ⟨_, N1547, X1547⟩ u1551 pre1556
      · skip
        have N1547 := Fr.app N965 u1554
        have pre1557 : ∀ t, Steps p.tables e below (T1547.setTop (mkF m 27 #[vI p1, vI p2, vI p3, vI p4, vI p5, vJ q6, .second, vI 3, vI i951, vI i963, .unset, .unset, .unset, .unset, .unset, .unset, .unset] [(.int i967)])) t → Steps p.tables e below EN t := by
          intro t kt
          refine pre968 t ?_
          refine st1547 _ ?_
          exact kt
        exact join978 i967 ⟨own_and3' hi967, u1552⟩ T1547 ⟨_, N1547, X1547⟩ u1555 pre1557
    obtain ⟨_, T1558, L1558, X1558, hQ1558, st1558⟩ := own_cS X0 hx hZ hown (ww0 hw) (ww1 hw) (ww2 hw) (ww3 hw) (rm1_65 l Z a0 hw i951 h0 n0 O0) e0 pd_0 hml (hb hby at_14) (Ls := #[vI p1, vI p2, vI p3, vI p4, vI p5, vJ q6, .second, vI 3, vI i951, .unset, .unset, .unset, .unset, .unset, .unset, .unset, .unset]) (W := 0) (argsL := [(.int i951), (.int 3)]) (rest := [])
    rcases hQ1558 with ⟨u1559, rfl, u1561, u1562⟩ | ⟨u1563, rfl, u1565, u1566⟩
    · skip
      have N1558 := Fr.app N0 u1561
      have pre1567 : ∀ t, Steps p.tables e below (T1558.setTop (mkF m 17 #[vI p1, vI p2, vI p3, vI p4, vI p5, vJ q6, .second, vI 3, vI i951, .unset, .unset, .unset, .unset, .unset, .unset, .unset, .unset] [(.int 3)])) t → Steps p.tables e below EN t := by
        intro t kt
        refine pre952 t ?_
        refine st1558 _ ?_
        exact kt
      exact join962 (3 : Int32) (own_kd3_n hi951 u1559) T1558 ⟨_, N1558, X1558⟩ u1562 pre1567
    · skip
      have N1558 := Fr.app N0 u1565
      have pre1568 : ∀ t, Steps p.tables e below (T1558.setTop (mkF m 17 #[vI p1, vI p2, vI p3, vI p4, vI p5, vJ q6, .second, vI 3, vI i951, .unset, .unset, .unset, .unset, .unset, .unset, .unset, .unset] [(.int i951)])) t → Steps p.tables e below EN t := by
        intro t kt
        refine pre952 t ?_
        refine st1558 _ ?_
        exact kt
      exact join962 i951 (own_kd3_k hi951 u1563) T1558 ⟨_, N1558, X1558⟩ u1566 pre1568
set_option maxRecDepth 65536 in
set_option maxHeartbeats 40000000 in
theorem comes_1 {Post : Tables → Env → Array Value → State → Outcome → State → Prop} (hpost : ∀ tb e args s v u, (limb_1_1.after args s (.returned v) u = true ∧ limb_1_2.after args s (.returned v) u = true ∧ True) → FrameEnd s (.returned v) u (Jvm.fieldLocs frame_1_writes args s ++ Jvm.arrayLocs frame_1_arrays args s ++ Jvm.staticLocs frame_1_statics s) 24 192 → Post tb e args s (.returned v) u) :
    ArmFor flags0 classFile x code maxLocals ret World_1 tables_1 room_1 Calls_1 rest_1 Pre_1 Post := by
  intro l hfl _ _ p e ha hc hk s m args below hf hA hF happ hP
  obtain ⟨hcalls, hrest, hpre⟩ := hP
  obtain ⟨-, -, -, hnamed, -, -, -, hat⟩ := (Spec.applies_iff hf).mp happ
  obtain ⟨hg, hn⟩ := and_e (Cond.before_iff.mp (show (Jvm.Cond.and given_1 narrow_1).before args s = true from hpre))
  obtain ⟨h1, hr0⟩ := and_e hg
  obtain ⟨ha0, hr1⟩ := and_e hr0
  obtain ⟨ha1, hr2⟩ := and_e hr1
  obtain ⟨ha2, hr3⟩ := and_e hr2
  obtain ⟨ha3, hr4⟩ := and_e hr3
  obtain ⟨ha4, hr5⟩ := and_e hr4
  obtain ⟨w0, w1, w2, w3, w4, w5, rfl⟩ : ∃ w0 w1 w2 w3 w4 w5 : Value, args = #[w0, w1, w2, w3, w4, w5] := by
    have hs : args.size = 6 := by simpa [Cond.value, given_1] using h1
    obtain ⟨L⟩ := args
    match L, hs with
    | [w0, w1, w2, w3, w4, w5], _ => exact ⟨w0, w1, w2, w3, w4, w5, rfl⟩
  have hwt := fun d (hd : d ∈ tables_1) => atoms_spec (ws := Jvm.Cond.code x code maxLocals ret :: tables_1) hat d (List.mem_cons_of_mem _ hd)
  obtain ⟨hsets, hown0⟩ := atoms_of _ (rest_1_c_eq ▸ (show rest_1_c.before _ s = true from hrest))
  have hw : ∀ d ∈ own_ws, d.before _ s = true := fun d hd => (List.mem_append.mp hd).elim (hwt d) (hsets d)
  have hfit : Fit s := fun {y c} hc i hi => by
    obtain ⟨ha, rfl⟩ := Array.getElem?_eq_some_iff.mp hc
    have q := List.all_eq_true.mp ((Array.all_eq_true_iff_forall_mem.mp hF) _ (Array.getElem_mem ha)) i (List.mem_range.mpr hi)
    simpa [Array.getElem?_eq_getElem hi] using q
  obtain ⟨i0, ei0⟩ := is_v ha0
  obtain rfl : w0 = (.int i0) := Option.some.inj ei0
  obtain ⟨i1, ei1⟩ := is_v ha1
  obtain rfl : w1 = (.int i1) := Option.some.inj ei1
  obtain ⟨i2, ei2⟩ := is_v ha2
  obtain rfl : w2 = (.int i2) := Option.some.inj ei2
  obtain ⟨i3, ei3⟩ := is_v ha3
  obtain rfl : w3 = (.int i3) := Option.some.inj ei3
  obtain ⟨i4, ei4⟩ := is_v ha4
  obtain rfl : w4 = (.int i4) := Option.some.inj ei4
  obtain ⟨i5, ei5⟩ := isL_v hr5
  obtain rfl : w5 = (.long i5) := Option.some.inj ei5
  obtain ⟨c1, c2⟩ := and_e hn
  obtain ⟨c3, c4⟩ := and_e c2
  obtain ⟨c5, c6⟩ := and_e c4
  obtain ⟨c7, c8⟩ := and_e c6
  obtain ⟨c9, c10⟩ := and_e c8
  obtain ⟨c11, c12⟩ := and_e c10
  obtain ⟨c13, c14⟩ := and_e c12
  have hs3 := Cond.before_iff.mp (hsets _ (List.mem_of_getElem? (i := 3) rfl))
  have hs4 := Cond.before_iff.mp (hsets _ (List.mem_of_getElem? (i := 4) rfl))
  have hs5 := Cond.before_iff.mp (hsets _ (List.mem_of_getElem? (i := 5) rfl))
  have hs6 := Cond.before_iff.mp (hsets _ (List.mem_of_getElem? (i := 6) rfl))
  have hs7 := Cond.before_iff.mp (hsets _ (List.mem_of_getElem? (i := 7) rfl))
  have hs8 := Cond.before_iff.mp (hsets _ (List.mem_of_getElem? (i := 8) rfl))
  obtain ⟨o1, ev_o1⟩ := exa_v c1
  have S_o1 : Sta s s.heap "com/example/railspan/railspan/game/Card" "BLUE" "Lcom/example/railspan/railspan/game/Card;" (.ref o1) := Sta.start ev_o1 (Or.inr ⟨(ww120 hw), (ww121 hw)⟩)
  have E_o1 : Exa s s.heap o1 "com/example/railspan/railspan/game/Card" := Exa.start ev_o1 c1
  obtain ⟨o2, ev_o2⟩ := exa_v c3
  have S_o2 : Sta s s.heap "com/example/railspan/railspan/game/Card" "RED" "Lcom/example/railspan/railspan/game/Card;" (.ref o2) := Sta.start ev_o2 (Or.inr ⟨(ww120 hw), (ww160 hw)⟩)
  have E_o2 : Exa s s.heap o2 "com/example/railspan/railspan/game/Card" := Exa.start ev_o2 c3
  have F15 : Fld s s.heap o1 "java/lang/Enum" "ordinal" "I" (.int 0) := Fld.start ((fld_at ev_o1).symm.trans (own_eqI c5))
  have F16 : Fld s s.heap o2 "java/lang/Enum" "ordinal" "I" (.int 6) := Fld.start ((fld_at ev_o2).symm.trans (own_eqI c7))
  obtain ⟨o3, ev_o3⟩ := exa_v c9
  have S_o3 : Sta s s.heap "com/example/railspan/railspan/game/Card" "LOCOMOTIVE" "Lcom/example/railspan/railspan/game/Card;" (.ref o3) := Sta.start ev_o3 (Or.inr ⟨(ww120 hw), (ww212 hw)⟩)
  have E_o3 : Exa s s.heap o3 "com/example/railspan/railspan/game/Card" := Exa.start ev_o3 c9
  have F17 : Fld s s.heap o3 "java/lang/Enum" "ordinal" "I" (.int 3) := Fld.start ((fld_at ev_o3).symm.trans (own_eqI c11))
  obtain ⟨o4, ev_o4⟩ := exa_v c13
  have S_o4 : Sta s s.heap "com/example/railspan/railspan/game/Card" "YELLOW" "Lcom/example/railspan/railspan/game/Card;" (.ref o4) := Sta.start ev_o4 (Or.inr ⟨(ww120 hw), (ww214 hw)⟩)
  have E_o4 : Exa s s.heap o4 "com/example/railspan/railspan/game/Card" := Exa.start ev_o4 c13
  have F18 : Fld s s.heap o4 "java/lang/Enum" "ordinal" "I" (.int 8) := Fld.start ((fld_at ev_o4).symm.trans (own_eqI c14))
  obtain ⟨o5, ev_o5⟩ := arr_v hs3
  have S_o5 : Sta s s.heap "java/util/ArrayList" "EMPTY_ELEMENTDATA" "[Ljava/lang/Object;" (.ref o5) := Sta.start ev_o5 (Or.inl (ww216 hw))
  obtain ⟨cl_o5, Ar_o5⟩ := Arr.start ev_o5 hs3
  have E_o5 : Exa s s.heap o5 "[Ljava/lang/Object;" := Exa.start ev_o5 hs4
  have ev19 := own_eqI hs5
  obtain ⟨o6, ev_o6⟩ := arr_v hs6
  have S_o6 : Sta s s.heap "java/util/ArrayList" "DEFAULTCAPACITY_EMPTY_ELEMENTDATA" "[Ljava/lang/Object;" (.ref o6) := Sta.start ev_o6 (Or.inr ⟨(ww6 hw), (ww217 hw)⟩)
  obtain ⟨cl_o6, Ar_o6⟩ := Arr.start ev_o6 hs6
  have E_o6 : Exa s s.heap o6 "[Ljava/lang/Object;" := Exa.start ev_o6 hs7
  have ev20 := own_eqI hs8
  obtain ⟨sm_o5, sz_o5⟩ := own_len ev_o5 Ar_o5 ev19
  have V_o5 : Arv s s.heap o5 cl_o5.cls (.object "java/lang/Object") (0 : Int32) [] .null := Arv.start hfit Ar_o5 sm_o5 sz_o5 (by decide +kernel) rfl trivial
  obtain ⟨sm_o6, sz_o6⟩ := own_len ev_o6 Ar_o6 ev20
  have V_o6 : Arv s s.heap o6 cl_o6.cls (.object "java/lang/Object") (0 : Int32) [] .null := Arv.start hfit Ar_o6 sm_o6 sz_o6 (by decide +kernel) rfl trivial
  obtain ⟨n, o, h1, h2, h3, _, L, rfl, ⟨rfl, N⟩, hq⟩ := rm0 l s _ hw tables_1 i0 i1 i2 i3 i4 i5 o6 o1 o3 o2 o4 cl_o6.cls s.heap s.heap.size (Old.start s) S_o6 S_o1 E_o1 F15 S_o3 E_o3 F17 S_o2 E_o2 F16 S_o4 E_o4 F18 V_o6 p e ha hc hk s m _ below hf ((Spec.applies_iff_loose hf).mp happ).1 ⟨rfl, State.Warmed39.refl s, rfl⟩ trivial
  refine ⟨n, _, h1, h2, h3, hpost _ _ _ _ _ _ ⟨Cond.after_iff.mpr rfl, Cond.after_iff.mpr (eq_i res_at (Term.int_eval (1)) rfl), trivial⟩ ⟨hq.1, hq.2.1, (hq.2.2.sift fun y hy => Or.inr (N y hy)).mono (by decide) (by decide)⟩⟩
theorem main_1_1 : Claimed_1_1 := comes_1 fun _ _ _ _ _ _ h hF => ⟨h.1, hF⟩
theorem main_1_2 : Claimed_1_2 := comes_1 fun _ _ _ _ _ _ h hF => ⟨h.2.1, hF⟩
end Jvm.Pilot.@@N@@
namespace Jvm.Pilot.@@N@@
open Jvm Jvm.ClassFile Sem Op Lib Jvm.Free Jvm.Stand Jvm.Pilot.@@N@@.Jvm.D
/-! MADE BY PROGRAM (witnessworld.py) out of the Statement's table words and the real class files: 28 classes; the members and pool entries that the words name. The judged class is class 1, her method 2. -/
namespace start1
open Jvm.ClassFile
def u (s : String) : CpInfo := .utf8 (stringToUtf16 s)
/-- a pool by its gaps: so many unusable entries, then the entry; so many at the end -/
def gap : Nat → List CpInfo → List CpInfo
  | 0, r => r
  | n + 1, r => .unusable :: gap n r
def poolList (es : List (Nat × CpInfo)) (last : Nat) : List CpInfo := es.foldr (fun e r => gap e.1 (e.2 :: r)) (gap last [])
def pool (es : List (Nat × CpInfo)) (last : Nat) : Array CpInfo := ⟨poolList es last⟩
def fileOf (pool : Array CpInfo) (this : Nat) (attrs : Array Attribute := #[]) (ms : Array MethodInfo := #[]) (fl : Nat := 33) (sup : Nat := 0) (ifs : Array Nat := #[]) (fds : Array FieldInfo := #[]) : ClassFile where
  minorVersion := 0
  majorVersion := 65
  constantPool := pool
  accessFlags := fl
  thisClass := this
  superClass := sup
  interfaces := ifs
  fields := fds
  methods := ms
  attributes := attrs
def plain (name : String) (sup : Option ClassId) : Class where
  name := name
  kind := .ordinary
  loader := none
  accessFlags := 33
  super := sup
  interfaces := #[]
  cf := none
  fields := #[]
  methods := #[]
  instanceTypes := #[]
  staticTypes := #[]
  resolved := #[]
  callSites := []
  init := .initialized
  statics := none
  mirror := none

def pool0 : Array CpInfo := pool [(5, u "<init>"), (0, u "()V"), (1, .class_ 10), (1, u "java/lang/Object")] 113

def k0c0 : Code := { maxStack := 0, maxLocals := 1, code := object_method_1_code, exceptionTable := #[], attributes := #[] }
def k0m0 : Method := { name := "<init>", desc := "()V", sig := { parameters := [], returnType := none }, accessFlags := 1, code := some k0c0 }
/-- java/lang/Object -/
def k0 : Class := { plain "java/lang/Object" none with
  accessFlags := 33
  interfaces := #[]
  cf := some (fileOf pool0 8 #[] #[{ accessFlags := 1, nameIndex := 5, descriptorIndex := 6, attributes := #[] }] 33 0 #[] #[])
  fields := #[]
  methods := #[k0m0]
  instanceTypes := #[]
  staticTypes := #[]
  resolved := Array.replicate 124 none
  statics := none }

def pool1 : Array CpInfo := pool [(2, .class_ 4), (0, .nameAndType 5 6), (0, u "java/lang/Object"), (0, u "<init>"), (0, u "()V"), (0, .fieldref 8 9), (0, .class_ 10), (0, .nameAndType 11 12), (0, u "com/example/railspan/railspan/game/Card"), (0, u "BLUE"), (0, u "Lcom/example/railspan/railspan/game/Card;"), (0, .fieldref 8 14), (0, .nameAndType 15 12), (0, u "LOCOMOTIVE"), (0, .fieldref 8 17), (0, .nameAndType 18 12), (0, u "RED"), (0, .fieldref 8 20), (0, .nameAndType 21 12), (0, u "YELLOW"), (0, .methodref 23 24), (0, .class_ 25), (0, .nameAndType 26 27), (0, u "java/lang/Math"), (0, u "min"), (0, u "(II)I"), (0, .class_ 29), (0, u "java/util/ArrayList"), (0, .methodref 28 3), (0, .methodref 32 33), (0, .class_ 34), (0, .nameAndType 35 36), (0, u "com/example/railspan/railspan/game/CardPilesCanDrawPinLaw"), (0, u "card"), (0, u "(I)Lcom/example/railspan/railspan/game/Card;"), (0, .methodref 28 38), (0, .nameAndType 39 40), (0, u "add"), (0, u "(Ljava/lang/Object;)Z"), (0, .class_ 42), (0, u "com/example/railspan/railspan/game/CardPiles"), (0, .class_ 44), (0, u "com/example/railspan/railspan/game/Generator"), (0, .methodref 43 46), (0, .nameAndType 5 47), (0, u "(J)V"), (0, .methodref 41 49), (0, .nameAndType 5 50), (0, u "(Ljava/util/List;Lcom/example/railspan/railspan/game/Generator;)V"), (0, .methodref 41 52), (0, .nameAndType 53 54), (0, u "draw"), (0, u "()I"), (0, .methodref 41 56), (0, .nameAndType 57 58), (0, u "discard"), (0, u "(Lcom/example/railspan/railspan/game/Card;I)V"), (0, .methodref 41 60), (0, .nameAndType 61 62), (0, u "canDraw"), (0, u "()Z"), (3, u "law"), (0, u "(IIIIIJ)Z")] 2

def k1m0 : Method := { name := "<init>", desc := "()V", sig := { parameters := [], returnType := none }, accessFlags := 1, code := none }
def k1c1 : Code := { maxStack := 2, maxLocals := 2, code := method_2_code, exceptionTable := #[], attributes := #[] }
def k1m1 : Method := { name := "card", desc := "(I)Lcom/example/railspan/railspan/game/Card;", sig := { parameters := [.int], returnType := some (.object "com/example/railspan/railspan/game/Card") }, accessFlags := 10, code := some k1c1 }
def k1c2 : Code := { maxStack := 7, maxLocals := 17, code := code, exceptionTable := #[], attributes := #[] }
def k1m2 : Method := { name := "law", desc := "(IIIIIJ)Z", sig := { parameters := [.int, .int, .int, .int, .int, .long], returnType := some .boolean }, accessFlags := 9, code := some k1c2 }
/-- com/example/railspan/railspan/game/CardPilesCanDrawPinLaw -/
def k1 : Class := { plain "com/example/railspan/railspan/game/CardPilesCanDrawPinLaw" (some 0) with
  accessFlags := 49
  interfaces := #[]
  cf := some (fileOf pool1 32 #[] #[{ accessFlags := 1, nameIndex := 5, descriptorIndex := 6, attributes := #[] }, { accessFlags := 10, nameIndex := 35, descriptorIndex := 36, attributes := #[] }, { accessFlags := 9, nameIndex := 66, descriptorIndex := 67, attributes := #[] }] 49 2 #[] #[])
  fields := #[]
  methods := #[k1m0, k1m1, k1m2]
  instanceTypes := #[]
  staticTypes := #[]
  resolved := Array.replicate 70 none
  statics := none }

def pool2 : Array CpInfo := pool [(1, .class_ 2), (0, u "java/lang/Math"), (1, .class_ 6), (1, u "java/lang/Object"), (0, u "<init>"), (0, u "()V"), (89, .class_ 100), (1, u "java/lang/Math$RandomNumberGeneratorHolder"), (71, u "negativeZeroFloatBits"), (0, u "J"), (2, u "negativeZeroDoubleBits"), (21, u "max"), (2, u "min"), (43, u "$assertionsDisabled"), (0, u "Z"), (88, u "(II)I"), (2, u "twoToTheDoubleScaleDown"), (0, u "D"), (4, u "twoToTheDoubleScaleUp"), (9, u "E"), (3, u "PI"), (2, u "TAU"), (2, u "DEGREES_TO_RADIANS"), (0, u "RADIANS_TO_DEGREES")] 94

def k2m0 : Method := { name := "<init>", desc := "()V", sig := { parameters := [], returnType := none }, accessFlags := 2, code := none }
def k2c1 : Code := { maxStack := 2, maxLocals := 2, code := jdk_29_method_65_code, exceptionTable := #[], attributes := #[] }
def k2m1 : Method := { name := "max", desc := "(II)I", sig := { parameters := [.int, .int], returnType := some .int }, accessFlags := 9, code := some k2c1 }
def k2c2 : Code := { maxStack := 2, maxLocals := 2, code := jdk_29_method_69_code, exceptionTable := #[], attributes := #[] }
def k2m2 : Method := { name := "min", desc := "(II)I", sig := { parameters := [.int, .int], returnType := some .int }, accessFlags := 9, code := some k2c2 }
/-- java/lang/Math -/
def k2 : Class := { plain "java/lang/Math" (some 0) with
  accessFlags := 49
  interfaces := #[]
  cf := some (fileOf pool2 1 #[.nestMembers #[98]] #[{ accessFlags := 2, nameIndex := 7, descriptorIndex := 8, attributes := #[] }, { accessFlags := 9, nameIndex := 198, descriptorIndex := 335, attributes := #[] }, { accessFlags := 9, nameIndex := 201, descriptorIndex := 335, attributes := #[] }] 49 4 #[] #[{ accessFlags := 25, nameIndex := 354, descriptorIndex := 339, attributes := #[] }, { accessFlags := 25, nameIndex := 358, descriptorIndex := 339, attributes := #[] }, { accessFlags := 25, nameIndex := 361, descriptorIndex := 339, attributes := #[] }, { accessFlags := 26, nameIndex := 364, descriptorIndex := 339, attributes := #[] }, { accessFlags := 26, nameIndex := 365, descriptorIndex := 339, attributes := #[] }, { accessFlags := 26, nameIndex := 172, descriptorIndex := 173, attributes := #[] }, { accessFlags := 26, nameIndex := 176, descriptorIndex := 173, attributes := #[] }, { accessFlags := 8, nameIndex := 344, descriptorIndex := 339, attributes := #[] }, { accessFlags := 8, nameIndex := 338, descriptorIndex := 339, attributes := #[] }, { accessFlags := 4120, nameIndex := 245, descriptorIndex := 246, attributes := #[] }])
  fields := #[{ name := "E", type := .double, accessFlags := 25, slot := 0, constantValue := 0 }, { name := "PI", type := .double, accessFlags := 25, slot := 1, constantValue := 0 }, { name := "TAU", type := .double, accessFlags := 25, slot := 2, constantValue := 0 }, { name := "DEGREES_TO_RADIANS", type := .double, accessFlags := 26, slot := 3, constantValue := 0 }, { name := "RADIANS_TO_DEGREES", type := .double, accessFlags := 26, slot := 4, constantValue := 0 }, { name := "negativeZeroFloatBits", type := .long, accessFlags := 26, slot := 5, constantValue := 0 }, { name := "negativeZeroDoubleBits", type := .long, accessFlags := 26, slot := 6, constantValue := 0 }, { name := "twoToTheDoubleScaleUp", type := .double, accessFlags := 8, slot := 7, constantValue := 0 }, { name := "twoToTheDoubleScaleDown", type := .double, accessFlags := 8, slot := 8, constantValue := 0 }, { name := "$assertionsDisabled", type := .boolean, accessFlags := 4120, slot := 9, constantValue := 0 }]
  methods := #[k2m0, k2m1, k2m2]
  instanceTypes := #[]
  staticTypes := #[.double, .double, .double, .double, .double, .long, .long, .double, .double, .boolean]
  resolved := Array.replicate 460 none
  statics := none }

def pool3 : Array CpInfo := pool [(8, .class_ 10), (1, u "java/lang/Iterable"), (24, .class_ 36), (0, u "java/lang/Object")] 25

/-- java/lang/Iterable -/
def k3 : Class := { plain "java/lang/Iterable" (some 0) with
  accessFlags := 1537
  interfaces := #[]
  cf := some (fileOf pool3 8 #[] #[] 1537 35 #[] #[])
  fields := #[]
  methods := #[]
  instanceTypes := #[]
  staticTypes := #[]
  resolved := Array.replicate 62 none
  statics := none }

def pool4 : Array CpInfo := pool [(10, .class_ 12), (1, u "java/util/Collection"), (47, .class_ 61), (0, u "java/lang/Object"), (0, .class_ 63), (0, u "java/lang/Iterable")] 51

/-- java/util/Collection -/
def k4 : Class := { plain "java/util/Collection" (some 0) with
  accessFlags := 1537
  interfaces := #[3]
  cf := some (fileOf pool4 10 #[] #[] 1537 60 #[62] #[])
  fields := #[]
  methods := #[]
  instanceTypes := #[]
  staticTypes := #[]
  resolved := Array.replicate 115 none
  statics := none }

def pool5 : Array CpInfo := pool [(1, .methodref 2 3), (0, .class_ 4), (0, .nameAndType 5 6), (0, u "java/lang/Object"), (0, u "<init>"), (0, u "()V"), (1, .class_ 10), (1, u "java/util/AbstractCollection"), (66, .class_ 78), (0, u "java/util/Collection")] 81

def k5c0 : Code := { maxStack := 1, maxLocals := 1, code := jdk_22_method_1_code, exceptionTable := #[], attributes := #[] }
def k5m0 : Method := { name := "<init>", desc := "()V", sig := { parameters := [], returnType := none }, accessFlags := 4, code := some k5c0 }
/-- java/util/AbstractCollection -/
def k5 : Class := { plain "java/util/AbstractCollection" (some 0) with
  accessFlags := 1057
  interfaces := #[4]
  cf := some (fileOf pool5 8 #[] #[{ accessFlags := 4, nameIndex := 5, descriptorIndex := 6, attributes := #[] }] 1057 2 #[77] #[])
  fields := #[]
  methods := #[k5m0]
  instanceTypes := #[]
  staticTypes := #[]
  resolved := Array.replicate 160 none
  statics := none }

def pool6 : Array CpInfo := pool [(8, .class_ 10), (1, u "java/util/SequencedCollection"), (15, .class_ 27), (0, u "java/lang/Object"), (0, .class_ 29), (0, u "java/util/Collection")] 27

/-- java/util/SequencedCollection -/
def k6 : Class := { plain "java/util/SequencedCollection" (some 0) with
  accessFlags := 1537
  interfaces := #[4]
  cf := some (fileOf pool6 8 #[] #[] 1537 26 #[28] #[])
  fields := #[]
  methods := #[]
  instanceTypes := #[]
  staticTypes := #[]
  resolved := Array.replicate 57 none
  statics := none }

def pool7 : Array CpInfo := pool [(8, .class_ 10), (1, u "java/util/List"), (68, u "size"), (0, u "()I"), (22, .class_ 104), (0, u "java/lang/Object"), (15, .class_ 121), (0, u "java/util/SequencedCollection"), (1, u "iterator"), (0, u "()Ljava/util/Iterator;")] 126

def k7m0 : Method := { name := "size", desc := "()I", sig := { parameters := [], returnType := some .int }, accessFlags := 1025, code := none }
def k7m1 : Method := { name := "iterator", desc := "()Ljava/util/Iterator;", sig := { parameters := [], returnType := some (.object "java/util/Iterator") }, accessFlags := 1025, code := none }
/-- java/util/List -/
def k7 : Class := { plain "java/util/List" (some 0) with
  accessFlags := 1537
  interfaces := #[6]
  cf := some (fileOf pool7 8 #[] #[{ accessFlags := 1025, nameIndex := 79, descriptorIndex := 80, attributes := #[] }, { accessFlags := 1025, nameIndex := 123, descriptorIndex := 124, attributes := #[] }] 1537 103 #[120] #[])
  fields := #[]
  methods := #[k7m0, k7m1]
  instanceTypes := #[]
  staticTypes := #[]
  resolved := Array.replicate 251 none
  statics := none }

def pool8 : Array CpInfo := pool [(1, .methodref 2 3), (0, .class_ 4), (0, .nameAndType 5 6), (0, u "java/util/AbstractCollection"), (0, u "<init>"), (0, u "()V"), (0, .fieldref 8 9), (0, .class_ 10), (0, .nameAndType 11 12), (0, u "java/util/AbstractList"), (0, u "modCount"), (0, u "I"), (64, .class_ 78), (0, u "java/util/AbstractList$Itr"), (3, .class_ 83), (0, u "java/util/AbstractList$ListItr"), (9, .class_ 94), (0, u "java/util/AbstractList$RandomAccessSubList"), (3, .class_ 99), (0, u "java/util/AbstractList$SubList"), (33, .class_ 134), (0, u "java/util/List"), (73, .class_ 209), (0, u "java/util/AbstractList$SubList$1"), (0, .class_ 211), (0, u "java/util/AbstractList$RandomAccessSpliterator")] 6

def k8c0 : Code := { maxStack := 2, maxLocals := 1, code := jdk_39_method_1_code, exceptionTable := #[], attributes := #[] }
def k8m0 : Method := { name := "<init>", desc := "()V", sig := { parameters := [], returnType := none }, accessFlags := 4, code := some k8c0 }
/-- java/util/AbstractList -/
def k8 : Class := { plain "java/util/AbstractList" (some 5) with
  accessFlags := 1057
  interfaces := #[7]
  cf := some (fileOf pool8 8 #[.nestMembers #[93, 98, 208, 210, 82, 77]] #[{ accessFlags := 4, nameIndex := 5, descriptorIndex := 6, attributes := #[] }] 1057 2 #[133] #[{ accessFlags := 132, nameIndex := 11, descriptorIndex := 12, attributes := #[] }])
  fields := #[{ name := "modCount", type := .int, accessFlags := 132, slot := 0, constantValue := 0 }]
  methods := #[k8m0]
  instanceTypes := #[.int]
  staticTypes := #[]
  resolved := Array.replicate 218 none
  statics := none }

def pool9 : Array CpInfo := pool [(1, .class_ 2), (0, u "java/util/RandomAccess"), (0, .class_ 4), (0, u "java/lang/Object")] 2

/-- java/util/RandomAccess -/
def k9 : Class := { plain "java/util/RandomAccess" (some 0) with
  accessFlags := 1537
  interfaces := #[]
  cf := some (fileOf pool9 1 #[] #[] 1537 3 #[] #[])
  fields := #[]
  methods := #[]
  instanceTypes := #[]
  staticTypes := #[]
  resolved := Array.replicate 7 none
  statics := none }

def pool10 : Array CpInfo := pool [(1, .class_ 2), (0, u "java/lang/Cloneable"), (0, .class_ 4), (0, u "java/lang/Object")] 2

/-- java/lang/Cloneable -/
def k10 : Class := { plain "java/lang/Cloneable" (some 0) with
  accessFlags := 1537
  interfaces := #[]
  cf := some (fileOf pool10 1 #[] #[] 1537 3 #[] #[])
  fields := #[]
  methods := #[]
  instanceTypes := #[]
  staticTypes := #[]
  resolved := Array.replicate 7 none
  statics := none }

def pool11 : Array CpInfo := pool [(1, .class_ 2), (0, u "java/io/Serializable"), (0, .class_ 4), (0, u "java/lang/Object")] 2

/-- java/io/Serializable -/
def k11 : Class := { plain "java/io/Serializable" (some 0) with
  accessFlags := 1537
  interfaces := #[]
  cf := some (fileOf pool11 1 #[] #[] 1537 3 #[] #[])
  fields := #[]
  methods := #[]
  instanceTypes := #[]
  staticTypes := #[]
  resolved := Array.replicate 7 none
  statics := none }

def pool12 : Array CpInfo := pool [(1, .methodref 2 3), (0, .class_ 4), (0, .nameAndType 5 6), (0, u "java/util/AbstractList"), (0, u "<init>"), (0, u "()V"), (0, .class_ 8), (0, u "java/lang/Object"), (0, .fieldref 10 11), (0, .class_ 12), (0, .nameAndType 13 14), (0, u "java/util/ArrayList"), (0, u "elementData"), (0, u "[Ljava/lang/Object;"), (2, u "EMPTY_ELEMENTDATA"), (21, .fieldref 10 40), (0, .nameAndType 41 14), (0, u "DEFAULTCAPACITY_EMPTY_ELEMENTDATA"), (5, u "()[Ljava/lang/Object;"), (0, .fieldref 10 49), (0, .nameAndType 50 51), (0, u "size"), (0, u "I"), (11, .fieldref 10 64), (0, .nameAndType 65 51), (0, u "modCount"), (3, .methodref 10 70), (0, .nameAndType 71 72), (0, u "grow"), (0, u "(I)[Ljava/lang/Object;"), (6, .methodref 80 81), (0, .class_ 82), (0, .nameAndType 83 84), (0, u "java/lang/Math"), (0, u "max"), (0, u "(II)I"), (11, u "(Ljava/lang/Object;)Z"), (32, .methodref 10 130), (0, .nameAndType 71 47), (0, .methodref 10 132), (0, .nameAndType 133 134), (0, u "add"), (0, u "(Ljava/lang/Object;[Ljava/lang/Object;I)V"), (13, .class_ 149), (0, u "java/util/List"), (16, u "iterator"), (0, u "()Ljava/util/Iterator;"), (18, u "()I"), (75, .class_ 263), (0, u "java/util/ArrayList$ListItr"), (3, .class_ 268), (0, u "java/util/ArrayList$Itr"), (0, .methodref 267 270), (0, .nameAndType 5 271), (0, u "(Ljava/util/ArrayList;)V"), (4, .class_ 277), (0, u "java/util/ArrayList$SubList"), (12, .class_ 291), (0, u "java/util/ArrayList$ArrayListSpliterator"), (37, .class_ 330), (0, u "java/util/RandomAccess"), (0, .class_ 332), (0, u "java/lang/Cloneable"), (0, .class_ 334), (0, u "java/io/Serializable"), (0, u "serialVersionUID"), (0, u "J"), (3, u "DEFAULT_CAPACITY"), (159, .class_ 501), (0, u "java/util/ArrayList$SubList$2"), (0, .class_ 503), (0, u "java/util/ArrayList$SubList$1")] 5

def k12c0 : Code := { maxStack := 2, maxLocals := 1, code := jdk_38_method_2_code, exceptionTable := #[], attributes := #[] }
def k12m0 : Method := { name := "<init>", desc := "()V", sig := { parameters := [], returnType := none }, accessFlags := 1, code := some k12c0 }
def k12c1 : Code := { maxStack := 4, maxLocals := 4, code := jdk_38_method_6_code, exceptionTable := #[], attributes := #[] }
def k12m1 : Method := { name := "grow", desc := "(I)[Ljava/lang/Object;", sig := { parameters := [.int], returnType := some (.array (.object "java/lang/Object")) }, accessFlags := 2, code := some k12c1 }
def k12c2 : Code := { maxStack := 3, maxLocals := 1, code := jdk_38_method_7_code, exceptionTable := #[], attributes := #[] }
def k12m2 : Method := { name := "grow", desc := "()[Ljava/lang/Object;", sig := { parameters := [], returnType := some (.array (.object "java/lang/Object")) }, accessFlags := 2, code := some k12c2 }
def k12c3 : Code := { maxStack := 1, maxLocals := 1, code := jdk_38_method_8_code, exceptionTable := #[], attributes := #[] }
def k12m3 : Method := { name := "size", desc := "()I", sig := { parameters := [], returnType := some .int }, accessFlags := 1, code := some k12c3 }
def k12c4 : Code := { maxStack := 3, maxLocals := 4, code := jdk_38_method_24_code, exceptionTable := #[], attributes := #[] }
def k12m4 : Method := { name := "add", desc := "(Ljava/lang/Object;[Ljava/lang/Object;I)V", sig := { parameters := [(.object "java/lang/Object"), (.array (.object "java/lang/Object")), .int], returnType := none }, accessFlags := 2, code := some k12c4 }
def k12c5 : Code := { maxStack := 4, maxLocals := 2, code := jdk_38_method_25_code, exceptionTable := #[], attributes := #[] }
def k12m5 : Method := { name := "add", desc := "(Ljava/lang/Object;)Z", sig := { parameters := [(.object "java/lang/Object")], returnType := some .boolean }, accessFlags := 1, code := some k12c5 }
def k12c6 : Code := { maxStack := 3, maxLocals := 1, code := jdk_38_method_55_code, exceptionTable := #[], attributes := #[] }
def k12m6 : Method := { name := "iterator", desc := "()Ljava/util/Iterator;", sig := { parameters := [], returnType := some (.object "java/util/Iterator") }, accessFlags := 1, code := some k12c6 }
/-- java/util/ArrayList -/
def k12 : Class := { plain "java/util/ArrayList" (some 8) with
  accessFlags := 33
  interfaces := #[7, 9, 10, 11]
  cf := some (fileOf pool12 10 #[.nestMembers #[290, 276, 500, 502, 262, 267]] #[{ accessFlags := 1, nameIndex := 5, descriptorIndex := 6, attributes := #[] }, { accessFlags := 2, nameIndex := 71, descriptorIndex := 72, attributes := #[] }, { accessFlags := 2, nameIndex := 71, descriptorIndex := 47, attributes := #[] }, { accessFlags := 1, nameIndex := 50, descriptorIndex := 186, attributes := #[] }, { accessFlags := 2, nameIndex := 133, descriptorIndex := 134, attributes := #[] }, { accessFlags := 1, nameIndex := 133, descriptorIndex := 96, attributes := #[] }, { accessFlags := 1, nameIndex := 166, descriptorIndex := 167, attributes := #[] }] 33 2 #[148, 329, 331, 333] #[{ accessFlags := 26, nameIndex := 335, descriptorIndex := 336, attributes := #[] }, { accessFlags := 26, nameIndex := 340, descriptorIndex := 51, attributes := #[] }, { accessFlags := 26, nameIndex := 17, descriptorIndex := 14, attributes := #[] }, { accessFlags := 26, nameIndex := 41, descriptorIndex := 14, attributes := #[] }, { accessFlags := 128, nameIndex := 13, descriptorIndex := 14, attributes := #[] }, { accessFlags := 2, nameIndex := 50, descriptorIndex := 51, attributes := #[] }])
  fields := #[{ name := "serialVersionUID", type := .long, accessFlags := 26, slot := 0, constantValue := 0 }, { name := "DEFAULT_CAPACITY", type := .int, accessFlags := 26, slot := 1, constantValue := 0 }, { name := "EMPTY_ELEMENTDATA", type := (.array (.object "java/lang/Object")), accessFlags := 26, slot := 2, constantValue := 0 }, { name := "DEFAULTCAPACITY_EMPTY_ELEMENTDATA", type := (.array (.object "java/lang/Object")), accessFlags := 26, slot := 3, constantValue := 0 }, { name := "elementData", type := (.array (.object "java/lang/Object")), accessFlags := 128, slot := 1, constantValue := 0 }, { name := "size", type := .int, accessFlags := 2, slot := 2, constantValue := 0 }]
  methods := #[k12m0, k12m1, k12m2, k12m3, k12m4, k12m5, k12m6]
  instanceTypes := #[.int, (.array (.object "java/lang/Object")), .int]
  staticTypes := #[.long, .int, (.array (.object "java/lang/Object")), (.array (.object "java/lang/Object"))]
  resolved := Array.replicate 509 none
  statics := some 0 }

def pool13 : Array CpInfo := pool [(1, .methodref 2 3), (0, .class_ 4), (0, .nameAndType 5 6), (0, u "java/lang/Object"), (0, u "<init>"), (0, u "()V"), (0, .class_ 8), (0, u "com/example/railspan/railspan/game/CardPiles"), (0, .fieldref 7 10), (0, .nameAndType 11 12), (0, u "market"), (0, u "[I"), (0, .fieldref 7 14), (0, .nameAndType 15 16), (0, u "generator"), (0, u "Lcom/example/railspan/railspan/game/Generator;"), (0, .interfaceMethodref 18 19), (0, .class_ 20), (0, .nameAndType 21 22), (0, u "java/util/List"), (0, u "size"), (0, u "()I"), (0, .fieldref 7 24), (0, .nameAndType 25 12), (0, u "deck"), (0, .fieldref 7 27), (0, .nameAndType 28 12), (0, u "discard"), (0, .interfaceMethodref 18 30), (0, .nameAndType 31 32), (0, u "iterator"), (0, u "()Ljava/util/Iterator;"), (0, .interfaceMethodref 34 35), (0, .class_ 36), (0, .nameAndType 37 38), (0, u "java/util/Iterator"), (0, u "hasNext"), (0, u "()Z"), (0, .interfaceMethodref 34 40), (0, .nameAndType 41 42), (0, u "next"), (0, u "()Ljava/lang/Object;"), (0, .class_ 44), (0, u "com/example/railspan/railspan/game/Card"), (0, .fieldref 7 46), (0, .nameAndType 47 48), (0, u "deckSize"), (0, u "I"), (0, .methodref 43 50), (0, .nameAndType 51 22), (0, u "ordinal"), (0, .methodref 53 54), (0, .class_ 55), (0, .nameAndType 56 57), (0, u "java/util/Arrays"), (0, u "fill"), (0, u "([II)V"), (0, .fieldref 7 59), (0, .nameAndType 60 48), (0, u "discardSize"), (0, .methodref 62 63), (0, .class_ 64), (0, .nameAndType 65 66), (0, u "java/lang/System"), (0, u "arraycopy"), (0, u "(Ljava/lang/Object;ILjava/lang/Object;II)V"), (0, .methodref 68 69), (0, .class_ 70), (0, .nameAndType 71 57), (0, u "com/example/railspan/railspan/game/Generator"), (0, u "shuffle"), (6, u "draw"), (2, u "CARDS"), (0, u "[Lcom/example/railspan/railspan/game/Card;"), (22, u "LOCOMOTIVE"), (14, u "MARKET_SLOTS"), (2, u "EMPTY"), (1, u "MARKET_LOCOMOTIVES"), (1, u "(Ljava/util/List;Lcom/example/railspan/railspan/game/Generator;)V"), (5, u "canDraw"), (3, u "(Lcom/example/railspan/railspan/game/Card;I)V")] 10

def k13c0 : Code := { maxStack := 6, maxLocals := 5, code := prog_20_method_1_code, exceptionTable := #[], attributes := #[] }
def k13m0 : Method := { name := "<init>", desc := "(Ljava/util/List;Lcom/example/railspan/railspan/game/Generator;)V", sig := { parameters := [(.object "java/util/List"), (.object "com/example/railspan/railspan/game/Generator")], returnType := none }, accessFlags := 0, code := some k13c0 }
def k13c1 : Code := { maxStack := 2, maxLocals := 1, code := prog_20_method_4_code, exceptionTable := #[], attributes := #[] }
def k13m1 : Method := { name := "canDraw", desc := "()Z", sig := { parameters := [], returnType := some .boolean }, accessFlags := 0, code := some k13c1 }
def k13c2 : Code := { maxStack := 5, maxLocals := 1, code := prog_20_method_5_code, exceptionTable := #[], attributes := #[] }
def k13m2 : Method := { name := "draw", desc := "()I", sig := { parameters := [], returnType := some .int }, accessFlags := 0, code := some k13c2 }
def k13c3 : Code := { maxStack := 5, maxLocals := 4, code := prog_20_method_7_code, exceptionTable := #[], attributes := #[] }
def k13m3 : Method := { name := "discard", desc := "(Lcom/example/railspan/railspan/game/Card;I)V", sig := { parameters := [(.object "com/example/railspan/railspan/game/Card"), .int], returnType := none }, accessFlags := 0, code := some k13c3 }
/-- com/example/railspan/railspan/game/CardPiles -/
def k13 : Class := { plain "com/example/railspan/railspan/game/CardPiles" (some 0) with
  accessFlags := 48
  interfaces := #[]
  cf := some (fileOf pool13 7 #[] #[{ accessFlags := 0, nameIndex := 5, descriptorIndex := 127, attributes := #[] }, { accessFlags := 0, nameIndex := 133, descriptorIndex := 38, attributes := #[] }, { accessFlags := 0, nameIndex := 78, descriptorIndex := 22, attributes := #[] }, { accessFlags := 0, nameIndex := 28, descriptorIndex := 137, attributes := #[] }] 48 2 #[] #[{ accessFlags := 24, nameIndex := 120, descriptorIndex := 48, attributes := #[] }, { accessFlags := 24, nameIndex := 123, descriptorIndex := 48, attributes := #[] }, { accessFlags := 26, nameIndex := 125, descriptorIndex := 48, attributes := #[] }, { accessFlags := 26, nameIndex := 105, descriptorIndex := 48, attributes := #[] }, { accessFlags := 26, nameIndex := 81, descriptorIndex := 82, attributes := #[] }, { accessFlags := 18, nameIndex := 15, descriptorIndex := 16, attributes := #[] }, { accessFlags := 18, nameIndex := 25, descriptorIndex := 12, attributes := #[] }, { accessFlags := 2, nameIndex := 47, descriptorIndex := 48, attributes := #[] }, { accessFlags := 18, nameIndex := 28, descriptorIndex := 12, attributes := #[] }, { accessFlags := 2, nameIndex := 60, descriptorIndex := 48, attributes := #[] }, { accessFlags := 18, nameIndex := 11, descriptorIndex := 12, attributes := #[] }])
  fields := #[{ name := "MARKET_SLOTS", type := .int, accessFlags := 24, slot := 0, constantValue := 0 }, { name := "EMPTY", type := .int, accessFlags := 24, slot := 1, constantValue := 0 }, { name := "MARKET_LOCOMOTIVES", type := .int, accessFlags := 26, slot := 2, constantValue := 0 }, { name := "LOCOMOTIVE", type := .int, accessFlags := 26, slot := 3, constantValue := 0 }, { name := "CARDS", type := (.array (.object "com/example/railspan/railspan/game/Card")), accessFlags := 26, slot := 4, constantValue := 0 }, { name := "generator", type := (.object "com/example/railspan/railspan/game/Generator"), accessFlags := 18, slot := 0, constantValue := 0 }, { name := "deck", type := (.array .int), accessFlags := 18, slot := 1, constantValue := 0 }, { name := "deckSize", type := .int, accessFlags := 2, slot := 2, constantValue := 0 }, { name := "discard", type := (.array .int), accessFlags := 18, slot := 3, constantValue := 0 }, { name := "discardSize", type := .int, accessFlags := 2, slot := 4, constantValue := 0 }, { name := "market", type := (.array .int), accessFlags := 18, slot := 5, constantValue := 0 }]
  methods := #[k13m0, k13m1, k13m2, k13m3]
  instanceTypes := #[(.object "com/example/railspan/railspan/game/Generator"), (.array .int), .int, (.array .int), .int, (.array .int)]
  staticTypes := #[.int, .int, .int, .int, (.array (.object "com/example/railspan/railspan/game/Card"))]
  resolved := Array.replicate 148 none
  statics := none }

def pool14 : Array CpInfo := pool [(1, .methodref 2 3), (0, .class_ 4), (0, .nameAndType 5 6), (0, u "java/lang/Object"), (0, u "<init>"), (0, u "()V"), (0, .fieldref 8 9), (0, .class_ 10), (0, .nameAndType 11 12), (0, u "com/example/railspan/railspan/game/Generator"), (0, u "state"), (0, u "J"), (0, .methodref 8 14), (0, .nameAndType 15 16), (0, u "mix"), (0, u "(J)J"), (2, u "(J)V"), (0, .long 11400714819323198485), (1, .long 13787848793156543929), (1, .long 10723151780598845931), (10, .methodref 8 36), (0, .nameAndType 37 38), (0, u "nextLong"), (0, u "()J"), (0, .methodref 8 40), (0, .nameAndType 41 42), (0, u "nextInt"), (0, u "(I)I"), (0, u "STEP"), (6, u "shuffle"), (0, u "([II)V")] 17

def k14c0 : Code := { maxStack := 3, maxLocals := 3, code := prog_23_method_1_code, exceptionTable := #[], attributes := #[] }
def k14m0 : Method := { name := "<init>", desc := "(J)V", sig := { parameters := [.long], returnType := none }, accessFlags := 1, code := some k14c0 }
def k14c1 : Code := { maxStack := 5, maxLocals := 1, code := prog_23_method_3_code, exceptionTable := #[], attributes := #[] }
def k14m1 : Method := { name := "nextLong", desc := "()J", sig := { parameters := [], returnType := some .long }, accessFlags := 0, code := some k14c1 }
def k14c2 : Code := { maxStack := 5, maxLocals := 2, code := prog_23_method_4_code, exceptionTable := #[], attributes := #[] }
def k14m2 : Method := { name := "mix", desc := "(J)J", sig := { parameters := [.long], returnType := some .long }, accessFlags := 10, code := some k14c2 }
def k14c3 : Code := { maxStack := 4, maxLocals := 6, code := prog_23_method_5_code, exceptionTable := #[], attributes := #[] }
def k14m3 : Method := { name := "nextInt", desc := "(I)I", sig := { parameters := [.int], returnType := some .int }, accessFlags := 1, code := some k14c3 }
def k14c4 : Code := { maxStack := 4, maxLocals := 6, code := prog_23_method_6_code, exceptionTable := #[], attributes := #[] }
def k14m4 : Method := { name := "shuffle", desc := "([II)V", sig := { parameters := [(.array .int), .int], returnType := none }, accessFlags := 0, code := some k14c4 }
/-- com/example/railspan/railspan/game/Generator -/
def k14 : Class := { plain "com/example/railspan/railspan/game/Generator" (some 0) with
  accessFlags := 49
  interfaces := #[]
  cf := some (fileOf pool14 8 #[] #[{ accessFlags := 1, nameIndex := 5, descriptorIndex := 19, attributes := #[] }, { accessFlags := 0, nameIndex := 37, descriptorIndex := 38, attributes := #[] }, { accessFlags := 10, nameIndex := 15, descriptorIndex := 16, attributes := #[] }, { accessFlags := 1, nameIndex := 41, descriptorIndex := 42, attributes := #[] }, { accessFlags := 0, nameIndex := 50, descriptorIndex := 51, attributes := #[] }] 49 2 #[] #[{ accessFlags := 26, nameIndex := 43, descriptorIndex := 12, attributes := #[] }, { accessFlags := 2, nameIndex := 11, descriptorIndex := 12, attributes := #[] }])
  fields := #[{ name := "STEP", type := .long, accessFlags := 26, slot := 0, constantValue := 0 }, { name := "state", type := .long, accessFlags := 2, slot := 0, constantValue := 0 }]
  methods := #[k14m0, k14m1, k14m2, k14m3, k14m4]
  instanceTypes := #[.long]
  staticTypes := #[.long]
  resolved := Array.replicate 69 none
  statics := none }

def pool15 : Array CpInfo := pool [(16, .class_ 18), (1, u "java/util/Iterator"), (0, u "hasNext"), (0, u "()Z"), (2, u "next"), (0, u "()Ljava/lang/Object;"), (6, .class_ 32), (0, u "java/lang/Object")] 20

def k15m0 : Method := { name := "hasNext", desc := "()Z", sig := { parameters := [], returnType := some .boolean }, accessFlags := 1025, code := none }
def k15m1 : Method := { name := "next", desc := "()Ljava/lang/Object;", sig := { parameters := [], returnType := some (.object "java/lang/Object") }, accessFlags := 1025, code := none }
/-- java/util/Iterator -/
def k15 : Class := { plain "java/util/Iterator" (some 0) with
  accessFlags := 1537
  interfaces := #[]
  cf := some (fileOf pool15 16 #[] #[{ accessFlags := 1025, nameIndex := 19, descriptorIndex := 20, attributes := #[] }, { accessFlags := 1025, nameIndex := 23, descriptorIndex := 24, attributes := #[] }] 1537 31 #[] #[])
  fields := #[]
  methods := #[k15m0, k15m1]
  instanceTypes := #[]
  staticTypes := #[]
  resolved := Array.replicate 53 none
  statics := none }

def pool16 : Array CpInfo := pool [(1, .fieldref 2 3), (0, .class_ 4), (0, .nameAndType 5 6), (0, u "java/util/ArrayList$Itr"), (0, u "this$0"), (0, u "Ljava/util/ArrayList;"), (0, .methodref 8 9), (0, .class_ 10), (0, .nameAndType 11 12), (0, u "java/lang/Object"), (0, u "<init>"), (0, u "()V"), (0, .fieldref 2 14), (0, .nameAndType 15 16), (0, u "lastRet"), (0, u "I"), (0, .fieldref 18 19), (0, .class_ 20), (0, .nameAndType 21 16), (0, u "java/util/ArrayList"), (0, u "modCount"), (0, .fieldref 2 23), (0, .nameAndType 24 16), (0, u "expectedModCount"), (0, .fieldref 2 26), (0, .nameAndType 27 16), (0, u "cursor"), (0, .fieldref 18 29), (0, .nameAndType 30 16), (0, u "size"), (0, .methodref 2 32), (0, .nameAndType 33 12), (0, u "checkForComodification"), (3, .fieldref 18 38), (0, .nameAndType 39 40), (0, u "elementData"), (0, u "[Ljava/lang/Object;"), (28, .class_ 70), (0, u "java/util/Iterator"), (0, u "(Ljava/util/ArrayList;)V"), (8, u "hasNext"), (0, u "()Z"), (1, u "next"), (0, u "()Ljava/lang/Object;")] 19

def k16c0 : Code := { maxStack := 2, maxLocals := 2, code := jdk_49_method_1_code, exceptionTable := #[], attributes := #[] }
def k16m0 : Method := { name := "<init>", desc := "(Ljava/util/ArrayList;)V", sig := { parameters := [(.object "java/util/ArrayList")], returnType := none }, accessFlags := 0, code := some k16c0 }
def k16c1 : Code := { maxStack := 2, maxLocals := 1, code := jdk_49_method_2_code, exceptionTable := #[], attributes := #[] }
def k16m1 : Method := { name := "hasNext", desc := "()Z", sig := { parameters := [], returnType := some .boolean }, accessFlags := 1, code := some k16c1 }
def k16c2 : Code := { maxStack := 4, maxLocals := 3, code := jdk_49_method_3_code, exceptionTable := #[], attributes := #[] }
def k16m2 : Method := { name := "next", desc := "()Ljava/lang/Object;", sig := { parameters := [], returnType := some (.object "java/lang/Object") }, accessFlags := 1, code := some k16c2 }
def k16c3 : Code := { maxStack := 2, maxLocals := 1, code := jdk_49_method_6_code, exceptionTable := #[], attributes := #[] }
def k16m3 : Method := { name := "checkForComodification", desc := "()V", sig := { parameters := [], returnType := none }, accessFlags := 16, code := some k16c3 }
/-- java/util/ArrayList$Itr -/
def k16 : Class := { plain "java/util/ArrayList$Itr" (some 0) with
  accessFlags := 32
  interfaces := #[15]
  cf := some (fileOf pool16 2 #[.nestHost 18] #[{ accessFlags := 0, nameIndex := 11, descriptorIndex := 71, attributes := #[] }, { accessFlags := 1, nameIndex := 80, descriptorIndex := 81, attributes := #[] }, { accessFlags := 1, nameIndex := 83, descriptorIndex := 84, attributes := #[] }, { accessFlags := 16, nameIndex := 33, descriptorIndex := 12, attributes := #[] }] 32 8 #[69] #[{ accessFlags := 0, nameIndex := 27, descriptorIndex := 16, attributes := #[] }, { accessFlags := 0, nameIndex := 15, descriptorIndex := 16, attributes := #[] }, { accessFlags := 0, nameIndex := 24, descriptorIndex := 16, attributes := #[] }, { accessFlags := 4112, nameIndex := 5, descriptorIndex := 6, attributes := #[] }])
  fields := #[{ name := "cursor", type := .int, accessFlags := 0, slot := 0, constantValue := 0 }, { name := "lastRet", type := .int, accessFlags := 0, slot := 1, constantValue := 0 }, { name := "expectedModCount", type := .int, accessFlags := 0, slot := 2, constantValue := 0 }, { name := "this$0", type := (.object "java/util/ArrayList"), accessFlags := 4112, slot := 3, constantValue := 0 }]
  methods := #[k16m0, k16m1, k16m2, k16m3]
  instanceTypes := #[.int, .int, .int, (.object "java/util/ArrayList")]
  staticTypes := #[]
  resolved := Array.replicate 104 none
  statics := none }

def pool17 : Array CpInfo := pool [(2, .class_ 4), (1, u "java/lang/Object"), (0, u "<init>"), (0, u "()V"), (7, .class_ 16), (1, u "java/util/Arrays"), (57, .class_ 76), (1, u "java/util/Arrays$NaturalOrder"), (36, .class_ 115), (1, u "java/util/Arrays$LegacyMergeSort"), (1, u "Z"), (257, .class_ 376), (0, u "java/util/Arrays$ArrayList"), (68, u "$assertionsDisabled"), (269, u "MIN_ARRAY_SORT_GRAN"), (0, u "I"), (2, u "INSERTIONSORT_THRESHOLD"), (120, u "fill"), (4, u "([II)V"), (129, .class_ 976), (0, u "java/util/Arrays$ArrayItr")] 52

def k17m0 : Method := { name := "<init>", desc := "()V", sig := { parameters := [], returnType := none }, accessFlags := 2, code := none }
def k17c1 : Code := { maxStack := 3, maxLocals := 4, code := jdk_65_method_103_code, exceptionTable := #[], attributes := #[] }
def k17m1 : Method := { name := "fill", desc := "([II)V", sig := { parameters := [(.array .int), .int], returnType := none }, accessFlags := 9, code := some k17c1 }
/-- java/util/Arrays -/
def k17 : Class := { plain "java/util/Arrays" (some 0) with
  accessFlags := 49
  interfaces := #[]
  cf := some (fileOf pool17 14 #[.nestMembers #[975, 375, 113, 74]] #[{ accessFlags := 2, nameIndex := 5, descriptorIndex := 6, attributes := #[] }, { accessFlags := 9, nameIndex := 840, descriptorIndex := 845, attributes := #[] }] 49 2 #[] #[{ accessFlags := 26, nameIndex := 715, descriptorIndex := 716, attributes := #[] }, { accessFlags := 26, nameIndex := 719, descriptorIndex := 716, attributes := #[] }, { accessFlags := 4120, nameIndex := 445, descriptorIndex := 117, attributes := #[] }])
  fields := #[{ name := "MIN_ARRAY_SORT_GRAN", type := .int, accessFlags := 26, slot := 0, constantValue := 0 }, { name := "INSERTIONSORT_THRESHOLD", type := .int, accessFlags := 26, slot := 1, constantValue := 0 }, { name := "$assertionsDisabled", type := .boolean, accessFlags := 4120, slot := 2, constantValue := 0 }]
  methods := #[k17m0, k17m1]
  instanceTypes := #[]
  staticTypes := #[.int, .int, .boolean]
  resolved := Array.replicate 1029 none
  statics := none }

def pool18 : Array CpInfo := pool [(1, .class_ 2), (0, u "java/lang/constant/Constable"), (0, .class_ 4), (0, u "java/lang/Object")] 6

/-- java/lang/constant/Constable -/
def k18 : Class := { plain "java/lang/constant/Constable" (some 0) with
  accessFlags := 1537
  interfaces := #[]
  cf := some (fileOf pool18 1 #[] #[] 1537 3 #[] #[])
  fields := #[]
  methods := #[]
  instanceTypes := #[]
  staticTypes := #[]
  resolved := Array.replicate 11 none
  statics := none }

def pool19 : Array CpInfo := pool [(1, .class_ 2), (0, u "java/lang/Comparable"), (0, .class_ 4), (0, u "java/lang/Object")] 7

/-- java/lang/Comparable -/
def k19 : Class := { plain "java/lang/Comparable" (some 0) with
  accessFlags := 1537
  interfaces := #[]
  cf := some (fileOf pool19 1 #[] #[] 1537 3 #[] #[])
  fields := #[]
  methods := #[]
  instanceTypes := #[]
  staticTypes := #[]
  resolved := Array.replicate 12 none
  statics := none }

def pool20 : Array CpInfo := pool [(2, .class_ 4), (1, u "java/lang/Enum"), (0, u "name"), (0, u "Ljava/lang/String;"), (0, .fieldref 2 8), (0, .nameAndType 9 10), (0, u "ordinal"), (0, u "I"), (1, .class_ 14), (1, u "java/lang/Object"), (4, u "hash"), (86, .class_ 108), (1, u "java/lang/Enum$EnumDesc"), (2, .class_ 112), (0, u "java/lang/constant/Constable"), (0, .class_ 114), (0, u "java/lang/Comparable"), (0, .class_ 116), (0, u "java/io/Serializable"), (9, u "()I")] 77

def k20c0 : Code := { maxStack := 1, maxLocals := 1, code := jdk_37_method_2_code, exceptionTable := #[], attributes := #[] }
def k20m0 : Method := { name := "ordinal", desc := "()I", sig := { parameters := [], returnType := some .int }, accessFlags := 17, code := some k20c0 }
/-- java/lang/Enum -/
def k20 : Class := { plain "java/lang/Enum" (some 0) with
  accessFlags := 1057
  interfaces := #[18, 19, 11]
  cf := some (fileOf pool20 2 #[.nestMembers #[106]] #[{ accessFlags := 17, nameIndex := 9, descriptorIndex := 126, attributes := #[] }] 1057 12 #[111, 113, 115] #[{ accessFlags := 18, nameIndex := 5, descriptorIndex := 6, attributes := #[] }, { accessFlags := 18, nameIndex := 9, descriptorIndex := 10, attributes := #[] }, { accessFlags := 2, nameIndex := 19, descriptorIndex := 10, attributes := #[] }])
  fields := #[{ name := "name", type := (.object "java/lang/String"), accessFlags := 18, slot := 0, constantValue := 0 }, { name := "ordinal", type := .int, accessFlags := 18, slot := 1, constantValue := 0 }, { name := "hash", type := .int, accessFlags := 2, slot := 2, constantValue := 0 }]
  methods := #[k20m0]
  instanceTypes := #[(.object "java/lang/String"), .int, .int]
  staticTypes := #[]
  resolved := Array.replicate 204 none
  statics := none }

def pool21 : Array CpInfo := pool [(1, .class_ 2), (0, u "com/example/railspan/railspan/game/Card"), (2, u "BLUE"), (0, u "Lcom/example/railspan/railspan/game/Card;"), (2, u "GREEN"), (2, u "BLACK"), (2, u "LOCOMOTIVE"), (2, u "ORANGE"), (2, u "PURPLE"), (2, u "RED"), (2, u "WHITE"), (2, u "YELLOW"), (2, u "$VALUES"), (0, u "[Lcom/example/railspan/railspan/game/Card;"), (6, .class_ 43), (1, u "java/lang/Enum"), (8, u "colour"), (0, u "Lcom/example/railspan/railspan/board/Colour;"), (59, u "COLOUR_COPIES"), (0, u "I"), (2, u "LOCOMOTIVE_COPIES")] 21

/-- com/example/railspan/railspan/game/Card -/
def k21 : Class := { plain "com/example/railspan/railspan/game/Card" (some 20) with
  accessFlags := 16433
  interfaces := #[]
  cf := some (fileOf pool21 1 #[] #[] 16433 41 #[] #[{ accessFlags := 16409, nameIndex := 5, descriptorIndex := 6, attributes := #[] }, { accessFlags := 16409, nameIndex := 9, descriptorIndex := 6, attributes := #[] }, { accessFlags := 16409, nameIndex := 12, descriptorIndex := 6, attributes := #[] }, { accessFlags := 16409, nameIndex := 15, descriptorIndex := 6, attributes := #[] }, { accessFlags := 16409, nameIndex := 18, descriptorIndex := 6, attributes := #[] }, { accessFlags := 16409, nameIndex := 21, descriptorIndex := 6, attributes := #[] }, { accessFlags := 16409, nameIndex := 24, descriptorIndex := 6, attributes := #[] }, { accessFlags := 16409, nameIndex := 27, descriptorIndex := 6, attributes := #[] }, { accessFlags := 16409, nameIndex := 30, descriptorIndex := 6, attributes := #[] }, { accessFlags := 26, nameIndex := 113, descriptorIndex := 114, attributes := #[] }, { accessFlags := 26, nameIndex := 117, descriptorIndex := 114, attributes := #[] }, { accessFlags := 18, nameIndex := 52, descriptorIndex := 53, attributes := #[] }, { accessFlags := 4122, nameIndex := 33, descriptorIndex := 34, attributes := #[] }])
  fields := #[{ name := "BLUE", type := (.object "com/example/railspan/railspan/game/Card"), accessFlags := 16409, slot := 0, constantValue := 0 }, { name := "GREEN", type := (.object "com/example/railspan/railspan/game/Card"), accessFlags := 16409, slot := 1, constantValue := 0 }, { name := "BLACK", type := (.object "com/example/railspan/railspan/game/Card"), accessFlags := 16409, slot := 2, constantValue := 0 }, { name := "LOCOMOTIVE", type := (.object "com/example/railspan/railspan/game/Card"), accessFlags := 16409, slot := 3, constantValue := 0 }, { name := "ORANGE", type := (.object "com/example/railspan/railspan/game/Card"), accessFlags := 16409, slot := 4, constantValue := 0 }, { name := "PURPLE", type := (.object "com/example/railspan/railspan/game/Card"), accessFlags := 16409, slot := 5, constantValue := 0 }, { name := "RED", type := (.object "com/example/railspan/railspan/game/Card"), accessFlags := 16409, slot := 6, constantValue := 0 }, { name := "WHITE", type := (.object "com/example/railspan/railspan/game/Card"), accessFlags := 16409, slot := 7, constantValue := 0 }, { name := "YELLOW", type := (.object "com/example/railspan/railspan/game/Card"), accessFlags := 16409, slot := 8, constantValue := 0 }, { name := "COLOUR_COPIES", type := .int, accessFlags := 26, slot := 9, constantValue := 0 }, { name := "LOCOMOTIVE_COPIES", type := .int, accessFlags := 26, slot := 10, constantValue := 0 }, { name := "colour", type := (.object "com/example/railspan/railspan/board/Colour"), accessFlags := 18, slot := 3, constantValue := 0 }, { name := "$VALUES", type := (.array (.object "com/example/railspan/railspan/game/Card")), accessFlags := 4122, slot := 11, constantValue := 0 }]
  methods := #[]
  instanceTypes := #[(.object "java/lang/String"), .int, .int, (.object "com/example/railspan/railspan/board/Colour")]
  staticTypes := #[(.object "com/example/railspan/railspan/game/Card"), (.object "com/example/railspan/railspan/game/Card"), (.object "com/example/railspan/railspan/game/Card"), (.object "com/example/railspan/railspan/game/Card"), (.object "com/example/railspan/railspan/game/Card"), (.object "com/example/railspan/railspan/game/Card"), (.object "com/example/railspan/railspan/game/Card"), (.object "com/example/railspan/railspan/game/Card"), (.object "com/example/railspan/railspan/game/Card"), .int, .int, (.array (.object "com/example/railspan/railspan/game/Card"))]
  resolved := Array.replicate 139 none
  statics := some 1 }

def pool22 : Array CpInfo := pool [(2, .class_ 4), (1, u "java/lang/Object"), (0, u "<init>"), (0, u "()V"), (1, .class_ 10), (1, u "java/lang/System"), (0, u "allowSecurityManager"), (0, u "I"), (16, u "cons"), (0, u "Ljava/io/Console;"), (77, .class_ 110), (1, u "java/lang/System$CallersHolder"), (43, u "initialErrStream"), (0, u "Ljava/io/PrintStream;"), (19, u "security"), (0, u "Ljava/lang/SecurityManager;"), (31, .class_ 209), (0, u "java/lang/System$1"), (7, u "props"), (0, u "Ljava/util/Properties;"), (2, u "lineSeparator"), (0, u "Ljava/lang/String;"), (96, .class_ 321), (1, u "java/lang/System$LoggerFinder"), (5, .class_ 328), (0, u "java/lang/System$Logger"), (67, u "err"), (2, u "out"), (91, u "notSupportedJnuEncoding"), (15, u "in"), (17, u "initialIn"), (0, u "Ljava/io/InputStream;"), (35, u "bootLayer"), (0, u "Ljava/lang/ModuleLayer;"), (99, .class_ 664), (0, u "java/lang/System$2"), (9, u "NEVER"), (2, u "MAYBE"), (49, u "arraycopy"), (0, u "(Ljava/lang/Object;ILjava/lang/Object;II)V"), (72, .class_ 802), (0, u "java/lang/System$Logger$Level")] 31

def k22m0 : Method := { name := "<init>", desc := "()V", sig := { parameters := [], returnType := none }, accessFlags := 2, code := none }
def k22m1 : Method := { name := "arraycopy", desc := "(Ljava/lang/Object;ILjava/lang/Object;II)V", sig := { parameters := [(.object "java/lang/Object"), .int, (.object "java/lang/Object"), .int, .int], returnType := none }, accessFlags := 265, code := none }
/-- java/lang/System -/
def k22 : Class := { plain "java/lang/System" (some 0) with
  accessFlags := 49
  interfaces := #[]
  cf := some (fileOf pool22 8 #[.nestMembers #[319, 327, 801, 108, 663, 208]] #[{ accessFlags := 2, nameIndex := 5, descriptorIndex := 6, attributes := #[] }, { accessFlags := 265, nameIndex := 727, descriptorIndex := 728, attributes := #[] }] 49 2 #[] #[{ accessFlags := 25, nameIndex := 507, descriptorIndex := 526, attributes := #[] }, { accessFlags := 25, nameIndex := 399, descriptorIndex := 155, attributes := #[] }, { accessFlags := 25, nameIndex := 396, descriptorIndex := 155, attributes := #[] }, { accessFlags := 10, nameIndex := 525, descriptorIndex := 526, attributes := #[] }, { accessFlags := 26, nameIndex := 674, descriptorIndex := 12, attributes := #[] }, { accessFlags := 26, nameIndex := 677, descriptorIndex := 12, attributes := #[] }, { accessFlags := 10, nameIndex := 11, descriptorIndex := 12, attributes := #[] }, { accessFlags := 74, nameIndex := 175, descriptorIndex := 176, attributes := #[] }, { accessFlags := 10, nameIndex := 491, descriptorIndex := 222, attributes := #[] }, { accessFlags := 74, nameIndex := 29, descriptorIndex := 30, attributes := #[] }, { accessFlags := 74, nameIndex := 154, descriptorIndex := 155, attributes := #[] }, { accessFlags := 10, nameIndex := 217, descriptorIndex := 218, attributes := #[] }, { accessFlags := 10, nameIndex := 221, descriptorIndex := 222, attributes := #[] }, { accessFlags := 8, nameIndex := 562, descriptorIndex := 563, attributes := #[] }])
  fields := #[{ name := "in", type := (.object "java/io/InputStream"), accessFlags := 25, slot := 0, constantValue := 0 }, { name := "out", type := (.object "java/io/PrintStream"), accessFlags := 25, slot := 1, constantValue := 0 }, { name := "err", type := (.object "java/io/PrintStream"), accessFlags := 25, slot := 2, constantValue := 0 }, { name := "initialIn", type := (.object "java/io/InputStream"), accessFlags := 10, slot := 3, constantValue := 0 }, { name := "NEVER", type := .int, accessFlags := 26, slot := 4, constantValue := 0 }, { name := "MAYBE", type := .int, accessFlags := 26, slot := 5, constantValue := 0 }, { name := "allowSecurityManager", type := .int, accessFlags := 10, slot := 6, constantValue := 0 }, { name := "security", type := (.object "java/lang/SecurityManager"), accessFlags := 74, slot := 7, constantValue := 0 }, { name := "notSupportedJnuEncoding", type := (.object "java/lang/String"), accessFlags := 10, slot := 8, constantValue := 0 }, { name := "cons", type := (.object "java/io/Console"), accessFlags := 74, slot := 9, constantValue := 0 }, { name := "initialErrStream", type := (.object "java/io/PrintStream"), accessFlags := 74, slot := 10, constantValue := 0 }, { name := "props", type := (.object "java/util/Properties"), accessFlags := 10, slot := 11, constantValue := 0 }, { name := "lineSeparator", type := (.object "java/lang/String"), accessFlags := 10, slot := 12, constantValue := 0 }, { name := "bootLayer", type := (.object "java/lang/ModuleLayer"), accessFlags := 8, slot := 13, constantValue := 0 }]
  methods := #[k22m0, k22m1]
  instanceTypes := #[]
  staticTypes := #[(.object "java/io/InputStream"), (.object "java/io/PrintStream"), (.object "java/io/PrintStream"), (.object "java/io/InputStream"), .int, .int, .int, (.object "java/lang/SecurityManager"), (.object "java/lang/String"), (.object "java/io/Console"), (.object "java/io/PrintStream"), (.object "java/util/Properties"), (.object "java/lang/String"), (.object "java/lang/ModuleLayer")]
  resolved := Array.replicate 834 none
  statics := none }

/-- the primitive byte -/
def k23 : Class := { plain "byte" none with kind := .primitive 'B', accessFlags := 0x411 }
/-- [B -/
def k24 : Class := { plain "[B" (some 0) with kind := .array 23 .byte, interfaces := #[10, 11], accessFlags := 1041 }

/-- the primitive int -/
def k25 : Class := { plain "int" none with kind := .primitive 'I', accessFlags := 0x411 }
/-- [I -/
def k26 : Class := { plain "[I" (some 0) with kind := .array 25 .int, interfaces := #[10, 11], accessFlags := 1041 }

/-- [Ljava/lang/Object; -/
def k27 : Class := { plain "[Ljava/lang/Object;" (some 0) with kind := .array 0 (.object "java/lang/Object"), interfaces := #[10, 11], accessFlags := 1041 }

def heap : Heap := #[{ cls := 12, slots := #[.long 0, .int 0, .ref 6, .ref 7], vm := .statics 12 },
  { cls := 21, slots := #[.ref 2, .null, .null, .ref 4, .null, .null, .ref 3, .null, .ref 5, .int 0, .int 0, .null], vm := .statics 21 },
  { cls := 21, slots := #[.null, .int 0, .int 0, .null], vm := .none },
  { cls := 21, slots := #[.null, .int 6, .int 0, .null], vm := .none },
  { cls := 21, slots := #[.null, .int 3, .int 0, .null], vm := .none },
  { cls := 21, slots := #[.null, .int 8, .int 0, .null], vm := .none },
  { cls := 27, slots := #[], vm := .none },
  { cls := 27, slots := #[], vm := .none }]
def classes : Array Class := #[k0, k1, k2, k3, k4, k5, k6, k7, k8, k9, k10, k11, k12, k13, k14, k15, k16, k17, k18, k19, k20, k21, k22, k23, k24, k25, k26, k27]
def interned : List (Array UInt16 × Addr) := []
def slotsUsed : Nat := 32
def theMethod : MethodId := ⟨1, 2⟩
def args0 : Array Value := #[.int 3, .int 3, .int 3, .int 1, .int 2, .long 5]
def aboutOver (below : List Frame) : State where
  vm := { classes := classes, interned := interned.toArray }
  heap := heap
  slotsUsed := slotsUsed
  threads := #[{ frames := .invoking theMethod args0 :: below }]
def below0 : List Frame := [.native { method := ⟨0, 0⟩, args := #[] }]
def about1 : State := aboutOver below0
def p0 : Program := .bare "" "" ""
def e0 : Env := launch0.env 0 0 0
theorem w_frames : about1.frames = Frame.invoking theMethod args0 :: below0 := rfl
set_option maxRecDepth 65536 in
theorem w_args : argsFit about1.vm theMethod args0 = true := by decide +kernel
set_option maxRecDepth 65536 in
theorem w_heap : heapFits about1 = true := by decide +kernel
set_option maxRecDepth 65536 in
theorem w_runnable : about1.curStatus? = some .runnable := by decide +kernel
set_option maxRecDepth 65536 in
theorem w_alone : about1.alone = true := by decide +kernel
set_option maxRecDepth 65536 in
theorem w_named : about1.methodNamed? x = some theMethod := by decide +kernel
set_option maxRecDepth 65536 in
theorem w_hears : about1.hears theMethod below0 = true := by decide +kernel
set_option maxRecDepth 65536 in
theorem w_ripe : about1.ripe theMethod args0 below0 = true := by decide +kernel
theorem w_running : about1.status = .running := rfl
set_option maxRecDepth 65536 in
theorem w_room : about1.hasRoom e0.platform room_1 = true :=
  launch0.hasRoom_least _ room_1 (by decide +kernel) (by decide +kernel) (by decide +kernel) (by decide +kernel) (by decide +kernel) (by decide +kernel)
theorem allAtoms_all (ts : List Jvm.Cond) (a : Array Jvm.Value) (st : Jvm.State) : (allAtoms ts).before a st = ts.all (fun c => c.before a st) := by
  induction ts with
  | nil => rfl
  | cons c t ih =>
    show (Jvm.Cond.and c (allAtoms t)).before a st = _
    rw [Jvm.Cond.before_and, ih, List.all_cons]
def words1 : List Jvm.Cond := Jvm.Cond.code x code maxLocals ret :: tables_1
/-- a 'code' word, met by the world's own term for the bytes: nothing is compared byte by byte -/
theorem code_word {y : MethodName} {bytes : ByteArray} {mx : Nat} {rt : Option FieldType} {a : Array Value} {s : State} {m : MethodId} {meth : Method} {c : Code} (h1 : s.methodNamed? y = some m) (h2 : s.vm.method? m = some meth) (h3 : meth.code = some c) (h4 : c.code = bytes)
    (h5 : (c.maxLocals == mx && c.exceptionTable.isEmpty && decide (c.maxStack ≤ mostOperands) && decide (meth.sig.returnType = rt) && !meth.locks && decide (parseMethodDescriptor y.desc = some meth.sig)) = true) : (Jvm.Cond.code y bytes mx rt).before a s = true := by
  simp only [Bool.and_eq_true, beq_iff_eq, Bool.not_eq_true', decide_eq_true_eq] at h5
  obtain ⟨⟨⟨⟨⟨g1, g2⟩, g3⟩, g4⟩, g5⟩, g6⟩ := h5
  simp [Cond.before, Cond.holds, Cond.value, h1, h2, h3, h4, g1, g2, g3, g4, g5, g6]
def isCode : Jvm.Cond → Bool
  | .code _ _ _ _ => true
  | _ => false
theorem all_split {L : List Jvm.Cond} {P : Jvm.Cond → Bool} (h1 : L.all (fun c => isCode c || P c) = true) (h2 : ∀ c ∈ L.filter isCode, P c = true) : L.all P = true := by
  refine List.all_eq_true.mpr fun c hc => ?_
  have h := List.all_eq_true.mp h1 c hc
  rcases Bool.eq_false_or_eq_true (isCode c) with hi | hi
  · exact h2 c (List.mem_filter.mpr ⟨hc, hi⟩)
  · simpa [hi] using h
set_option maxRecDepth 65536 in
theorem w_c0 : (Jvm.Cond.code x code maxLocals ret).before args0 about1 = true := code_word (m := ⟨1, 2⟩) (meth := k1m2) (c := k1c2) (by decide +kernel) rfl rfl rfl (by decide +kernel)
set_option maxRecDepth 65536 in
theorem w_c1 : (Jvm.Cond.code ({ cls := "java/lang/Math", name := "min", desc := "(II)I" } : Jvm.MethodName) jdk_29_method_69_code (2 : Nat) (Option.some Jvm.ClassFile.FieldType.int)).before args0 about1 = true := code_word (m := ⟨2, 2⟩) (meth := k2m2) (c := k2c2) (by decide +kernel) rfl rfl rfl (by decide +kernel)
set_option maxRecDepth 65536 in
theorem w_c2 : (Jvm.Cond.code ({ cls := "java/util/ArrayList", name := "<init>", desc := "()V" } : Jvm.MethodName) jdk_38_method_2_code (1 : Nat) (Option.none : Option Jvm.ClassFile.FieldType)).before args0 about1 = true := code_word (m := ⟨12, 0⟩) (meth := k12m0) (c := k12c0) (by decide +kernel) rfl rfl rfl (by decide +kernel)
set_option maxRecDepth 65536 in
theorem w_c3 : (Jvm.Cond.code ({ cls := "java/util/AbstractList", name := "<init>", desc := "()V" } : Jvm.MethodName) jdk_39_method_1_code (1 : Nat) (Option.none : Option Jvm.ClassFile.FieldType)).before args0 about1 = true := code_word (m := ⟨8, 0⟩) (meth := k8m0) (c := k8c0) (by decide +kernel) rfl rfl rfl (by decide +kernel)
set_option maxRecDepth 65536 in
theorem w_c4 : (Jvm.Cond.code ({ cls := "java/util/AbstractCollection", name := "<init>", desc := "()V" } : Jvm.MethodName) jdk_22_method_1_code (1 : Nat) (Option.none : Option Jvm.ClassFile.FieldType)).before args0 about1 = true := code_word (m := ⟨5, 0⟩) (meth := k5m0) (c := k5c0) (by decide +kernel) rfl rfl rfl (by decide +kernel)
set_option maxRecDepth 65536 in
theorem w_c5 : (Jvm.Cond.code ({ cls := "java/lang/Object", name := "<init>", desc := "()V" } : Jvm.MethodName) object_method_1_code (1 : Nat) (Option.none : Option Jvm.ClassFile.FieldType)).before args0 about1 = true := code_word (m := ⟨0, 0⟩) (meth := k0m0) (c := k0c0) (by decide +kernel) rfl rfl rfl (by decide +kernel)
set_option maxRecDepth 65536 in
theorem w_c6 : (Jvm.Cond.code ({ cls := "com/example/railspan/railspan/game/Generator", name := "<init>", desc := "(J)V" } : Jvm.MethodName) prog_23_method_1_code (3 : Nat) (Option.none : Option Jvm.ClassFile.FieldType)).before args0 about1 = true := code_word (m := ⟨14, 0⟩) (meth := k14m0) (c := k14c0) (by decide +kernel) rfl rfl rfl (by decide +kernel)
set_option maxRecDepth 65536 in
theorem w_c7 : (Jvm.Cond.code ({ cls := "com/example/railspan/railspan/game/CardPiles", name := "<init>", desc := "(Ljava/util/List;Lcom/example/railspan/railspan/game/Generator;)V" } : Jvm.MethodName) prog_20_method_1_code (5 : Nat) (Option.none : Option Jvm.ClassFile.FieldType)).before args0 about1 = true := code_word (m := ⟨13, 0⟩) (meth := k13m0) (c := k13c0) (by decide +kernel) rfl rfl rfl (by decide +kernel)
set_option maxRecDepth 65536 in
theorem w_c8 : (Jvm.Cond.code ({ cls := "java/util/ArrayList", name := "size", desc := "()I" } : Jvm.MethodName) jdk_38_method_8_code (1 : Nat) (Option.some Jvm.ClassFile.FieldType.int)).before args0 about1 = true := code_word (m := ⟨12, 3⟩) (meth := k12m3) (c := k12c3) (by decide +kernel) rfl rfl rfl (by decide +kernel)
set_option maxRecDepth 65536 in
theorem w_c9 : (Jvm.Cond.code ({ cls := "java/util/ArrayList", name := "iterator", desc := "()Ljava/util/Iterator;" } : Jvm.MethodName) jdk_38_method_55_code (1 : Nat) (Option.some (Jvm.ClassFile.FieldType.object "java/util/Iterator"))).before args0 about1 = true := code_word (m := ⟨12, 6⟩) (meth := k12m6) (c := k12c6) (by decide +kernel) rfl rfl rfl (by decide +kernel)
set_option maxRecDepth 65536 in
theorem w_c10 : (Jvm.Cond.code ({ cls := "java/util/ArrayList$Itr", name := "<init>", desc := "(Ljava/util/ArrayList;)V" } : Jvm.MethodName) jdk_49_method_1_code (2 : Nat) (Option.none : Option Jvm.ClassFile.FieldType)).before args0 about1 = true := code_word (m := ⟨16, 0⟩) (meth := k16m0) (c := k16c0) (by decide +kernel) rfl rfl rfl (by decide +kernel)
set_option maxRecDepth 65536 in
theorem w_c11 : (Jvm.Cond.code ({ cls := "java/util/ArrayList$Itr", name := "hasNext", desc := "()Z" } : Jvm.MethodName) jdk_49_method_2_code (1 : Nat) (Option.some Jvm.ClassFile.FieldType.boolean)).before args0 about1 = true := code_word (m := ⟨16, 1⟩) (meth := k16m1) (c := k16c1) (by decide +kernel) rfl rfl rfl (by decide +kernel)
set_option maxRecDepth 65536 in
theorem w_c12 : (Jvm.Cond.code ({ cls := "java/util/Arrays", name := "fill", desc := "([II)V" } : Jvm.MethodName) jdk_65_method_103_code (4 : Nat) (Option.none : Option Jvm.ClassFile.FieldType)).before args0 about1 = true := code_word (m := ⟨17, 1⟩) (meth := k17m1) (c := k17c1) (by decide +kernel) rfl rfl rfl (by decide +kernel)
set_option maxRecDepth 65536 in
theorem w_c13 : (Jvm.Cond.code ({ cls := "com/example/railspan/railspan/game/CardPiles", name := "draw", desc := "()I" } : Jvm.MethodName) prog_20_method_5_code (1 : Nat) (Option.some Jvm.ClassFile.FieldType.int)).before args0 about1 = true := code_word (m := ⟨13, 2⟩) (meth := k13m2) (c := k13c2) (by decide +kernel) rfl rfl rfl (by decide +kernel)
set_option maxRecDepth 65536 in
theorem w_c14 : (Jvm.Cond.code ({ cls := "com/example/railspan/railspan/game/CardPilesCanDrawPinLaw", name := "card", desc := "(I)Lcom/example/railspan/railspan/game/Card;" } : Jvm.MethodName) method_2_code (2 : Nat) (Option.some (Jvm.ClassFile.FieldType.object "com/example/railspan/railspan/game/Card"))).before args0 about1 = true := code_word (m := ⟨1, 1⟩) (meth := k1m1) (c := k1c1) (by decide +kernel) rfl rfl rfl (by decide +kernel)
set_option maxRecDepth 65536 in
theorem w_c15 : (Jvm.Cond.code ({ cls := "com/example/railspan/railspan/game/CardPiles", name := "discard", desc := "(Lcom/example/railspan/railspan/game/Card;I)V" } : Jvm.MethodName) prog_20_method_7_code (4 : Nat) (Option.none : Option Jvm.ClassFile.FieldType)).before args0 about1 = true := code_word (m := ⟨13, 3⟩) (meth := k13m3) (c := k13c3) (by decide +kernel) rfl rfl rfl (by decide +kernel)
set_option maxRecDepth 65536 in
theorem w_c16 : (Jvm.Cond.code ({ cls := "com/example/railspan/railspan/game/CardPiles", name := "canDraw", desc := "()Z" } : Jvm.MethodName) prog_20_method_4_code (1 : Nat) (Option.some Jvm.ClassFile.FieldType.boolean)).before args0 about1 = true := code_word (m := ⟨13, 1⟩) (meth := k13m1) (c := k13c1) (by decide +kernel) rfl rfl rfl (by decide +kernel)
set_option maxRecDepth 65536 in
theorem w_c17 : (Jvm.Cond.code ({ cls := "java/util/ArrayList", name := "add", desc := "(Ljava/lang/Object;)Z" } : Jvm.MethodName) jdk_38_method_25_code (2 : Nat) (Option.some Jvm.ClassFile.FieldType.boolean)).before args0 about1 = true := code_word (m := ⟨12, 5⟩) (meth := k12m5) (c := k12c5) (by decide +kernel) rfl rfl rfl (by decide +kernel)
set_option maxRecDepth 65536 in
theorem w_c18 : (Jvm.Cond.code ({ cls := "java/util/ArrayList", name := "add", desc := "(Ljava/lang/Object;[Ljava/lang/Object;I)V" } : Jvm.MethodName) jdk_38_method_24_code (4 : Nat) (Option.none : Option Jvm.ClassFile.FieldType)).before args0 about1 = true := code_word (m := ⟨12, 4⟩) (meth := k12m4) (c := k12c4) (by decide +kernel) rfl rfl rfl (by decide +kernel)
set_option maxRecDepth 65536 in
theorem w_c19 : (Jvm.Cond.code ({ cls := "java/util/ArrayList", name := "grow", desc := "()[Ljava/lang/Object;" } : Jvm.MethodName) jdk_38_method_7_code (1 : Nat) (Option.some (Jvm.ClassFile.FieldType.array (Jvm.ClassFile.FieldType.object "java/lang/Object")))).before args0 about1 = true := code_word (m := ⟨12, 2⟩) (meth := k12m2) (c := k12c2) (by decide +kernel) rfl rfl rfl (by decide +kernel)
set_option maxRecDepth 65536 in
theorem w_c20 : (Jvm.Cond.code ({ cls := "java/util/ArrayList", name := "grow", desc := "(I)[Ljava/lang/Object;" } : Jvm.MethodName) jdk_38_method_6_code (4 : Nat) (Option.some (Jvm.ClassFile.FieldType.array (Jvm.ClassFile.FieldType.object "java/lang/Object")))).before args0 about1 = true := code_word (m := ⟨12, 1⟩) (meth := k12m1) (c := k12c1) (by decide +kernel) rfl rfl rfl (by decide +kernel)
set_option maxRecDepth 65536 in
theorem w_c21 : (Jvm.Cond.code ({ cls := "java/lang/Math", name := "max", desc := "(II)I" } : Jvm.MethodName) jdk_29_method_65_code (2 : Nat) (Option.some Jvm.ClassFile.FieldType.int)).before args0 about1 = true := code_word (m := ⟨2, 1⟩) (meth := k2m1) (c := k2c1) (by decide +kernel) rfl rfl rfl (by decide +kernel)
set_option maxRecDepth 65536 in
theorem w_c22 : (Jvm.Cond.code ({ cls := "java/util/ArrayList$Itr", name := "next", desc := "()Ljava/lang/Object;" } : Jvm.MethodName) jdk_49_method_3_code (3 : Nat) (Option.some (Jvm.ClassFile.FieldType.object "java/lang/Object"))).before args0 about1 = true := code_word (m := ⟨16, 2⟩) (meth := k16m2) (c := k16c2) (by decide +kernel) rfl rfl rfl (by decide +kernel)
set_option maxRecDepth 65536 in
theorem w_c23 : (Jvm.Cond.code ({ cls := "java/util/ArrayList$Itr", name := "checkForComodification", desc := "()V" } : Jvm.MethodName) jdk_49_method_6_code (1 : Nat) (Option.none : Option Jvm.ClassFile.FieldType)).before args0 about1 = true := code_word (m := ⟨16, 3⟩) (meth := k16m3) (c := k16c3) (by decide +kernel) rfl rfl rfl (by decide +kernel)
set_option maxRecDepth 65536 in
theorem w_c24 : (Jvm.Cond.code ({ cls := "java/lang/Enum", name := "ordinal", desc := "()I" } : Jvm.MethodName) jdk_37_method_2_code (1 : Nat) (Option.some Jvm.ClassFile.FieldType.int)).before args0 about1 = true := code_word (m := ⟨20, 0⟩) (meth := k20m0) (c := k20c0) (by decide +kernel) rfl rfl rfl (by decide +kernel)
set_option maxRecDepth 65536 in
theorem w_c25 : (Jvm.Cond.code ({ cls := "com/example/railspan/railspan/game/Generator", name := "shuffle", desc := "([II)V" } : Jvm.MethodName) prog_23_method_6_code (6 : Nat) (Option.none : Option Jvm.ClassFile.FieldType)).before args0 about1 = true := code_word (m := ⟨14, 4⟩) (meth := k14m4) (c := k14c4) (by decide +kernel) rfl rfl rfl (by decide +kernel)
set_option maxRecDepth 65536 in
theorem w_c26 : (Jvm.Cond.code ({ cls := "com/example/railspan/railspan/game/Generator", name := "nextInt", desc := "(I)I" } : Jvm.MethodName) prog_23_method_5_code (6 : Nat) (Option.some Jvm.ClassFile.FieldType.int)).before args0 about1 = true := code_word (m := ⟨14, 3⟩) (meth := k14m3) (c := k14c3) (by decide +kernel) rfl rfl rfl (by decide +kernel)
set_option maxRecDepth 65536 in
theorem w_c27 : (Jvm.Cond.code ({ cls := "com/example/railspan/railspan/game/Generator", name := "nextLong", desc := "()J" } : Jvm.MethodName) prog_23_method_3_code (1 : Nat) (Option.some Jvm.ClassFile.FieldType.long)).before args0 about1 = true := code_word (m := ⟨14, 1⟩) (meth := k14m1) (c := k14c1) (by decide +kernel) rfl rfl rfl (by decide +kernel)
set_option maxRecDepth 65536 in
theorem w_c28 : (Jvm.Cond.code ({ cls := "com/example/railspan/railspan/game/Generator", name := "mix", desc := "(J)J" } : Jvm.MethodName) prog_23_method_4_code (2 : Nat) (Option.some Jvm.ClassFile.FieldType.long)).before args0 about1 = true := code_word (m := ⟨14, 2⟩) (meth := k14m2) (c := k14c2) (by decide +kernel) rfl rfl rfl (by decide +kernel)
def codes1 : List Jvm.Cond := [Jvm.Cond.code x code maxLocals ret, Jvm.Cond.code ({ cls := "java/lang/Math", name := "min", desc := "(II)I" } : Jvm.MethodName) jdk_29_method_69_code (2 : Nat) (Option.some Jvm.ClassFile.FieldType.int), Jvm.Cond.code ({ cls := "java/util/ArrayList", name := "<init>", desc := "()V" } : Jvm.MethodName) jdk_38_method_2_code (1 : Nat) (Option.none : Option Jvm.ClassFile.FieldType), Jvm.Cond.code ({ cls := "java/util/AbstractList", name := "<init>", desc := "()V" } : Jvm.MethodName) jdk_39_method_1_code (1 : Nat) (Option.none : Option Jvm.ClassFile.FieldType), Jvm.Cond.code ({ cls := "java/util/AbstractCollection", name := "<init>", desc := "()V" } : Jvm.MethodName) jdk_22_method_1_code (1 : Nat) (Option.none : Option Jvm.ClassFile.FieldType), Jvm.Cond.code ({ cls := "java/lang/Object", name := "<init>", desc := "()V" } : Jvm.MethodName) object_method_1_code (1 : Nat) (Option.none : Option Jvm.ClassFile.FieldType), Jvm.Cond.code ({ cls := "com/example/railspan/railspan/game/Generator", name := "<init>", desc := "(J)V" } : Jvm.MethodName) prog_23_method_1_code (3 : Nat) (Option.none : Option Jvm.ClassFile.FieldType), Jvm.Cond.code ({ cls := "com/example/railspan/railspan/game/CardPiles", name := "<init>", desc := "(Ljava/util/List;Lcom/example/railspan/railspan/game/Generator;)V" } : Jvm.MethodName) prog_20_method_1_code (5 : Nat) (Option.none : Option Jvm.ClassFile.FieldType), Jvm.Cond.code ({ cls := "java/util/ArrayList", name := "size", desc := "()I" } : Jvm.MethodName) jdk_38_method_8_code (1 : Nat) (Option.some Jvm.ClassFile.FieldType.int), Jvm.Cond.code ({ cls := "java/util/ArrayList", name := "iterator", desc := "()Ljava/util/Iterator;" } : Jvm.MethodName) jdk_38_method_55_code (1 : Nat) (Option.some (Jvm.ClassFile.FieldType.object "java/util/Iterator")), Jvm.Cond.code ({ cls := "java/util/ArrayList$Itr", name := "<init>", desc := "(Ljava/util/ArrayList;)V" } : Jvm.MethodName) jdk_49_method_1_code (2 : Nat) (Option.none : Option Jvm.ClassFile.FieldType), Jvm.Cond.code ({ cls := "java/util/ArrayList$Itr", name := "hasNext", desc := "()Z" } : Jvm.MethodName) jdk_49_method_2_code (1 : Nat) (Option.some Jvm.ClassFile.FieldType.boolean), Jvm.Cond.code ({ cls := "java/util/Arrays", name := "fill", desc := "([II)V" } : Jvm.MethodName) jdk_65_method_103_code (4 : Nat) (Option.none : Option Jvm.ClassFile.FieldType), Jvm.Cond.code ({ cls := "com/example/railspan/railspan/game/CardPiles", name := "draw", desc := "()I" } : Jvm.MethodName) prog_20_method_5_code (1 : Nat) (Option.some Jvm.ClassFile.FieldType.int), Jvm.Cond.code ({ cls := "com/example/railspan/railspan/game/CardPilesCanDrawPinLaw", name := "card", desc := "(I)Lcom/example/railspan/railspan/game/Card;" } : Jvm.MethodName) method_2_code (2 : Nat) (Option.some (Jvm.ClassFile.FieldType.object "com/example/railspan/railspan/game/Card")), Jvm.Cond.code ({ cls := "com/example/railspan/railspan/game/CardPiles", name := "discard", desc := "(Lcom/example/railspan/railspan/game/Card;I)V" } : Jvm.MethodName) prog_20_method_7_code (4 : Nat) (Option.none : Option Jvm.ClassFile.FieldType), Jvm.Cond.code ({ cls := "com/example/railspan/railspan/game/CardPiles", name := "canDraw", desc := "()Z" } : Jvm.MethodName) prog_20_method_4_code (1 : Nat) (Option.some Jvm.ClassFile.FieldType.boolean), Jvm.Cond.code ({ cls := "java/util/ArrayList", name := "add", desc := "(Ljava/lang/Object;)Z" } : Jvm.MethodName) jdk_38_method_25_code (2 : Nat) (Option.some Jvm.ClassFile.FieldType.boolean), Jvm.Cond.code ({ cls := "java/util/ArrayList", name := "add", desc := "(Ljava/lang/Object;[Ljava/lang/Object;I)V" } : Jvm.MethodName) jdk_38_method_24_code (4 : Nat) (Option.none : Option Jvm.ClassFile.FieldType), Jvm.Cond.code ({ cls := "java/util/ArrayList", name := "grow", desc := "()[Ljava/lang/Object;" } : Jvm.MethodName) jdk_38_method_7_code (1 : Nat) (Option.some (Jvm.ClassFile.FieldType.array (Jvm.ClassFile.FieldType.object "java/lang/Object"))), Jvm.Cond.code ({ cls := "java/util/ArrayList", name := "grow", desc := "(I)[Ljava/lang/Object;" } : Jvm.MethodName) jdk_38_method_6_code (4 : Nat) (Option.some (Jvm.ClassFile.FieldType.array (Jvm.ClassFile.FieldType.object "java/lang/Object"))), Jvm.Cond.code ({ cls := "java/lang/Math", name := "max", desc := "(II)I" } : Jvm.MethodName) jdk_29_method_65_code (2 : Nat) (Option.some Jvm.ClassFile.FieldType.int), Jvm.Cond.code ({ cls := "java/util/ArrayList$Itr", name := "next", desc := "()Ljava/lang/Object;" } : Jvm.MethodName) jdk_49_method_3_code (3 : Nat) (Option.some (Jvm.ClassFile.FieldType.object "java/lang/Object")), Jvm.Cond.code ({ cls := "java/util/ArrayList$Itr", name := "checkForComodification", desc := "()V" } : Jvm.MethodName) jdk_49_method_6_code (1 : Nat) (Option.none : Option Jvm.ClassFile.FieldType), Jvm.Cond.code ({ cls := "java/lang/Enum", name := "ordinal", desc := "()I" } : Jvm.MethodName) jdk_37_method_2_code (1 : Nat) (Option.some Jvm.ClassFile.FieldType.int), Jvm.Cond.code ({ cls := "com/example/railspan/railspan/game/Generator", name := "shuffle", desc := "([II)V" } : Jvm.MethodName) prog_23_method_6_code (6 : Nat) (Option.none : Option Jvm.ClassFile.FieldType), Jvm.Cond.code ({ cls := "com/example/railspan/railspan/game/Generator", name := "nextInt", desc := "(I)I" } : Jvm.MethodName) prog_23_method_5_code (6 : Nat) (Option.some Jvm.ClassFile.FieldType.int), Jvm.Cond.code ({ cls := "com/example/railspan/railspan/game/Generator", name := "nextLong", desc := "()J" } : Jvm.MethodName) prog_23_method_3_code (1 : Nat) (Option.some Jvm.ClassFile.FieldType.long), Jvm.Cond.code ({ cls := "com/example/railspan/railspan/game/Generator", name := "mix", desc := "(J)J" } : Jvm.MethodName) prog_23_method_4_code (2 : Nat) (Option.some Jvm.ClassFile.FieldType.long)]
set_option maxRecDepth 65536 in
theorem codes_eq : words1.filter isCode = codes1 := rfl
theorem w_codes : ∀ c ∈ words1.filter isCode, c.before args0 about1 = true := by
  rw [codes_eq]
  intro c hc
  simp only [codes1, List.mem_cons, List.not_mem_nil, or_false] at hc
  rcases hc with rfl | rfl | rfl | rfl | rfl | rfl | rfl | rfl | rfl | rfl | rfl | rfl | rfl | rfl | rfl | rfl | rfl | rfl | rfl | rfl | rfl | rfl | rfl | rfl | rfl | rfl | rfl | rfl | rfl
  · exact w_c0
  · exact w_c1
  · exact w_c2
  · exact w_c3
  · exact w_c4
  · exact w_c5
  · exact w_c6
  · exact w_c7
  · exact w_c8
  · exact w_c9
  · exact w_c10
  · exact w_c11
  · exact w_c12
  · exact w_c13
  · exact w_c14
  · exact w_c15
  · exact w_c16
  · exact w_c17
  · exact w_c18
  · exact w_c19
  · exact w_c20
  · exact w_c21
  · exact w_c22
  · exact w_c23
  · exact w_c24
  · exact w_c25
  · exact w_c26
  · exact w_c27
  · exact w_c28
set_option maxRecDepth 65536 in
theorem w_t1 : (words1.take 24).all (fun c => isCode c || c.before args0 about1) = true := by decide +kernel
set_option maxRecDepth 65536 in
theorem w_t2 : ((words1.drop 24).take 24).all (fun c => isCode c || c.before args0 about1) = true := by decide +kernel
set_option maxRecDepth 65536 in
theorem w_t3 : (((words1.drop 24).drop 24).take 24).all (fun c => isCode c || c.before args0 about1) = true := by decide +kernel
set_option maxRecDepth 65536 in
theorem w_t4 : ((((words1.drop 24).drop 24).drop 24).take 24).all (fun c => isCode c || c.before args0 about1) = true := by decide +kernel
set_option maxRecDepth 65536 in
theorem w_t5 : (((((words1.drop 24).drop 24).drop 24).drop 24).take 24).all (fun c => isCode c || c.before args0 about1) = true := by decide +kernel
set_option maxRecDepth 65536 in
theorem w_t6 : ((((((words1.drop 24).drop 24).drop 24).drop 24).drop 24).take 24).all (fun c => isCode c || c.before args0 about1) = true := by decide +kernel
set_option maxRecDepth 65536 in
theorem w_t7 : (((((((words1.drop 24).drop 24).drop 24).drop 24).drop 24).drop 24).take 24).all (fun c => isCode c || c.before args0 about1) = true := by decide +kernel
set_option maxRecDepth 65536 in
theorem w_t8 : ((((((((words1.drop 24).drop 24).drop 24).drop 24).drop 24).drop 24).drop 24).take 24).all (fun c => isCode c || c.before args0 about1) = true := by decide +kernel
set_option maxRecDepth 65536 in
theorem w_t9 : ((((((((words1.drop 24).drop 24).drop 24).drop 24).drop 24).drop 24).drop 24).drop 24).all (fun c => isCode c || c.before args0 about1) = true := by decide +kernel
theorem w_tables : (allAtoms (Jvm.Cond.code x code maxLocals ret :: tables_1)).before args0 about1 = true := by
  rw [allAtoms_all]
  show words1.all (fun c => c.before args0 about1) = true
  refine all_split ?_ w_codes
  rw [← List.take_append_drop 24 words1, List.all_append, w_t1, ← List.take_append_drop 24 (words1.drop 24), List.all_append, w_t2, ← List.take_append_drop 24 ((words1.drop 24).drop 24), List.all_append, w_t3, ← List.take_append_drop 24 (((words1.drop 24).drop 24).drop 24), List.all_append, w_t4, ← List.take_append_drop 24 ((((words1.drop 24).drop 24).drop 24).drop 24), List.all_append, w_t5, ← List.take_append_drop 24 (((((words1.drop 24).drop 24).drop 24).drop 24).drop 24), List.all_append, w_t6, ← List.take_append_drop 24 ((((((words1.drop 24).drop 24).drop 24).drop 24).drop 24).drop 24), List.all_append, w_t7, ← List.take_append_drop 24 (((((((words1.drop 24).drop 24).drop 24).drop 24).drop 24).drop 24).drop 24), List.all_append, w_t8, w_t9]
  rfl
set_option maxRecDepth 65536 in
theorem w_rest : rest_1_c.before args0 about1 = true := by decide +kernel
set_option maxRecDepth 65536 in
theorem w_case : (Jvm.Cond.and given_1 narrow_1).before args0 about1 = true := by decide +kernel
theorem w_applies : (headSpec (Jvm.Cond.code x code maxLocals ret :: tables_1) room_1).applies x e0.platform about1 = true :=
  (Spec.applies_iff w_frames).mpr ⟨w_running, w_runnable, w_alone, w_named, w_hears, w_ripe, w_room, w_tables⟩
theorem atStart : AtStart classFile x code maxLocals ret World_1 tables_1 room_1 Calls_1 rest_1 Pre_1 launch0 p0 e0 about1 theMethod args0 below0 :=
  ⟨lists_1, trivial, launch0.admits_env _ _ _, launch0.least_env, fairChoices_fair.cas, fairChoices_fair.clock, w_frames, w_args, w_heap, w_applies, trivial, w_rest, w_case⟩
end start1
theorem witness_1 : WitnessClaimed_1 := ⟨start1.p0, start1.e0, start1.about1, start1.theMethod, start1.args0, start1.below0, start1.atStart⟩
end Jvm.Pilot.@@N@@
