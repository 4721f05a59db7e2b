/- Walks: the laws' told, at an answer that is fine.
   Walks: gojq's index, toInt, clampIndex.
   Walks: gojq's funcIndex2, at keys that a straight path has.
   The memory words: slices of whatever elements; one that a call appends to, whatever is appended.
   The memory words: slices of values, of paths, of spots.
   Walks: the laws' straight and given.
   Walks: spec.Num, spec.Str, spec.Each.
   Walks: gojq's funcGetpath, at straight paths.
   Walks: gojq's ZzGetPath.
   Walks: impl.GetPath.
   The plain law of spec.Ways: the paths to all that is within a value. -/
import Derived.Test.YtfhppajnnbbcjaaGreatDoorGx6
import Derived.Test.YtfhppajnnbbcjaaGreatDoorGx2
import Derived.Test.YtfhppajnnbbcjaaGreatDoorGx1
import Derived.Deep.AppendSrc
import Derived.Test.YtfhppajnnbbcjaaGreatDoorGx3
import Derived.Test.YtfhppajnnbbcjaaGreatDoorGx5
import Derived.Deep.Light

section
namespace Go.Proofs.YtfhppajnnbbcjaaGreatDoor
open Go.RowKit

def ToldPost (w : World) (b : Bool) (e : Ending) (w' : World) : Prop := e = .returned (.bool b) ∧ Below w.heap.size w w'

set_option maxRecDepth 100000 in
theorem told_fine (a m : J) (D : Nat → Prop) (A1 A2 A3 : Option Addr) (c1 c2 c3 : Nat) (cm : List Value) (w : World) (wa : a.WF) (wm : m.WF) (hD : ∀ b, D b → All w b)
    (ha : SRep w D a [.int .i64 a.kind, .int .i64 a.half, .string a.text, .slice A1 a.list.length c1, .slice A2 a.keys.length c2, .slice A3 a.vals.length c3]) (hm : SRep w D m cm) :
    Calls Tryz.prog 11 #[.agg #[.int .i64 a.kind, .int .i64 a.half, .string a.text, .slice A1 a.list.length c1, .slice A2 a.keys.length c2, .slice A3 a.vals.length c3, .int .i64 0], .agg cm.toArray, .int .i64 0] w (ToldPost w (cmpJ a m == 0)) := by
  obtain ⟨B1, d1, B2, d2, B3, d3, rfl⟩ := SRep.six hm
  have hb : Below w.heap.size w ((w.alloc (.cells #[.int .i64 a.kind, .int .i64 a.half, .string a.text, .slice A1 a.list.length c1, .slice A2 a.keys.length c2, .slice A3 a.vals.length c3, .int .i64 0] 34)).alloc (.cells #[.int .i64 m.kind, .int .i64 m.half, .string m.text, .slice B1 m.list.length d1, .slice B2 m.keys.length d2, .slice B3 m.vals.length d3] 26)) :=
    ((Below.refl _ _).alloc (Nat.le_refl _) _).alloc (by simp) _
  have HC := Lib.hid (same_any a m D _ _ _ wa wm (fun b hb' => Nat.lt_of_lt_of_le (hD b hb') hb.size) (VRep.keep (Same.of_below hb hD) (fun _ h => h) _ _ ha) (VRep.keep (Same.of_below hb hD) (fun _ h => h) _ _ hm))
  have HB := Lib.hid hb
  clear hb ha hm hD
  obtain ⟨ok, hok⟩ : ∃ ok, (cmpJ a m == 0) = ok := ⟨_, rfl⟩
  rw [hok] at HC ⊢
  clear hok
  go_enter Tryz.func11, Tryz.ntmps11
  go_wp2_with fail
  refine HC.out.mono ?_
  clear HC
  rintro e w1 ⟨rfl, hb1⟩
  have HN : Hid (Below w.heap.size w w1) := HB.out.trans (hb1.mono HB.out.size)
  clear hb1
  go_wp2_with fail
  go_ret
  exact ⟨rfl, HN.out⟩

end Go.Proofs.YtfhppajnnbbcjaaGreatDoor
end

section
namespace Go.Proofs.YtfhppajnnbbcjaaGreatDoor
open Go.RowKit

theorem clampIndex_any (i m : Int) (w : World) (h0 : 0 ≤ i) : Calls Tryz.prog 239 #[.int .i64 i, .int .i64 (-1), .int .i64 m] w fun e w' => e = .returned (.int .i64 (if i < m then i else m)) ∧ w' = w := by
  have h1 : ¬ i < 0 := by omega
  have h2 : ¬ i < -1 := by omega
  by_cases h3 : i < m
  · rw [if_pos h3]
    go_enter Tryz.func239, Tryz.ntmps239
    go_wp2_with fail
    go_ret
    exact ⟨rfl, rfl⟩
  · rw [if_neg h3]
    go_enter Tryz.func239, Tryz.ntmps239
    go_wp2_with fail
    go_ret
    exact ⟨rfl, rfl⟩

theorem toInt_any (n : Int) (w : World) : Calls Tryz.prog 199 #[.iface 3 (.int .i64 n)] w fun e w' => e = .returned (.tuple #[.int .i64 n, .bool true]) ∧ w' = w := by
  go_enter Tryz.func199, Tryz.ntmps199
  go_wp2_with fail
  go_ret2
  exact ⟨rfl, rfl⟩

theorem index_any (l : List J) (D : Nat → Prop) (S : Value) (i : Int) (w : World) (h0 : 0 ≤ i) (hS : SlAt D l.length S (fun b o => ARow w D b l o)) :
    Calls Tryz.prog 200 #[S, .int .i64 i] w fun e w' => ∃ v, e = .returned v ∧ ARep w D ((l[i.toNat]?).getD .null) v ∧ w' = w := by
  obtain ⟨A, c, rfl, hc, hm, hr⟩ := hS
  have HC := Lib.hid (clampIndex_any i l.length w h0)
  obtain ⟨k, rfl⟩ : ∃ k : Nat, i = k := ⟨i.toNat, by omega⟩
  by_cases hk : k < l.length
  · obtain ⟨b, o, rfl, hb, hrow⟩ := hr (by omega)
    obtain ⟨x, hx⟩ : ∃ x, l[k]? = some x := ⟨_, List.getElem?_eq_getElem hk⟩
    obtain ⟨y, hy, hay⟩ := hrow.get hx
    have hk' : (k : Int) < l.length := by omega
    rw [if_pos hk'] at HC
    have HA := Lib.hid (show ARep w D ((l[(k : Int).toNat]?).getD .null) y by simpa [hx] using hay)
    clear hay hrow hr hx
    go_enter Tryz.func200, Tryz.ntmps200
    go_wp2_with fail
    refine HC.out.mono ?_
    rintro e w1 ⟨rfl, rfl⟩
    go_wp2_with fail
    go_ret
    exact ⟨_, rfl, HA.out, rfl⟩
  · have hk' : ¬ (k : Int) < l.length := by omega
    rw [if_neg hk'] at HC
    have HA := Lib.hid (show ARep w D ((l[(k : Int).toNat]?).getD .null) .nilIface by
      have : l[k]? = none := List.getElem?_eq_none (by omega)
      simp [this, ARep])
    clear hr
    go_enter Tryz.func200, Tryz.ntmps200
    go_wp2_with fail
    refine HC.out.mono ?_
    rintro e w1 ⟨rfl, rfl⟩
    go_wp2_with fail
    go_ret
    exact ⟨_, rfl, HA.out, rfl⟩

end Go.Proofs.YtfhppajnnbbcjaaGreatDoor
end

section
namespace Go.Proofs.YtfhppajnnbbcjaaGreatDoor
open Go.RowKit

/-- what stands at a key of an object -/
def lookJ : List ByteArray → List J → ByteArray → J
  | k :: ks, v :: vs, s => if k = s then v else lookJ ks vs s
  | _, _, _ => .null

theorem lookJ_hit : ∀ {ks : List ByteArray} {vs : List J} {s : ByteArray} {x : J} {i : Nat}, (∀ j, j < i → ks[j]? ≠ some s) → ks[i]? = some s → vs[i]? = some x → lookJ ks vs s = x
  | [], _, _, _, _, _, h, _ => by simp at h
  | _ :: _, [], _, _, _, _, _, h => by simp at h
  | k :: ks, v :: vs, s, x, 0, _, h, h' => by
    simp only [List.getElem?_cons_zero, Option.some.injEq] at h h'
    simp [lookJ, h, h']
  | k :: ks, v :: vs, s, x, i + 1, hb, h, h' => by
    have h0 := hb 0 (by omega)
    simp only [List.getElem?_cons_zero, ne_eq, Option.some.injEq] at h0
    simp only [List.getElem?_cons_succ] at h h'
    rw [lookJ, if_neg h0]
    exact lookJ_hit (fun j hj => by simpa using hb (j + 1) (by omega)) h h'

theorem lookJ_miss : ∀ {ks : List ByteArray} {vs : List J} {s : ByteArray}, s ∉ ks → lookJ ks vs s = .null
  | [], vs, _, _ => by cases vs <;> rfl
  | _ :: _, [], _, _ => rfl
  | k :: ks, v :: vs, s, h => by
    simp only [List.mem_cons, not_or] at h
    rw [lookJ, if_neg (fun e => h.1 e.symm)]
    exact lookJ_miss h.2

/-- a key of a straight path -/
def Key (k : J) : Prop := match k with
  | .str s => s.size ≤ 1048576
  | .num h => h % 2 = 0 ∧ 0 ≤ h
  | _ => False

/-- what stands at a key -/
def stepJ (x k : J) : Option J := match x, k with
  | .null, _ => some .null
  | .arr l, .num h => some ((l[(h / 2).toNat]?).getD .null)
  | .obj ks vs, .str s => some (lookJ ks vs s)
  | _, _ => none

def box3 (x : J) : Prop := match x with
  | .null => True
  | .arr _ => True
  | .obj _ _ => True
  | _ => False

def StepPost (D : Nat → Prop) (x k : J) (w : World) (e : Ending) (w' : World) : Prop := match stepJ x k with
  | some y => ∃ v, e = .returned v ∧ ARep w D y v ∧ w' = w
  | none => ∃ T v, e = .returned (.iface T v) ∧ (T = 205 ∨ T = 211) ∧ Below w.heap.size w w'

set_option maxRecDepth 100000 in
theorem index2_null (k : J) (D : Nat → Prop) (kv : Value) (w : World) (hk : Key k) (hkv : ARep w D k kv) : Calls Tryz.prog 151 #[.nilIface, .nilIface, kv] w (StepPost D .null k w) := by
  cases k with
  | str s =>
    rw [show kv = _ from hkv]
    go_enter Tryz.func151, Tryz.ntmps151
    go_wp2_with fail
    go_ret
    exact ⟨_, rfl, rfl, rfl⟩
  | num h =>
    have hkv' : kv = .iface 3 (.int .i64 (h / 2)) := by rw [show kv = numV h from hkv]; unfold numV; rw [if_pos hk.1]
    rw [hkv']
    have HT := Lib.hid (toInt_any (h / 2) w)
    go_enter Tryz.func151, Tryz.ntmps151
    go_wp2_with fail
    refine HT.out.mono ?_
    rintro e w1 ⟨rfl, rfl⟩
    go_wp2_with fail
    go_ret
    exact ⟨_, rfl, rfl, rfl⟩
  | _ => exact hk.elim

set_option maxRecDepth 100000 in
theorem index2_arr (l : List J) (k : J) (D : Nat → Prop) (xv kv : Value) (w : World) (hk : Key k) (hxv : ARep w D (.arr l) xv) (hkv : ARep w D k kv) : Calls Tryz.prog 151 #[.nilIface, xv, kv] w (StepPost D (.arr l) k w) := by
  obtain ⟨S, rfl, hS⟩ := hxv
  cases k with
  | str s =>
    rw [show kv = _ from hkv]
    clear hS
    go_enter Tryz.func151, Tryz.ntmps151
    go_wp2_with fail
    go_ret
    exact ⟨205, _, rfl, .inl rfl, (Below.refl _ _).alloc (Nat.le_refl _) _⟩
  | num h =>
    have hkv' : kv = .iface 3 (.int .i64 (h / 2)) := by rw [show kv = numV h from hkv]; unfold numV; rw [if_pos hk.1]
    rw [hkv']
    have HT := Lib.hid (toInt_any (h / 2) w)
    have HI := Lib.hid (index_any l D S (h / 2) w (by have := hk.2; omega) hS)
    clear hS hk hkv hkv'
    go_enter Tryz.func151, Tryz.ntmps151
    go_wp2_with fail
    refine HT.out.mono ?_
    rintro e w1 ⟨rfl, rfl⟩
    go_wp2_with fail
    refine HI.out.mono ?_
    rintro e w2 ⟨v, rfl, hv, rfl⟩
    have HV := Lib.hid hv
    clear hv
    go_wp2_with fail
    go_ret
    exact ⟨_, rfl, HV.out, rfl⟩
  | _ => exact hk.elim

set_option maxRecDepth 100000 in
theorem index2_obj (ks : List ByteArray) (vs : List J) (k : J) (D : Nat → Prop) (xv kv : Value) (w : World) (wx : (J.obj ks vs).WF) (hk : Key k) (hxv : ARep w D (.obj ks vs) xv) (hkv : ARep w D k kv) : Calls Tryz.prog 151 #[.nilIface, xv, kv] w (StepPost D (.obj ks vs) k w) := by
  obtain ⟨r, xs, rfl, hr, hm, hl, ha⟩ := hxv
  simp only [J.WF] at wx
  cases k with
  | str s =>
    rw [show kv = _ from hkv]
    have key : ∃ v, (Instr.lookup 91 (.map (some r)) (.string s) false).run Tryz.prog w = .ok v w ∧ ARep w D (lookJ ks vs s) v := by
      by_cases hs : s ∈ ks
      · obtain ⟨i, hi, he⟩ := List.getElem_of_mem hs
        have hki : ks[i]? = some s := by rw [List.getElem?_eq_getElem hi, he]
        obtain ⟨x, hx⟩ : ∃ x, vs[i]? = some x := ⟨_, List.getElem?_eq_getElem (by omega)⟩
        obtain ⟨y, hy, hay⟩ := ha.get hx
        exact ⟨y, (hm.hit wx.2.2.2.1 hki hy hk).1, by rw [lookJ_hit (not_before wx.2.2.2.1 hki) hki hx]; exact hay⟩
      · exact ⟨.nilIface, (hm.miss hs hk).1, by rw [lookJ_miss hs]; rfl⟩
    obtain ⟨v, hrun, hv⟩ := key
    have HV := Lib.hid hv
    clear hv hm ha hl wx
    go_enter Tryz.func151, Tryz.ntmps151
    go_wp2_with fail
    go_ret
    exact ⟨_, rfl, HV.out, rfl⟩
  | num h =>
    have hkv' : kv = .iface 3 (.int .i64 (h / 2)) := by rw [show kv = numV h from hkv]; unfold numV; rw [if_pos hk.1]
    rw [hkv']
    have HT := Lib.hid (toInt_any (h / 2) w)
    clear hm ha hl wx hk hkv hkv'
    go_enter Tryz.func151, Tryz.ntmps151
    go_wp2_with fail
    refine HT.out.mono ?_
    rintro e w1 ⟨rfl, rfl⟩
    go_wp2_with fail
    go_ret
    exact ⟨211, _, rfl, .inr rfl, (Below.refl _ _).alloc (Nat.le_refl _) _⟩
  | _ => exact hk.elim

end Go.Proofs.YtfhppajnnbbcjaaGreatDoor
end

section
namespace Go.Proofs.YtfhppajnnbbcjaaGreatDoor
open Go.RowKit

/-- what an element of a slice stands for -/
structure El (X : Type) where
  ty : TypeId
  size : Nat
  bytes : Nat
  zero : Value
  info : (Tryz.prog.info? ty).map (fun i => (i.zero, i.size, i.bytes)) = some (some zero, size, bytes)
  zsize : zero.cells.size = size
  pos : 0 < size
  rep : World → (Nat → Prop) → X → List Value → Prop
  len : ∀ {w : World} {D : Nat → Prop} {x : X} {cs : List Value}, rep w D x cs → cs.length = size
  one : ∀ {w : World} {D : Nat → Prop} {x : X} {cs : List Value}, rep w D x cs → ∀ u ∈ cs, u.oneCell' = true
  keep : ∀ {w w' : World} {D D' : Nat → Prop} {x : X} {cs : List Value}, Same D w w' → (∀ b, D b → D' b) → rep w D x cs → rep w' D' x cs

variable {X : Type}

def Row (E : El X) (w : World) (D : Nat → Prop) (b : Nat) : List X → Nat → Prop
  | [], _ => True
  | x :: l, o => (∃ cs, (∀ i v, cs[i]? = some v → w.cell? ⟨b, o + i, none⟩ = some v) ∧ E.rep w D x cs) ∧ Row E w D b l (o + E.size)

theorem Row.keep {E : El X} {w w' : World} {D D' : Nat → Prop} (hs : Same D w w') (hB : ∀ b, D b → D' b) : ∀ (l : List X) (b o : Nat), D b → Row E w D b l o → Row E w' D' b l o
  | [], _, _, _, _ => trivial
  | x :: l, b, o, hb, hr => by
    obtain ⟨⟨cs, hc, hx⟩, hr⟩ := hr
    exact ⟨⟨cs, fun i v hi => (hs.cell hb).trans (hc i v hi), E.keep hs hB hx⟩, Row.keep hs hB l b (o + E.size) hb hr⟩

theorem Row.get {E : El X} {w : World} {D : Nat → Prop} {b : Nat} : ∀ {l : List X} {o i : Nat} {x : X}, Row E w D b l o → l[i]? = some x →
    ∃ cs, (∀ j v, cs[j]? = some v → w.cell? ⟨b, o + i * E.size + j, none⟩ = some v) ∧ E.rep w D x cs
  | [], _, _, _, _, h => by simp at h
  | a :: l, o, 0, x, hr, h => by
    obtain ⟨⟨cs, hc, hx⟩, _⟩ := hr
    simp at h
    subst h
    exact ⟨cs, by simpa using hc, hx⟩
  | a :: l, o, i + 1, x, hr, h => by
    obtain ⟨cs, hc, hx⟩ := Row.get (i := i) hr.2 (by simpa using h)
    refine ⟨cs, fun j v hj => ?_, hx⟩
    have := hc j v hj
    rwa [show o + (i + 1) * E.size + j = o + E.size + i * E.size + j by rw [Nat.add_mul]; omega]

abbrev Sl (E : El X) (w : World) (D : Nat → Prop) (l : List X) (v : Value) : Prop := SlAt D l.length v (fun b o => Row E w D b l o)

theorem Sl.keep {E : El X} {w w' : World} {D D' : Nat → Prop} {l : List X} {v : Value} (h : Sl E w D l v) (hs : Same D w w') (hB : ∀ b, D b → D' b) : Sl E w' D' l v :=
  h.mono hB fun b o hb hr => Row.keep hs hB l b o hb hr

theorem Sl.nil (E : El X) (w : World) (D : Nat → Prop) : Sl E w D [] (.slice none 0 0) := ⟨none, 0, rfl, Nat.le_refl _, by unfold maxLen; omega, fun h => absurd h (by simp)⟩

def Chunks (E : El X) (w : World) (D : Nat → Prop) : List X → List Value → Prop
  | [], xs => xs = []
  | x :: l, xs => ∃ cs r, xs = cs ++ r ∧ E.rep w D x cs ∧ Chunks E w D l r

theorem Chunks.length {E : El X} {w : World} {D : Nat → Prop} : ∀ {l : List X} {xs : List Value}, Chunks E w D l xs → xs.length = l.length * E.size
  | [], _, h => by simp [show _ = [] from h]
  | x :: l, _, h => by
    obtain ⟨cs, r, rfl, hx, hr⟩ := h
    rw [List.length_append, E.len hx, hr.length, List.length_cons, Nat.add_mul, Nat.one_mul, Nat.add_comm]

theorem Chunks.one {E : El X} {w : World} {D : Nat → Prop} : ∀ {l : List X} {xs : List Value}, Chunks E w D l xs → ∀ u ∈ xs, u.oneCell' = true
  | [], _, h, u, hu => by rw [show _ = [] from h] at hu; simp at hu
  | x :: l, _, h, u, hu => by
    obtain ⟨cs, r, rfl, hx, hr⟩ := h
    rcases List.mem_append.1 hu with h | h
    · exact E.one hx u h
    · exact hr.one u h

theorem Chunks.append {E : El X} {w : World} {D : Nat → Prop} {l2 : List X} {ys : List Value} (h2 : Chunks E w D l2 ys) : ∀ {l : List X} {xs : List Value}, Chunks E w D l xs → Chunks E w D (l ++ l2) (xs ++ ys)
  | [], _, h => by rw [show _ = [] from h]; exact h2
  | x :: l, _, h => by
    obtain ⟨cs, r, rfl, hx, hr⟩ := h
    exact ⟨cs, r ++ ys, by simp, hx, Chunks.append h2 hr⟩

theorem Chunks.keep {E : El X} {w w' : World} {D D' : Nat → Prop} (hs : Same D w w') (hD : ∀ b, D b → D' b) : ∀ {l : List X} {xs : List Value}, Chunks E w D l xs → Chunks E w' D' l xs
  | [], _, h => h
  | x :: l, _, h => by
    obtain ⟨cs, r, rfl, hx, hr⟩ := h
    exact ⟨cs, r, rfl, E.keep hs hD hx, Chunks.keep hs hD hr⟩

theorem Chunks.row {E : El X} {w : World} {D : Nat → Prop} {b : Nat} : ∀ {l : List X} {xs : List Value} {o : Nat}, Chunks E w D l xs → (∀ j u, xs[j]? = some u → w.cell? ⟨b, o + j, none⟩ = some u) → Row E w D b l o
  | [], _, _, _, _ => trivial
  | x :: l, _, o, h, hc => by
    obtain ⟨cs, r, rfl, hx, hr⟩ := h
    refine ⟨⟨cs, fun j u hj => hc j u ?_, hx⟩, Chunks.row hr fun j u hj => ?_⟩
    · rw [List.getElem?_append_left (List.getElem?_eq_some_iff.1 hj).1]; exact hj
    · have := hc (E.size + j) u (by rw [List.getElem?_append_right (by rw [E.len hx]; omega), E.len hx]; simpa using hj)
      rwa [show o + E.size + j = o + (E.size + j) by omega]

theorem Row.chunks {E : El X} {w : World} {D : Nat → Prop} {b : Nat} : ∀ {l : List X} {o : Nat}, Row E w D b l o → ∃ xs, (∀ j u, xs[j]? = some u → w.cell? ⟨b, o + j, none⟩ = some u) ∧ Chunks E w D l xs
  | [], _, _ => ⟨[], by simp, rfl⟩
  | x :: l, o, hr => by
    obtain ⟨⟨cs, hc, hx⟩, hr⟩ := hr
    obtain ⟨r, hr1, hr2⟩ := Row.chunks hr
    refine ⟨cs ++ r, fun j u hj => ?_, cs, r, rfl, hx, hr2⟩
    by_cases h : j < cs.length
    · rw [List.getElem?_append_left h] at hj; exact hc j u hj
    · rw [List.getElem?_append_right (by omega)] at hj
      have := hr1 _ u hj
      rwa [show o + E.size + (j - cs.length) = o + j by rw [← E.len hx]; omega] at this

/-- the slice value v, the call's own, holds the list l; its row lies from block base on; what its elements hold lies in D0 -/
def GG (E : El X) (w : World) (base : Nat) (D0 : Nat → Prop) (v : Value) (l : List X) : Prop :=
  ∃ xs, w.ownsRow base E.ty E.size v l.length xs ∧ Chunks E w (But D0 w v) l xs

theorem GG.nil (E : El X) (w : World) (base : Nat) (D0 : Nat → Prop) : GG E w base D0 (.slice none 0 0) [] := ⟨[], ⟨by simp, .inl ⟨rfl, rfl⟩⟩, rfl⟩

theorem GG.own_lt {E : El X} {w : World} {base : Nat} {D0 : Nat → Prop} {v : Value} {l : List X} (h : GG E w base D0 v l) : ∀ k, v.ownBlock = some k → base ≤ k ∧ k < w.heap.size := by
  obtain ⟨xs, ho, -⟩ := h
  exact ho.lt

theorem GG.form {E : El X} {w : World} {base : Nat} {D0 : Nat → Prop} {v : Value} {l : List X} (h : GG E w base D0 v l) : ∃ A c, v = .slice A l.length c := by
  obtain ⟨xs, ho, -⟩ := h
  rcases ho.2 with ⟨rfl, hn⟩ | ⟨g, cap, cur, hv, -⟩
  · exact ⟨none, 0, by rw [hn]⟩
  · exact ⟨_, _, hv⟩

/-- kept while other blocks are written -/
theorem GG.keep {E : El X} {w w' : World} {base : Nat} {D0 : Nat → Prop} {v : Value} {l : List X} (h : GG E w base D0 v l) (hsame : ∀ b, b < w.heap.size → D0 b ∨ base ≤ b → w'.heap[b]? = w.heap[b]?) (hsz : w.heap.size ≤ w'.heap.size) : GG E w' base D0 v l := by
  obtain ⟨xs, ho, hc⟩ := h
  refine ⟨xs, ?_, hc.keep (fun b hb => hsame b hb.2.1 (.inl hb.1)) (fun b hb => ⟨hb.1, Nat.lt_of_lt_of_le hb.2.1 hsz, hb.2.2⟩)⟩
  refine ⟨ho.1, ?_⟩
  rcases ho.2 with hn | ⟨g, cap, cur, hv, hg, hh, r⟩
  · exact .inl hn
  · exact .inr ⟨g, cap, cur, hv, hg, by rw [hsame g (box_lt hh) (.inr hg)]; exact hh, r⟩

theorem GG.below {E : El X} {w w' : World} {base : Nat} {D0 : Nat → Prop} {v : Value} {l : List X} (h : GG E w base D0 v l) (hb : Below w.heap.size w w') : GG E w' base D0 v l :=
  h.keep (fun b hlt _ => hb.block b hlt) hb.size

/-- read at the end -/
theorem GG.sl {E : El X} {w : World} {base : Nat} {D0 D : Nat → Prop} {v : Value} {l : List X} (h : GG E w base D0 v l) (h1 : ∀ b, D0 b → b < w.heap.size → D b) (h2 : ∀ b, base ≤ b → b < w.heap.size → D b) : Sl E w D l v := by
  obtain ⟨xs, ho, hc⟩ := h
  rcases ho.2 with ⟨rfl, hn⟩ | ⟨g, cap, cur, hv, hg, hh, hnc, hcm, -⟩
  · exact ⟨_, _, by rw [hn], by omega, by unfold maxLen; omega, fun h => absurd h (by omega)⟩
  · refine ⟨_, cap, hv, hnc, hcm, fun _ => ⟨g, 0, rfl, h2 g hg (box_lt hh), ?_⟩⟩
    refine Chunks.row (hc.keep (fun _ _ => rfl) (fun b hb => h1 b hb.1 hb.2.1)) fun j u hj => ?_
    have := ho.cells (g := g) (by rw [hv]; rfl) j u hj
    rwa [Addr.add_lit] at this

/-- a row that was just made whole: a literal -/
theorem GG.lit {E : El X} {w : World} {base : Nat} {D0 : Nat → Prop} {l : List X} {cs : List Value} {g : Nat} (hg : base ≤ g) (hh : w.heap[g]? = some (.cells cs.toArray E.ty (0, 0))) (hm : l.length ≤ maxLen)
    (hc : Chunks E w (fun b => D0 b ∧ b < w.heap.size ∧ b ≠ g) l cs) : GG E w base D0 (.slice (some ⟨g, 0, none⟩) l.length l.length) l := by
  have hl := hc.length
  refine ⟨cs, ⟨hl, .inr ⟨g, l.length, cs.toArray, rfl, hg, hh, Nat.le_refl _, hm, by simpa using hl, by simp [← hl]⟩⟩, hc.keep (fun _ _ => rfl) (fun b hb => ⟨hb.1, hb.2.1, by simp [Value.ownBlock]; exact hb.2.2⟩)⟩

theorem GG.append {E : El X} {t ty : TypeId} (ht : Tryz.prog.underlying t = some (.slice E.ty)) {w : World} {base : Nat} {D0 : Nat → Prop} {v u : Value} {l l2 : List X} (h : GG E w base D0 v l) (hu : SlAt (fun _ => True) l2.length u (fun b o => Row E w (But D0 w v) b l2 o))
    (hlen : l.length + l2.length ≤ maxLen) (hbytes : (l.length + l2.length) * E.bytes ≤ 140737488355328) (hbase : base ≤ w.heap.size) :
    ∃ A c w', (Builtin.append_ #[t, t] ty #[v, u]).run Tryz.prog w = .ok (.slice A (l.length + l2.length) c) w' ∧ GG E w' base D0 (.slice A (l.length + l2.length) c) (l ++ l2) ∧ w.grownBy w' v.ownBlock ∧
      ((Value.slice A (l.length + l2.length) c).ownBlock = v.ownBlock ∨ (Value.slice A (l.length + l2.length) c).ownBlock = some w.heap.size) := by
  obtain ⟨i, hi, hz, hs, hb⟩ := info_parts E.info
  obtain ⟨xs, hown, hch⟩ := h
  have fin : ∀ (v' : Value) (w' : World) (news : List Value), Chunks E w (But D0 w v) l2 news → w'.ownsRow base E.ty E.size v' (l.length + l2.length) (xs ++ news) → w.grownBy w' v.ownBlock → (v'.ownBlock = v.ownBlock ∨ v'.ownBlock = some w.heap.size) →
      (Builtin.append_ #[t, t] ty #[v, u]).run Tryz.prog w = .ok v' w' →
      ∃ A c w', (Builtin.append_ #[t, t] ty #[v, u]).run Tryz.prog w = .ok (.slice A (l.length + l2.length) c) w' ∧ GG E w' base D0 (.slice A (l.length + l2.length) c) (l ++ l2) ∧ w.grownBy w' v.ownBlock ∧
      ((Value.slice A (l.length + l2.length) c).ownBlock = v.ownBlock ∨ (Value.slice A (l.length + l2.length) c).ownBlock = some w.heap.size) := by
    intro v' w' news hn ho hg hat hrun
    obtain ⟨A, c, rfl⟩ : ∃ A c, v' = .slice A (l.length + l2.length) c := by
      rcases ho.2 with ⟨rfl, hn⟩ | ⟨g, cap, cur, hv, -⟩
      · exact ⟨none, 0, by rw [hn]⟩
      · exact ⟨_, _, hv⟩
    have hsame : Same (But D0 w v) w w' := fun b hb => hg.block b hb.2.1 hb.2.2
    have hD : ∀ b, But D0 w v b → But D0 w' (.slice A (l.length + l2.length) c) b := fun b hb => ⟨hb.1, Nat.lt_of_lt_of_le hb.2.1 hg.size, by
      rcases hat with e | e <;> rw [e]
      · exact hb.2.2
      · have := hb.2.1; simp; omega⟩
    exact ⟨A, c, w', hrun, ⟨xs ++ news, by rw [List.length_append]; exact ho, (Chunks.append hn hch).keep hsame hD⟩, hg, hat⟩
  obtain ⟨A2, c2, rfl, -, -, hr2⟩ := hu
  cases A2 with
  | none =>
    have h0 : l2 = [] := by
      cases l2 with
      | nil => rfl
      | cons a r => obtain ⟨b, o, hA, -⟩ := hr2 (by simp); cases hA
    subst h0
    have hr : (Builtin.append_ #[t, t] ty #[v, .slice none 0 c2]).run Tryz.prog w = .ok v w := by
      obtain ⟨A, c, rfl⟩ := GG.form ⟨xs, hown, hch⟩
      rcases hown.2 with ⟨e, -⟩ | ⟨g, cap, cur, e, -, hh, hnc, hcm, hcs, -⟩
      · rw [e]
        simp [Builtin.append_, run_underlying ht, sizeOf, typeInfo, hi, Builtin.lenOf, Builtin.firstCells]
      · obtain ⟨rfl, rfl⟩ : A = some ⟨g, 0, none⟩ ∧ c = cap := by simpa using e
        have := run_append_room_src (P := Tryz.prog) w t t ty E.ty i ht hi g 0 l.length c (.slice none 0 c2) 0 [] (Src.ofNil w ht c2) (by omega) (fun j hj => absurd hj (by simp)) (fun j hj => absurd hj (by simp))
        rw [this]
        rfl
    exact fin v w [] rfl (by simpa using hown) ⟨rfl, rfl, rfl, Nat.le_refl _, fun _ _ _ => rfl⟩ (.inl rfl) hr
  | some ad =>
    have hnews : ∃ news, (∀ j u, news[j]? = some u → w.cell? (ad.add j) = some u) ∧ Chunks E w (But D0 w v) l2 news := by
      by_cases h0 : 0 < l2.length
      · obtain ⟨b, o, hA, hb, hrow⟩ := hr2 h0
        obtain rfl := Option.some.inj hA
        obtain ⟨news, hn, hc⟩ := hrow.chunks
        exact ⟨news, fun j u hj => by rw [Addr.add_lit]; exact hn j u hj, hc⟩
      · have : l2 = [] := List.eq_nil_of_length_eq_zero (by omega)
        subst this
        exact ⟨[], by simp, rfl⟩
    obtain ⟨news, hn, hc⟩ := hnews
    obtain ⟨v', w', hrun, ho, hg, -, hat⟩ := run_append_own_at (P := Tryz.prog) w base t ty E.ty i E.zero E.size E.bytes ht hi hz hs hb E.zsize E.pos v l.length xs hown ad l2.length c2 news hc.length hn hc.one hlen hbytes hbase
    exact fin v' w' news hc ho hg hat hrun

/-- the literal of one element, as a slice -/
theorem lit_one {E : El X} {W : World} {D : Nat → Prop} {x : X} {cs : List Value} {g : Nat} {T : TypeId} (hh : W.heap[g]? = some (.cells cs.toArray T (0, 0))) (h : E.rep W D x cs) :
    SlAt (fun _ => True) [x].length (.slice (some ⟨g, 0, none⟩) 1 1) (fun b o => Row E W D b [x] o) :=
  ⟨_, _, rfl, Nat.le_refl _, by unfold maxLen; omega, fun _ => ⟨g, 0, rfl, trivial, ⟨⟨cs, fun i v hi => by rw [box_cell hh, Nat.zero_add]; simpa using hi, h⟩, trivial⟩⟩⟩

theorem Sl.loose {E : El X} {w : World} {D D' : Nat → Prop} {l : List X} {v : Value} (h : Sl E w D l v) (hD : ∀ b, D b → D' b) : SlAt (fun _ => True) l.length v (fun b o => Row E w D' b l o) :=
  h.mono (fun _ _ => trivial) fun b o hb hr => Row.keep (fun _ _ => rfl) hD l b o hb hr

/-- at the operation, for the walk -/
theorem wpList_append_G {ops : Array Oper} {rest : List Oper} {o : Oper} {a : Act} {Q : Exit → Act → World → Prop} {w : World} (hgd : o.guard = none) (s x : Operand) (t : TypeId)
    (ho : o.op = .call { callee := .builtin .append, args := #[s, x], argTypes := #[t, t] }) (E : El X) (ht : Tryz.prog.underlying t = some (.slice E.ty)) (base : Nat) (D0 : Nat → Prop) (l l2 : List X) (v u : Value) (hs : a.eval s = v) (hx : a.eval x = u)
    (hv : GG E w base D0 v l) (hu : SlAt (fun _ => True) l2.length u (fun b o => Row E w (But D0 w v) b l2 o)) (hlen : l.length + l2.length ≤ maxLen) (hbytes : (l.length + l2.length) * E.bytes ≤ 140737488355328) (hbase : base ≤ w.heap.size)
    (h : ∀ v' w', GG E w' base D0 v' (l ++ l2) → w.grownBy w' v.ownBlock → (v'.ownBlock = v.ownBlock ∨ v'.ownBlock = some w.heap.size) → wpList Tryz.prog ops Q rest (a.put o.dst v') w') :
    wpList Tryz.prog ops Q (o :: rest) a w := by
  refine wpList_plain hgd fun K hK => ?_
  obtain ⟨A, c, w', hr, h2, h3, h4⟩ := GG.append (ty := o.type) ht hv hu hlen hbytes hbase
  unfold Oper.wp execOp
  simp only [ho, resolve, invoke, builtin, Sem.run_bind, Sem.run_pure, Result.andThen_ok, List.map_toArray, List.map_cons, List.map_nil, hs, hx, hr]
  exact hK _ _ (h _ w' h2 h3 h4)

/-- .. at a step of a region that draws its order -/
theorem step_append_G {o : Oper} {a : Act} {K : Act → World → Prop} {Q : Exit → Act → World → Prop} {E0 : Prop} {w : World} {y : Nat → Option Bool} (hgd : o.guard = none) (s x : Operand) (t : TypeId)
    (ho : o.op = .call { callee := .builtin .append, args := #[s, x], argTypes := #[t, t] }) (E : El X) (ht : Tryz.prog.underlying t = some (.slice E.ty)) (base : Nat) (D0 : Nat → Prop) (l l2 : List X) (v u : Value) (hs : a.eval s = v) (hx : a.eval x = u)
    (hv : GG E w base D0 v l) (hu : SlAt (fun _ => True) l2.length u (fun b o => Row E w (But D0 w v) b l2 o)) (hlen : l.length + l2.length ≤ maxLen) (hbytes : (l.length + l2.length) * E.bytes ≤ 140737488355328) (hbase : base ≤ w.heap.size)
    (h : ∀ v' w', GG E w' base D0 v' (l ++ l2) → w.grownBy w' v.ownBlock → (v'.ownBlock = v.ownBlock ∨ v'.ownBlock = some w.heap.size) → K (a.put o.dst v') w') :
    if Region.wanted o y = true then Oper.wp Tryz.prog o a w K Q else E0 := by
  have hw : Region.wanted o y = true := by simp [Region.wanted, hgd]
  rw [if_pos hw]
  obtain ⟨A, c, w', hr, h2, h3, h4⟩ := GG.append (ty := o.type) ht hv hu hlen hbytes hbase
  unfold Oper.wp execOp
  simp only [ho, resolve, invoke, builtin, Sem.run_bind, Sem.run_pure, Result.andThen_ok, List.map_toArray, List.map_cons, List.map_nil, hs, hx, hr]
  exact h _ w' h2 h3 h4

end Go.Proofs.YtfhppajnnbbcjaaGreatDoor
end

section
namespace Go.Proofs.YtfhppajnnbbcjaaGreatDoor
open Go.RowKit

theorem Tryz.info23 : (Tryz.prog.info? 23).map (fun i => (i.zero, i.size, i.bytes)) = some (some (.slice none 0 0), 1, 24) := by kernel_rfl
theorem Tryz.info67 : (Tryz.prog.info? 67).map (fun i => (i.zero, i.size, i.bytes)) = some (some (.agg #[.slice none 0 0, .int .i64 0, .int .i64 0, .string ⟨#[]⟩, .slice none 0 0, .slice none 0 0, .slice none 0 0]), 7, 128) := by kernel_rfl

theorem SRep.one {w : World} {D : Nat → Prop} {a : J} {cs : List Value} (h : SRep w D a cs) : ∀ u ∈ cs, u.oneCell' = true := by
  obtain ⟨A1, c1, A2, c2, A3, c3, rfl⟩ := h.six
  intro u hu
  simp at hu
  rcases hu with rfl | rfl | rfl | rfl | rfl | rfl <;> rfl
theorem SRep.len6 {w : World} {D : Nat → Prop} {a : J} {cs : List Value} (h : SRep w D a cs) : cs.length = 6 := by
  obtain ⟨A1, c1, A2, c2, A3, c3, rfl⟩ := h.six
  rfl

def EJ : El J where
  ty := 26
  size := 6
  bytes := 104
  zero := _
  info := Tryz.info26
  zsize := rfl
  pos := by decide
  rep := fun w D x cs => SRep w D x cs
  len := fun h => h.len6
  one := fun h => h.one
  keep := fun hs hD h => VRep.keep hs hD _ _ h

theorem row_EJ {w : World} {D : Nat → Prop} {b : Nat} : ∀ {l : List J} {o : Nat}, Row EJ w D b l o ↔ VRow w D b (toVL l) o
  | [], _ => Iff.rfl
  | x :: l, o => by
    constructor
    · rintro ⟨⟨cs, hc, hx⟩, hr⟩
      exact ⟨⟨cs, SRep.len6 hx, hc, hx⟩, row_EJ.1 hr⟩
    · rintro ⟨⟨cs, -, hc, hx⟩, hr⟩
      exact ⟨⟨cs, hc, hx⟩, row_EJ.2 hr⟩

theorem slat_congr {D : Nat → Prop} {n : Nat} {v : Value} {R R' : Nat → Nat → Prop} (h : ∀ b o, R b o → R' b o) (hs : SlAt D n v R) : SlAt D n v R' := hs.mono (fun _ h => h) fun b o _ hr => h b o hr

/-- a slice of values -/
abbrev SlJ (w : World) (D : Nat → Prop) (l : List J) (v : Value) : Prop := SlAt D l.length v (fun b o => VRow w D b (toVL l) o)
theorem sl_EJ {w : World} {D : Nat → Prop} {l : List J} {v : Value} : Sl EJ w D l v ↔ SlJ w D l v := ⟨slat_congr fun _ _ => row_EJ.1, slat_congr fun _ _ => row_EJ.2⟩
theorem SlJ.keep {w w' : World} {D D' : Nat → Prop} {l : List J} {v : Value} (h : SlJ w D l v) (hs : Same D w w') (hB : ∀ b, D b → D' b) : SlJ w' D' l v := sl_EJ.1 ((sl_EJ.2 h).keep hs hB)
theorem SlJ.nil (w : World) (D : Nat → Prop) : SlJ w D [] (.slice none 0 0) := sl_EJ.1 (Sl.nil EJ w D)
theorem SlAt.form {D : Nat → Prop} {n : Nat} {v : Value} {R : Nat → Nat → Prop} (h : SlAt D n v R) : ∃ A c, v = .slice A n c := by
  obtain ⟨A, c, hv, -⟩ := h
  exact ⟨A, c, hv⟩

/-- a path -/
def EP : El (List J) where
  ty := 23
  size := 1
  bytes := 24
  zero := _
  info := Tryz.info23
  zsize := rfl
  pos := by decide
  rep := fun w D p cs => ∃ S, cs = [S] ∧ SlJ w D p S
  len := fun ⟨_, h, _⟩ => by rw [h]; rfl
  one := fun ⟨S, h, hS⟩ u hu => by
    obtain ⟨A, c, rfl⟩ := hS.form
    rw [h] at hu
    simp at hu
    subst hu
    rfl
  keep := fun hs hD ⟨S, h, hS⟩ => ⟨S, h, hS.keep hs hD⟩

/-- a path, and what stands there -/
def ES : El (List J × J) where
  ty := 67
  size := 7
  bytes := 128
  zero := _
  info := Tryz.info67
  zsize := rfl
  pos := by decide
  rep := fun w D x cs => ∃ S r, cs = S :: r ∧ SlJ w D x.1 S ∧ SRep w D x.2 r
  len := fun ⟨_, _, h, _, hr⟩ => by rw [h, List.length_cons, hr.len6]
  one := fun ⟨S, r, h, hS, hr⟩ u hu => by
    obtain ⟨A, c, rfl⟩ := hS.form
    rw [h] at hu
    rcases List.mem_cons.1 hu with rfl | hu
    · rfl
    · exact hr.one u hu
  keep := fun hs hD ⟨S, r, h, hS, hr⟩ => ⟨S, r, h, hS.keep hs hD, VRep.keep hs hD _ _ hr⟩

theorem Tryz.under23 : Tryz.prog.underlying 23 = some (.slice EJ.ty) := Tryz.underlying23
theorem Tryz.under41 : Tryz.prog.underlying 41 = some (.slice EP.ty) := Tryz.underlying41
theorem Tryz.under64 : Tryz.prog.underlying 64 = some (.slice ES.ty) := Tryz.underlying64

end Go.Proofs.YtfhppajnnbbcjaaGreatDoor
end

section
namespace Go.Proofs.YtfhppajnnbbcjaaGreatDoor
open Go.RowKit

/-- a key of a straight path, as the law tests it -/
def SKey (k : J) : Prop := match k with
  | .str _ => True
  | .num h => h % 2 = 0 ∧ 0 ≤ h ∧ h ≤ 200
  | _ => False

def StraightPost (l : List J) (w : World) (e : Ending) (w' : World) : Prop := ∃ b, e = .returned (.bool b) ∧ (b = true → (∀ k ∈ l, SKey k) ∧ l.length ≤ 20) ∧ Below w.heap.size w w'

theorem skey_snoc {l : List J} {k : Nat} {x : J} (h : ∀ y ∈ l.take k, SKey y) (hx : l[k]? = some x) (hs : SKey x) : ∀ y ∈ l.take (k + 1), SKey y := by
  rw [take_snoc' hx]
  intro y hy
  rcases List.mem_append.1 hy with h1 | h1
  · exact h y h1
  · simp at h1; subst h1; exact hs

set_option maxHeartbeats 1000000 in
set_option maxRecDepth 100000 in
theorem straight_any (l : List J) (D : Nat → Prop) (S : Value) (w : World) (hS : SlJ w D l S) (hD : ∀ b, D b → All w b) : Calls Tryz.prog 18 #[S] w (StraightPost l w) := by
  obtain ⟨A, c, rfl, hc, hm, hr⟩ := hS
  have hbd : l.length ≤ 9223372036854775807 := by unfold maxLen at hm; omega
  have HX := Lib.hid (And.intro hr hD)
  clear hr hD hm hc
  go_enter Tryz.func18, Tryz.ntmps18
  go_wp2_with fail
  go_loopw [7] (fun i wr => ∃ k : Nat, k ≤ l.length ∧ i = .int .i64 k ∧ Hid (Below w.heap.size w wr ∧ ∀ y ∈ l.take k, SKey y)) (fun i _ => l.length - (intOf i).toNat)
  case atStart => exact ⟨0, Nat.zero_le _, rfl, Below.refl _ _, by simp⟩
  case round =>
    obtain ⟨k, hk, rfl, HR⟩ := hrel
    by_cases ha : k < l.length
    · obtain ⟨b, o, rfl, hb, hrow⟩ := HX.out.1 (by omega)
      obtain ⟨x, hs⟩ : ∃ x, l[k]? = some x := ⟨_, List.getElem?_eq_getElem ha⟩
      obtain ⟨cs, h6, hcs, hxr⟩ := (VRow.keep (Same.of_below HR.out.1 HX.out.2) (fun _ h => h) _ _ _ hb hrow).get (toVL_get hs)
      have HKB : Hid (∀ o : Obj, SKey x → Hid (Below w.heap.size w (wr.alloc o) ∧ ∀ y ∈ l.take (k + 1), SKey y)) := fun o h => ⟨HR.out.1.alloc HR.out.1.size o, skey_snoc HR.out.2 hs h⟩
      cases x with
      | null =>
        obtain ⟨L, K, S, rfl, hL, hK, hS⟩ := SRep.cells hxr
        obtain ⟨A1, c1, rfl⟩ := hL.form
        obtain ⟨A2, c2, rfl⟩ := hK.form
        obtain ⟨A3, c3, rfl⟩ := hS.form
        have p0 : wr.cell? ⟨b, o + k * 6, none⟩ = some (.int .i64 0) := hcs 0 _ rfl
        have p1 : wr.cell? ⟨b, o + k * 6 + 1, none⟩ = some (.int .i64 0) := hcs 1 _ rfl
        have p2 : wr.cell? ⟨b, o + k * 6 + 2, none⟩ = some (.string noText) := hcs 2 _ rfl
        have p3 : wr.cell? ⟨b, o + k * 6 + 3, none⟩ = some _ := hcs 3 _ rfl
        have p4 : wr.cell? ⟨b, o + k * 6 + 4, none⟩ = some _ := hcs 4 _ rfl
        have p5 : wr.cell? ⟨b, o + k * 6 + 5, none⟩ = some _ := hcs 5 _ rfl
        clear hcs hxr hL hK hS hrow hs HKB
        go_wp2_with fail
        go_ret
        exact ⟨_, rfl, (fun h => nomatch h), HR.out.1.alloc HR.out.1.size _⟩
      | arr m =>
        obtain ⟨L, K, S, rfl, hL, hK, hS⟩ := SRep.cells hxr
        obtain ⟨A1, c1, rfl⟩ := hL.form
        obtain ⟨A2, c2, rfl⟩ := hK.form
        obtain ⟨A3, c3, rfl⟩ := hS.form
        have p0 : wr.cell? ⟨b, o + k * 6, none⟩ = some (.int .i64 5) := hcs 0 _ rfl
        have p1 : wr.cell? ⟨b, o + k * 6 + 1, none⟩ = some (.int .i64 0) := hcs 1 _ rfl
        have p2 : wr.cell? ⟨b, o + k * 6 + 2, none⟩ = some (.string noText) := hcs 2 _ rfl
        have p3 : wr.cell? ⟨b, o + k * 6 + 3, none⟩ = some _ := hcs 3 _ rfl
        have p4 : wr.cell? ⟨b, o + k * 6 + 4, none⟩ = some _ := hcs 4 _ rfl
        have p5 : wr.cell? ⟨b, o + k * 6 + 5, none⟩ = some _ := hcs 5 _ rfl
        clear hcs hxr hL hK hS hrow hs HKB
        go_wp2_with fail
        go_ret
        exact ⟨_, rfl, (fun h => nomatch h), HR.out.1.alloc HR.out.1.size _⟩
      | obj ks vs =>
        obtain ⟨L, K, S, rfl, hL, hK, hS⟩ := SRep.cells hxr
        obtain ⟨A1, c1, rfl⟩ := hL.form
        obtain ⟨A2, c2, rfl⟩ := hK.form
        obtain ⟨A3, c3, rfl⟩ := hS.form
        have p0 : wr.cell? ⟨b, o + k * 6, none⟩ = some (.int .i64 6) := hcs 0 _ rfl
        have p1 : wr.cell? ⟨b, o + k * 6 + 1, none⟩ = some (.int .i64 0) := hcs 1 _ rfl
        have p2 : wr.cell? ⟨b, o + k * 6 + 2, none⟩ = some (.string noText) := hcs 2 _ rfl
        have p3 : wr.cell? ⟨b, o + k * 6 + 3, none⟩ = some _ := hcs 3 _ rfl
        have p4 : wr.cell? ⟨b, o + k * 6 + 4, none⟩ = some _ := hcs 4 _ rfl
        have p5 : wr.cell? ⟨b, o + k * 6 + 5, none⟩ = some _ := hcs 5 _ rfl
        clear hcs hxr hL hK hS hrow hs HKB
        go_wp2_with fail
        go_ret
        exact ⟨_, rfl, (fun h => nomatch h), HR.out.1.alloc HR.out.1.size _⟩
      | bool bb =>
        obtain ⟨L, K, S, rfl, hL, hK, hS⟩ := SRep.cells hxr
        obtain ⟨A1, c1, rfl⟩ := hL.form
        obtain ⟨A2, c2, rfl⟩ := hK.form
        obtain ⟨A3, c3, rfl⟩ := hS.form
        cases bb
        · have p0 : wr.cell? ⟨b, o + k * 6, none⟩ = some (.int .i64 1) := hcs 0 _ rfl
          have p1 : wr.cell? ⟨b, o + k * 6 + 1, none⟩ = some (.int .i64 0) := hcs 1 _ rfl
          have p2 : wr.cell? ⟨b, o + k * 6 + 2, none⟩ = some (.string noText) := hcs 2 _ rfl
          have p3 : wr.cell? ⟨b, o + k * 6 + 3, none⟩ = some _ := hcs 3 _ rfl
          have p4 : wr.cell? ⟨b, o + k * 6 + 4, none⟩ = some _ := hcs 4 _ rfl
          have p5 : wr.cell? ⟨b, o + k * 6 + 5, none⟩ = some _ := hcs 5 _ rfl
          clear hcs hxr hL hK hS hrow hs HKB
          go_wp2_with fail
          go_ret
          exact ⟨_, rfl, (fun h => nomatch h), HR.out.1.alloc HR.out.1.size _⟩
        · have p0 : wr.cell? ⟨b, o + k * 6, none⟩ = some (.int .i64 2) := hcs 0 _ rfl
          have p1 : wr.cell? ⟨b, o + k * 6 + 1, none⟩ = some (.int .i64 0) := hcs 1 _ rfl
          have p2 : wr.cell? ⟨b, o + k * 6 + 2, none⟩ = some (.string noText) := hcs 2 _ rfl
          have p3 : wr.cell? ⟨b, o + k * 6 + 3, none⟩ = some _ := hcs 3 _ rfl
          have p4 : wr.cell? ⟨b, o + k * 6 + 4, none⟩ = some _ := hcs 4 _ rfl
          have p5 : wr.cell? ⟨b, o + k * 6 + 5, none⟩ = some _ := hcs 5 _ rfl
          clear hcs hxr hL hK hS hrow hs HKB
          go_wp2_with fail
          go_ret
          exact ⟨_, rfl, (fun h => nomatch h), HR.out.1.alloc HR.out.1.size _⟩
      | str s =>
        obtain ⟨L, K, S, rfl, hL, hK, hS⟩ := SRep.cells hxr
        obtain ⟨A1, c1, rfl⟩ := hL.form
        obtain ⟨A2, c2, rfl⟩ := hK.form
        obtain ⟨A3, c3, rfl⟩ := hS.form
        have p0 : wr.cell? ⟨b, o + k * 6, none⟩ = some (.int .i64 4) := hcs 0 _ rfl
        have p1 : wr.cell? ⟨b, o + k * 6 + 1, none⟩ = some (.int .i64 0) := hcs 1 _ rfl
        have p2 : wr.cell? ⟨b, o + k * 6 + 2, none⟩ = some (.string s) := hcs 2 _ rfl
        have p3 : wr.cell? ⟨b, o + k * 6 + 3, none⟩ = some _ := hcs 3 _ rfl
        have p4 : wr.cell? ⟨b, o + k * 6 + 4, none⟩ = some _ := hcs 4 _ rfl
        have p5 : wr.cell? ⟨b, o + k * 6 + 5, none⟩ = some _ := hcs 5 _ rfl
        clear hcs hxr hL hK hS hrow hs HR
        go_wp2_with fail
        go_roundw
        case rel => exact ⟨k + 1, by omega, by go_num, HKB.out _ trivial⟩
        case measure => simp [intOf]; omega
      | num h =>
        obtain ⟨L, K, S, rfl, hL, hK, hS⟩ := SRep.cells hxr
        obtain ⟨A1, c1, rfl⟩ := hL.form
        obtain ⟨A2, c2, rfl⟩ := hK.form
        obtain ⟨A3, c3, rfl⟩ := hS.form
        have p0 : wr.cell? ⟨b, o + k * 6, none⟩ = some (.int .i64 3) := hcs 0 _ rfl
        have p1 : wr.cell? ⟨b, o + k * 6 + 1, none⟩ = some (.int .i64 h) := hcs 1 _ rfl
        have p2 : wr.cell? ⟨b, o + k * 6 + 2, none⟩ = some (.string noText) := hcs 2 _ rfl
        have p3 : wr.cell? ⟨b, o + k * 6 + 3, none⟩ = some _ := hcs 3 _ rfl
        have p4 : wr.cell? ⟨b, o + k * 6 + 4, none⟩ = some _ := hcs 4 _ rfl
        have p5 : wr.cell? ⟨b, o + k * 6 + 5, none⟩ = some _ := hcs 5 _ rfl
        clear hcs hxr hL hK hS hrow hs
        by_cases e2 : h % 2 = 0
        · have t2 : (h.tmod 2 != 0) = false := by simpa using (tmod_two h).2 e2
          have t3 : (h % 2 != 0) = false := by simp [e2]
          by_cases e0 : h < 0
          · clear HKB e2
            go_wp2_with fail
            all_goals
              all_goals
                go_ret
                exact ⟨_, rfl, (fun h => nomatch h), HR.out.1.alloc HR.out.1.size _⟩
          · by_cases e1 : 200 < h
            · clear HKB e2
              go_wp2_with fail
              all_goals
                go_ret
                exact ⟨_, rfl, (fun h => nomatch h), HR.out.1.alloc HR.out.1.size _⟩
            · have HN := Lib.hid (fun o => HKB.out o ⟨e2, by omega, by omega⟩)
              clear HKB HR e2
              go_wp2_with fail
              all_goals
                go_roundw
                case rel => exact ⟨k + 1, by omega, by go_num, HN.out _⟩
                case measure => simp [intOf]; omega
        · have t2 : (h.tmod 2 != 0) = true := by simpa using fun h' => e2 ((tmod_two h).1 h')
          clear HKB e2
          go_wp2_with fail
          all_goals
            go_ret
            exact ⟨_, rfl, (fun h => nomatch h), HR.out.1.alloc HR.out.1.size _⟩
    · have hk' : k = l.length := by omega
      subst hk'
      have HF := Lib.hid (show Below w.heap.size w wr ∧ ∀ y ∈ l, SKey y from ⟨HR.out.1, by have := HR.out.2; rwa [List.take_length] at this⟩)
      clear HR
      by_cases h20 : l.length ≤ 20
      · go_wp2_with fail
        go_ret
        exact ⟨_, rfl, fun _ => ⟨HF.out.2, h20⟩, HF.out.1⟩
      · have t20 : ¬ ((l.length : Int) ≤ 20) := by omega
        go_wp2_with fail
        go_ret
        exact ⟨_, rfl, (fun h => by first | exact nomatch h | (simp at h; omega)), HF.out.1⟩

set_option maxRecDepth 100000 in
theorem given_fine (a m : J) (D : Nat → Prop) (A1 A2 A3 : Option Addr) (c1 c2 c3 : Nat) (cm : List Value) (w : World) (wa : a.WF) (wm : m.WF) (hD : ∀ b, D b → All w b)
    (ha : SRep w D a [.int .i64 a.kind, .int .i64 a.half, .string a.text, .slice A1 a.list.length c1, .slice A2 a.keys.length c2, .slice A3 a.vals.length c3]) (hm : SRep w D m cm) :
    Calls Tryz.prog 21 #[.agg #[.int .i64 a.kind, .int .i64 a.half, .string a.text, .slice A1 a.list.length c1, .slice A2 a.keys.length c2, .slice A3 a.vals.length c3, .int .i64 0], .agg cm.toArray] w (ToldPost w (cmpJ a m == 0)) := by
  obtain ⟨B1, d1, B2, d2, B3, d3, rfl⟩ := SRep.six hm
  have hb : Below w.heap.size w ((w.alloc (.cells #[.int .i64 a.kind, .int .i64 a.half, .string a.text, .slice A1 a.list.length c1, .slice A2 a.keys.length c2, .slice A3 a.vals.length c3, .int .i64 0] 34)).alloc (.cells #[.int .i64 m.kind, .int .i64 m.half, .string m.text, .slice B1 m.list.length d1, .slice B2 m.keys.length d2, .slice B3 m.vals.length d3] 26)) :=
    ((Below.refl _ _).alloc (Nat.le_refl _) _).alloc (by simp) _
  have HC := Lib.hid (told_fine a m D A1 A2 A3 c1 c2 c3 _ _ wa wm (fun b hb' => Nat.lt_of_lt_of_le (hD b hb') hb.size) (VRep.keep (Same.of_below hb hD) (fun _ h => h) _ _ ha) (VRep.keep (Same.of_below hb hD) (fun _ h => h) _ _ hm))
  have HB := Lib.hid hb
  clear hb ha hm hD
  obtain ⟨ok, hok⟩ : ∃ ok, (cmpJ a m == 0) = ok := ⟨_, rfl⟩
  rw [hok] at HC ⊢
  clear hok
  go_enter Tryz.func21, Tryz.ntmps21
  go_wp2_with fail
  refine HC.out.mono ?_
  clear HC
  rintro e w1 ⟨rfl, hb1⟩
  have HN : Hid (Below w.heap.size w w1) := HB.out.trans (hb1.mono HB.out.size)
  clear hb1
  go_wp2_with fail
  go_ret
  exact ⟨rfl, HN.out⟩

end Go.Proofs.YtfhppajnnbbcjaaGreatDoor
end

section
namespace Go.Proofs.YtfhppajnnbbcjaaGreatDoor
open Go.RowKit

def NumPost (i : Int) (w : World) (e : Ending) (w' : World) : Prop := e = .returned (.agg #[.int .i64 3, .int .i64 (2 * i), .string noText, .slice none 0 0, .slice none 0 0, .slice none 0 0]) ∧ Below w.heap.size w w'
def StrPost (s : ByteArray) (w : World) (e : Ending) (w' : World) : Prop := e = .returned (.agg #[.int .i64 4, .int .i64 0, .string s, .slice none 0 0, .slice none 0 0, .slice none 0 0]) ∧ Below w.heap.size w w'

set_option maxRecDepth 100000 in
theorem Num_any (i : Int) (w : World) (h0 : -4611686018427387904 ≤ i) (h1 : i ≤ 4611686018427387903) : Calls Tryz.prog 25 #[.int .i64 i] w (NumPost i w) := by
  have hw : IntKind.i64.wrap (2 * i) = 2 * i := by rw [IntKind.wrap_i64]; omega
  go_enter Tryz.func25, Tryz.ntmps25
  go_wp2_with fail
  refine bodyPost_ret (v := .agg #[.int .i64 3, .int .i64 (2 * i), .string noText, .slice none 0 0, .slice none 0 0, .slice none 0 0]) (by simp [results, Tryz.results25, go_sem]; rfl) rfl ?_
  refine ⟨rfl, ?_⟩
  repeat (refine Below.setCell ?_ (by simp) _)
  exact (Below.refl _ _).alloc (Nat.le_refl _) _

set_option maxRecDepth 100000 in
theorem Str_any (s : ByteArray) (w : World) : Calls Tryz.prog 34 #[.string s] w (StrPost s w) := by
  go_enter Tryz.func34, Tryz.ntmps34
  go_wp2_with fail
  refine bodyPost_ret (v := .agg #[.int .i64 4, .int .i64 0, .string s, .slice none 0 0, .slice none 0 0, .slice none 0 0]) (by simp [results, Tryz.results34, go_sem]) rfl ?_
  refine ⟨rfl, ?_⟩
  repeat (refine Below.setCell ?_ (by simp) _)
  exact (Below.refl _ _).alloc (Nat.le_refl _) _

end Go.Proofs.YtfhppajnnbbcjaaGreatDoor
end

section
namespace Go.Proofs.YtfhppajnnbbcjaaGreatDoor
open Go.RowKit

/-- is it null, an array or an object -/
def isBox : J → Bool
  | .null => true
  | .arr _ => true
  | .obj _ _ => true
  | _ => false

/-- what stands at a path -/
def getp : J → List J → Option J
  | x, [] => some x
  | x, k :: ps => if isBox x then (stepJ x k).bind fun y => getp y ps else none

theorem lookJ_WF : ∀ {ks : List ByteArray} {vs : List J} {s : ByteArray}, WFL vs → (lookJ ks vs s).WF
  | [], vs, _, _ => by cases vs <;> trivial
  | _ :: _, [], _, _ => trivial
  | k :: ks, v :: vs, s, h => by
    rw [lookJ]
    split
    · exact h.1
    · exact lookJ_WF h.2

theorem stepJ_WF {x k y : J} (h : stepJ x k = some y) (wx : x.WF) : y.WF := by
  cases x with
  | null => simp only [stepJ, Option.some.injEq] at h; subst h; trivial
  | arr l =>
    cases k <;> simp only [stepJ, Option.some.injEq, reduceCtorEq] at h
    subst h
    rename_i h'
    cases hq : l[(h' / 2).toNat]? with
    | none => trivial
    | some z => exact WFL_iff.1 wx.2 z (List.mem_of_getElem? hq)
  | obj ks vs =>
    cases k <;> simp only [stepJ, Option.some.injEq, reduceCtorEq] at h
    subst h
    exact lookJ_WF wx.2.2.2.2
  | _ => simp [stepJ] at h

theorem index2_any (x k : J) (D : Nat → Prop) (xv kv : Value) (w : World) (wx : x.WF) (hb : isBox x = true) (hk : Key k) (hxv : ARep w D x xv) (hkv : ARep w D k kv) : Calls Tryz.prog 151 #[.nilIface, xv, kv] w (StepPost D x k w) := by
  cases x with
  | null => rw [show xv = _ from hxv]; exact index2_null k D kv w hk hkv
  | arr l => exact index2_arr l k D xv kv w hk hxv hkv
  | obj ks vs => exact index2_obj ks vs k D xv kv w wx hk hxv hkv
  | _ => simp [isBox] at hb

def GetpPost (D : Nat → Prop) (x : J) (ps : List J) (w : World) (e : Ending) (w' : World) : Prop := match getp x ps with
  | some y => ∃ v, e = .returned v ∧ ARep w D y v ∧ w' = w
  | none => ∃ T v, e = .returned (.iface T v) ∧ (T = 159 ∨ T = 162) ∧ Below w.heap.size w w'

/-- what the type switch sees -/
theorem switch3 {w : World} {D : Nat → Prop} {x : J} {v : Value} (h : ARep w D x v) : (isBox x = true ∧ (v = .nilIface ∨ (∃ S, v = .iface 88 S) ∨ ∃ r, v = .iface 91 (.map (some r)))) ∨
    (isBox x = false ∧ ∃ T u, v = .iface T u ∧ T ≠ 88 ∧ T ≠ 91) := by
  cases x with
  | null => exact .inl ⟨rfl, .inl h⟩
  | arr l => obtain ⟨S, hv, -⟩ := h; exact .inl ⟨rfl, .inr (.inl ⟨S, hv⟩)⟩
  | obj ks vs => obtain ⟨r, xs, hv, -⟩ := h; exact .inl ⟨rfl, .inr (.inr ⟨r, hv⟩)⟩
  | bool b => exact .inr ⟨rfl, _, _, h, by decide, by decide⟩
  | str s => exact .inr ⟨rfl, _, _, h, by decide, by decide⟩
  | num n =>
    refine .inr ⟨rfl, ?_⟩
    rw [show v = numV n from h]
    unfold numV
    split
    · exact ⟨_, _, rfl, by decide, by decide⟩
    · exact ⟨_, _, rfl, by decide, by decide⟩

set_option maxHeartbeats 2000000 in
set_option maxRecDepth 100000 in
theorem getpath_any (x : J) (ps : List J) (D : Nat → Prop) (xv S : Value) (w : World) (wx : x.WF) (hps : ∀ k ∈ ps, Key k) (hn : ps.length ≤ 1048576) (hxv : ARep w D x xv) (hS : SlAt D ps.length S (fun b o => ARow w D b ps o)) :
    Calls Tryz.prog 98 #[xv, .iface 88 S] w (GetpPost D x ps w) := by
  obtain ⟨A, c, rfl, hc, hm, hr⟩ := hS
  unfold maxLen at hm
  have HX := Lib.hid (And.intro wx (And.intro hxv (And.intro hps hr)))
  have HSH : Hid (xv = .nilIface ∨ ∃ T u, xv = .iface T u) := by
    rcases switch3 hxv with ⟨-, h | ⟨S, h⟩ | ⟨r, h⟩⟩ | ⟨-, T, u, h, -⟩
    · exact .inl h
    · exact .inr ⟨_, _, h⟩
    · exact .inr ⟨_, _, h⟩
    · exact .inr ⟨_, _, h⟩
  clear wx hxv hps hr
  go_enter Tryz.func98, Tryz.ntmps98
  go_wp2_with fail
  go_loopw [0, 27] (fun v i wr => ∃ k : Nat, k ≤ ps.length ∧ i = .int .i64 k ∧ wr = w ∧ Hid (∃ y, y.WF ∧ ARep w D y v ∧ getp x ps = getp y (ps.drop k))) (fun _ i _ => ps.length - (intOf i).toNat)
  case atStart => exact ⟨0, Nat.zero_le _, rfl, rfl, x, HX.out.1, HX.out.2.1, rfl⟩
  case round =>
    obtain ⟨k, hk, rfl, rfl, hR⟩ := hrel
    by_cases ha : k < ps.length
    · obtain ⟨b, o, rfl, hb, hrow⟩ := HX.out.2.2.2 (by omega)
      obtain ⟨q, hq⟩ : ∃ q, ps[k]? = some q := ⟨_, List.getElem?_eq_getElem ha⟩
      obtain ⟨kv, hkc, hkv⟩ := hrow.get hq
      obtain ⟨y, wy, hy, hgp⟩ := hR.out
      have hdrop : ps.drop k = q :: ps.drop (k + 1) := by
        obtain ⟨hlt, rfl⟩ := List.getElem?_eq_some_iff.1 hq
        exact List.drop_eq_getElem_cons hlt
      rw [hdrop] at hgp
      have hqk : Key q := HX.out.2.2.1 q (List.mem_of_getElem? hq)
      rcases switch3 hy with ⟨hbx, hv⟩ | ⟨hbx, T, u, rfl, h88, h91⟩
      · have HI := Lib.hid (index2_any y q D _ kv wr wy hbx hqk hy hkv)
        have hg2 : getp x ps = (stepJ y q).bind fun z => getp z (ps.drop (k + 1)) := by rw [hgp, getp, if_pos hbx]
        have HG := Lib.hid (And.intro hg2 (And.intro wy ha))
        clear hR hrow hy hkv hgp hg2 hbx hqk hq hdrop wy
        rcases hv with rfl | ⟨S, rfl⟩ | ⟨r, rfl⟩
        all_goals
          go_wp2_with fail
          refine HI.out.mono ?_
          clear HI
          intro e w1 hpost
          unfold StepPost at hpost
          cases hst : stepJ y q with
          | some z =>
            rw [hst] at hpost
            obtain ⟨v', rfl, hv', rfl⟩ := hpost
            have hT := fun (x : TypeId) (W : World) => te_json hv' x W
            have HN := Lib.hid (show ∃ y, y.WF ∧ ARep w1 D y v' ∧ getp x ps = getp y (ps.drop (k + 1)) from ⟨z, stepJ_WF hst HG.out.2.1, hv', by rw [HG.out.1, hst]; rfl⟩)
            clear hv' hst
            go_wp2_with fail
            go_roundw
            case rel => exact ⟨k + 1, by have := HG.out.2.2; omega, by go_num, by trivial, HN⟩
            case measure => have := HG.out.2.2; simp [intOf]; omega
          | none =>
            rw [hst] at hpost
            obtain ⟨T, v', rfl, hT, hb1⟩ := hpost
            have HN := Lib.hid (And.intro hb1 (show getp x ps = none by rw [HG.out.1, hst]; rfl))
            clear hb1 hst
            have hsh := HSH.out
            rcases hsh with rfl | ⟨T0, u0, rfl⟩
            all_goals rcases hT with rfl | rfl
            all_goals
              go_wp2_with fail
              go_ret
              unfold GetpPost
              rw [HN.out.2]
              exact ⟨162, _, rfl, .inr rfl, HN.out.1.alloc (HN.out.1.size) _⟩
      · have HN := Lib.hid (show getp x ps = none by rw [hgp, getp, hbx]; rfl)
        clear hR hrow hy hkv hgp hbx hqk hq hdrop wy
        have hsh := HSH.out
        rcases hsh with rfl | ⟨T0, u0, rfl⟩
        all_goals
          go_wp2_with fail
          go_ret
          unfold GetpPost
          rw [HN.out]
          exact ⟨159, _, rfl, .inl rfl, (Below.refl _ _).alloc (Nat.le_refl _) _⟩
    · obtain ⟨y, wy, hy, hgp⟩ := hR.out
      have hk' : k = ps.length := by omega
      subst hk'
      rw [List.drop_length] at hgp
      have HN := Lib.hid (And.intro hy hgp)
      clear hR hy hgp wy
      go_wp2_with fail
      go_ret
      unfold GetpPost
      rw [HN.out.2]
      exact ⟨_, rfl, HN.out.1, rfl⟩

end Go.Proofs.YtfhppajnnbbcjaaGreatDoor
end

section
namespace Go.Proofs.YtfhppajnnbbcjaaGreatDoor
open Go.RowKit

theorem zzGetPath_any (x : J) (ps : List J) (D : Nat → Prop) (xv S : Value) (w : World) (wx : x.WF) (hps : ∀ k ∈ ps, Key k) (hn : ps.length ≤ 1048576) (hxv : ARep w D x xv) (hS : SlAt D ps.length S (fun b o => ARow w D b ps o)) :
    Calls Tryz.prog 53 #[xv, .iface 88 S] w (GetpPost D x ps w) := by
  have HC := Lib.hid (getpath_any x ps D xv S w wx hps hn hxv hS)
  clear hxv hS hps
  go_enter Tryz.func53, Tryz.ntmps53
  go_wp2_with fail
  refine HC.out.mono ?_
  clear HC
  intro e w1 hpost
  have HP := Lib.hid hpost
  unfold GetpPost at hpost
  have he : ∃ v, e = .returned v := by
    cases hg : getp x ps with
    | some y => rw [hg] at hpost; obtain ⟨v, hv, -⟩ := hpost; exact ⟨v, hv⟩
    | none => rw [hg] at hpost; obtain ⟨T, v, hv, -⟩ := hpost; exact ⟨_, hv⟩
  clear hpost
  obtain ⟨v, rfl⟩ := he
  go_wp2_with fail
  go_ret
  exact HP.out

end Go.Proofs.YtfhppajnnbbcjaaGreatDoor
end

section
namespace Go.Proofs.YtfhppajnnbbcjaaGreatDoor
open Go.RowKit

def GPPost (x : J) (ps : List J) (w : World) (e : Ending) (w' : World) : Prop := match getp x ps with
  | some y => ResOK y w e w'
  | none => ResErr w e w'

theorem getp_WF : ∀ {ps : List J} {x y : J}, getp x ps = some y → x.WF → y.WF
  | [], x, y, h, wx => by simp only [getp, Option.some.injEq] at h; subst h; exact wx
  | k :: ps, x, y, h, wx => by
    rw [getp] at h
    split at h
    · cases hs : stepJ x k with
      | none => rw [hs] at h; simp at h
      | some z =>
        rw [hs] at h
        exact getp_WF (show getp z ps = some y from h) (stepJ_WF hs wx)
    · simp at h

theorem getp_append : ∀ (ps qs : List J) (x : J), getp x (ps ++ qs) = (getp x ps).bind fun y => getp y qs
  | [], _, _ => rfl
  | k :: ps, qs, x => by
    rw [List.cons_append, getp, getp]
    split
    · cases hs : stepJ x k with
      | none => rfl
      | some z => exact getp_append ps qs z
    · rfl

end Go.Proofs.YtfhppajnnbbcjaaGreatDoor
end

section
namespace Go.Proofs.YtfhppajnnbbcjaaGreatDoor
open Go.RowKit

/-- the keys of the elements from index i on -/
def idxKeys : List J → Nat → List J
  | [], _ => []
  | _ :: l, i => .num (2 * i) :: idxKeys l (i + 1)

/-- what the elements of an array, or the values of an object, stand at -/
def keysJ (v : J) : List J := idxKeys v.list 0 ++ v.keys.map .str

/-- the elements of an array, or the values of an object -/
def eachJ (v : J) : List J := v.list ++ v.vals

mutual
/-- the paths, with p ahead of each -/
def waysJ (p : List J) : J → List (List J)
  | .arr l => p :: waysL p l 0
  | .obj ks vs => p :: waysK p ks vs
  | _ => [p]
def waysL (p : List J) : List J → Nat → List (List J)
  | [], _ => []
  | x :: l, i => waysJ (p ++ [.num (2 * i)]) x ++ waysL p l (i + 1)
def waysK (p : List J) : List ByteArray → List J → List (List J)
  | k :: ks, x :: l => waysJ (p ++ [.str k]) x ++ waysK p ks l
  | _, _ => []
end

/-- a path in v, p ahead of it -/
def PathIn (p : List J) (v : J) (q : List J) : Prop := ∃ r y, q = p ++ r ∧ (∀ k ∈ r, Key k) ∧ getp v r = some y

theorem PathIn.here (p : List J) (v : J) : PathIn p v p := ⟨[], v, by simp, by simp, rfl⟩

theorem PathIn.below {p q : List J} {v x k : J} (hk : Key k) (hb : isBox v = true) (hs : stepJ v k = some x) (h : PathIn (p ++ [k]) x q) : PathIn p v q := by
  obtain ⟨r, y, rfl, hr, hg⟩ := h
  refine ⟨k :: r, y, by simp, ?_, ?_⟩
  · intro k' hk'
    rcases List.mem_cons.1 hk' with rfl | hk'
    · exact hk
    · exact hr k' hk'
  · rw [getp, if_pos hb, hs]
    exact hg

mutual
theorem ways_in : ∀ (v : J) (p : List J), v.WF → ∀ q, q ∈ waysJ p v → PathIn p v q
  | .null, _, _, q, h => by simp only [waysJ, List.mem_singleton] at h; subst h; exact PathIn.here _ _
  | .bool b, _, _, q, h => by simp only [waysJ, List.mem_singleton] at h; subst h; exact PathIn.here _ _
  | .num n, _, _, q, h => by simp only [waysJ, List.mem_singleton] at h; subst h; exact PathIn.here _ _
  | .str s, _, _, q, h => by simp only [waysJ, List.mem_singleton] at h; subst h; exact PathIn.here _ _
  | .arr l, p, hw, q, h => by
    simp only [waysJ, List.mem_cons] at h
    rcases h with rfl | h
    · exact PathIn.here _ _
    · exact ways_inL l p l 0 (by simp) hw.2 q h
  | .obj ks vs, p, hw, q, h => by
    simp only [waysJ, List.mem_cons] at h
    simp only [J.WF] at hw
    rcases h with rfl | h
    · exact PathIn.here _ _
    · exact ways_inK vs p ks vs ks 0 (by simp) (by simp) hw.2.2.2.1 hw.2.2.1 hw.2.2.2.2 q h
theorem ways_inL : ∀ (l : List J) (p L : List J) (i : Nat), L.drop i = l → WFL l → ∀ q, q ∈ waysL p l i → PathIn p (.arr L) q
  | [], _, _, _, _, _, q, h => by simp [waysL] at h
  | x :: l, p, L, i, hd, hw, q, h => by
    have hx : L[i]? = some x := by
      have := congrArg (fun l => l[0]?) hd
      simpa using this
    simp only [waysL, List.mem_append] at h
    rcases h with h | h
    · refine PathIn.below (k := .num (2 * i)) ⟨by omega, by omega⟩ rfl ?_ (ways_in x _ hw.1 q h)
      simp only [stepJ]
      rw [show ((2 * (i : Int)) / 2).toNat = i by omega, hx]
      rfl
    · exact ways_inL l p L (i + 1) (by rw [← List.drop_drop, hd]; rfl) hw.2 q h
theorem ways_inK : ∀ (vs : List J) (p : List J) (KS : List ByteArray) (VS : List J) (ks : List ByteArray) (i : Nat), KS.drop i = ks → VS.drop i = vs → KS.Pairwise (fun a b => cmpB a b < 0) → (∀ s ∈ KS, s.size ≤ 1048576) → WFL vs → ∀ q, q ∈ waysK p ks vs → PathIn p (.obj KS VS) q
  | [], _, _, _, ks, _, _, _, _, _, _, q, h => by cases ks <;> simp [waysK] at h
  | x :: vs, p, KS, VS, ks, i, hd, hv, hs, hz, hw, q, h => by
    cases ks with
    | nil => simp [waysK] at h
    | cons k ks =>
      have hx : VS[i]? = some x := by
        have := congrArg (fun l => l[0]?) hv
        simpa using this
      have hk : KS[i]? = some k := by
        have := congrArg (fun l => l[0]?) hd
        simpa using this
      simp only [waysK, List.mem_append] at h
      rcases h with h | h
      · refine PathIn.below (k := .str k) (hz k (List.mem_of_getElem? hk)) rfl ?_ (ways_in x _ hw.1 q h)
        simp only [stepJ]
        rw [lookJ_hit (not_before hs hk) hk hx]
      · exact ways_inK vs p KS VS ks (i + 1) (by rw [← List.drop_drop, hd]; rfl) (by rw [← List.drop_drop, hv]; rfl) hs hz hw.2 q h
end

end Go.Proofs.YtfhppajnnbbcjaaGreatDoor
end
