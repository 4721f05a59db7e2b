/- Pure: the first and the last place at which a text or a list stands in another one: the two ways to tell it.
   Walks: spec.where at a list and a needle that is no list.
   Walks: spec.where at two lists.
   Walks: spec.where at two texts. -/
import Derived.Test.YtfhppajnnbbcjaaGreatDoorGy6
import Derived.Test.YtfhppajnnbbcjaaGreatDoorGy10

section
namespace Go.Proofs.YtfhppajnnbbcjaaGreatDoor
open Go.RowKit

def PickF (p : Nat → Bool) (n : Nat) : Option Nat → Prop
  | none => ∀ i, i < n → p i = false
  | some r => r < n ∧ p r = true ∧ ∀ i, i < r → p i = false
def PickL (p : Nat → Bool) (n : Nat) : Option Nat → Prop
  | none => ∀ i, i < n → p i = false
  | some r => r < n ∧ p r = true ∧ ∀ i, r < i → i < n → p i = false

theorem hits_succ (p : Nat → Bool) (n : Nat) : hits p (n + 1) = hits p n ++ (if p n then [.num (2 * (n : Int))] else []) := rfl

theorem hits_nil {p : Nat → Bool} : ∀ {n : Nat}, hits p n = [] → ∀ i, i < n → p i = false
  | 0, _, i, hi => by omega
  | n + 1, h, i, hi => by
    rw [hits_succ, List.append_eq_nil_iff] at h
    by_cases hn : i = n
    · subst hn
      cases hp : p i with
      | false => rfl
      | true => rw [hp] at h; simp at h
    · exact hits_nil h.1 i (by omega)

theorem hits_head {p : Nat → Bool} : ∀ {n : Nat} {j : J}, (hits p n)[0]? = some j → ∃ k, j = .num (2 * ((k : Nat) : Int)) ∧ PickF p n (some k)
  | 0, j, h => by simp [hits] at h
  | n + 1, j, h => by
    rw [hits_succ] at h
    by_cases h0 : hits p n = []
    · have hn := hits_nil h0
      rw [h0] at h
      cases hp : p n with
      | false => rw [hp] at h; simp at h
      | true =>
        rw [hp] at h
        simp at h
        exact ⟨n, h.symm, by omega, hp, hn⟩
    · rw [List.getElem?_append_left (by cases hh : hits p n <;> simp_all)] at h
      obtain ⟨k, hk, h1, h2, h3⟩ := hits_head h
      exact ⟨k, hk, by omega, h2, h3⟩

theorem hits_last {p : Nat → Bool} : ∀ {n : Nat} {j : J}, (hits p n)[(hits p n).length - 1]? = some j → ∃ k, j = .num (2 * ((k : Nat) : Int)) ∧ PickL p n (some k)
  | 0, j, h => by simp [hits] at h
  | n + 1, j, h => by
    rw [hits_succ] at h
    cases hp : p n with
    | false =>
      rw [hp] at h
      simp only [Bool.false_eq_true, if_false, List.append_nil] at h
      obtain ⟨k, hk, h1, h2, h3⟩ := hits_last h
      refine ⟨k, hk, by omega, h2, fun i h4 h5 => ?_⟩
      by_cases hn : i = n
      · subst hn; exact hp
      · exact h3 i h4 (by omega)
    | true =>
      rw [hp] at h
      simp at h
      exact ⟨n, h.symm, by omega, hp, fun i h4 h5 => by omega⟩

theorem first_pick {a b : List J} {p : Nat → Bool} {n : Nat} {r q : Option Nat} (h : IsFirst a b r) (k : PickF p n q) (hb : b ≠ []) (e : ∀ i, LAt a b i ↔ i < n ∧ p i = true) : r = q := by
  cases r with
  | none =>
    have hn : ∀ i, ¬ LAt a b i := h.resolve_left hb
    cases q with
    | none => rfl
    | some q => exact absurd ((e q).2 ⟨k.1, k.2.1⟩) (hn q)
  | some r =>
    obtain ⟨-, h1, h2⟩ := h
    obtain ⟨h3, h4⟩ := (e r).1 h1
    cases q with
    | none => rw [k r h3] at h4; cases h4
    | some q =>
      obtain ⟨k1, k2, k3⟩ := k
      have c1 : ¬ q < r := fun c => h2 q c ((e q).2 ⟨k1, k2⟩)
      have c2 : ¬ r < q := fun c => by rw [k3 r c] at h4; cases h4
      rw [show r = q by omega]

theorem last_pick {a b : List J} {p : Nat → Bool} {n : Nat} {r q : Option Nat} (h : IsLast a b r) (k : PickL p n q) (hb : b ≠ []) (e : ∀ i, LAt a b i ↔ i < n ∧ p i = true) : r = q := by
  cases r with
  | none =>
    have hn : ∀ i, ¬ LAt a b i := h.resolve_left hb
    cases q with
    | none => rfl
    | some q => exact absurd ((e q).2 ⟨k.1, k.2.1⟩) (hn q)
  | some r =>
    obtain ⟨-, h1, h2⟩ := h
    obtain ⟨h3, h4⟩ := (e r).1 h1
    cases q with
    | none => rw [k r h3] at h4; cases h4
    | some q =>
      obtain ⟨k1, k2, k3⟩ := k
      have c1 : ¬ r < q := fun c => h2 q c ((e q).2 ⟨k1, k2⟩)
      have c2 : ¬ q < r := fun c => by rw [k3 r c h3] at h4; cases h4
      rw [show r = q by omega]

theorem pL_at {a b : List J} {i : Nat} : LAt a b i ↔ i < a.length + 1 - b.length ∧ pL a b i = true := by
  unfold LAt pL
  constructor
  · rintro ⟨h1, h2⟩
    exact ⟨by omega, by rw [h2, cmpL_self]; rfl⟩
  · rintro ⟨h1, h2⟩
    exact ⟨by omega, cmpL_eq _ _ (by simpa using h2)⟩

theorem pE_at {a : List J} {y : J} {i : Nat} : LAt a [y] i ↔ i < a.length ∧ pE a y i = true := by
  unfold LAt pE
  by_cases hi : i < a.length
  · have hz : a[i]? = some a[i] := List.getElem?_eq_getElem hi
    have ht : (a.drop i).take 1 = [a[i]] := by
      rw [List.drop_eq_getElem_cons hi]; rfl
    rw [hz]
    simp only [List.length_singleton]
    constructor
    · rintro ⟨h1, h2⟩
      rw [ht] at h2
      rw [List.cons.inj h2 |>.1, cmpJ_self]
      exact ⟨hi, rfl⟩
    · rintro ⟨h1, h2⟩
      rw [ht, cmpJ_eq y _ (by simpa using h2)]
      exact ⟨by omega, rfl⟩
  · simp only [List.length_singleton]
    exact ⟨fun h => by omega, fun h => absurd h.1 hi⟩

/-! texts -/

theorem asc_get {s : ByteArray} (h : asc s = true) {i : Nat} (hi : i < s.size) : (s[i]'hi).toNat < 128 := by
  have := List.all_eq_true.1 h (s[i]'hi) (by
    have : s.data.toList[i]'(by simpa using hi) = s[i]'hi := rfl
    rw [← this]; exact List.getElem_mem _)
  simpa using this

theorem runesD_asc {s : ByteArray} (h : asc s = true) : ∀ f p, s.size ≤ f + p → runesD s f p = (s.data.toList.drop p).map (·.toNat)
  | 0, p, hf => by
    rw [List.drop_eq_nil_of_le (by simpa using hf)]; rfl
  | f + 1, p, hf => by
    rw [runesD_succ]
    by_cases hp : p < s.size
    · rw [if_pos hp, decode_ascii s p hp (asc_get h hp), runesD_asc h f (p + 1) (by omega), List.drop_eq_getElem_cons (i := p) (by simpa using hp)]
      rfl
    · rw [if_neg hp, List.drop_eq_nil_of_le (by simpa using hp)]; rfl

def byteJ (b : UInt8) : J := .num (2 * (b.toNat : Int))
theorem runesJ_asc {s : ByteArray} (h : asc s = true) : runesJ s = s.data.toList.map byteJ := by
  unfold runesJ
  rw [runesD_asc h s.size 0 (by omega), List.drop_zero, List.map_map]
  rfl

theorem byteJ_inj {a b : UInt8} (h : byteJ a = byteJ b) : a = b := by
  unfold byteJ at h
  have := J.num.inj h
  exact UInt8.toNat_inj.1 (by omega)

theorem map_byteJ_inj : ∀ {l m : List UInt8}, l.map byteJ = m.map byteJ → l = m
  | [], [], _ => rfl
  | [], b :: m, h => by simp at h
  | a :: l, [], h => by simp at h
  | a :: l, b :: m, h => by
    simp only [List.map_cons, List.cons.injEq] at h
    rw [byteJ_inj h.1, map_byteJ_inj h.2]

theorem at_list {s t : ByteArray} {i : Nat} : At s t i ↔ i + t.data.toList.length ≤ s.data.toList.length ∧ (s.data.toList.drop i).take t.data.toList.length = t.data.toList := by
  unfold At
  have h1 : s.data.toList.length = s.size := by simp
  have h2 : t.data.toList.length = t.size := by simp
  rw [h1, h2]
  have h3 : (s.extract i (i + t.size)).data.toList = (s.data.toList.drop i).take t.size := by
    rw [ByteArray.data_extract, Array.toList_extract, List.extract_eq_take_drop, Nat.add_sub_cancel_left]
  constructor
  · rintro ⟨h, e⟩
    exact ⟨h, by rw [← h3, e]⟩
  · rintro ⟨h, e⟩
    exact ⟨h, bytes_ext (by rw [h3, e])⟩

/-- behind the first byte that is not ASCII's a rune is not, either -/
theorem runesD_high {s : ByteArray} : ∀ f p, s.size ≤ f + p → (∃ q, p ≤ q ∧ ∃ h : q < s.size, 128 ≤ (s[q]'h).toNat) → ∃ r ∈ runesD s f p, 128 ≤ r
  | 0, p, hf, ⟨q, h1, h2, _⟩ => by omega
  | f + 1, p, hf, ⟨q, h1, h2, h3⟩ => by
    have hp : p < s.size := by omega
    rw [runesD_succ, if_pos hp]
    by_cases ha : (s[p]'hp).toNat < 128
    · rw [decode_ascii s p hp ha]
      have hne : p ≠ q := by rintro rfl; omega
      obtain ⟨r, hr, hr2⟩ := runesD_high f (p + 1) (by omega) ⟨q, by omega, h2, h3⟩
      exact ⟨r, List.mem_cons_of_mem _ hr, hr2⟩
    · exact ⟨_, List.mem_cons_self, (decode_high s p hp (by omega)).1⟩

theorem asc_false {s : ByteArray} (h : asc s = false) : ∃ q, ∃ h : q < s.size, 128 ≤ (s[q]'h).toNat := by
  unfold asc at h
  rw [List.all_eq_false] at h
  obtain ⟨b, hb, hn⟩ := h
  obtain ⟨q, hq, rfl⟩ := List.getElem_of_mem hb
  exact ⟨q, by simpa using hq, by
    have : 128 ≤ (s.data[q]'(by simpa using hq)).toNat := by simpa using hn
    exact this⟩

theorem runesJ_high {s : ByteArray} (h : asc s = false) : ∃ r : Nat, J.num (2 * (r : Int)) ∈ runesJ s ∧ 128 ≤ r := by
  obtain ⟨q, hq, hb⟩ := asc_false h
  obtain ⟨r, hr, h2⟩ := runesD_high s.size 0 (by omega) ⟨q, by omega, hq, hb⟩
  exact ⟨r, List.mem_map.2 ⟨r, hr, rfl⟩, h2⟩

theorem mem_asc {s : ByteArray} (h : asc s = true) {r : Nat} (hr : J.num (2 * (r : Int)) ∈ s.data.toList.map byteJ) : r < 128 := by
  obtain ⟨b, hb, e⟩ := List.mem_map.1 hr
  have h1 := List.all_eq_true.1 h b hb
  simp only [decide_eq_true_eq] at h1
  unfold byteJ at e
  have := J.num.inj e
  omega

theorem text_at {s t : ByteArray} (hs : asc s = true) {i : Nat} : LAt (runesJ s) (runesJ t) i ↔ At s t i := by
  rw [runesJ_asc hs]
  cases ht : asc t with
  | true =>
    rw [runesJ_asc ht, at_list]
    unfold LAt
    rw [List.length_map, List.length_map, ← List.map_drop, ← List.map_take]
    exact ⟨fun ⟨h1, h2⟩ => ⟨h1, map_byteJ_inj h2⟩, fun ⟨h1, h2⟩ => ⟨h1, by rw [h2]⟩⟩
  | false =>
    constructor
    · rintro ⟨h1, h2⟩
      obtain ⟨r, hr, h3⟩ := runesJ_high ht
      rw [← h2] at hr
      have := mem_asc hs (List.mem_of_mem_drop (List.mem_of_mem_take hr))
      omega
    · intro h
      rw [at_list] at h
      have h4 : asc t = true := by
        refine List.all_eq_true.2 fun b hb => ?_
        rw [← h.2] at hb
        exact List.all_eq_true.1 hs b (List.mem_of_mem_drop (List.mem_of_mem_take hb))
      rw [h4] at ht
      cases ht

theorem runesJ_ne {t : ByteArray} (h : t ≠ noText) : runesJ t ≠ [] := by
  have h0 : 0 < t.size := by
    rcases Nat.eq_zero_or_pos t.size with h0 | h0
    · exact absurd (bytes_ext (by
        show t.data.toList = _
        have : t.data.toList.length = 0 := by simpa using h0
        rw [List.eq_nil_of_length_eq_zero this]; rfl)) h
    · exact h0
  obtain ⟨f, hf⟩ : ∃ f, t.size = f + 1 := ⟨t.size - 1, by omega⟩
  unfold runesJ
  rw [hf, runesD_succ, if_pos (by omega)]
  simp

end Go.Proofs.YtfhppajnnbbcjaaGreatDoor
end

section
namespace Go.Proofs.YtfhppajnnbbcjaaGreatDoor
open Go.RowKit

theorem WRel.start (w : World) (csx csy : Array Value) : WRel [] w csx csy (.slice none 0 0) (((w.alloc (.cells csx 26)).alloc (.cells csy 26)).alloc (.cells zsix.toArray 26)) := by
  refine ⟨(((Below.refl _ _).alloc (Nat.le_refl _) _).alloc (by simp) _).alloc (by simp; omega) _, ?_, ?_, ?_, GG.nil _ _ _ _⟩
  · exact (Below.heap_alloc _ _ _ (by simp; omega)).trans ((Below.heap_alloc _ _ _ (by simp)).trans (heap_alloc_new w _))
  · exact (Below.heap_alloc _ _ _ (by simp)).trans (heap_alloc_new1 w _ _)
  · have := heap_alloc_new ((w.alloc (.cells csx 26)).alloc (.cells csy 26)) (.cells zsix.toArray 26)
    rwa [World.size_alloc, World.size_alloc] at this

theorem srep_num (w : World) (D : Nat → Prop) (h : Int) : SRep w D (.num h) [.int .i64 3, .int .i64 h, .string noText, .slice none 0 0, .slice none 0 0, .slice none 0 0] :=
  have e : ∀ R : Nat → Nat → Prop, SlAt D 0 (.slice none 0 0) R := fun R => ⟨none, 0, rfl, Nat.le_refl _, by unfold maxLen; omega, fun h => absurd h (by omega)⟩
  ⟨_, _, _, rfl, e _, e _, e _⟩

/-- what is answered: the first or the last of some places, or null -/
def wAns (fs : Bool) (l : List J) : J := (if fs then l[0]? else l[l.length - 1]?).getD .null

theorem spec_set {w wr W' : World} {j : J} {cs : List Value} (hr : SRep wr (fun b => w.heap.size + 3 ≤ b ∧ b < wr.heap.size) j cs) (hs : W'.heap.size = wr.heap.size) (hk : ∀ b, b ≠ w.heap.size + 1 + 1 → W'.heap[b]? = wr.heap[b]?)
    (hb : Below w.heap.size w W') {j' : J} (e : j' = j) : SpecPost j' 0 w (.returned (.tuple #[.agg cs.toArray, .int .i64 0])) W' := by
  subst e
  exact ⟨cs, rfl, VRep.keep (fun b hb => hk b (by omega)) (fun b hb => ⟨by omega, by omega⟩) _ _ hr, hb⟩

set_option maxRecDepth 100000 in
set_option maxHeartbeats 2000000 in
theorem where_elem (nm : ByteArray) (fs : Bool) (n1 : (nm.toList == [105, 110, 100, 105, 99, 101, 115]) = false) (n2 : (nm.toList == [105, 110, 100, 101, 120]) = fs) (a : List J) (y : J) (h0 : y.kind ≠ 0) (h5 : y.kind ≠ 5) (D : Nat → Prop) (cx cy : List Value) (w : World) (wx : (J.arr a).WF) (wy : y.WF) (hD : ∀ b, D b → All w b) (hx : SRep w D (.arr a) cx) (hy : SRep w D y cy) :
    Calls Tryz.prog 74 #[.string nm, .agg cx.toArray, .agg cy.toArray] w (SpecPost (wAns fs (hits (pE a y) a.length)) 0 w) := by
  obtain ⟨L, K, S, rfl, hL, hK, hS⟩ := hx.cells
  obtain ⟨A2, c2, rfl⟩ := hK.form
  obtain ⟨A3, c3, rfl⟩ := hS.form
  have hL0 := hL
  obtain ⟨A1, c1, rfl, hc1, hm1, hr1⟩ := hL
  have hy' := hy
  obtain ⟨B1, d1, B2, d2, B3, d3, rfl⟩ := SRep.six hy
  have k0 : (y.kind == 0) = false := by simp [h0]
  have k5 : (y.kind == 5) = false := by simp [h5]
  obtain ⟨p, hp⟩ : ∃ p : Nat → Bool, p = pE a y := ⟨_, rfl⟩
  rw [← hp]
  have HP := Lib.hid hp
  clear hp
  obtain ⟨yk, hyk⟩ : ∃ z, y.kind = z := ⟨_, rfl⟩
  obtain ⟨yh, hyh⟩ : ∃ z, y.half = z := ⟨_, rfl⟩
  obtain ⟨yt, hyt⟩ : ∃ z, y.text = z := ⟨_, rfl⟩
  obtain ⟨yl, hyl⟩ : ∃ z, y.list.length = z := ⟨_, rfl⟩
  obtain ⟨yks, hyks⟩ : ∃ z, y.keys.length = z := ⟨_, rfl⟩
  obtain ⟨yv, hyv⟩ : ∃ z, y.vals.length = z := ⟨_, rfl⟩
  rw [hyk] at h0 h5 k0 k5
  rw [hyk, hyh, hyt, hyl, hyks, hyv] at hy hy' ⊢
  change SlAt D a.length _ _ at hL0
  obtain ⟨csx, hcsx⟩ : ∃ cs : Array Value, #[Value.int .i64 5, .int .i64 0, .string noText, .slice A1 a.length c1, .slice A2 0 c2, .slice A3 0 c3] = cs := ⟨_, rfl⟩
  obtain ⟨csy, hcsy⟩ : ∃ cs : Array Value, #[Value.int .i64 yk, .int .i64 yh, .string yt, .slice B1 yl d1, .slice B2 yks d2, .slice B3 yv d3] = cs := ⟨_, rfl⟩
  have HW := Lib.hid (And.intro hr1 (And.intro wx (And.intro wy (And.intro hD (And.intro hy' (And.intro hcsx hcsy))))))
  clear hL0 hx hy hK hS h0 h5 hyk hyh hyt hyl hyks hyv hr1 wx wy hD hy' hcsx hcsy
  unfold maxLen at hm1
  have hz0 : (((w.alloc (.cells #[.int .i64 5, .int .i64 0, .string noText, .slice A1 a.length c1, .slice A2 0 c2, .slice A3 0 c3] 26)).alloc (.cells #[.int .i64 yk, .int .i64 yh, .string yt, .slice B1 yl d1, .slice B2 yks d2, .slice B3 yv d3] 26)).alloc (.cells #[.int .i64 0, .int .i64 0, .string ⟨#[]⟩, .slice none 0 0, .slice none 0 0, .slice none 0 0] 26)) = (((w.alloc (.cells csx 26)).alloc (.cells csy 26)).alloc (.cells zsix.toArray 26)) := by rw [← HW.out.2.2.2.2.2.1, ← HW.out.2.2.2.2.2.2]
  obtain ⟨W0, hW1⟩ : ∃ W, (((w.alloc (.cells #[.int .i64 5, .int .i64 0, .string noText, .slice A1 a.length c1, .slice A2 0 c2, .slice A3 0 c3] 26)).alloc (.cells #[.int .i64 yk, .int .i64 yh, .string yt, .slice B1 yl d1, .slice B2 yks d2, .slice B3 yv d3] 26)).alloc (.cells #[.int .i64 0, .int .i64 0, .string ⟨#[]⟩, .slice none 0 0, .slice none 0 0, .slice none 0 0] 26)) = W := ⟨_, rfl⟩
  have HR0 := Lib.hid (show WRel [] w csx csy (.slice none 0 0) W0 by rw [← hW1, hz0]; exact WRel.start w csx csy)
  have hW0 := Lib.hid hW1
  clear hz0 hW1
  change Calls Tryz.prog 74 #[.string nm, .agg #[.int .i64 5, .int .i64 0, .string noText, .slice A1 a.length c1, .slice A2 0 c2, .slice A3 0 c3], .agg #[.int .i64 yk, .int .i64 yh, .string yt, .slice B1 yl d1, .slice B2 yks d2, .slice B3 yv d3]] w _
  have hla : a.length ≤ 1048576 := HW.out.2.1.1
  go_enter Tryz.func74, Tryz.ntmps74
  go_wp2_with fail
  rw [hW0.out]
  clear hW0
  go_loopw [8, 112] (fun v i wr => ∃ (k : Nat) (v0 : Value), v0 = v ∧ k ≤ a.length ∧ i = .int .i64 k ∧ Hid (WRel (hits p k) w csx csy v0 wr)) (fun _ i _ => a.length - (intOf i).toNat)
  case atStart => exact ⟨0, _, rfl, Nat.zero_le _, rfl, HR0⟩
  case round =>
    obtain ⟨k, v, rfl, hk, rfl, hR⟩ := hrel
    by_cases ha : k < a.length
    · obtain ⟨hr1, wx, wy, hD, hy', hcsx, hcsy⟩ := HW.out
      obtain ⟨b1, o1, rfl, hlt1, hs1⟩ := hr1 (by show 0 < a.length; omega)
      have hbw := hR.out.1
      have hz : a[k]? = some a[k] := List.getElem?_eq_getElem ha
      obtain ⟨cs1, hl1, hg1, hv1⟩ := (VRow.keep (Same.of_below hbw hD) (fun _ h => h) _ _ _ hlt1 hs1).get (toVL_get hz)
      have hDr : ∀ b, D b → b < wr.heap.size := fun b hb => Nat.lt_of_lt_of_le (hD b hb) hbw.size
      have HC := Lib.hid (fun W (hW : Below wr.heap.size wr W) => same_any y a[k] D _ cs1 W wy (WFL_iff.1 wx.2 _ (List.getElem_mem _)) (fun b hb => Nat.lt_of_lt_of_le (hDr b hb) hW.size)
        (VRep.keep (Same.of_below (hbw.trans (hW.mono hbw.size)) hD) (fun _ h => h) _ _ hy') (VRep.keep (Same.of_below hW hDr) (fun _ h => h) _ _ hv1))
      obtain ⟨E1, e1, E2, e2, E3, e3, rfl⟩ := SRep.six hv1
      obtain ⟨z, hzz⟩ : ∃ z, a[k] = z := ⟨_, rfl⟩
      rw [hzz] at HC hg1 hv1 hz
      have HZ := Lib.hid (And.intro hz hv1)
      have p0 : wr.cell? ⟨b1, o1 + k * 6, none⟩ = _ := hg1 0 _ rfl
      have p1 := hg1 1 _ rfl
      have p2 := hg1 2 _ rfl
      have p3 := hg1 3 _ rfl
      have p4 := hg1 4 _ rfl
      have p5 := hg1 5 _ rfl
      have hbx := hR.out.2.2.1
      rw [← hcsy] at hbx
      have q0 : wr.cell? ⟨w.heap.size + 1, 0, none⟩ = _ := box_cell hbx 0
      have q1 : wr.cell? ⟨w.heap.size + 1, 1, none⟩ = _ := box_cell hbx 1
      have q2 : wr.cell? ⟨w.heap.size + 1, 2, none⟩ = _ := box_cell hbx 2
      have q3 : wr.cell? ⟨w.heap.size + 1, 3, none⟩ = _ := box_cell hbx 3
      have q4 : wr.cell? ⟨w.heap.size + 1, 4, none⟩ = _ := box_cell hbx 4
      have q5 : wr.cell? ⟨w.heap.size + 1, 5, none⟩ = _ := box_cell hbx 5
      have hlt := box_lt hbx
      clear hbx hz hzz hv1 hg1 hDr hbw hs1 hlt1 wx wy hD hy' hr1 hcsx hcsy
      obtain ⟨ok, hok⟩ : ∃ ok, (cmpJ y z == 0) = ok := ⟨_, rfl⟩
      rw [hok] at HC
      have HOK := Lib.hid (show p k = ok by rw [HP.out]; unfold pE; simp only [HZ.out.1]; exact hok)
      clear hok
      go_wp2_with fail
      refine (HC.out _ ((Below.refl _ _).alloc (Nat.le_refl _) _)).mono ?_
      clear HC
      rintro e w1 ⟨rfl, hb1⟩
      have HR1 := Lib.hid (hR.out.mono (((Below.refl _ _).alloc (Nat.le_refl _) _).trans (hb1.mono (by simp))))
      clear hR hb1 p0 p1 p2 p3 p4 p5 q0 q1 q2 q3 q4 q5 HZ
      cases ok
      · go_wp2_with fail
        have HK := Lib.hid (show WRel (hits p (k + 1)) w csx csy v w1 by
          unfold hits; rw [HOK.out]; simpa using HR1.out)
        clear HR1 HOK
        go_roundw
        case rel => exact ⟨k + 1, v, rfl, by omega, by go_num, HK⟩
        case measure => simp [intOf]; omega
      · go_wp2_with fail
        refine (Num_any k _ (by omega) (by omega)).mono ?_
        rintro e w2 ⟨rfl, hb2⟩
        have hhl := hits_length p k
        have HST := Lib.hid (HR1.out.step hb2 (x := .num (2 * (k : Int))) (fun W D => srep_num W D _))
        have HB2 := Lib.hid hb2
        clear hb2
        go_wp2_with (at_builtin; refine wpList_append_G rfl (.tmp 120) (.tmp 123) 23 rfl EJ Tryz.under23 (w.heap.size + 3) _ (hits p k) [.num (2 * (k : Int))] v _ rfl rfl HST.out.1 HST.out.2.1 ?c1 ?c2 HST.out.2.2 ?_)
        case c1 => simp [maxLen]; omega
        case c2 => simp [EJ]; omega
        intro v' w3 hg hgb _
        have HK := Lib.hid (show WRel (hits p (k + 1)) w csx csy v' w3 by
          unfold hits; rw [HOK.out]; exact HR1.out.grow HB2.out hg hgb)
        clear hg hgb HST HB2 HR1 HOK hhl
        go_wp2_with fail
        go_roundw
        case rel => exact ⟨k + 1, v', rfl, by omega, by go_num, HK⟩
        case measure => simp [intOf]; omega
    · have hk' : k = a.length := by omega
      subst hk'
      obtain ⟨A, c, hvs⟩ := hR.out.2.2.2.2.form
      subst hvs
      have hhl := hits_length p a.length
      obtain ⟨l, hl⟩ : ∃ l, hits p a.length = l := ⟨_, rfl⟩
      rw [hl] at hR hhl ⊢
      have HL := Lib.hid hl
      have hbx := hR.out.2.2.2.1
      have r0 : wr.cell? ⟨w.heap.size + 1 + 1, 0, none⟩ = _ := box_cell hbx 0
      have r1 : wr.cell? ⟨w.heap.size + 1 + 1, 1, none⟩ = _ := box_cell hbx 1
      have r2 : wr.cell? ⟨w.heap.size + 1 + 1, 2, none⟩ = _ := box_cell hbx 2
      have r3 : wr.cell? ⟨w.heap.size + 1 + 1, 3, none⟩ = _ := box_cell hbx 3
      have r4 : wr.cell? ⟨w.heap.size + 1 + 1, 4, none⟩ = _ := box_cell hbx 4
      have r5 : wr.cell? ⟨w.heap.size + 1 + 1, 5, none⟩ = _ := box_cell hbx 5
      have fz := box_frozen hbx
      have hlt := box_lt hbx
      clear hbx
      cases l with
      | nil =>
        simp only [List.length_nil]
        go_wp2_with fail
        refine bodyPost_ret (v := .tuple #[.agg zsix.toArray, .int .i64 0]) (by simp [results, Tryz.results74, go_sem, zsix, r0, r1, r2, r3, r4, r5]) rfl ?_
        refine spec_set (zsix_rep wr _) (by simp [World.setCell]) (fun b hb => by iterate 6 rw [heap_setCell_other _ _ _ _ hb]) (by
          repeat (refine Below.setCell ?_ (by simp; omega) _)
          exact hR.out.1) ?_
        rw [HL.out]; cases fs <;> rfl
      | cons b0 l0 =>
        obtain ⟨m, hm⟩ : ∃ m, (b0 :: l0).length = m + 1 := ⟨l0.length, rfl⟩
        rw [hm] at hhl ⊢
        have HM := Lib.hid hm
        have hsl := hR.out.2.2.2.2.sl (D := fun b => w.heap.size + 3 ≤ b ∧ b < wr.heap.size) (fun b h1 h2 => ⟨h1, h2⟩) (fun b h1 h2 => ⟨h1, h2⟩)
        obtain ⟨A', c', he, -, -, hr⟩ := hsl
        obtain ⟨b, o, hA, hb, hrow⟩ := hr (by simp)
        rw [hA] at he
        obtain ⟨rfl, -, rfl⟩ := Value.slice.inj he
        have HROW := Lib.hid (And.intro hb hrow)
        clear hl hm he hr hA hb hrow
        cases fs
        · obtain ⟨cs, hcs, hrep⟩ := Row.get (i := m) HROW.out.2 (x := (b0 :: l0)[m]'(by rw [HM.out]; omega)) (List.getElem?_eq_getElem _)
          simp only [EJ] at hcs hrep
          obtain ⟨j, hj⟩ : ∃ j, (b0 :: l0)[m]'(by rw [HM.out]; omega) = j := ⟨_, rfl⟩
          rw [hj] at hrep
          have HJ := Lib.hid (And.intro hj hrep)
          obtain ⟨E1, e1, E2, e2, E3, e3, rfl⟩ := SRep.six hrep
          have s0 : wr.cell? ⟨b, o + m * 6, none⟩ = _ := hcs 0 _ rfl
          have s1 := hcs 1 _ rfl
          have s2 := hcs 2 _ rfl
          have s3 := hcs 3 _ rfl
          have s4 := hcs 4 _ rfl
          have s5 := hcs 5 _ rfl
          clear hj hrep hcs
          go_wp2_with fail
          refine bodyPost_ret (v := .tuple #[.agg #[.int .i64 j.kind, .int .i64 j.half, .string j.text, .slice E1 j.list.length e1, .slice E2 j.keys.length e2, .slice E3 j.vals.length e3], .int .i64 0]) (by simp [results, Tryz.results74, go_sem, r0, r1, r2, r3, r4, r5]) rfl ?_
          refine spec_set HJ.out.2 (by simp [World.setCell]) (fun b hb => by iterate 6 rw [heap_setCell_other _ _ _ _ hb]) (by
          repeat (refine Below.setCell ?_ (by simp; omega) _)
          exact hR.out.1) ?_
          rw [HL.out]
          unfold wAns
          rw [HM.out]
          simp only [Bool.false_eq_true, if_false, Nat.add_sub_cancel]
          rw [List.getElem?_eq_getElem (by rw [HM.out]; omega), HJ.out.1]
          rfl
        · obtain ⟨cs, hcs, hrep⟩ := Row.get (i := 0) HROW.out.2 (x := (b0 :: l0)[0]'(by rw [HM.out]; omega)) (List.getElem?_eq_getElem _)
          simp only [EJ] at hcs hrep
          simp only [Nat.zero_mul, Nat.add_zero] at hcs
          obtain ⟨j, hj⟩ : ∃ j, (b0 :: l0)[0]'(by rw [HM.out]; omega) = j := ⟨_, rfl⟩
          rw [hj] at hrep
          have HJ := Lib.hid (And.intro hj hrep)
          obtain ⟨E1, e1, E2, e2, E3, e3, rfl⟩ := SRep.six hrep
          have s0 : wr.cell? ⟨b, o, none⟩ = _ := hcs 0 _ rfl
          have s1 := hcs 1 _ rfl
          have s2 := hcs 2 _ rfl
          have s3 := hcs 3 _ rfl
          have s4 := hcs 4 _ rfl
          have s5 := hcs 5 _ rfl
          clear hj hrep hcs
          go_wp2_with fail
          refine bodyPost_ret (v := .tuple #[.agg #[.int .i64 j.kind, .int .i64 j.half, .string j.text, .slice E1 j.list.length e1, .slice E2 j.keys.length e2, .slice E3 j.vals.length e3], .int .i64 0]) (by simp [results, Tryz.results74, go_sem, r0, r1, r2, r3, r4, r5]) rfl ?_
          refine spec_set HJ.out.2 (by simp [World.setCell]) (fun b hb => by iterate 6 rw [heap_setCell_other _ _ _ _ hb]) (by
          repeat (refine Below.setCell ?_ (by simp; omega) _)
          exact hR.out.1) ?_
          rw [HL.out, ← HJ.out.1]
          rfl
end Go.Proofs.YtfhppajnnbbcjaaGreatDoor
end

section
namespace Go.Proofs.YtfhppajnnbbcjaaGreatDoor
open Go.RowKit

theorem size26 (w : World) : (sizeOf 26).run Tryz.prog w = .ok 6 w := by
  obtain ⟨i, hi, hz, hs, hb⟩ := info_parts Tryz.info26
  simp [sizeOf, typeInfo, hi, hs]
theorem window6 (W : World) (b o n c k m : Nat) (hm : 0 < m) (hh : k + m ≤ c) :
    (Instr.slice 23 (.slice (some ⟨b, o, none⟩) n c) (some (.int .i64 (k : Int))) (some (.int .i64 ((k : Int) + (m : Int)))) none).run Tryz.prog W = .ok (.slice (some ⟨b, o + k * 6, none⟩) m (c - k)) W := by
  have ht' : Tryz.prog.underlying 23 = some (.slice (Tryz.prog.elem 23)) := by simp [Program.elem, Tryz.underlying23]
  have he : Tryz.prog.elem 23 = 26 := by simp [Program.elem, Tryz.underlying23]
  rw [run_slice_lh W 23 _ _ _ ht' .i64 .i64 _ _ (by omega) (by omega) (by omega), he, size26]
  have hne : ¬ c = k := by omega
  have e1 : ((k : Int) + (m : Int)).toNat = k + m := by omega
  have e2 : ((k : Int)).toNat = k := by omega
  rw [e1, e2]
  by_cases h0 : k = 0
  · subst h0
    simp [Result.andThen, sliced, Addr.add, hne]
  · have h6 : ¬ k * 6 = 0 := by omega
    simp [Result.andThen, sliced, Addr.add, hne]
    exact h6

set_option maxRecDepth 100000 in
set_option maxHeartbeats 2000000 in
theorem where_list (nm : ByteArray) (fs : Bool) (n1 : (nm.toList == [105, 110, 100, 105, 99, 101, 115]) = false) (n2 : (nm.toList == [105, 110, 100, 101, 120]) = fs) (a b : List J) (hb0 : b ≠ []) (D : Nat → Prop) (cx cy : List Value) (w : World) (wx : (J.arr a).WF) (wy : (J.arr b).WF) (hD : ∀ b, D b → All w b) (hx : SRep w D (.arr a) cx) (hy : SRep w D (.arr b) cy) :
    Calls Tryz.prog 74 #[.string nm, .agg cx.toArray, .agg cy.toArray] w (SpecPost (wAns fs (hits (pL a b) (a.length + 1 - b.length))) 0 w) := by
  obtain ⟨L, K, S, rfl, hL, hK, hS⟩ := hx.cells
  obtain ⟨A2, a2, rfl⟩ := hK.form
  obtain ⟨A3, a3, rfl⟩ := hS.form
  obtain ⟨A1, a1, rfl, hc1, hm1, hr1⟩ := hL
  obtain ⟨L, K, S, rfl, hL, hK, hS⟩ := hy.cells
  obtain ⟨B2, b2, rfl⟩ := hK.form
  obtain ⟨B3, b3, rfl⟩ := hS.form
  have hLy := hL
  obtain ⟨B1, b1, rfl, hc2, hm2, hr2⟩ := hL
  change a.length ≤ a1 at hc1
  change SlAt D b.length _ _ at hLy
  unfold maxLen at hm1 hm2
  have hla : a.length ≤ 1048576 := wx.1
  have hlb : b.length ≤ 1048576 := wy.1
  have hb1 : 0 < b.length := List.length_pos_iff.2 hb0
  obtain ⟨n, hn⟩ : ∃ n, a.length + 1 - b.length = n := ⟨_, rfl⟩
  rw [hn]
  have HN := Lib.hid hn
  have hnb : n ≤ a.length + 1 := by omega
  clear hn
  obtain ⟨p, hp⟩ : ∃ p : Nat → Bool, p = pL a b := ⟨_, rfl⟩
  rw [← hp]
  obtain ⟨csx, hcsx⟩ : ∃ cs : Array Value, #[Value.int .i64 5, .int .i64 0, .string noText, .slice A1 a.length a1, .slice A2 0 a2, .slice A3 0 a3] = cs := ⟨_, rfl⟩
  obtain ⟨csy, hcsy⟩ : ∃ cs : Array Value, #[Value.int .i64 5, .int .i64 0, .string noText, .slice B1 b.length b1, .slice B2 0 b2, .slice B3 0 b3] = cs := ⟨_, rfl⟩
  have HW := Lib.hid (And.intro hcsx (And.intro hcsy (And.intro hr1 (And.intro hLy (And.intro wx (And.intro wy (And.intro hD hp)))))))
  clear hx hy hK hS hLy hr1 hr2 hm2 hc2 wx wy hD hp hb0 hcsx hcsy
  have hz0 : (((w.alloc (.cells #[Value.int .i64 5, .int .i64 0, .string noText, .slice A1 a.length a1, .slice A2 0 a2, .slice A3 0 a3] 26)).alloc (.cells #[Value.int .i64 5, .int .i64 0, .string noText, .slice B1 b.length b1, .slice B2 0 b2, .slice B3 0 b3] 26)).alloc (.cells #[.int .i64 0, .int .i64 0, .string ⟨#[]⟩, .slice none 0 0, .slice none 0 0, .slice none 0 0] 26)) = (((w.alloc (.cells csx 26)).alloc (.cells csy 26)).alloc (.cells zsix.toArray 26)) := by rw [← HW.out.1, ← HW.out.2.1]
  obtain ⟨W0, hW1⟩ : ∃ W, (((w.alloc (.cells #[Value.int .i64 5, .int .i64 0, .string noText, .slice A1 a.length a1, .slice A2 0 a2, .slice A3 0 a3] 26)).alloc (.cells #[Value.int .i64 5, .int .i64 0, .string noText, .slice B1 b.length b1, .slice B2 0 b2, .slice B3 0 b3] 26)).alloc (.cells #[.int .i64 0, .int .i64 0, .string ⟨#[]⟩, .slice none 0 0, .slice none 0 0, .slice none 0 0] 26)) = W := ⟨_, rfl⟩
  have HR0 := Lib.hid (show WRel [] w csx csy (.slice none 0 0) W0 by rw [← hW1, hz0]; exact WRel.start w csx csy)
  have hW0 := Lib.hid hW1
  clear hz0 hW1
  change Calls Tryz.prog 74 #[.string nm, .agg #[Value.int .i64 5, .int .i64 0, .string noText, .slice A1 a.length a1, .slice A2 0 a2, .slice A3 0 a3], .agg #[Value.int .i64 5, .int .i64 0, .string noText, .slice B1 b.length b1, .slice B2 0 b2, .slice B3 0 b3]] w _
  go_enter Tryz.func74, Tryz.ntmps74
  go_wp2_with fail
  rw [hW0.out]
  clear hW0
  go_loopw [8, 10] (fun v i wr => ∃ (k : Nat) (v0 : Value), v0 = v ∧ k ≤ n ∧ i = .int .i64 k ∧ Hid (WRel (hits p k) w csx csy v0 wr)) (fun _ i _ => n - (intOf i).toNat)
  case atStart => exact ⟨0, _, rfl, Nat.zero_le _, rfl, HR0⟩
  case round =>
    obtain ⟨k, v, rfl, hk, rfl, hR⟩ := hrel
    have hbx := hR.out.2.1
    rw [← HW.out.1] at hbx
    have hby := hR.out.2.2.1
    rw [← HW.out.2.1] at hby
    have q0 : wr.cell? ⟨w.heap.size, 0, none⟩ = _ := box_cell hbx 0
    have q1 : wr.cell? ⟨w.heap.size, 1, none⟩ = _ := box_cell hbx 1
    have q2 : wr.cell? ⟨w.heap.size, 2, none⟩ = _ := box_cell hbx 2
    have q3 : wr.cell? ⟨w.heap.size, 3, none⟩ = _ := box_cell hbx 3
    have q4 : wr.cell? ⟨w.heap.size, 4, none⟩ = _ := box_cell hbx 4
    have q5 : wr.cell? ⟨w.heap.size, 5, none⟩ = _ := box_cell hbx 5
    have qy0 : wr.cell? ⟨w.heap.size + 1, 0, none⟩ = _ := box_cell hby 0
    have qy1 : wr.cell? ⟨w.heap.size + 1, 1, none⟩ = _ := box_cell hby 1
    have qy2 : wr.cell? ⟨w.heap.size + 1, 2, none⟩ = _ := box_cell hby 2
    have qy3 : wr.cell? ⟨w.heap.size + 1, 3, none⟩ = _ := box_cell hby 3
    have qy4 : wr.cell? ⟨w.heap.size + 1, 4, none⟩ = _ := box_cell hby 4
    have qy5 : wr.cell? ⟨w.heap.size + 1, 5, none⟩ = _ := box_cell hby 5
    have hlt := box_lt hby
    clear hbx hby
    by_cases ha : k + b.length ≤ a.length
    · obtain ⟨hr1, hLy, wx, wy, hD, hp⟩ := HW.out.2.2
      obtain ⟨bk1, o1, rfl, hlt1, hs1⟩ := hr1 (by show 0 < a.length; omega)
      have hbw := hR.out.1
      have hrow := VRow.keep (Same.of_below hbw hD) (fun _ h => h) _ _ _ hlt1 hs1
      have hsub : SlAt D ((a.drop k).take b.length).length (.slice (some ⟨bk1, o1 + k * 6, none⟩) b.length (a1 - k)) (fun b' o => VRow wr D b' (toVL ((a.drop k).take b.length)) o) := by
        have hl : ((a.drop k).take b.length).length = b.length := by rw [List.length_take, List.length_drop]; omega
        refine ⟨_, _, by rw [hl], by rw [hl]; omega, by unfold maxLen; omega, fun _ => ⟨bk1, o1 + k * 6, rfl, hlt1, ?_⟩⟩
        exact vrow_sub hrow k b.length
      have hDr : ∀ b, D b → b < wr.heap.size := fun b hb => Nat.lt_of_lt_of_le (hD b hb) hbw.size
      have HC := Lib.hid (fun W (hW : Below wr.heap.size wr W) => lists_all ((a.drop k).take b.length) b D _ _ W (WFL_take wx.2 k b.length) wy.2 (fun b hb => Nat.lt_of_lt_of_le (hDr b hb) hW.size)
        (SlJ.keep hsub (Same.of_below hW hDr) (fun _ h => h)) (SlJ.keep hLy (Same.of_below (hbw.trans (hW.mono hbw.size)) hD) (fun _ h => h)))
      have HP := Lib.hid hp
      obtain ⟨ok, hok⟩ : ∃ ok, (cmpL ((a.drop k).take b.length) b == 0) = ok := ⟨_, rfl⟩
      obtain ⟨nn, hnn⟩ : ∃ nn, cmpL ((a.drop k).take b.length) b = nn := ⟨_, rfl⟩
      rw [hnn] at HC hok
      have HOK := Lib.hid (show p k = ok by rw [HP.out]; unfold pL; rw [hnn]; exact hok)
      clear hr1 hLy wx wy hD hp hs1 hrow hsub hDr hbw hlt1 hnn HP
      have hk1 : k < n := by have := HN.out; omega
      have hwr : IntKind.i64.wrap ((k : Int) + (b.length : Int)) = (k : Int) + (b.length : Int) := by rw [IntKind.wrap_i64]; omega
      have hrun := fun W => window6 W bk1 o1 a.length a1 k b.length hb1 (by omega)
      go_wp2_with fail
      refine region_tail 11 (by kernel_rfl) (by kernel_rfl) ?_
      simp only [List.take_succ_cons, List.take_zero, List.drop_succ_cons, List.drop_zero]
      repeat still_step
      refine wpStill_nil ?_
      clear hrun hwr
      go_wp2_with fail
      refine (HC.out _ ?_).mono ?_
      · exact (Below.refl _ _).drew
      rintro e w1 ⟨rfl, hb1⟩
      have HR1 := Lib.hid (hR.out.mono ((Below.refl wr.heap.size wr).drew.trans (hb1.mono (Nat.le_refl _))))
      clear hR hb1 q0 q1 q2 q3 q4 q5 qy0 qy1 qy2 qy3 qy4 qy5 HC
      cases ok
      · go_wp2_with fail
        have HK := Lib.hid (show WRel (hits p (k + 1)) w csx csy v w1 by
          unfold hits; rw [HOK.out]; simpa using HR1.out)
        clear HR1 HOK
        go_roundw
        case rel => exact ⟨k + 1, v, rfl, by omega, by go_num, HK⟩
        case measure => simp [intOf]; omega
      · go_wp2_with fail
        refine (Num_any k _ (by omega) (by omega)).mono ?_
        rintro e w2 ⟨rfl, hb2⟩
        have hhl := hits_length p k
        have HST := Lib.hid (HR1.out.step hb2 (x := .num (2 * (k : Int))) (fun W D => srep_num W D _))
        have HB2 := Lib.hid hb2
        clear hb2
        go_wp2_with (at_builtin; refine wpList_append_G rfl (.tmp 100) (.tmp 103) 23 rfl EJ Tryz.under23 (w.heap.size + 3) _ (hits p k) [.num (2 * (k : Int))] v _ rfl rfl HST.out.1 HST.out.2.1 ?c1 ?c2 HST.out.2.2 ?_)
        case c1 => simp [maxLen]; omega
        case c2 => simp [EJ]; omega
        intro v' w3 hg hgb _
        have HK := Lib.hid (show WRel (hits p (k + 1)) w csx csy v' w3 by
          unfold hits; rw [HOK.out]; exact HR1.out.grow HB2.out hg hgb)
        clear hg hgb HST HB2 HR1 HOK hhl
        go_wp2_with fail
        go_roundw
        case rel => exact ⟨k + 1, v', rfl, by omega, by go_num, HK⟩
        case measure => simp [intOf]; omega
    · have hk' : k = n := by have := HN.out; omega
      clear HN
      subst hk'
      obtain ⟨A, c, hvs⟩ := hR.out.2.2.2.2.form
      subst hvs
      have hhl := hits_length p k
      obtain ⟨l, hl⟩ : ∃ l, hits p k = l := ⟨_, rfl⟩
      rw [hl] at hR hhl ⊢
      have HL := Lib.hid hl
      have hbx := hR.out.2.2.2.1
      have r0 : wr.cell? ⟨w.heap.size + 1 + 1, 0, none⟩ = _ := box_cell hbx 0
      have r1 : wr.cell? ⟨w.heap.size + 1 + 1, 1, none⟩ = _ := box_cell hbx 1
      have r2 : wr.cell? ⟨w.heap.size + 1 + 1, 2, none⟩ = _ := box_cell hbx 2
      have r3 : wr.cell? ⟨w.heap.size + 1 + 1, 3, none⟩ = _ := box_cell hbx 3
      have r4 : wr.cell? ⟨w.heap.size + 1 + 1, 4, none⟩ = _ := box_cell hbx 4
      have r5 : wr.cell? ⟨w.heap.size + 1 + 1, 5, none⟩ = _ := box_cell hbx 5
      have fz := box_frozen hbx
      have hlt := box_lt hbx
      clear hbx
      cases l with
      | nil =>
        simp only [List.length_nil]
        go_wp2_with fail
        refine bodyPost_ret (v := .tuple #[.agg zsix.toArray, .int .i64 0]) (by simp [results, Tryz.results74, go_sem, zsix, r0, r1, r2, r3, r4, r5]) rfl ?_
        refine spec_set (zsix_rep wr _) (by simp [World.setCell]) (fun b hb => by iterate 6 rw [heap_setCell_other _ _ _ _ hb]) (by
          repeat (refine Below.setCell ?_ (by simp; omega) _)
          exact hR.out.1) ?_
        rw [HL.out]; cases fs <;> rfl
      | cons b0 l0 =>
        obtain ⟨m, hm⟩ : ∃ m, (b0 :: l0).length = m + 1 := ⟨l0.length, rfl⟩
        rw [hm] at hhl ⊢
        have HM := Lib.hid hm
        have hsl := hR.out.2.2.2.2.sl (D := fun b => w.heap.size + 3 ≤ b ∧ b < wr.heap.size) (fun b h1 h2 => ⟨h1, h2⟩) (fun b h1 h2 => ⟨h1, h2⟩)
        obtain ⟨A', c', he, -, -, hr⟩ := hsl
        obtain ⟨b, o, hA, hb, hrow⟩ := hr (by simp)
        rw [hA] at he
        obtain ⟨rfl, -, rfl⟩ := Value.slice.inj he
        have HROW := Lib.hid (And.intro hb hrow)
        clear hl hm he hr hA hb hrow
        cases fs
        · obtain ⟨cs, hcs, hrep⟩ := Row.get (i := m) HROW.out.2 (x := (b0 :: l0)[m]'(by rw [HM.out]; omega)) (List.getElem?_eq_getElem _)
          simp only [EJ] at hcs hrep
          obtain ⟨j, hj⟩ : ∃ j, (b0 :: l0)[m]'(by rw [HM.out]; omega) = j := ⟨_, rfl⟩
          rw [hj] at hrep
          have HJ := Lib.hid (And.intro hj hrep)
          obtain ⟨E1, e1, E2, e2, E3, e3, rfl⟩ := SRep.six hrep
          have s0 : wr.cell? ⟨b, o + m * 6, none⟩ = _ := hcs 0 _ rfl
          have s1 := hcs 1 _ rfl
          have s2 := hcs 2 _ rfl
          have s3 := hcs 3 _ rfl
          have s4 := hcs 4 _ rfl
          have s5 := hcs 5 _ rfl
          clear hj hrep hcs
          go_wp2_with fail
          refine bodyPost_ret (v := .tuple #[.agg #[.int .i64 j.kind, .int .i64 j.half, .string j.text, .slice E1 j.list.length e1, .slice E2 j.keys.length e2, .slice E3 j.vals.length e3], .int .i64 0]) (by simp [results, Tryz.results74, go_sem, r0, r1, r2, r3, r4, r5]) rfl ?_
          refine spec_set HJ.out.2 (by simp [World.setCell]) (fun b hb => by iterate 6 rw [heap_setCell_other _ _ _ _ hb]) (by
            repeat (refine Below.setCell ?_ (by simp; omega) _)
            exact hR.out.1) ?_
          rw [HL.out]
          unfold wAns
          rw [HM.out]
          simp only [Bool.false_eq_true, if_false, Nat.add_sub_cancel]
          rw [List.getElem?_eq_getElem (by rw [HM.out]; omega), HJ.out.1]
          rfl
        · obtain ⟨cs, hcs, hrep⟩ := Row.get (i := 0) HROW.out.2 (x := (b0 :: l0)[0]'(by rw [HM.out]; omega)) (List.getElem?_eq_getElem _)
          simp only [EJ] at hcs hrep
          simp only [Nat.zero_mul, Nat.add_zero] at hcs
          obtain ⟨j, hj⟩ : ∃ j, (b0 :: l0)[0]'(by rw [HM.out]; omega) = j := ⟨_, rfl⟩
          rw [hj] at hrep
          have HJ := Lib.hid (And.intro hj hrep)
          obtain ⟨E1, e1, E2, e2, E3, e3, rfl⟩ := SRep.six hrep
          have s0 : wr.cell? ⟨b, o, none⟩ = _ := hcs 0 _ rfl
          have s1 := hcs 1 _ rfl
          have s2 := hcs 2 _ rfl
          have s3 := hcs 3 _ rfl
          have s4 := hcs 4 _ rfl
          have s5 := hcs 5 _ rfl
          clear hj hrep hcs
          go_wp2_with fail
          refine bodyPost_ret (v := .tuple #[.agg #[.int .i64 j.kind, .int .i64 j.half, .string j.text, .slice E1 j.list.length e1, .slice E2 j.keys.length e2, .slice E3 j.vals.length e3], .int .i64 0]) (by simp [results, Tryz.results74, go_sem, r0, r1, r2, r3, r4, r5]) rfl ?_
          refine spec_set HJ.out.2 (by simp [World.setCell]) (fun b hb => by iterate 6 rw [heap_setCell_other _ _ _ _ hb]) (by
            repeat (refine Below.setCell ?_ (by simp; omega) _)
            exact hR.out.1) ?_
          rw [HL.out, ← HJ.out.1]
          rfl
end Go.Proofs.YtfhppajnnbbcjaaGreatDoor
end

section
namespace Go.Proofs.YtfhppajnnbbcjaaGreatDoor
open Go.RowKit

theorem hits_gap {p : Nat → Bool} {k : Nat} : ∀ {n : Nat}, k ≤ n → (∀ j, k ≤ j → j < n → p j = false) → hits p n = hits p k
  | 0, h, _ => by rw [show k = 0 by omega]
  | n + 1, h, hj => by
    by_cases e : k = n + 1
    · rw [e]
    · rw [show hits p (n + 1) = hits p n ++ (if p n then [.num (2 * (n : Int))] else []) from rfl, hj n (by omega) (by omega), hits_gap (by omega) fun j h1 h2 => hj j h1 (by omega)]
      simp

def fm (n : Int) (z : Nat) : Nat := if n < 0 then 0 else z + 1 - n.toNat
/-- the next place from k on, as find tells it -/
def FNext (s t : ByteArray) (k : Nat) (n : Int) : Prop := (n = -1 ∧ ∀ i, k ≤ i → ¬ At s t i) ∨ ∃ i : Nat, n = i ∧ k ≤ i ∧ At s t i ∧ ∀ j, k ≤ j → j < i → ¬ At s t j
def FPost (s t : ByteArray) (k : Nat) (w : World) (e : Ending) (w' : World) : Prop := (∃ n : Int, e = .returned (.int .i64 n) ∧ FNext s t k n) ∧ w' = w
theorem find_next (s t : ByteArray) (k0 : Nat) (w : World) (hs : s.size ≤ 1048576) (ht : t.size ≤ 1048576) (hk : k0 ≤ 1048577) : Calls Tryz.prog 123 #[.string s, .string t, .int .i64 k0] w (FPost s t k0 w) := find_any s t k0 w hs ht hk
theorem pT_no {s t : ByteArray} {i : Nat} (h : ¬ At s t i) : pT s t i = false := by
  cases hp : pT s t i with
  | false => rfl
  | true => exact absurd (pT_iff.1 hp) h

set_option maxRecDepth 100000 in
set_option maxHeartbeats 2000000 in
theorem where_text (nm : ByteArray) (fs : Bool) (n1 : (nm.toList == [105, 110, 100, 105, 99, 101, 115]) = false) (n2 : (nm.toList == [105, 110, 100, 101, 120]) = fs) (s t : ByteArray) (ht : t ≠ noText) (ha : asc s = true) (D : Nat → Prop) (cx cy : List Value) (w : World) (wx : (J.str s).WF) (wy : (J.str t).WF) (hx : SRep w D (.str s) cx) (hy : SRep w D (.str t) cy) :
    Calls Tryz.prog 74 #[.string nm, .agg cx.toArray, .agg cy.toArray] w (SpecPost (wAns fs (hits (pT s t) s.size)) 0 w) := by
  obtain ⟨L, K, S, rfl, hL, hK, hS⟩ := hx.cells
  obtain ⟨A1, a1, rfl⟩ := hL.form
  obtain ⟨A2, a2, rfl⟩ := hK.form
  obtain ⟨A3, a3, rfl⟩ := hS.form
  obtain ⟨L, K, S, rfl, hL', hK', hS'⟩ := hy.cells
  obtain ⟨B1, b1, rfl⟩ := hL'.form
  obtain ⟨B2, b2, rfl⟩ := hK'.form
  obtain ⟨B3, b3, rfl⟩ := hS'.form
  simp only [J.kind, J.half, J.text, J.list, J.keys, J.vals, List.length_nil]
  have hla : s.size ≤ 1048576 := by simpa only [J.WF] using wx
  have hlb : t.size ≤ 1048576 := by simpa only [J.WF] using wy
  have hb1 : 0 < t.size := by
    rcases Nat.eq_zero_or_pos t.size with h0 | h0
    · exact absurd (bytes_ext (by
        have h1 : t.data.toList.length = 0 := by simpa using h0
        rw [List.eq_nil_of_length_eq_zero h1]; rfl)) ht
    · exact h0
  have H1 := Lib.hid (fun W => ascii_any s W hla)
  rw [ha] at H1
  have HF := Lib.hid (fun k W hk => find_next s t k W hla hlb hk)
  have hE : (t.toList == ([] : List UInt8)) = false := by
    rw [beq_eq_false_iff_ne]
    intro h'
    rw [toList_data] at h'
    exact ht (bytes_ext (by rw [h']; rfl))
  obtain ⟨p, hp⟩ : ∃ p : Nat → Bool, p = pT s t := ⟨_, rfl⟩
  rw [← hp]
  obtain ⟨csx, hcsx⟩ : ∃ cs : Array Value, #[Value.int .i64 4, .int .i64 0, .string s, .slice A1 0 a1, .slice A2 0 a2, .slice A3 0 a3] = cs := ⟨_, rfl⟩
  obtain ⟨csy, hcsy⟩ : ∃ cs : Array Value, #[Value.int .i64 4, .int .i64 0, .string t, .slice B1 0 b1, .slice B2 0 b2, .slice B3 0 b3] = cs := ⟨_, rfl⟩
  have HW := Lib.hid (And.intro hcsx (And.intro hcsy hp))
  clear hx hy hL hL' hK hK' hS hS' wx wy hp ht ha hcsx hcsy
  have hz0 : (((w.alloc (.cells #[Value.int .i64 4, .int .i64 0, .string s, .slice A1 0 a1, .slice A2 0 a2, .slice A3 0 a3] 26)).alloc (.cells #[Value.int .i64 4, .int .i64 0, .string t, .slice B1 0 b1, .slice B2 0 b2, .slice B3 0 b3] 26)).alloc (.cells #[.int .i64 0, .int .i64 0, .string ⟨#[]⟩, .slice none 0 0, .slice none 0 0, .slice none 0 0] 26)) = (((w.alloc (.cells csx 26)).alloc (.cells csy 26)).alloc (.cells zsix.toArray 26)) := by rw [← HW.out.1, ← HW.out.2.1]
  obtain ⟨W0, hW1⟩ : ∃ W, (((w.alloc (.cells #[Value.int .i64 4, .int .i64 0, .string s, .slice A1 0 a1, .slice A2 0 a2, .slice A3 0 a3] 26)).alloc (.cells #[Value.int .i64 4, .int .i64 0, .string t, .slice B1 0 b1, .slice B2 0 b2, .slice B3 0 b3] 26)).alloc (.cells #[.int .i64 0, .int .i64 0, .string ⟨#[]⟩, .slice none 0 0, .slice none 0 0, .slice none 0 0] 26)) = W := ⟨_, rfl⟩
  have HR0 := Lib.hid (show WRel [] w csx csy (.slice none 0 0) W0 by rw [← hW1, hz0]; exact WRel.start w csx csy)
  have hW0 := Lib.hid hW1
  clear hz0 hW1
  change Calls Tryz.prog 74 #[.string nm, .agg #[Value.int .i64 4, .int .i64 0, .string s, .slice A1 0 a1, .slice A2 0 a2, .slice A3 0 a3], .agg #[Value.int .i64 4, .int .i64 0, .string t, .slice B1 0 b1, .slice B2 0 b2, .slice B3 0 b3]] w _
  go_enter Tryz.func74, Tryz.ntmps74
  go_wp2_with (go_at_call 122; refine (H1.out _).mono ?_; rintro e w1 ⟨rfl, rfl⟩)
  refine (HF.out 0 _ (by omega)).mono ?_
  rintro e w1 ⟨⟨n0, rfl, hn0⟩, rfl⟩
  have HN0 := Lib.hid hn0
  clear hn0 H1 hE
  go_wp2_with fail
  rw [hW0.out]
  clear hW0
  go_loopw [8, 9] (fun v i wr => ∃ (k : Nat) (n : Int) (v0 : Value), v0 = v ∧ k ≤ s.size ∧ i = .int .i64 n ∧ Hid (FNext s t k n) ∧ Hid (WRel (hits p k) w csx csy v0 wr)) (fun _ i _ => fm (intOf i) s.size)
  case atStart => exact ⟨0, n0, _, rfl, Nat.zero_le _, rfl, HN0, HR0⟩
  case round =>
    obtain ⟨k, n, v, rfl, hk, rfl, hN, hR⟩ := hrel
    clear HR0 HN0
    rcases hN.out with ⟨rfl, hno⟩ | ⟨i, rfl, hki, hat, hno⟩
    · have HR := Lib.hid (show WRel (hits p s.size) w csx csy v wr by
        rw [hits_gap hk fun j h1 h2 => by rw [HW.out.2.2]; exact pT_no (hno j h1)]; exact hR.out)
      clear hR hN hno
      have hR := HR
      clear HR
      obtain ⟨A, c, hvs⟩ := hR.out.2.2.2.2.form
      subst hvs
      have hhl := hits_length p s.size
      obtain ⟨l, hl⟩ : ∃ l, hits p s.size = l := ⟨_, rfl⟩
      rw [hl] at hR hhl ⊢
      have HL := Lib.hid hl
      have hbx := hR.out.2.2.2.1
      have r0 : wr.cell? ⟨w.heap.size + 1 + 1, 0, none⟩ = _ := box_cell hbx 0
      have r1 : wr.cell? ⟨w.heap.size + 1 + 1, 1, none⟩ = _ := box_cell hbx 1
      have r2 : wr.cell? ⟨w.heap.size + 1 + 1, 2, none⟩ = _ := box_cell hbx 2
      have r3 : wr.cell? ⟨w.heap.size + 1 + 1, 3, none⟩ = _ := box_cell hbx 3
      have r4 : wr.cell? ⟨w.heap.size + 1 + 1, 4, none⟩ = _ := box_cell hbx 4
      have r5 : wr.cell? ⟨w.heap.size + 1 + 1, 5, none⟩ = _ := box_cell hbx 5
      have fz := box_frozen hbx
      have hlt := box_lt hbx
      clear hbx
      cases l with
      | nil =>
        simp only [List.length_nil]
        go_wp2_with fail
        refine bodyPost_ret (v := .tuple #[.agg zsix.toArray, .int .i64 0]) (by simp [results, Tryz.results74, go_sem, zsix, r0, r1, r2, r3, r4, r5]) rfl ?_
        refine spec_set (zsix_rep wr _) (by simp [World.setCell]) (fun b hb => by iterate 6 rw [heap_setCell_other _ _ _ _ hb]) (by
          repeat (refine Below.setCell ?_ (by simp; omega) _)
          exact hR.out.1) ?_
        rw [HL.out]; cases fs <;> rfl
      | cons b0 l0 =>
        obtain ⟨m, hm⟩ : ∃ m, (b0 :: l0).length = m + 1 := ⟨l0.length, rfl⟩
        rw [hm] at hhl ⊢
        have HM := Lib.hid hm
        have hsl := hR.out.2.2.2.2.sl (D := fun b => w.heap.size + 3 ≤ b ∧ b < wr.heap.size) (fun b h1 h2 => ⟨h1, h2⟩) (fun b h1 h2 => ⟨h1, h2⟩)
        obtain ⟨A', c', he, -, -, hr⟩ := hsl
        obtain ⟨b, o, hA, hb, hrow⟩ := hr (by simp)
        rw [hA] at he
        obtain ⟨rfl, -, rfl⟩ := Value.slice.inj he
        have HROW := Lib.hid (And.intro hb hrow)
        clear hl hm he hr hA hb hrow
        cases fs
        · obtain ⟨cs, hcs, hrep⟩ := Row.get (i := m) HROW.out.2 (x := (b0 :: l0)[m]'(by rw [HM.out]; omega)) (List.getElem?_eq_getElem _)
          simp only [EJ] at hcs hrep
          obtain ⟨j, hj⟩ : ∃ j, (b0 :: l0)[m]'(by rw [HM.out]; omega) = j := ⟨_, rfl⟩
          rw [hj] at hrep
          have HJ := Lib.hid (And.intro hj hrep)
          obtain ⟨E1, e1, E2, e2, E3, e3, rfl⟩ := SRep.six hrep
          have s0 : wr.cell? ⟨b, o + m * 6, none⟩ = _ := hcs 0 _ rfl
          have s1 := hcs 1 _ rfl
          have s2 := hcs 2 _ rfl
          have s3 := hcs 3 _ rfl
          have s4 := hcs 4 _ rfl
          have s5 := hcs 5 _ rfl
          clear hj hrep hcs
          go_wp2_with fail
          refine bodyPost_ret (v := .tuple #[.agg #[.int .i64 j.kind, .int .i64 j.half, .string j.text, .slice E1 j.list.length e1, .slice E2 j.keys.length e2, .slice E3 j.vals.length e3], .int .i64 0]) (by simp [results, Tryz.results74, go_sem, r0, r1, r2, r3, r4, r5]) rfl ?_
          refine spec_set HJ.out.2 (by simp [World.setCell]) (fun b hb => by iterate 6 rw [heap_setCell_other _ _ _ _ hb]) (by
            repeat (refine Below.setCell ?_ (by simp; omega) _)
            exact hR.out.1) ?_
          rw [HL.out]
          unfold wAns
          rw [HM.out]
          simp only [Bool.false_eq_true, if_false, Nat.add_sub_cancel]
          rw [List.getElem?_eq_getElem (by rw [HM.out]; omega), HJ.out.1]
          rfl
        · obtain ⟨cs, hcs, hrep⟩ := Row.get (i := 0) HROW.out.2 (x := (b0 :: l0)[0]'(by rw [HM.out]; omega)) (List.getElem?_eq_getElem _)
          simp only [EJ] at hcs hrep
          simp only [Nat.zero_mul, Nat.add_zero] at hcs
          obtain ⟨j, hj⟩ : ∃ j, (b0 :: l0)[0]'(by rw [HM.out]; omega) = j := ⟨_, rfl⟩
          rw [hj] at hrep
          have HJ := Lib.hid (And.intro hj hrep)
          obtain ⟨E1, e1, E2, e2, E3, e3, rfl⟩ := SRep.six hrep
          have s0 : wr.cell? ⟨b, o, none⟩ = _ := hcs 0 _ rfl
          have s1 := hcs 1 _ rfl
          have s2 := hcs 2 _ rfl
          have s3 := hcs 3 _ rfl
          have s4 := hcs 4 _ rfl
          have s5 := hcs 5 _ rfl
          clear hj hrep hcs
          go_wp2_with fail
          refine bodyPost_ret (v := .tuple #[.agg #[.int .i64 j.kind, .int .i64 j.half, .string j.text, .slice E1 j.list.length e1, .slice E2 j.keys.length e2, .slice E3 j.vals.length e3], .int .i64 0]) (by simp [results, Tryz.results74, go_sem, r0, r1, r2, r3, r4, r5]) rfl ?_
          refine spec_set HJ.out.2 (by simp [World.setCell]) (fun b hb => by iterate 6 rw [heap_setCell_other _ _ _ _ hb]) (by
            repeat (refine Below.setCell ?_ (by simp; omega) _)
            exact hR.out.1) ?_
          rw [HL.out, ← HJ.out.1]
          rfl
    · have hi : i + t.size ≤ s.size := hat.1
      have HH := Lib.hid (show hits p (i + 1) = hits p k ++ [.num (2 * (i : Int))] by
        rw [hits, hits_gap hki fun j h1 h2 => by rw [HW.out.2.2]; exact pT_no (hno j h1 h2), show p i = true by rw [HW.out.2.2]; exact pT_iff.2 hat]; rfl)
      clear hN hno hat
      have hhl := hits_length p k
      go_wp2_with fail
      refine (Num_any i _ (by omega) (by omega)).mono ?_
      rintro e w2 ⟨rfl, hb2⟩
      have HST := Lib.hid (hR.out.step hb2 (x := .num (2 * (i : Int))) (fun W D => srep_num W D _))
      have HB2 := Lib.hid hb2
      clear hb2
      go_wp2_with (at_builtin; refine wpList_append_G rfl (.tmp 57) (.tmp 60) 23 rfl EJ Tryz.under23 (w.heap.size + 3) _ (hits p k) [.num (2 * (i : Int))] v _ rfl rfl HST.out.1 HST.out.2.1 ?c1 ?c2 HST.out.2.2 ?_)
      case c1 => simp [maxLen]; omega
      case c2 => simp [EJ]; omega
      intro v' w3 hg hgb _
      have HK := Lib.hid (show WRel (hits p (i + 1)) w csx csy v' w3 by
        rw [HH.out]; exact hR.out.grow HB2.out hg hgb)
      clear hg hgb HST HB2 hR HH hhl
      have hbx := HK.out.2.1
      rw [← HW.out.1] at hbx
      have hby := HK.out.2.2.1
      rw [← HW.out.2.1] at hby
      have q2 : w3.cell? ⟨w.heap.size, 2, none⟩ = _ := box_cell hbx 2
      have qy2 : w3.cell? ⟨w.heap.size + 1, 2, none⟩ = _ := box_cell hby 2
      have hlt := box_lt hby
      clear hbx hby
      have HG := Lib.hid (HF.out (i + 1) w3 (by omega))
      rw [show (((i + 1 : Nat) : Int)) = (i : Int) + 1 by omega] at HG
      go_wp2_with fail
      refine HG.out.mono ?_
      rintro e w4 ⟨⟨n', rfl, hn'⟩, rfl⟩
      have HN' := Lib.hid hn'
      have hms : fm n' s.size < fm i s.size := by
        unfold fm
        rw [if_neg (show ¬ (i : Int) < 0 by omega)]
        rcases hn' with ⟨rfl, -⟩ | ⟨i', rfl, h1, h2, -⟩
        · rw [if_pos (by omega)]; omega
        · have := h2.1
          rw [if_neg (by omega)]
          omega
      have HM := Lib.hid hms
      clear hn' HG q2 qy2 hms
      go_wp2_with fail
      go_roundw
      case rel => exact ⟨i + 1, n', v', rfl, by omega, rfl, HN', HK⟩
      case measure => exact HM.out
end Go.Proofs.YtfhppajnnbbcjaaGreatDoor
end
