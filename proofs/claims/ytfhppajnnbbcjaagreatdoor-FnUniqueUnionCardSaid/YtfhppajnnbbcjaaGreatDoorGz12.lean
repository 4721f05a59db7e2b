/- Pure: a row whose elements are swapped about: rotations, merges of two sorted parts, what an insertion sort leaves. No program in sight.
   Pure: lists without an element twice, in order.
   Walks: the laws' fit. Pure: what a search in a sorted list says.
   The sort package's functions over a row that 'less' reads and 'swap' turns: what is asked of the two; a swapped stretch; a rotation.
   The sort package's functions over a row: a rotation, an insertion sort.
   The sort package's functions over a row: the merge of two sorted parts, where one of them is of one element. -/
import Derived.Test.YtfhppajnnbbcjaaGreatDoorGz1
import Derived.Test.YtfhppajnnbbcjaaGreatDoorGz5
import Derived.Test.YtfhppajnnbbcjaaGreatDoorGz8
import Derived.Test.YtfhppajnnbbcjaaGreatDoorGz11
import Derived.Test.YtfhppajnnbbcjaaGreatDoorGz2
import Derived.Shelf.GgSortFunc.Slice

section
namespace Go.Proofs.YtfhppajnnbbcjaaGreatDoor

theorem cmpJ_le_trans {a b c : J} (h : cmpJ a b ≤ 0) (h' : cmpJ b c ≤ 0) : cmpJ a c ≤ 0 := by
  rcases Int.lt_or_eq_of_le h with h1 | h1
  · rcases Int.lt_or_eq_of_le h' with h2 | h2
    · exact Int.le_of_lt (cmpJ_trans _ _ _ h1 h2)
    · rw [← cmpJ_eq _ _ h2]; exact h
  · rw [cmpJ_eq _ _ h1]; exact h'
theorem cmpJ_le_of_not_lt {a b : J} (h : ¬ cmpJ a b < 0) : cmpJ b a ≤ 0 := by
  rw [cmpJ_anti a b]; omega

/-- two places changed -/
def swp (f : Nat → Nat) (i j : Nat) : Nat → Nat := fun x => if x = i then f j else if x = j then f i else f x
/-- two stretches of n places changed -/
def swr (f : Nat → Nat) (a b n : Nat) : Nat → Nat := fun x => if a ≤ x ∧ x < a + n then f (x - a + b) else if b ≤ x ∧ x < b + n then f (x - b + a) else f x
/-- the stretches [a, m) and [m, b) changed -/
def rot (f : Nat → Nat) (a m b : Nat) : Nat → Nat := fun x => if a ≤ x ∧ x < b then (if x < a + (b - m) then f (x + (m - a)) else f (x - (b - m))) else f x

/-- the same elements in [a, b), what lies outside as it was -/
structure Sh (f g : Nat → Nat) (a b : Nat) : Prop where
  out : ∀ x, x < a ∨ b ≤ x → g x = f x
  from_ : ∀ x, a ≤ x → x < b → ∃ y, a ≤ y ∧ y < b ∧ g x = f y
  to_ : ∀ x, a ≤ x → x < b → ∃ y, a ≤ y ∧ y < b ∧ f x = g y

theorem Sh.refl (f : Nat → Nat) (a b : Nat) : Sh f f a b := ⟨fun _ _ => rfl, fun x h h' => ⟨x, h, h', rfl⟩, fun x h h' => ⟨x, h, h', rfl⟩⟩
theorem Sh.trans {f g h : Nat → Nat} {a b : Nat} (p : Sh f g a b) (q : Sh g h a b) : Sh f h a b where
  out x hx := (q.out x hx).trans (p.out x hx)
  from_ x h1 h2 := by
    obtain ⟨y, y1, y2, e⟩ := q.from_ x h1 h2
    obtain ⟨z, z1, z2, e'⟩ := p.from_ y y1 y2
    exact ⟨z, z1, z2, e.trans e'⟩
  to_ x h1 h2 := by
    obtain ⟨y, y1, y2, e⟩ := p.to_ x h1 h2
    obtain ⟨z, z1, z2, e'⟩ := q.to_ y y1 y2
    exact ⟨z, z1, z2, e.trans e'⟩
theorem Sh.mono {f g : Nat → Nat} {a b c d : Nat} (p : Sh f g a b) (h1 : c ≤ a) (h2 : b ≤ d) : Sh f g c d where
  out x hx := p.out x (by omega)
  from_ x h3 h4 := by
    by_cases h : a ≤ x ∧ x < b
    · obtain ⟨y, y1, y2, e⟩ := p.from_ x h.1 h.2
      exact ⟨y, by omega, by omega, e⟩
    · exact ⟨x, h3, h4, p.out x (by omega)⟩
  to_ x h3 h4 := by
    by_cases h : a ≤ x ∧ x < b
    · obtain ⟨y, y1, y2, e⟩ := p.to_ x h.1 h.2
      exact ⟨y, by omega, by omega, e⟩
    · exact ⟨x, h3, h4, (p.out x (by omega)).symm⟩

theorem Sh.swp (f : Nat → Nat) {a b i j : Nat} (hi : a ≤ i) (hi' : i < b) (hj : a ≤ j) (hj' : j < b) : Sh f (swp f i j) a b where
  out x hx := by unfold YtfhppajnnbbcjaaGreatDoor.swp; rw [if_neg (by omega), if_neg (by omega)]
  from_ x h1 h2 := by
    unfold YtfhppajnnbbcjaaGreatDoor.swp
    split
    · exact ⟨j, hj, hj', rfl⟩
    · split
      · exact ⟨i, hi, hi', rfl⟩
      · exact ⟨x, h1, h2, rfl⟩
  to_ x h1 h2 := by
    by_cases e : x = i
    · subst e
      by_cases e' : j = x
      · exact ⟨x, h1, h2, by simp [YtfhppajnnbbcjaaGreatDoor.swp, e']⟩
      · exact ⟨j, hj, hj', by simp [YtfhppajnnbbcjaaGreatDoor.swp, e']⟩
    · by_cases e' : x = j
      · subst e'
        exact ⟨i, hi, hi', by simp [YtfhppajnnbbcjaaGreatDoor.swp]⟩
      · exact ⟨x, h1, h2, by simp [YtfhppajnnbbcjaaGreatDoor.swp, e, e']⟩

theorem Sh.rot (f : Nat → Nat) {a m b : Nat} (h1 : a ≤ m) (h2 : m ≤ b) : Sh f (rot f a m b) a b where
  out x hx := by unfold YtfhppajnnbbcjaaGreatDoor.rot; rw [if_neg (by omega)]
  from_ x h3 h4 := by
    unfold YtfhppajnnbbcjaaGreatDoor.rot
    rw [if_pos ⟨h3, h4⟩]
    split
    · exact ⟨x + (m - a), by omega, by omega, rfl⟩
    · exact ⟨x - (b - m), by omega, by omega, rfl⟩
  to_ x h3 h4 := by
    by_cases h : x < m
    · refine ⟨x + (b - m), by omega, by omega, ?_⟩
      unfold YtfhppajnnbbcjaaGreatDoor.rot
      rw [if_pos (by omega), if_neg (by omega)]
      congr 1; omega
    · refine ⟨x - (m - a), by omega, by omega, ?_⟩
      unfold YtfhppajnnbbcjaaGreatDoor.rot
      rw [if_pos (by omega), if_pos (by omega)]
      congr 1; omega

theorem swr_zero (f : Nat → Nat) (a b : Nat) : swr f a b 0 = f := by
  funext x
  unfold swr
  rw [if_neg (by omega), if_neg (by omega)]
theorem swr_succ (f : Nat → Nat) {a b i : Nat} (h : a + i < b) : swp (swr f a b i) (a + i) (b + i) = swr f a b (i + 1) := by
  funext x
  by_cases e1 : x = a + i
  · subst e1
    simp only [swp, if_true]
    unfold swr
    rw [if_neg (by omega), if_neg (by omega), if_pos (by omega)]
    congr 1; omega
  · by_cases e2 : x = b + i
    · subst e2
      simp only [swp]
      rw [if_neg (by omega), if_pos trivial]
      unfold swr
      rw [if_neg (by omega), if_neg (by omega), if_neg (by omega), if_pos (by omega)]
      congr 1; omega
    · simp only [swp]
      rw [if_neg e1, if_neg e2]
      unfold swr
      by_cases c1 : a ≤ x ∧ x < a + i
      · rw [if_pos c1, if_pos (by omega)]
      · rw [if_neg c1]
        by_cases c2 : b ≤ x ∧ x < b + i
        · rw [if_pos c2, if_neg (show ¬ (a ≤ x ∧ x < a + (i + 1)) by omega), if_pos (by omega)]
        · rw [if_neg c2, if_neg (show ¬ (a ≤ x ∧ x < a + (i + 1)) by omega), if_neg (by omega)]

/-- a rotation's step where the left stretch is the longer one: i > j -/
theorem rot_left (f : Nat → Nat) {m i j : Nat} (hj : 0 < j) (h : j < i) (hm : i ≤ m) : rot (swr f (m - i) m j) (m - (i - j)) m (m + j) = rot f (m - i) m (m + j) := by
  funext x
  unfold rot
  by_cases c : m - i ≤ x ∧ x < m + j
  · rw [if_pos c]
    by_cases c1 : x < m - i + (m + j - m)
    · rw [if_pos c1, if_neg (by omega)]
      unfold swr
      rw [if_pos (by omega)]
      congr 1; omega
    · rw [if_neg c1, if_pos (by omega)]
      by_cases c2 : x < m - (i - j) + (m + j - m)
      · rw [if_pos c2]
        unfold swr
        by_cases c3 : m ≤ x + (m - (m - (i - j)))
        · rw [if_neg (by omega), if_pos (by omega)]
          congr 1; omega
        · rw [if_neg (by omega), if_neg (by omega)]
          exfalso; omega
      · rw [if_neg c2]
        unfold swr
        rw [if_neg (by omega), if_neg (by omega)]
  · rw [if_neg c, if_neg (by omega)]
    unfold swr
    rw [if_neg (by omega), if_neg (by omega)]

/-- .. where the right one is: i < j -/
theorem rot_right (f : Nat → Nat) {m i j : Nat} (hi : 0 < i) (h : i < j) (hm : i ≤ m) : rot (swr f (m - i) (m + j - i) i) (m - i) m (m + (j - i)) = rot f (m - i) m (m + j) := by
  funext x
  unfold rot
  by_cases c : m - i ≤ x ∧ x < m + j
  · rw [if_pos c]
    by_cases c0 : x < m + (j - i)
    · rw [if_pos (by omega)]
      by_cases c1 : x < m - i + (m + (j - i) - m)
      · rw [if_pos c1, if_pos (by omega)]
        unfold swr
        rw [if_neg (by omega), if_neg (by omega)]
      · rw [if_neg c1, if_pos (by omega)]
        unfold swr
        rw [if_pos (by omega)]
        congr 1; omega
    · rw [if_neg (by omega), if_neg (by omega)]
      unfold swr
      rw [if_neg (by omega), if_pos (by omega)]
      congr 1; omega
  · rw [if_neg c, if_neg (by omega)]
    unfold swr
    rw [if_neg (by omega), if_neg (by omega)]

theorem rot_even (f : Nat → Nat) {m i : Nat} (hm : i ≤ m) : swr f (m - i) m i = rot f (m - i) m (m + i) := by
  funext x
  unfold rot swr
  by_cases c : m - i ≤ x ∧ x < m + i
  · rw [if_pos c]
    by_cases c1 : x < m
    · rw [if_pos (by omega), if_pos (by omega)]
      congr 1; omega
    · rw [if_neg (by omega), if_pos (by omega), if_neg (by omega)]
      congr 1; omega
  · rw [if_neg c, if_neg (by omega), if_neg (by omega)]

/-- the first element carried to the right, a step -/
theorem rot_up (f : Nat → Nat) {a k : Nat} (h : a ≤ k) : swp (rot f a (a + 1) (k + 1)) k (k + 1) = rot f a (a + 1) (k + 2) := by
  funext x
  unfold swp
  by_cases e1 : x = k
  · subst e1
    rw [if_pos rfl]
    unfold rot
    rw [if_neg (by omega), if_pos (by omega), if_pos (by omega)]
    congr 1; omega
  · rw [if_neg e1]
    by_cases e2 : x = k + 1
    · subst e2
      rw [if_pos rfl]
      unfold rot
      rw [if_pos (by omega), if_neg (by omega), if_pos (by omega), if_neg (by omega)]
      congr 1; omega
    · rw [if_neg e2]
      unfold rot
      by_cases c : a ≤ x ∧ x < k + 1
      · rw [if_pos c, if_pos (by omega), if_pos (by omega), if_pos (by omega)]
      · rw [if_neg c, if_neg (by omega)]
theorem rot_one (f : Nat → Nat) (a m : Nat) : rot f a m m = f := by
  funext x
  unfold rot
  split
  · rw [if_neg (by omega)]; congr 1; omega
  · rfl
theorem rot_none (f : Nat → Nat) (m b : Nat) : rot f m m b = f := by
  funext x
  unfold rot
  split
  · split
    · congr 1; omega
    · exfalso; omega
  · rfl
/-- the last element carried to the left, a step -/
theorem rot_down (f : Nat → Nat) {k m : Nat} (h0 : 0 < k) (h : k ≤ m) : swp (rot f k m (m + 1)) k (k - 1) = rot f (k - 1) m (m + 1) := by
  funext x
  unfold swp
  by_cases e1 : x = k
  · subst e1
    rw [if_pos rfl]
    unfold rot
    rw [if_neg (by omega), if_pos (by omega), if_neg (by omega)]
    congr 1; omega
  · rw [if_neg e1]
    by_cases e2 : x = k - 1
    · subst e2
      rw [if_pos rfl]
      unfold rot
      rw [if_pos (by omega), if_pos (by omega), if_pos (by omega), if_pos (by omega)]
      congr 1; omega
    · rw [if_neg e2]
      unfold rot
      by_cases c : k ≤ x ∧ x < m + 1
      · rw [if_pos c, if_neg (by omega), if_pos (by omega), if_neg (by omega)]
      · rw [if_neg c, if_neg (by omega)]

/-- sorted from a to b -/
def Sd (K : Nat → J) (f : Nat → Nat) (a b : Nat) : Prop := ∀ x y, a ≤ x → x < y → y < b → cmpJ (K (f x)) (K (f y)) ≤ 0

variable {K : Nat → J} {f g : Nat → Nat} {a m b : Nat}

theorem Sd.mono {c d : Nat} (h : Sd K f a b) (h1 : a ≤ c) (h2 : d ≤ b) : Sd K f c d := fun x y hx hxy hy => h x y (by omega) hxy (by omega)
theorem Sd.same (h : Sd K f a b) (e : ∀ x, a ≤ x → x < b → g x = f x) : Sd K g a b := fun x y hx hxy hy => by
  rw [e x hx (by omega), e y (by omega) hy]; exact h x y hx hxy hy
theorem Sd.small (h : b ≤ a + 1) : Sd K f a b := fun x y hx hxy hy => by omega
theorem Sd.le (h : Sd K f a b) {x y : Nat} (hx : a ≤ x) (hxy : x ≤ y) (hy : y < b) : cmpJ (K (f x)) (K (f y)) ≤ 0 := by
  rcases Nat.lt_or_eq_of_le hxy with h1 | rfl
  · exact h x y hx h1 hy
  · rw [cmpJ_self]; omega

/-- the first element set into the sorted rest, ahead of place i -/
theorem merge_one {i : Nat} (hs : Sd K f (a + 1) b) (h1 : a + 1 ≤ i) (h2 : i ≤ b) (hlo : i = a + 1 ∨ cmpJ (K (f (i - 1))) (K (f a)) < 0) (hhi : i = b ∨ cmpJ (K (f a)) (K (f i)) ≤ 0) : Sd K (rot f a (a + 1) i) a b := by
  have low : ∀ x, a + 1 ≤ x → x < i → cmpJ (K (f x)) (K (f a)) ≤ 0 := fun x hx hxi => by
    rcases hlo with h | h
    · omega
    · exact cmpJ_le_trans (hs.le hx (by omega) (by omega)) (Int.le_of_lt h)
  have high : ∀ x, i ≤ x → x < b → cmpJ (K (f a)) (K (f x)) ≤ 0 := fun x hx hxb => by
    rcases hhi with h | h
    · omega
    · exact cmpJ_le_trans h (hs.le (by omega) hx hxb)
  have v : ∀ x, a ≤ x → x < b → (x < i - 1 ∧ rot f a (a + 1) i x = f (x + 1)) ∨ (x = i - 1 ∧ rot f a (a + 1) i x = f a) ∨ (i ≤ x ∧ rot f a (a + 1) i x = f x) := fun x hx hxb => by
    unfold rot
    by_cases c : x < i
    · rw [if_pos ⟨hx, c⟩]
      by_cases c1 : x < i - 1
      · left; rw [if_pos (by omega)]; exact ⟨c1, by congr 1; omega⟩
      · right; left; rw [if_neg (by omega)]; exact ⟨by omega, by congr 1; omega⟩
    · right; right; rw [if_neg (by omega)]; exact ⟨by omega, rfl⟩
  intro x y hx hxy hy
  rcases v x hx (by omega) with ⟨cx, ex⟩ | ⟨cx, ex⟩ | ⟨cx, ex⟩ <;> rcases v y (by omega) hy with ⟨cy, ey⟩ | ⟨cy, ey⟩ | ⟨cy, ey⟩ <;> rw [ex, ey]
  · exact hs _ _ (by omega) (by omega) (by omega)
  · exact low _ (by omega) (by omega)
  · exact hs.le (by omega) (by omega) (by omega)
  · omega
  · omega
  · exact high _ (by omega) (by omega)
  · omega
  · omega
  · exact hs _ _ (by omega) hxy hy

/-- the last element set into the sorted rest, at place i -/
theorem merge_last {i : Nat} (hs : Sd K f a m) (h1 : a ≤ i) (h2 : i ≤ m) (hlo : i = a ∨ cmpJ (K (f (i - 1))) (K (f m)) ≤ 0) (hhi : i = m ∨ cmpJ (K (f m)) (K (f i)) < 0) : Sd K (rot f i m (m + 1)) a (m + 1) := by
  have low : ∀ x, a ≤ x → x < i → cmpJ (K (f x)) (K (f m)) ≤ 0 := fun x hx hxi => by
    rcases hlo with h | h
    · omega
    · exact cmpJ_le_trans (hs.le hx (by omega) (by omega)) h
  have high : ∀ x, i ≤ x → x < m → cmpJ (K (f m)) (K (f x)) ≤ 0 := fun x hx hxb => by
    rcases hhi with h | h
    · omega
    · exact cmpJ_le_trans (Int.le_of_lt h) (hs.le (by omega) hx hxb)
  have v : ∀ x, a ≤ x → x < m + 1 → (x < i ∧ rot f i m (m + 1) x = f x) ∨ (x = i ∧ rot f i m (m + 1) x = f m) ∨ (i < x ∧ rot f i m (m + 1) x = f (x - 1)) := fun x hx hxb => by
    unfold rot
    by_cases c : x < i
    · left; rw [if_neg (by omega)]; exact ⟨c, rfl⟩
    · rw [if_pos (by omega)]
      by_cases c1 : x = i
      · right; left; rw [if_pos (by omega)]; exact ⟨c1, by congr 1; omega⟩
      · right; right; rw [if_neg (by omega)]; exact ⟨by omega, by congr 1; omega⟩
  intro x y hx hxy hy
  rcases v x hx (by omega) with ⟨cx, ex⟩ | ⟨cx, ex⟩ | ⟨cx, ex⟩ <;> rcases v y (by omega) hy with ⟨cy, ey⟩ | ⟨cy, ey⟩ | ⟨cy, ey⟩ <;> rw [ex, ey]
  · exact hs _ _ hx hxy (by omega)
  · exact low _ hx (by omega)
  · exact hs.le hx (by omega) (by omega)
  · omega
  · omega
  · exact high _ (by omega) (by omega)
  · omega
  · omega
  · exact hs _ _ (by omega) (by omega) (by omega)

/-- two sorted parts of which the first one's elements are not above the second one's -/
theorem Sd.join {c : Nat} (h1 : Sd K f a c) (h2 : Sd K f c b) (h : ∀ x y, a ≤ x → x < c → c ≤ y → y < b → cmpJ (K (f x)) (K (f y)) ≤ 0) : Sd K f a b := fun x y hx hxy hy => by
  by_cases c1 : y < c
  · exact h1 x y hx hxy c1
  · by_cases c2 : c ≤ x
    · exact h2 x y c2 hxy hy
    · exact h x y hx (by omega) (by omega) hy

/-- how the two halves lie behind the turn of a merge: st: where the first part is cut, en: where the second one -/
structure Turned (K : Nat → J) (f : Nat → Nat) (a st md en b : Nat) : Prop where
  s1 : Sd K f a st
  s2 : Sd K f st md
  s3 : Sd K f md en
  s4 : Sd K f en b
  le : ∀ x y, a ≤ x → x < md → md ≤ y → y < b → cmpJ (K (f x)) (K (f y)) ≤ 0

theorem turned {st en md : Nat} (l : Sd K f a m) (r : Sd K f m b) (h1 : a ≤ st) (h2 : st ≤ m) (h3 : m ≤ en) (h4 : en ≤ b) (hmd : md + m = st + en) (hlo : st = a ∨ en = b ∨ cmpJ (K (f (st - 1))) (K (f en)) ≤ 0) (hhi : st = m ∨ en = m ∨ cmpJ (K (f (en - 1))) (K (f st)) < 0) :
    Turned K (rot f st m en) a st md en b := by
  have v1 : ∀ x, x < st → rot f st m en x = f x := fun x hx => by unfold rot; rw [if_neg (by omega)]
  have v2 : ∀ x, st ≤ x → x < md → rot f st m en x = f (x + (m - st)) := fun x hx hx' => by unfold rot; rw [if_pos (by omega), if_pos (by omega)]
  have v3 : ∀ x, md ≤ x → x < en → rot f st m en x = f (x - (en - m)) := fun x hx hx' => by unfold rot; rw [if_pos (by omega), if_neg (by omega)]
  have v4 : ∀ x, en ≤ x → rot f st m en x = f x := fun x hx => by unfold rot; rw [if_neg (by omega)]
  refine ⟨fun x y hx hxy hy => ?_, fun x y hx hxy hy => ?_, fun x y hx hxy hy => ?_, fun x y hx hxy hy => ?_, fun x y hx hxm hy hyb => ?_⟩
  · rw [v1 x (by omega), v1 y hy]; exact l x y hx hxy (by omega)
  · rw [v2 x hx (by omega), v2 y (by omega) hy]; exact r _ _ (by omega) (by omega) (by omega)
  · rw [v3 x hx (by omega), v3 y (by omega) hy]; exact l _ _ (by omega) (by omega) (by omega)
  · rw [v4 x hx, v4 y (by omega)]; exact r _ _ (by omega) hxy hy
  · by_cases c1 : x < st
    · rw [v1 x c1]
      by_cases c2 : y < en
      · rw [v3 y hy c2]; exact l.le hx (by omega) (by omega)
      · rw [v4 y (by omega)]
        rcases hlo with h | h | h
        · omega
        · omega
        · exact cmpJ_le_trans (l.le hx (show x ≤ st - 1 by omega) (by omega)) (cmpJ_le_trans h (r.le (by omega) (show en ≤ y by omega) hyb))
    · rw [v2 x (by omega) hxm]
      by_cases c2 : y < en
      · rw [v3 y hy c2]
        rcases hhi with h | h | h
        · omega
        · omega
        · exact cmpJ_le_trans (r.le (by omega) (show x + (m - st) ≤ en - 1 by omega) (by omega)) (cmpJ_le_trans (Int.le_of_lt h) (l.le (by omega) (show st ≤ y - (en - m) by omega) (by omega)))
      · rw [v4 y (by omega)]; exact r.le (by omega) (by omega) hyb

/-- both halves sorted again: the whole is -/
theorem turned_done {st md en : Nat} {f1 f2 : Nat → Nat} (t : Turned K f a st md en b) (h1 : Sh f f1 a md) (s1 : Sd K f1 a md) (h2 : Sh f1 f2 md b) (s2 : Sd K f2 md b) : Sd K f2 a b := by
  refine Sd.join (c := md) (s1.same fun x hx hxm => h2.out x (.inl hxm)) s2 fun x y hx hxm hy hyb => ?_
  rw [h2.out x (.inl hxm)]
  obtain ⟨x', a1, a2, e⟩ := h1.from_ x hx hxm
  obtain ⟨y', b1, b2, e'⟩ := h2.from_ y hy hyb
  rw [e, e', h1.out y' (.inr b1)]
  exact t.le x' y' a1 a2 b1 b2

/-- within an insertion: sorted up to i but for the element at j -/
def Ins (K : Nat → J) (f : Nat → Nat) (a j i : Nat) : Prop := ∀ x y, a ≤ x → x < y → y ≤ i → y ≠ j → cmpJ (K (f x)) (K (f y)) ≤ 0

theorem Ins.start {i : Nat} (h : Sd K f a i) : Ins K f a i i := fun x y hx hxy hy hne => h x y hx hxy (by omega)
theorem Ins.step {i j : Nat} (h : Ins K f a j i) (hj : a < j) (hji : j ≤ i) (hl : cmpJ (K (f j)) (K (f (j - 1))) < 0) : Ins K (swp f j (j - 1)) a (j - 1) i := by
  intro x y hx hxy hy hne
  have e1 : swp f j (j - 1) j = f (j - 1) := by simp [swp]
  have e2 : swp f j (j - 1) (j - 1) = f j := by unfold swp; rw [if_neg (by omega), if_pos rfl]
  have e3 : ∀ z, z ≠ j → z ≠ j - 1 → swp f j (j - 1) z = f z := fun z h1 h2 => by unfold swp; rw [if_neg h1, if_neg h2]
  by_cases cy : y = j
  · subst cy
    rw [e1]
    by_cases cx : x = y - 1
    · subst cx; rw [e2]; exact Int.le_of_lt hl
    · rw [e3 x (by omega) cx]; exact h x (y - 1) hx (by omega) (by omega) (by omega)
  · rw [e3 y cy hne]
    by_cases cx : x = j
    · subst cx; rw [e1]; exact h (x - 1) y (by omega) (by omega) hy cy
    · by_cases cx' : x = j - 1
      · subst cx'; rw [e2]; exact h j y (by omega) (by omega) hy cy
      · rw [e3 x cx cx']; exact h x y hx hxy hy cy
theorem Ins.done {i j : Nat} (h : Ins K f a j i) (hji : j ≤ i) (hl : j = a ∨ (a < j ∧ cmpJ (K (f (j - 1))) (K (f j)) ≤ 0)) : Sd K f a (i + 1) := by
  intro x y hx hxy hy
  by_cases cy : y = j
  · subst cy
    rcases hl with rfl | ⟨h1, h2⟩
    · omega
    · by_cases cx : x = y - 1
      · subst cx; exact h2
      · exact cmpJ_le_trans (h x (y - 1) hx (by omega) (by omega) (by omega)) h2
  · exact h x y hx hxy (by omega) cy

end Go.Proofs.YtfhppajnnbbcjaaGreatDoor
end

section
namespace Go.Proofs.YtfhppajnnbbcjaaGreatDoor

/-- strictly rising -/
abbrev Up (l : List J) : Prop := l.Pairwise fun a b => cmpJ a b < 0

theorem cmpJ_irrefl (a : J) : ¬ cmpJ a a < 0 := by rw [cmpJ_self]; omega

theorem up_ext : ∀ {l m : List J}, Up l → Up m → (∀ x, x ∈ l ↔ x ∈ m) → l = m
  | [], [], _, _, _ => rfl
  | [], b :: m, _, _, h => absurd ((h b).2 (by simp)) (by simp)
  | a :: l, [], _, _, h => absurd ((h a).1 (by simp)) (by simp)
  | a :: l, b :: m, hl, hm, h => by
    rw [Up, List.pairwise_cons] at hl hm
    have hab : a = b := by
      rcases List.mem_cons.1 ((h a).1 (by simp)) with e | e
      · exact e
      · rcases List.mem_cons.1 ((h b).2 (by simp)) with e' | e'
        · exact e'.symm
        · have h1 := hm.1 a e
          have h2 := hl.1 b e'
          exact absurd (cmpJ_trans _ _ _ h1 h2) (cmpJ_irrefl _)
    subst hab
    congr 1
    refine up_ext hl.2 hm.2 fun x => ⟨fun hx => ?_, fun hx => ?_⟩
    · rcases List.mem_cons.1 ((h x).1 (by simp [hx])) with e | e
      · subst e; exact absurd (hl.1 x hx) (cmpJ_irrefl _)
      · exact e
    · rcases List.mem_cons.1 ((h x).2 (by simp [hx])) with e | e
      · subst e; exact absurd (hm.1 x hx) (cmpJ_irrefl _)
      · exact e

/-- l's elements, each once, in order -/
structure Uniq (l u : List J) : Prop where
  up : Up u
  mem : ∀ x, x ∈ u ↔ x ∈ l

theorem Uniq.same {l u v : List J} (h : Uniq l u) (k : Uniq l v) : u = v := up_ext h.up k.up fun x => (h.mem x).trans (k.mem x).symm

end Go.Proofs.YtfhppajnnbbcjaaGreatDoor
end

section
namespace Go.Proofs.YtfhppajnnbbcjaaGreatDoor
open Go.RowKit

def Fit2Post (v x : V) (w : World) (e : Ending) (w' : World) : Prop := ∃ b, e = .returned (.bool b) ∧ (b = true → GoodV v 400 2000 ∧ GoodV x 400 2000) ∧ Below w.heap.size w w'

set_option maxRecDepth 100000 in
theorem fit2_any (v x : V) (D : Nat → Prop) (cv cx : List Value) (w : World) (hv : VRep w D v cv) (hx : VRep w D x cx) (hD : ∀ b, D b → All w b) (hU : U8 w) (hsv : v.Small) (hsx : x.Small) :
    Calls Tryz.prog 14 #[.agg cv.toArray, .agg cx.toArray] w (Fit2Post v x w) := by
  have HC1 := Lib.hid (fun W (hW : Below w.heap.size w W) => Fit_any v D cv W (VRep.keep (Same.of_below hW hD) (fun _ h => h) _ _ hv) (fun b hb => Nat.lt_of_lt_of_le (hD b hb) hW.size) (hU.below hW hU.size) hsv)
  have HC2 := Lib.hid (fun W (hW : Below w.heap.size w W) => Fit_any x D cx W (VRep.keep (Same.of_below hW hD) (fun _ h => h) _ _ hx) (fun b hb => Nat.lt_of_lt_of_le (hD b hb) hW.size) (hU.below hW hU.size) hsx)
  obtain ⟨vk, vh, vt, vl, vks, vvs⟩ := v
  obtain ⟨L, K, S, rfl, hL, hK, hS⟩ := hv
  obtain ⟨A1, c1, rfl⟩ := hL.form
  obtain ⟨A2, c2, rfl⟩ := hK.form
  obtain ⟨A3, c3, rfl⟩ := hS.form
  obtain ⟨xk, xh, xt, xl, xks, xvs⟩ := x
  obtain ⟨L, K, S, rfl, hL', hK', hS'⟩ := hx
  obtain ⟨B1, d1, rfl⟩ := hL'.form
  obtain ⟨B2, d2, rfl⟩ := hK'.form
  obtain ⟨B3, d3, rfl⟩ := hS'.form
  clear hL hK hS hL' hK' hS' hD hU hsv hsx
  go_enter Tryz.func14, Tryz.ntmps14
  go_wp2_with fail
  generalize hW : (World.alloc _ _).alloc _ = W0
  have H2 := Lib.hid (alloc2 hW)
  clear hW
  refine (HC1.out W0 H2.out.1).mono ?_
  clear HC1
  rintro e w1 ⟨b, rfl, hg1, hb1⟩
  have HB1 := Lib.hid (And.intro (H2.out.1.trans (hb1.mono H2.out.1.size)) hg1)
  have hby := (hb1.block _ (box_lt H2.out.2.2.2)).trans H2.out.2.2.2
  have y0 : w1.cell? ⟨w.heap.size + 1, 0, none⟩ = _ := box_cell hby 0
  have y1 : w1.cell? ⟨w.heap.size + 1, 1, none⟩ = _ := box_cell hby 1
  have y2 : w1.cell? ⟨w.heap.size + 1, 2, none⟩ = _ := box_cell hby 2
  have y3 : w1.cell? ⟨w.heap.size + 1, 3, none⟩ = _ := box_cell hby 3
  have y4 : w1.cell? ⟨w.heap.size + 1, 4, none⟩ = _ := box_cell hby 4
  have y5 : w1.cell? ⟨w.heap.size + 1, 5, none⟩ = _ := box_cell hby 5
  clear hg1 hb1 hby H2
  cases b with
  | false =>
    go_wp2_with fail
    go_ret
    exact ⟨false, rfl, (fun h => nomatch h), HB1.out.1⟩
  | true =>
    go_wp2_with fail
    refine (HC2.out w1 HB1.out.1).mono ?_
    clear HC2
    rintro e w2 ⟨b, rfl, hg2, hb2⟩
    have HB2 := Lib.hid (And.intro (HB1.out.1.trans (hb2.mono HB1.out.1.size)) hg2)
    clear hg2 hb2 y0 y1 y2 y3 y4 y5
    go_wp2_with fail
    go_ret
    exact ⟨b, rfl, fun h => ⟨HB1.out.2 (by trivial), HB2.out.2 h⟩, HB2.out.1⟩

def cntL (u : List J) (y : J) : Nat → Nat
  | 0 => 0
  | k + 1 => cntL u y k + (if cmpJ (elemJ u k) y < 0 then 1 else 0)
def thrL (u : List J) (y : J) : Nat → Bool
  | 0 => false
  | k + 1 => thrL u y k || (cmpJ y (elemJ u k) == 0)

theorem cntL_le (u : List J) (y : J) : ∀ k, cntL u y k ≤ k
  | 0 => Nat.le_refl _
  | k + 1 => by have := cntL_le u y k; unfold cntL; split <;> omega

theorem cntL_at {u : List J} {y : J} {i : Nat} {n : Nat} (h : ∀ j, j < n → (cmpJ (elemJ u j) y < 0 ↔ j < i)) : ∀ k, k ≤ n → cntL u y k = min k i
  | 0, _ => by simp [cntL]
  | k + 1, hk => by
    have := cntL_at h k (by omega)
    unfold cntL
    rw [this]
    by_cases c : k < i
    · rw [if_pos ((h k (by omega)).2 c)]; omega
    · rw [if_neg (fun h' => c ((h k (by omega)).1 h'))]; omega

theorem thrL_iff {u : List J} {y : J} : ∀ k, thrL u y k = true ↔ ∃ j, j < k ∧ cmpJ y (elemJ u j) = 0
  | 0 => by simp [thrL]
  | k + 1 => by
    unfold thrL
    rw [Bool.or_eq_true, thrL_iff k]
    constructor
    · rintro (⟨j, h1, h2⟩ | h)
      · exact ⟨j, by omega, h2⟩
      · exact ⟨k, by omega, by simpa using h⟩
    · rintro ⟨j, h1, h2⟩
      by_cases e : j = k
      · subst e; exact .inr (by simpa using h2)
      · exact .inl ⟨j, by omega, h2⟩

theorem up_get {u : List J} (h : Up u) {i j : Nat} (hij : i < j) (hj : j < u.length) : cmpJ (elemJ u i) (elemJ u j) < 0 := by
  rw [elemJ_get (by omega), elemJ_get hj]
  exact (List.pairwise_iff_getElem.1 h) i j (by omega) hj hij

/-- what bsearch answers is what the reference counts -/
theorem bs_count {u : List J} {y : J} (h : Up u) {i : Nat} (hi : BsAt u y i) : bsAns u y i = if thrL u y u.length = true then (cntL u y u.length : Int) else -1 - (cntL u y u.length : Int) := by
  obtain ⟨h1, h2, h3⟩ := hi
  have low : ∀ j, j < u.length → j < i → cmpJ (elemJ u j) y < 0 := fun j hj hji => by
    have h4 := h2.resolve_left (by omega)
    by_cases e : j = i - 1
    · rw [e]; exact h4
    · exact cmpJ_trans _ _ _ (up_get h (show j < i - 1 by omega) (by omega)) h4
  have high : ∀ j, j < u.length → i ≤ j → ¬ cmpJ (elemJ u j) y < 0 := fun j hj hij hc => by
    have h4 := h3.resolve_left (by omega)
    by_cases e : j = i
    · rw [e] at hc; omega
    · have := cmpJ_trans _ _ _ (up_get h (show i < j by omega) hj) hc
      omega
  have hcnt : cntL u y u.length = i := by
    rw [cntL_at (n := u.length) (i := i) (fun j hj => ⟨fun hc => by
      rcases Nat.lt_or_ge j i with h' | h'
      · exact h'
      · exact absurd hc (high j hj h'), fun h' => low j hj h'⟩) _ (Nat.le_refl _)]
    omega
  rw [hcnt]
  unfold bsAns
  by_cases hq : i < u.length ∧ cmpJ (elemJ u i) y = 0
  · rw [if_pos hq, if_pos ((thrL_iff _).2 ⟨i, hq.1, by rw [cmpJ_eq _ _ hq.2, cmpJ_self]⟩)]
  · rw [if_neg hq, if_neg]
    · omega
    · intro ht
      obtain ⟨j, hj, hjy⟩ := (thrL_iff _).1 ht
      have he := cmpJ_eq _ _ hjy
      have hji : ¬ j < i := fun h' => by
        have := low j hj h'
        rw [← he, cmpJ_self] at this
        omega
      by_cases e : j = i
      · subst e
        exact hq ⟨hj, by rw [← he, cmpJ_self]⟩
      · have h5 := up_get h (show i < j by omega) hj
        rw [← he] at h5
        exact high i (by omega) (Nat.le_refl _) h5
end Go.Proofs.YtfhppajnnbbcjaaGreatDoor
end

section
namespace Go.Proofs.YtfhppajnnbbcjaaGreatDoor
open Go.RowKit

/-- what lay from block N on has not turned -/
structure Near (N : Nat) (w w' : World) : Prop where
  size : w.heap.size ≤ w'.heap.size
  blk : ∀ b, N ≤ b → b < w.heap.size → w'.heap[b]? = w.heap[b]?

theorem Near.refl (N : Nat) (w : World) : Near N w w := ⟨Nat.le_refl _, fun _ _ _ => rfl⟩
theorem Near.trans {N : Nat} {a b c : World} (h : Near N a b) (k : Near N b c) : Near N a c :=
  ⟨Nat.le_trans h.size k.size, fun x h1 h2 => (k.blk x h1 (Nat.lt_of_lt_of_le h2 h.size)).trans (h.blk x h1 h2)⟩
theorem Near.below {N : Nat} {w w' : World} (h : Below w.heap.size w w') : Near N w w' := ⟨h.size, fun b _ hb => h.block b hb⟩
theorem Near.box {N : Nat} {w w' : World} (h : Near N w w') {b : Nat} {o : Obj} (hN : N ≤ b) (hb : w.heap[b]? = some o) : w'.heap[b]? = some o := (h.blk b hN (box_lt hb)).trans hb

/-- the program's own part of a sort: 'less' is function g bound to lb, 'swap' sf bound to sb; n elements; K: the keys; St f W: the row lies in W as f says -/
structure SortEnv (g sf : FuncId) (lb sb : Array Value) (n N : Nat) (K : Nat → J) (St : (Nat → Nat) → World → Prop) : Prop where
  base : ∀ f W, St f W → N ≤ W.heap.size
  keep : ∀ f W W', St f W → Below W.heap.size W W' → St f W'
  enter : ∀ args w, (callFunc g args).run Tryz.prog w = .ok (.enter g args) w
  less : ∀ f W (i j : Nat), St f W → i < n → j < n → Calls Tryz.prog g (#[.int .i64 i, .int .i64 j] ++ lb) W fun e W' => e = .returned (.bool (decide (cmpJ (K (f i)) (K (f j)) < 0))) ∧ Below W.heap.size W W'
  swap : ∀ f W (i j : Nat), St f W → i < n → j < n → i ≠ j → ∃ W', (callFunc sf (#[.int .i64 i, .int .i64 j] ++ sb)).run Tryz.prog W = .ok (.value (.tuple #[])) W' ∧ St (swp f i j) W' ∧ Near N W W'
  small : n ≤ 4611686018427387904

/-- how a function of the family ends -/
def SoPost (N : Nat) (St : (Nat → Nat) → World → Prop) (R : (Nat → Nat) → Prop) (w : World) (e : Ending) (w' : World) : Prop := e = .returned (.tuple #[]) ∧ ∃ f, R f ∧ St f w' ∧ Near N w w'

abbrev lessSwapV (g sf : FuncId) (lb sb : Array Value) : Array Value := #[.func (.func g) #[] lb, .func (.func sf) #[] sb]

/-- on the way: the row as f has it; the parameter's box -/
def SoRel (N : Nat) (St : (Nat → Nat) → World → Prop) (w : World) (bx : Array Value) (f : Nat → Nat) (wr : World) : Prop :=
  St f wr ∧ Near N w wr ∧ wr.heap[w.heap.size]? = some (.cells bx 309 (0, 0))

theorem SoRel.start {g sf : FuncId} {lb sb : Array Value} {n N : Nat} {K : Nat → J} {St : (Nat → Nat) → World → Prop} (E : SortEnv g sf lb sb n N K St) {w : World} {f : Nat → Nat} (h : St f w) (bx : Array Value) : SoRel N St w bx f (w.alloc (.cells bx 309)) :=
  have hb : Below w.heap.size w (w.alloc (.cells bx 309)) := (Below.refl _ _).alloc (Nat.le_refl _) _
  ⟨E.keep _ _ _ h hb, Near.below hb, heap_alloc_new w _⟩
theorem SoRel.near {N : Nat} {St : (Nat → Nat) → World → Prop} {w : World} {bx : Array Value} {f f' : Nat → Nat} {wr w' : World} (hN : N ≤ w.heap.size) (h : SoRel N St w bx f wr) (hs : St f' w') (hn : Near N wr w') : SoRel N St w bx f' w' :=
  ⟨hs, h.2.1.trans hn, hn.box hN h.2.2⟩

variable {g sf : FuncId} {lb sb : Array Value} {n N : Nat} {K : Nat → J} {St : (Nat → Nat) → World → Prop}

set_option maxRecDepth 100000 in
theorem swapRange_any (E : SortEnv g sf lb sb n N K St) (f : Nat → Nat) (a b m : Nat) (w : World) (h : St f w) (h1 : a + m ≤ b) (h2 : b + m ≤ n) :
    Calls Tryz.prog 359 #[.agg (lessSwapV g sf lb sb), .int .i64 a, .int .i64 b, .int .i64 m] w (SoPost N St (fun f' => f' = swr f a b m) w) := by
  have hN := E.base _ _ h
  have hn := E.small
  have HR0 := Lib.hid (SoRel.start E h (lessSwapV g sf lb sb))
  have HE := Lib.hid E
  clear E h
  go_enter Tryz.func359, Tryz.ntmps359
  go_wp2_with fail
  go_loopw [8] (fun i wr => ∃ k : Nat, k ≤ m ∧ i = .int .i64 k ∧ Hid (SoRel N St w (lessSwapV g sf lb sb) (swr f a b k) wr)) (fun i _ => m - (intOf i).toNat)
  case atStart => exact ⟨0, Nat.zero_le _, rfl, by show SoRel _ _ _ _ _ _; rw [swr_zero]; exact HR0.out⟩
  case round =>
    obtain ⟨k, hk, rfl, hR⟩ := hrel
    by_cases ha : k < m
    · obtain ⟨W', hrun, hs, hnr⟩ := HE.out.swap _ wr (a + k) (b + k) hR.out.1 (by omega) (by omega) (by omega)
      have HK : Hid (SoRel N St w (lessSwapV g sf lb sb) (swr f a b (k + 1)) W') := by
        show SoRel _ _ _ _ _ _
        rw [← swr_succ f (show a + k < b by omega)]
        exact hR.out.near hN hs hnr
      have c0 : wr.cell? ⟨w.heap.size, 0, none⟩ = _ := box_cell hR.out.2.2 0
      have c1 : wr.cell? ⟨w.heap.size, 1, none⟩ = _ := box_cell hR.out.2.2 1
      clear hs hnr hR
      rw [show (((a + k : Nat) : Int)) = (a : Int) + k by omega, show (((b + k : Nat) : Int)) = (b : Int) + k by omega] at hrun
      have HRUN := Lib.hid hrun
      clear hrun
      go_wp2_with fail
      rw [HRUN.out, Oper.upon_value]
      clear c0 c1 HRUN
      go_wp2_with fail
      go_roundw
      case rel => exact ⟨k + 1, by omega, by go_num, HK⟩
      case measure => simp [intOf]; omega
    · have hk' : k = m := by omega
      subst hk'
      go_wp2_with fail
      go_end0
      exact ⟨rfl, _, rfl, hR.out.1, hR.out.2.1⟩
end Go.Proofs.YtfhppajnnbbcjaaGreatDoor
end

section
namespace Go.Proofs.YtfhppajnnbbcjaaGreatDoor
open Go.RowKit

variable {g sf : FuncId} {lb sb : Array Value} {n N : Nat} {K : Nat → J} {St : (Nat → Nat) → World → Prop}

set_option maxRecDepth 100000 in
theorem rotate_any (E : SortEnv g sf lb sb n N K St) (f : Nat → Nat) (a m b : Nat) (w : World) (h : St f w) (h1 : a < m) (h2 : m < b) (h3 : b ≤ n) :
    Calls Tryz.prog 340 #[.agg (lessSwapV g sf lb sb), .int .i64 a, .int .i64 m, .int .i64 b] w (SoPost N St (fun f' => f' = rot f a m b) w) := by
  have hN := E.base _ _ h
  have hn := E.small
  have HR0 := Lib.hid (SoRel.start E h (lessSwapV g sf lb sb))
  have HE := Lib.hid E
  clear E h
  have e1 : ((m : Int) - (a : Int)) = ((m - a : Nat) : Int) := by omega
  have e2 : ((b : Int) - (m : Int)) = ((b - m : Nat) : Int) := by omega
  go_enter Tryz.func340, Tryz.ntmps340
  go_wp2_with fail
  clear e1 e2
  go_loopw [8, 9] (fun vi vj wr => ∃ (i j : Nat) (f' : Nat → Nat), 0 < i ∧ 0 < j ∧ i ≤ m ∧ m + j ≤ n ∧ vi = .int .i64 i ∧ vj = .int .i64 j ∧ Hid (rot f' (m - i) m (m + j) = rot f a m b) ∧ Hid (SoRel N St w (lessSwapV g sf lb sb) f' wr)) (fun i j _ => (intOf i).toNat + (intOf j).toNat)
  case atStart =>
    refine ⟨m - a, b - m, f, by omega, by omega, by omega, by omega, rfl, rfl, ?_, HR0⟩
    show _ = _
    rw [show m - (m - a) = a by omega, show m + (b - m) = b by omega]
  case round =>
    obtain ⟨i, j, f', hi, hj, him, hjn, rfl, rfl, hrot, hR⟩ := hrel
    clear HR0
    have c0 : wr.cell? ⟨w.heap.size, 0, none⟩ = _ := box_cell hR.out.2.2 0
    have c1 : wr.cell? ⟨w.heap.size, 1, none⟩ = _ := box_cell hR.out.2.2 1
    have e1 : ((m : Int) - (i : Int)) = ((m - i : Nat) : Int) := by omega
    by_cases hij : i = j
    · have HS := Lib.hid (swapRange_any HE.out f' (m - i) m i wr hR.out.1 (by omega) (by omega))
      subst hij
      go_wp2_with fail
      refine HS.out.mono ?_
      rintro e w1 ⟨rfl, f1, rfl, hs, hnr⟩
      have HF := Lib.hid (And.intro hs (hR.out.2.1.trans hnr))
      have HQ := Lib.hid ((rot_even f' him).trans hrot.out)
      clear hs hnr HS c0 c1 e1
      go_wp2_with fail
      go_end0
      exact ⟨rfl, _, HQ.out, HF.out.1, HF.out.2⟩
    · have hne : ((i : Int) != (j : Int)) = true := by simp; omega
      by_cases hlt : j < i
      · have HS := Lib.hid (swapRange_any HE.out f' (m - i) m j wr hR.out.1 (by omega) (by omega))
        have HQ := Lib.hid ((rot_left f' hj hlt him).trans hrot.out)
        have e2 : ((i : Int) - (j : Int)) = ((i - j : Nat) : Int) := by omega
        clear hij
        go_wp2_with fail
        refine HS.out.mono ?_
        rintro e w1 ⟨rfl, f1, rfl, hs, hnr⟩
        have HF := Lib.hid (hR.out.near hN hs hnr)
        clear hs hnr HS c0 c1 e1
        go_wp2_with fail
        go_roundw
        case rel => exact ⟨i - j, j, _, by omega, hj, by omega, hjn, rfl, rfl, HQ, HF⟩
        case measure => simp [intOf]; omega
      · have hlt2 : i < j := by omega
        have HS := Lib.hid (swapRange_any HE.out f' (m - i) (m + j - i) i wr hR.out.1 (by omega) (by omega))
        have HQ := Lib.hid ((rot_right f' hi (show i < j by omega) him).trans hrot.out)
        have e2 : ((j : Int) - (i : Int)) = ((j - i : Nat) : Int) := by omega
        have e3 : ((m : Int) + (j : Int) - (i : Int)) = ((m + j - i : Nat) : Int) := by omega
        clear hij
        go_wp2_with fail
        refine HS.out.mono ?_
        rintro e w1 ⟨rfl, f1, rfl, hs, hnr⟩
        have HF := Lib.hid (hR.out.near hN hs hnr)
        clear hs hnr HS c0 c1 e1
        go_wp2_with fail
        go_roundw
        case rel => exact ⟨i, j - i, _, hi, by omega, him, by omega, rfl, rfl, HQ, HF⟩
        case measure => simp [intOf]; omega

set_option maxRecDepth 100000 in
set_option maxHeartbeats 1000000 in
theorem insertionSort_any (E : SortEnv g sf lb sb n N K St) (f : Nat → Nat) (a b : Nat) (w : World) (h : St f w) (h1 : a ≤ b) (h2 : b ≤ n) :
    Calls Tryz.prog 321 #[.agg (lessSwapV g sf lb sb), .int .i64 a, .int .i64 b] w (SoPost N St (fun f' => Sh f f' a b ∧ Sd K f' a b) w) := by
  have hN := E.base _ _ h
  have hn := E.small
  have HR0 := Lib.hid (SoRel.start E h (lessSwapV g sf lb sb))
  have HE := Lib.hid E
  clear E h
  go_enter Tryz.func321, Tryz.ntmps321
  go_wp2_with fail
  go_loopw [6] (fun vi wr => ∃ (i : Nat) (f' : Nat → Nat), a < i ∧ i ≤ b + 1 ∧ vi = .int .i64 i ∧ Hid (Sh f f' a b ∧ Sd K f' a (if i ≤ b then i else b)) ∧ Hid (SoRel N St w (lessSwapV g sf lb sb) f' wr)) (fun i _ => b + 1 - (intOf i).toNat)
  case atStart => exact ⟨a + 1, f, by omega, by omega, by go_num, ⟨Sh.refl _ _ _, Sd.small (by split <;> omega)⟩, HR0⟩
  case round =>
    obtain ⟨i, f', hai, hib, rfl, hS, hR⟩ := hrel
    clear HR0
    by_cases hlt : i < b
    · have HS := Lib.hid (show Sh f f' a b ∧ Ins K f' a i i from ⟨hS.out.1, Ins.start (by have := hS.out.2; rwa [if_pos (by omega)] at this)⟩)
      clear hS
      go_wp2_with fail
      go_loopw [7] (fun vj wr2 => ∃ (j : Nat) (f2 : Nat → Nat), a ≤ j ∧ j ≤ i ∧ vj = .int .i64 j ∧ Hid (Sh f f2 a b ∧ Ins K f2 a j i) ∧ Hid (SoRel N St w (lessSwapV g sf lb sb) f2 wr2)) (fun j _ => (intOf j).toNat)
      case atStart => exact ⟨i, f', by omega, Nat.le_refl _, rfl, HS, hR⟩
      case round =>
        obtain ⟨j, f2, haj, hji, rfl, hS2, hR2⟩ := hrel
        clear HS hR
        have c0 : wr.cell? ⟨w.heap.size, 0, none⟩ = _ := box_cell hR2.out.2.2 0
        have hdone : (j = a ∨ (a < j ∧ ¬ cmpJ (K (f2 j)) (K (f2 (j - 1))) < 0)) → Sh f f2 a b ∧ Sd K f2 a (if i + 1 ≤ b then i + 1 else b) := fun hs => ⟨hS2.out.1, by
          rw [if_pos (by omega)]
          refine Ins.done hS2.out.2 hji ?_
          rcases hs with h | ⟨h, h'⟩
          · exact .inl h
          · exact .inr ⟨h, cmpJ_le_of_not_lt h'⟩⟩
        have HD := Lib.hid hdone
        clear hdone
        by_cases hja : a < j
        · have hl := HE.out.less f2 wr j (j - 1) hR2.out.1 (by omega) (by omega)
          have eg := HE.out.enter
          rw [show (((j - 1 : Nat) : Int)) = (j : Int) - 1 by omega] at hl
          by_cases hc : cmpJ (K (f2 j)) (K (f2 (j - 1))) < 0
          · have hd : decide (cmpJ (K (f2 j)) (K (f2 (j - 1))) < 0) = true := by simpa using hc
            rw [hd] at hl
            have HC := Lib.hid (And.intro hl hc)
            clear hl hd hc
            go_wp2_with fail
            refine HC.out.1.mono ?_
            rintro e w1 ⟨rfl, hb1⟩
            have hR3 := hR2.out.near hN (HE.out.keep _ _ _ hR2.out.1 hb1) (Near.below hb1)
            obtain ⟨W', hrun, hs, hnr⟩ := HE.out.swap _ w1 j (j - 1) hR3.1 (by omega) (by omega) (by omega)
            rw [show (((j - 1 : Nat) : Int)) = (j : Int) - 1 by omega] at hrun
            have HRUN := Lib.hid hrun
            have HK := Lib.hid (hR3.near hN hs hnr)
            have HI := Lib.hid (show Sh f (swp f2 j (j - 1)) a b ∧ Ins K (swp f2 j (j - 1)) a (j - 1) i from ⟨hS2.out.1.trans (Sh.swp f2 (by omega) (by omega) (by omega) (by omega)), Ins.step hS2.out.2 hja hji HC.out.2⟩)
            have c0 : w1.cell? ⟨w.heap.size, 0, none⟩ = _ := box_cell hR3.2.2 0
            have c1 : w1.cell? ⟨w.heap.size, 1, none⟩ = _ := box_cell hR3.2.2 1
            clear hrun hs hnr hR3 hb1 HC hR2 hS2 HD
            go_wp2_with fail
            rw [HRUN.out, Oper.upon_value]
            clear HRUN
            go_wp2_with fail
            go_roundw
            case rel => exact ⟨j - 1, _, by omega, by omega, by congr 1; omega, HI, HK⟩
            case measure => simp [intOf]; omega
          · have hd : decide (cmpJ (K (f2 j)) (K (f2 (j - 1))) < 0) = false := by simpa using hc
            rw [hd] at hl
            have HC := Lib.hid hl
            replace HD := Lib.hid (HD.out (.inr ⟨hja, hc⟩))
            clear hl hd hc
            go_wp2_with (go_at_fn g; refine HC.out.mono ?_; rintro e w1 ⟨rfl, hb1⟩)
            have HK := Lib.hid (hR2.out.near hN (HE.out.keep _ _ _ hR2.out.1 hb1) (Near.below hb1))
            clear hb1 HC hR2 hS2
            go_roundw
            case rel => exact ⟨i + 1, _, by omega, by omega, by go_num, HD, HK⟩
            case measure => simp [intOf]; omega
        · replace HD := Lib.hid (HD.out (.inl (by omega)))
          clear hS2
          go_wp2_with fail
          go_roundw
          case rel => exact ⟨i + 1, _, by omega, by omega, by go_num, HD, hR2⟩
          case measure => simp [intOf]; omega
    · have HS := Lib.hid (show Sh f f' a b ∧ Sd K f' a b from ⟨hS.out.1, by
        have := hS.out.2
        split at this
        · rwa [show i = b by omega] at this
        · exact this⟩)
      clear hS
      go_wp2_with fail
      go_end0
      exact ⟨rfl, _, HS.out, hR.out.1, hR.out.2.1⟩
end Go.Proofs.YtfhppajnnbbcjaaGreatDoor
end

section
namespace Go.Proofs.YtfhppajnnbbcjaaGreatDoor
open Go.RowKit

variable {g sf : FuncId} {lb sb : Array Value} {n N : Nat} {K : Nat → J} {St : (Nat → Nat) → World → Prop}

abbrev SymPost (N : Nat) (K : Nat → J) (St : (Nat → Nat) → World → Prop) (f : Nat → Nat) (a b : Nat) (w : World) : Ending → World → Prop := SoPost N St (fun f' => Sh f f' a b ∧ Sd K f' a b) w

set_option maxRecDepth 100000 in
set_option maxHeartbeats 2000000 in
theorem symMerge_left (E : SortEnv g sf lb sb n N K St) (f : Nat → Nat) (a m b : Nat) (w : World) (h : St f w) (h1 : m = a + 1) (h2 : m < b) (h3 : b ≤ n) (s2 : Sd K f m b) :
    Calls Tryz.prog 322 #[.agg (lessSwapV g sf lb sb), .int .i64 a, .int .i64 m, .int .i64 b] w (SymPost N K St f a b w) := by
  have hN := E.base _ _ h
  have hn := E.small
  have HR0 := Lib.hid (SoRel.start E h (lessSwapV g sf lb sb))
  have HE := Lib.hid E
  have HS2 := Lib.hid s2
  have HM := Lib.hid h1
  have ham : a < m := by omega
  have e1 : ((m : Int) - (a : Int) == 1) = true := by simp; omega
  clear E h s2 h1
  go_enter Tryz.func322, Tryz.ntmps322
  go_wp2_with fail
  clear e1
  go_loopw [8, 9] (fun vi vj wr => ∃ i j : Nat, m ≤ i ∧ i ≤ j ∧ j ≤ b ∧ vi = .int .i64 i ∧ vj = .int .i64 j ∧ Hid (i = m ∨ cmpJ (K (f (i - 1))) (K (f a)) < 0) ∧ Hid (j = b ∨ cmpJ (K (f a)) (K (f j)) ≤ 0) ∧ Hid (SoRel N St w (lessSwapV g sf lb sb) f wr)) (fun i j _ => (intOf j).toNat - (intOf i).toNat)
  case atStart => exact ⟨m, b, Nat.le_refl _, by omega, Nat.le_refl _, rfl, rfl, .inl rfl, .inl rfl, HR0⟩
  case round =>
    obtain ⟨i, j, hi, hij, hjb, rfl, rfl, hlo, hhi, hR⟩ := hrel
    clear HR0
    by_cases hlt : i < j
    · have c0 : wr.cell? ⟨w.heap.size, 0, none⟩ = _ := box_cell hR.out.2.2 0
      have c1 : wr.cell? ⟨w.heap.size, 1, none⟩ = _ := box_cell hR.out.2.2 1
      have eg := HE.out.enter
      obtain ⟨c, hc, e2⟩ : ∃ c : Nat, (i ≤ c ∧ c < j) ∧ ((i : Int) + (j : Int)) / 2 = (c : Int) := ⟨(i + j) / 2, by omega, by omega⟩
      have hl := HE.out.less f wr c a hR.out.1 (by omega) (by omega)
      by_cases hd : cmpJ (K (f c)) (K (f a)) < 0
      · have hd' : decide (cmpJ (K (f c)) (K (f a)) < 0) = true := by simpa using hd
        rw [hd'] at hl
        have HC := Lib.hid hl
        have HLO := Lib.hid (show c + 1 = m ∨ cmpJ (K (f (c + 1 - 1))) (K (f a)) < 0 from .inr hd)
        clear hl hd hd'
        go_wp2_with fail
        refine HC.out.mono ?_
        rintro e w1 ⟨rfl, hb1⟩
        have HK := Lib.hid (hR.out.near hN (HE.out.keep _ _ _ hR.out.1 hb1) (Near.below hb1))
        clear hb1 HC hR c0 c1 eg hlo
        go_wp2_with fail
        clear e2
        go_roundw
        case rel => exact ⟨c + 1, j, by omega, by omega, hjb, by go_num, rfl, HLO, hhi, HK⟩
        case measure => simp [intOf]; omega
      · have hd' : decide (cmpJ (K (f c)) (K (f a)) < 0) = false := by simpa using hd
        rw [hd'] at hl
        have HC := Lib.hid hl
        have HHI := Lib.hid (show c = b ∨ cmpJ (K (f a)) (K (f c)) ≤ 0 from .inr (cmpJ_le_of_not_lt hd))
        clear hl hd hd'
        go_wp2_with fail
        refine HC.out.mono ?_
        rintro e w1 ⟨rfl, hb1⟩
        have HK := Lib.hid (hR.out.near hN (HE.out.keep _ _ _ hR.out.1 hb1) (Near.below hb1))
        clear hb1 HC hR c0 c1 eg hhi
        go_wp2_with fail
        clear e2
        go_roundw
        case rel => exact ⟨i, c, by omega, by omega, by omega, rfl, rfl, hlo, HHI, HK⟩
        case measure => simp [intOf]; omega
    · have hij' : i = j := by omega
      subst hij'
      go_wp2_with fail
      go_loopw [11] (fun vk wr => ∃ k : Nat, a ≤ k ∧ k + 1 ≤ i ∧ vk = .int .i64 k ∧ Hid (SoRel N St w (lessSwapV g sf lb sb) (rot f a m (k + 1)) wr)) (fun k _ => i - (intOf k).toNat)
      case atStart => exact ⟨a, Nat.le_refl _, by omega, rfl, by show SoRel _ _ _ _ _ _; rw [← HM.out, rot_one]; exact hR.out⟩
      case round =>
        obtain ⟨k, hak, hki, rfl, hR2⟩ := hrel
        clear hR
        by_cases hlt2 : k + 1 < i
        · obtain ⟨W', hrun, hs, hnr⟩ := HE.out.swap _ wr k (k + 1) hR2.out.1 (by omega) (by omega) (by omega)
          have HK : Hid (SoRel N St w (lessSwapV g sf lb sb) (rot f a m (k + 1 + 1)) W') := by
            show SoRel _ _ _ _ _ _
            have := rot_up f hak
            rw [HM.out, ← this, ← HM.out]
            exact hR2.out.near hN hs hnr
          have c0 : wr.cell? ⟨w.heap.size, 0, none⟩ = _ := box_cell hR2.out.2.2 0
          have c1 : wr.cell? ⟨w.heap.size, 1, none⟩ = _ := box_cell hR2.out.2.2 1
          rw [show (((k + 1 : Nat) : Int)) = (k : Int) + 1 by omega] at hrun
          have HRUN := Lib.hid hrun
          have hq : decide ((k : Int) < (i : Int) - 1) = true := by simp; omega
          clear hrun hs hnr hR2
          go_wp2_with fail
          rw [HRUN.out, Oper.upon_value]
          clear HRUN c0 c1
          go_wp2_with fail
          clear hq
          go_roundw
          case rel => exact ⟨k + 1, by omega, by omega, by go_num, HK⟩
          case measure => simp [intOf]; omega
        · have hki' : i = k + 1 := by omega
          have HF := Lib.hid (show Sh f (rot f a m (k + 1)) a b ∧ Sd K (rot f a m (k + 1)) a b from ⟨(Sh.rot f (Nat.le_of_lt ham) (by omega)).mono (Nat.le_refl _) (by omega), by
            rw [HM.out]
            refine merge_one (by rw [← HM.out]; exact HS2.out) (by omega) (by omega) ?_ ?_
            · rw [← hki']; have := hlo.out; rwa [HM.out] at this
            · rw [← hki']; exact hhi.out⟩)
          have hq : decide ((k : Int) < (i : Int) - 1) = false := by simp; omega
          clear hki'
          go_wp2_with fail
          go_end0
          exact ⟨rfl, _, HF.out, hR2.out.1, hR2.out.2.1⟩
set_option maxRecDepth 100000 in
set_option maxHeartbeats 2000000 in
theorem symMerge_right (E : SortEnv g sf lb sb n N K St) (f : Nat → Nat) (a m b : Nat) (w : World) (h : St f w) (h0 : a + 1 < m) (h1 : b = m + 1) (h3 : b ≤ n) (s1 : Sd K f a m) :
    Calls Tryz.prog 322 #[.agg (lessSwapV g sf lb sb), .int .i64 a, .int .i64 m, .int .i64 b] w (SymPost N K St f a b w) := by
  have hN := E.base _ _ h
  have hn := E.small
  have HR0 := Lib.hid (SoRel.start E h (lessSwapV g sf lb sb))
  have HE := Lib.hid E
  have HS1 := Lib.hid s1
  have HM := Lib.hid h1
  have hmb : m < b := by omega
  have e1 : ((m : Int) - (a : Int) == 1) = false := by simp; omega
  have e2 : ((b : Int) - (m : Int) == 1) = true := by simp; omega
  clear E h s1 h1
  go_enter Tryz.func322, Tryz.ntmps322
  go_wp2_with fail
  clear e1 e2
  go_loopw [12, 13] (fun vi vj wr => ∃ i j : Nat, a ≤ i ∧ i ≤ j ∧ j ≤ m ∧ vi = .int .i64 i ∧ vj = .int .i64 j ∧ Hid (i = a ∨ cmpJ (K (f (i - 1))) (K (f m)) ≤ 0) ∧ Hid (j = m ∨ cmpJ (K (f m)) (K (f j)) < 0) ∧ Hid (SoRel N St w (lessSwapV g sf lb sb) f wr)) (fun i j _ => (intOf j).toNat - (intOf i).toNat)
  case atStart => exact ⟨a, m, Nat.le_refl _, by omega, Nat.le_refl _, rfl, rfl, .inl rfl, .inl rfl, HR0⟩
  case round =>
    obtain ⟨i, j, hi, hij, hjb, rfl, rfl, hlo, hhi, hR⟩ := hrel
    clear HR0
    by_cases hlt : i < j
    · have c0 : wr.cell? ⟨w.heap.size, 0, none⟩ = _ := box_cell hR.out.2.2 0
      have c1 : wr.cell? ⟨w.heap.size, 1, none⟩ = _ := box_cell hR.out.2.2 1
      have eg := HE.out.enter
      obtain ⟨c, hc, e2⟩ : ∃ c : Nat, (i ≤ c ∧ c < j) ∧ ((i : Int) + (j : Int)) / 2 = (c : Int) := ⟨(i + j) / 2, by omega, by omega⟩
      have hl := HE.out.less f wr m c hR.out.1 (by omega) (by omega)
      by_cases hd : cmpJ (K (f m)) (K (f c)) < 0
      · have hd' : decide (cmpJ (K (f m)) (K (f c)) < 0) = true := by simpa using hd
        rw [hd'] at hl
        have HC := Lib.hid hl
        have HHI := Lib.hid (show c = m ∨ cmpJ (K (f m)) (K (f c)) < 0 from .inr hd)
        clear hl hd hd'
        go_wp2_with fail
        refine HC.out.mono ?_
        rintro e w1 ⟨rfl, hb1⟩
        have HK := Lib.hid (hR.out.near hN (HE.out.keep _ _ _ hR.out.1 hb1) (Near.below hb1))
        clear hb1 HC hR c0 c1 eg hhi
        go_wp2_with fail
        clear e2
        go_roundw
        case rel => exact ⟨i, c, by omega, by omega, by omega, rfl, rfl, hlo, HHI, HK⟩
        case measure => simp [intOf]; omega
      · have hd' : decide (cmpJ (K (f m)) (K (f c)) < 0) = false := by simpa using hd
        rw [hd'] at hl
        have HC := Lib.hid hl
        have HLO := Lib.hid (show c + 1 = a ∨ cmpJ (K (f (c + 1 - 1))) (K (f m)) ≤ 0 from .inr (cmpJ_le_of_not_lt hd))
        clear hl hd hd'
        go_wp2_with fail
        refine HC.out.mono ?_
        rintro e w1 ⟨rfl, hb1⟩
        have HK := Lib.hid (hR.out.near hN (HE.out.keep _ _ _ hR.out.1 hb1) (Near.below hb1))
        clear hb1 HC hR c0 c1 eg hlo
        go_wp2_with fail
        clear e2
        go_roundw
        case rel => exact ⟨c + 1, j, by omega, by omega, hjb, by go_num, rfl, HLO, hhi, HK⟩
        case measure => simp [intOf]; omega
    · have hij' : i = j := by omega
      subst hij'
      go_wp2_with fail
      go_loopw [15] (fun vk wr => ∃ k : Nat, i ≤ k ∧ k ≤ m ∧ vk = .int .i64 k ∧ Hid (SoRel N St w (lessSwapV g sf lb sb) (rot f k m (m + 1)) wr)) (fun k _ => (intOf k).toNat)
      case atStart => exact ⟨m, by omega, Nat.le_refl _, rfl, by show SoRel _ _ _ _ _ _; rw [rot_none]; exact hR.out⟩
      case round =>
        obtain ⟨k, hik, hkm, rfl, hR2⟩ := hrel
        clear hR
        by_cases hlt2 : i < k
        · obtain ⟨W', hrun, hs, hnr⟩ := HE.out.swap _ wr k (k - 1) hR2.out.1 (by omega) (by omega) (by omega)
          have HK : Hid (SoRel N St w (lessSwapV g sf lb sb) (rot f (k - 1) m (m + 1)) W') := by
            show SoRel _ _ _ _ _ _
            rw [← rot_down f (show 0 < k by omega) hkm]
            exact hR2.out.near hN hs hnr
          have c0 : wr.cell? ⟨w.heap.size, 0, none⟩ = _ := box_cell hR2.out.2.2 0
          have c1 : wr.cell? ⟨w.heap.size, 1, none⟩ = _ := box_cell hR2.out.2.2 1
          rw [show (((k - 1 : Nat) : Int)) = (k : Int) - 1 by omega] at hrun
          have HRUN := Lib.hid hrun
          clear hrun hs hnr hR2
          go_wp2_with fail
          rw [HRUN.out, Oper.upon_value]
          clear HRUN c0 c1
          go_wp2_with fail
          go_roundw
          case rel => exact ⟨k - 1, by omega, by omega, by congr 1; omega, HK⟩
          case measure => simp [intOf]; omega
        · have hki' : k = i := by omega
          subst hki'
          have HF := Lib.hid (show Sh f (rot f k m (m + 1)) a b ∧ Sd K (rot f k m (m + 1)) a b from ⟨by
            rw [HM.out]
            exact (Sh.rot f hkm (by omega)).mono (by omega) (Nat.le_refl _), by
            rw [HM.out]
            exact merge_last HS1.out (by omega) hkm hlo.out hhi.out⟩)
          go_wp2_with fail
          go_end0
          exact ⟨rfl, _, HF.out, hR2.out.1, hR2.out.2.1⟩
end Go.Proofs.YtfhppajnnbbcjaaGreatDoor
end
