/- Pure: products of doubles that are integers or halves, and what a double that is an integer is good for. -/
import Derived.Test.YtfhppajnnbbcjaaGreatDoorGy8
namespace Go.Proofs.YtfhppajnnbbcjaaGreatDoor
open Ieee

/-- 53 digits are enough -/
def S53 (n : Int) : Prop := ∃ (m : Int) (t : Nat), n = m * 2 ^ t ∧ m.natAbs < 2 ^ 53 ∧ t ≤ 100

theorem natAbs_shift (m : Int) (t : Nat) : (m * 2 ^ t).natAbs = m.natAbs * 2 ^ t := by rw [Int.natAbs_mul, Int.natAbs_pow]; rfl

theorem neg_shift (m : Int) (t : Nat) : decide (m * 2 ^ t < 0) = decide (m < 0) := by
  have hp : (0 : Int) < 2 ^ t := Int.pow_pos (by omega)
  rw [decide_eq_decide]
  constructor
  · intro h
    exact Int.lt_of_not_ge fun hm => by have := Int.mul_nonneg hm (Int.le_of_lt hp); omega
  · intro h
    exact Int.mul_neg_of_neg_of_pos h hp

theorem shift_ne {m : Int} (h : m ≠ 0) (t : Nat) : m * 2 ^ t ≠ 0 := Int.mul_ne_zero h (Int.ne_of_gt (Int.pow_pos (by omega)))

theorem log2_shift {m : Nat} (h : m ≠ 0) (t : Nat) : (m * 2 ^ t).log2 = m.log2 + t := by
  obtain ⟨h1, h2⟩ := self_bounds h
  apply log2_of
  · rw [Nat.pow_add]; exact Nat.mul_le_mul_right _ h1
  · rw [show m.log2 + t + 1 = m.log2 + 1 + t by omega, Nat.pow_add]; exact Nat.mul_lt_mul_of_pos_right h2 (Nat.two_pow_pos _)

theorem fl_shift {m : Int} (h : m.natAbs < 2 ^ 53) (t : Nat) {e : Int} (hlo : -900 ≤ e) (hhi : e + t ≤ 800) : fl (m * 2 ^ t) e = fl m (e + t) := by
  by_cases h0 : m = 0
  · subst h0; rw [Int.zero_mul, fl_zero, fl_zero]
  have h0' : m.natAbs ≠ 0 := by omega
  have hl := log2_le (k := 52) h
  obtain ⟨b1, b2⟩ := sig_bounds h0' h
  rw [fl_word h0 h (by omega) (by omega)]
  by_cases hs : 52 ≤ m.natAbs.log2 + t
  · unfold fl
    rw [natAbs_shift, neg_shift]
    refine nearest_sig _ _ _ (sig m.natAbs) (m.natAbs.log2 + t - 52) ?_ b1 b2 _ (by omega) (by omega) (by omega)
    unfold sig
    rw [Nat.mul_assoc, ← Nat.pow_add, show 52 - m.natAbs.log2 + (m.natAbs.log2 + t - 52) = t by omega]
  · have hlt : (m * 2 ^ t).natAbs < 2 ^ 53 := by
      rw [natAbs_shift]
      calc m.natAbs * 2 ^ t < 2 ^ (m.natAbs.log2 + 1) * 2 ^ t := Nat.mul_lt_mul_of_pos_right (self_bounds h0').2 (Nat.two_pow_pos _)
        _ = 2 ^ (m.natAbs.log2 + 1 + t) := (Nat.pow_add _ _ _).symm
        _ ≤ 2 ^ 53 := Nat.pow_le_pow_right (by omega) (by omega)
    rw [fl_word (shift_ne h0 t) hlt (by omega) (by omega), neg_shift, natAbs_shift, log2_shift h0']
    have hsg : sig (m.natAbs * 2 ^ t) = sig m.natAbs := by
      unfold sig
      rw [log2_shift h0', Nat.mul_assoc, ← Nat.pow_add, show t + (52 - (m.natAbs.log2 + t)) = 52 - m.natAbs.log2 by omega]
    rw [hsg, show e + ((m.natAbs.log2 + t : Nat) : Int) - 52 = e + (t : Int) + (m.natAbs.log2 : Int) - 52 by omega]

/-- a product that has 53 digits is exact -/
theorem fl_mul53 {a b c : Int} {t : Nat} (ha0 : a ≠ 0) (hb0 : b ≠ 0) (ha : a.natAbs < 2 ^ 53) (hb : b.natAbs < 2 ^ 53) (hc : c.natAbs < 2 ^ 53) (h : a * b = c * 2 ^ t) (ht : t ≤ 200) {e f : Int} (he : -100 ≤ e ∧ e ≤ 100) (hf : -100 ≤ f ∧ f ≤ 100) :
    double.mul (fl a e) (fl b f) = some (fl c (e + f + t)) := by
  have hc0 : c ≠ 0 := by
    rintro rfl
    rw [Int.zero_mul] at h
    rcases Int.mul_eq_zero.1 h with h | h
    · exact ha0 h
    · exact hb0 h
  have a0 : a.natAbs ≠ 0 := by omega
  have b0 : b.natAbs ≠ 0 := by omega
  have c0 : c.natAbs ≠ 0 := by omega
  have la := log2_le (k := 52) ha
  have lb := log2_le (k := 52) hb
  have lc := log2_le (k := 52) hc
  obtain ⟨k1, k2⟩ := sig_bounds c0 hc
  have hab : a.natAbs * b.natAbs = c.natAbs * 2 ^ t := by rw [← Int.natAbs_mul, h, natAbs_shift]
  have hlog : a.natAbs.log2 + b.natAbs.log2 < c.natAbs.log2 + 1 + t := by
    have h1 : 2 ^ (a.natAbs.log2 + b.natAbs.log2) < 2 ^ (c.natAbs.log2 + 1 + t) := by
      calc 2 ^ (a.natAbs.log2 + b.natAbs.log2) = 2 ^ a.natAbs.log2 * 2 ^ b.natAbs.log2 := Nat.pow_add _ _ _
        _ ≤ a.natAbs * b.natAbs := Nat.mul_le_mul (self_bounds a0).1 (self_bounds b0).1
        _ = c.natAbs * 2 ^ t := hab
        _ < 2 ^ (c.natAbs.log2 + 1) * 2 ^ t := Nat.mul_lt_mul_of_pos_right (self_bounds c0).2 (Nat.two_pow_pos _)
        _ = 2 ^ (c.natAbs.log2 + 1 + t) := (Nat.pow_add _ _ _).symm
    exact (Nat.pow_lt_pow_iff_right (by omega)).1 h1
  have hneg : (decide (a < 0) ^^ decide (b < 0)) = decide (c < 0) := by
    rw [← neg_shift c t, ← h]
    rcases Int.lt_or_gt_of_ne ha0 with x | x <;> rcases Int.lt_or_gt_of_ne hb0 with y | y
    · have := Int.mul_pos_of_neg_of_neg x y
      rw [decide_eq_true x, decide_eq_true y, decide_eq_false (by omega)]; rfl
    · have := Int.mul_neg_of_neg_of_pos x y
      rw [decide_eq_true x, decide_eq_false (by omega), decide_eq_true this]; rfl
    · have := Int.mul_neg_of_pos_of_neg x y
      rw [decide_eq_false (by omega), decide_eq_true y, decide_eq_true this]; rfl
    · have := Int.mul_pos x y
      rw [decide_eq_false (by omega), decide_eq_false (by omega), decide_eq_false (by omega)]; rfl
  unfold Format.mul
  rw [fl_read ha0 ha (by omega) (by omega), fl_read hb0 hb (by omega) (by omega), fl_word hc0 hc (by omega) (by omega)]
  simp only [Datum.product, hneg, Option.map_some]
  refine congrArg some ?_
  show double.nearest _ _ _ = _
  refine nearest_sig _ _ _ (sig c.natAbs) (c.natAbs.log2 + t + 52 - a.natAbs.log2 - b.natAbs.log2) ?_ k1 k2 _ (by omega) (by omega) (by omega)
  unfold sig
  calc a.natAbs * 2 ^ (52 - a.natAbs.log2) * (b.natAbs * 2 ^ (52 - b.natAbs.log2)) = a.natAbs * b.natAbs * (2 ^ (52 - a.natAbs.log2) * 2 ^ (52 - b.natAbs.log2)) := by ac_rfl
    _ = c.natAbs * (2 ^ t * 2 ^ (52 - a.natAbs.log2 + (52 - b.natAbs.log2))) := by rw [hab, ← Nat.pow_add, Nat.mul_assoc]
    _ = c.natAbs * (2 ^ (52 - c.natAbs.log2) * 2 ^ (c.natAbs.log2 + t + 52 - a.natAbs.log2 - b.natAbs.log2)) := by
      rw [← Nat.pow_add, ← Nat.pow_add]
      congr 2
      omega
    _ = _ := by rw [Nat.mul_assoc]

theorem S53_small {n : Int} (h : n.natAbs < 2 ^ 53) : S53 n := ⟨n, 0, by simp, h, by omega⟩
theorem S53_half {n : Int} (h : -18014398509481984 ≤ n ∧ n ≤ 18014398509481984) (he : n % 2 = 0 ∨ (-9007199254740992 < n ∧ n < 9007199254740992)) : S53 n := by
  by_cases hs : n.natAbs < 2 ^ 53
  · exact S53_small hs
  · by_cases hb : (n / 2).natAbs < 2 ^ 53
    · exact ⟨n / 2, 1, by omega, hb, by omega⟩
    · exact ⟨n / 4, 2, by omega, by omega, by omega⟩

/-- an integer times a half: an integer or a half -/
theorem fl_mul_half {a b n : Int} (ha : -9007199254740992 ≤ a ∧ a ≤ 9007199254740992) (hb0 : b ≠ 0) (hb : b.natAbs < 2 ^ 53) (hn : S53 n) (h : a * b = n) (ha0 : a ≠ 0) :
    double.mul (fl a 0) (fl b (-1)) = some (fl n (-1)) := by
  obtain ⟨m, t, rfl, hm, ht⟩ := hn
  rw [fl_shift hm t (by omega) (by omega)]
  by_cases h53 : a.natAbs < 2 ^ 53
  · rw [fl_mul53 ha0 hb0 h53 hb hm h (by omega) (by omega) (by omega)]
    exact congrArg some (congrArg (fl m) (by omega))
  · obtain ⟨s, hs, hs1⟩ : ∃ s : Int, a = s * 2 ^ 53 ∧ (s = 1 ∨ s = -1) := by
      rcases (show a = 9007199254740992 ∨ a = -9007199254740992 by omega) with rfl | rfl
      · exact ⟨1, by decide, .inl rfl⟩
      · exact ⟨-1, by decide, .inr rfl⟩
    have hsb : s.natAbs < 2 ^ 53 := by rcases hs1 with rfl | rfl <;> decide
    have hs0 : s ≠ 0 := by rcases hs1 with rfl | rfl <;> decide
    have hsn : (s * b).natAbs < 2 ^ 53 := by rcases hs1 with rfl | rfl <;> (simp; omega)
    have e1 : fl m (-1 + (t : Int)) = fl (s * b) (-1 + 53) := by
      rw [← fl_shift hm t (by omega) (by omega), ← h, hs, show s * 2 ^ 53 * b = s * b * 2 ^ 53 by rw [Int.mul_assoc, Int.mul_comm (2 ^ 53) b, ← Int.mul_assoc]]
      exact fl_shift hsn 53 (by omega) (by omega)
    rw [hs, fl_shift hsb 53 (by omega) (by omega), e1, fl_mul53 (c := s * b) (t := 0) hs0 hb0 hsb hb hsn (by simp) (by omega) (by omega) (by omega)]
    rfl

theorem mul_comm_fl (x y : Nat) (s t : Bool) (K L : Nat) (p q : Int) (hx : double.read x = .number s K p) (hy : double.read y = .number t L q) : double.mul x y = double.mul y x := by
  unfold Format.mul
  rw [hx, hy]
  simp only [Datum.product]
  rw [Bool.xor_comm, Nat.mul_comm, Int.add_comm]

theorem fl_half_mul {a b n : Int} (ha : -9007199254740992 ≤ a ∧ a ≤ 9007199254740992) (hb0 : b ≠ 0) (hb : b.natAbs < 2 ^ 53) (hn : S53 n) (h : a * b = n) (ha0 : a ≠ 0) :
    double.mul (fl b (-1)) (fl a 0) = some (fl n (-1)) := by
  obtain ⟨s, K, p, h1, -, -⟩ := fl_data (n := a) (by omega) (e := 0) (by omega) (by omega)
  obtain ⟨t, L, q, h2, -, -⟩ := fl_data (n := b) (by omega) (e := -1) (by omega) (by omega)
  rw [mul_comm_fl _ _ _ _ _ _ _ _ h2 h1]
  exact fl_mul_half ha hb0 hb hn h ha0

/-- 0 times a half that is not below 0 -/
theorem fl_mul_zero {b : Int} (hb0 : 0 < b) (hb : b.natAbs < 2 ^ 53) : double.mul 0 (fl b (-1)) = some 0 ∧ double.mul (fl b (-1)) 0 = some 0 := by
  have hr := fl_read (n := b) (by omega) hb (e := -1) (by omega) (by omega)
  rw [decide_eq_false (by omega)] at hr
  unfold Format.mul
  rw [hr, read_zero]
  simp [Datum.product, Format.write, Format.nearest, Format.word]

/-- what a word that is an integer is good for -/
structure WholeW (y : Nat) (n : Int) : Prop where
  self : double.order y y = some .eq
  lo : double.order y 14109777632551763968 = some .gt
  hi : double.order y 4886405595696988160 = some .lt
  int : (double.read y).toInt .zero = some n
  num : ∃ s K p, double.read y = .number s K p
  whole : double.write ((double.read y).integral .zero) = y
  bd : -18014398509481984 ≤ n ∧ n ≤ 18014398509481984

set_option exponentiation.threshold 4000 in
theorem data_orders {y : Nat} {s : Bool} {K : Nat} {p n : Int} (hr : double.read y = .number s K p) (hp : -1074 ≤ p) (hv : signed s K (p + 1074).toNat = n * 2 ^ 1074) (hn : -18014398509481984 ≤ n ∧ n ≤ 18014398509481984) :
    double.order y 14109777632551763968 = some .gt ∧ double.order y 4886405595696988160 = some .lt := by
  have c1 : double.read 14109777632551763968 = .number true (2 ^ 52) 10 := by decide
  have c2 : double.read 4886405595696988160 = .number false (2 ^ 52) 10 := by decide
  unfold Format.order
  rw [hr, c1, c2, order_at (-1074) hp (by omega), order_at (-1074) hp (by omega), show p - -1074 = p + 1074 by omega, hv]
  have e1 : signed true (2 ^ 52) ((10 : Int) - -1074).toNat = -4611686018427387904 * 2 ^ 1074 := by
    unfold signed
    rw [Nat.shiftLeft_eq, show ((10 : Int) - -1074).toNat = 10 + 1074 from rfl, Nat.pow_add, ← Nat.mul_assoc]
    simp only [if_true]
    rw [Int.natCast_mul, ← Int.neg_mul]
    rfl
  have e2 : signed false (2 ^ 52) ((10 : Int) - -1074).toNat = 4611686018427387904 * 2 ^ 1074 := by
    unfold signed
    rw [Nat.shiftLeft_eq, show ((10 : Int) - -1074).toNat = 10 + 1074 from rfl, Nat.pow_add, ← Nat.mul_assoc]
    simp only [Bool.false_eq_true, if_false]
    rw [Int.natCast_mul]
    rfl
  rw [e1, e2, compare_scale, compare_scale]
  exact ⟨congrArg some (Int.compare_eq_gt.2 (by omega)), congrArg some (Int.compare_eq_lt.2 (by omega))⟩

theorem whole_fl {n : Int} (h0 : n ≠ 0) (hs : S53 n) (hb : -18014398509481984 ≤ n ∧ n ≤ 18014398509481984) : WholeW (fl n 0) n := by
  obtain ⟨m, t, hnm, hm, ht⟩ := hs
  have hm0 : m ≠ 0 := by rintro rfl; rw [Int.zero_mul] at hnm; exact h0 hnm
  have hm0' : m.natAbs ≠ 0 := by omega
  have hl := log2_le (k := 52) hm
  have hf : fl n 0 = fl m (0 + t) := by rw [hnm]; exact fl_shift hm t (by omega) (by omega)
  have hr := fl_read hm0 hm (e := 0 + t) (by omega) (by omega)
  have hneg : decide (m < 0) = decide (n < 0) := by rw [hnm, neg_shift]
  have hnat : n.natAbs = m.natAbs * 2 ^ t := by rw [hnm, natAbs_shift]
  have hint : (double.read (fl n 0)).integral .zero = .number (n < 0) n.natAbs 0 := by
    rw [hf, hr, hneg]
    simp only [Datum.integral]
    congr 1
    by_cases hge : 52 ≤ m.natAbs.log2 + t
    · have e1 : ((0 : Int) + (t : Int) + (m.natAbs.log2 : Int) - 52).toNat = m.natAbs.log2 + t - 52 := by omega
      have e2 : (-((0 : Int) + (t : Int) + (m.natAbs.log2 : Int) - 52)).toNat = 0 := by omega
      rw [e1, e2]
      have := cut_exact .zero (decide (n < 0)) (sig m.natAbs <<< (m.natAbs.log2 + t - 52)) 0
      rw [Nat.pow_zero, Nat.mul_one] at this
      rw [this, Nat.shiftLeft_eq, hnat]
      unfold sig
      rw [Nat.mul_assoc, ← Nat.pow_add, show 52 - m.natAbs.log2 + (m.natAbs.log2 + t - 52) = t by omega]
    · have e1 : ((0 : Int) + (t : Int) + (m.natAbs.log2 : Int) - 52).toNat = 0 := by omega
      have e2 : (-((0 : Int) + (t : Int) + (m.natAbs.log2 : Int) - 52)).toNat = 52 - m.natAbs.log2 - t := by omega
      rw [e1, e2, Nat.shiftLeft_zero, hnat]
      unfold sig
      rw [show 52 - m.natAbs.log2 = t + (52 - m.natAbs.log2 - t) by omega, Nat.pow_add, ← Nat.mul_assoc, show t + (52 - m.natAbs.log2 - t) - t = 52 - m.natAbs.log2 - t by omega, cut_exact]
  obtain ⟨s, K, p, hr', hp, hv⟩ := fl_data (n := m) (by omega) (e := 0 + t) (by omega) (by omega)
  rw [← hf] at hr'
  have hv' : signed s K (p + 1074).toNat = n * 2 ^ 1074 := by
    rw [hv, hnm, show ((0 : Int) + (t : Int) + 1074).toNat = t + 1074 by omega, Int.pow_add, Int.mul_assoc]
  obtain ⟨o1, o2⟩ := data_orders hr' hp hv' hb
  refine ⟨?_, o1, o2, ?_, ⟨s, K, p, hr'⟩, ?_, hb⟩
  · unfold Format.order
    rw [hr']
    simp [Datum.order]
  · unfold Datum.toInt
    rw [hint]
    simp only [signed, Nat.shiftLeft_zero]
    by_cases hn : n < 0
    · simp [hn]; omega
    · simp [hn]; omega
  · rw [hint]
    rfl

theorem whole_zero : WholeW 0 0 := by
  refine ⟨by decide, by decide, by decide, by decide, ⟨_, _, _, read_zero⟩, by decide, by omega⟩

/-- '2 * x' -/
theorem fl_two_mulS {n : Int} (h0 : n ≠ 0) (hs : S53 n) : double.mul 4611686018427387904 (fl n (-1)) = some (fl n 0) := by
  obtain ⟨m, t, rfl, hm, ht⟩ := hs
  have hm0 : m ≠ 0 := by rintro rfl; simp at h0
  rw [fl_shift hm t (by omega) (by omega), fl_shift hm t (by omega) (by omega)]
  have h2 : (4611686018427387904 : Nat) = fl 1 1 := by decide
  rw [h2, fl_mul53 (a := 1) (b := m) (c := m) (t := 0) (by omega) hm0 (by decide) hm hm (by simp) (by omega) (by omega) (by omega)]
  congr 2
  omega
theorem two_mul_zero : double.mul 4611686018427387904 0 = some 0 := by decide
end Go.Proofs.YtfhppajnnbbcjaaGreatDoor
