/- Pure: doubles that are integers or halves: what the model's float operations give at them.
   The memory words: how a Go value of type any stands for a JSON value; maps.
   Laws: type assertions on values of type any, at the types that a JSON value has.
   The memory words: a list of structs impl.Value that a call appends to.
   Laws: reading a map of the form map[string]any.
   Walks: spec.looker's small methods.
   unicode/utf8.ValidString at this program: the shelf's contract, laid by its own program in plain words; spec.looker's str. -/
import GoSem.Core.Float
import Derived.Test.YtfhppajnnbbcjaaGreatDoorGy1
import Derived.Maps.Ext
import Derived.WalkLawsBesides
import Derived.Maps.AppendAt
import Derived.Maps.OwnSet
import Derived.StringKeys
import Derived.Shelf.Unicode.ValidAny

section
namespace Go.Proofs.YtfhppajnnbbcjaaGreatDoor
open Ieee

theorem log2_le {m k : Nat} (h : m < 2 ^ (k + 1)) : m.log2 ≤ k := by
  rcases Nat.eq_zero_or_pos m with rfl | hp
  · simp
  · exact Nat.lt_succ_iff.1 ((Nat.log2_lt (by omega)).2 h)

theorem log2_of {m k : Nat} (h1 : 2 ^ k ≤ m) (h2 : m < 2 ^ (k + 1)) : m.log2 = k := by
  have hm : m ≠ 0 := by have := Nat.two_pow_pos k; omega
  exact Nat.le_antisymm (log2_le h2) ((Nat.le_log2 hm).2 h1)

theorem self_bounds {m : Nat} (h : m ≠ 0) : 2 ^ m.log2 ≤ m ∧ m < 2 ^ (m.log2 + 1) := ⟨Nat.log2_self_le h, Nat.lt_log2_self⟩

/-- the significand of 53 digits -/
def sig (m : Nat) : Nat := m * 2 ^ (52 - m.log2)

theorem sig_bounds {m : Nat} (h0 : m ≠ 0) (h : m < 2 ^ 53) : 2 ^ 52 ≤ sig m ∧ sig m < 2 ^ 53 := by
  have hl := log2_le (k := 52) h
  obtain ⟨h1, h2⟩ := self_bounds h0
  unfold sig
  constructor
  · calc 2 ^ 52 = 2 ^ m.log2 * 2 ^ (52 - m.log2) := by rw [← Nat.pow_add]; congr 1; omega
      _ ≤ _ := Nat.mul_le_mul_right _ h1
  · calc m * 2 ^ (52 - m.log2) < 2 ^ (m.log2 + 1) * 2 ^ (52 - m.log2) := Nat.mul_lt_mul_of_pos_right h2 (Nat.two_pow_pos _)
      _ = 2 ^ 53 := by rw [← Nat.pow_add]; congr 1; omega

theorem sig_log2 {m : Nat} (h0 : m ≠ 0) (h : m < 2 ^ 53) : (sig m).log2 = 52 := log2_of (sig_bounds h0 h).1 (sig_bounds h0 h).2

/-- the word of a sign, a significand and its place -/
def wordOf (neg : Bool) (K : Nat) (p : Int) : Nat := double.word neg ((p + 1074).toNat * 2 ^ 52 + K)

theorem least : double.leastPlace = -1074 := by decide
theorem binade_eq : double.binade = 2 ^ 52 := by decide
theorem inf_eq : double.infRung = 2047 * 2 ^ 52 := by decide

theorem cut_exact (way : Toward) (neg : Bool) (K d : Nat) : way.cut neg (K * 2 ^ d) d = K := by
  rcases Nat.eq_zero_or_pos K with rfl | hK
  · unfold Toward.cut
    simp
    cases way <;> simp
  · have hl : d ≤ (K * 2 ^ d).log2 := (Nat.le_log2 (by have := Nat.two_pow_pos d; have := Nat.mul_pos hK this; omega)).2 (by
      calc 2 ^ d = 1 * 2 ^ d := by simp
        _ ≤ K * 2 ^ d := Nat.mul_le_mul_right _ hK)
    unfold Toward.cut
    rw [Nat.min_eq_left (by omega), Nat.one_shiftLeft]
    have hp := Nat.two_pow_pos d
    have e1 : K * 2 ^ d / 2 ^ d = K := Nat.mul_div_cancel _ hp
    have e2 : K * 2 ^ d % 2 ^ d = 0 := Nat.mul_mod_left _ _
    simp only [e1, e2]
    cases way <;> simp

theorem nearest_sig (neg : Bool) (m : Nat) (e : Int) (K d : Nat) (hm : m = K * 2 ^ d) (h1 : 2 ^ 52 ≤ K) (h2 : K < 2 ^ 53) (p : Int) (hp : p = e + d) (hlo : -1074 ≤ p) (hhi : p ≤ 970) :
    double.nearest neg m e = wordOf neg K p := by
  have hK0 : 0 < K := by have := Nat.two_pow_pos 52; omega
  have hm0 : m ≠ 0 := by rw [hm]; have := Nat.mul_pos hK0 (Nat.two_pow_pos d); omega
  have hl : m.log2 = 52 + d := by
    apply log2_of
    · rw [hm, Nat.pow_add]; exact Nat.mul_le_mul_right _ h1
    · rw [hm, show 52 + d + 1 = 53 + d by omega, Nat.pow_add]; exact Nat.mul_lt_mul_of_pos_right h2 (Nat.two_pow_pos _)
  unfold Format.nearest
  rw [if_neg hm0, least, binade_eq, inf_eq, hl]
  have hfb : (double.fractionBits : Int) = 52 := rfl
  rw [hfb]
  have hlast : max (e + ((52 + d : Nat) : Int) - 52) (-1074) = p := by omega
  rw [hlast]
  have hs : (e - p).toNat = 0 := by omega
  have hd : (p - e).toNat = d := by omega
  simp only [hs, hd, Nat.shiftLeft_zero]
  rw [hm, cut_exact]
  unfold wordOf
  have hle : (p - -1074).toNat * 2 ^ 52 + K ≤ 2047 * 2 ^ 52 := by
    have hpp : (p - -1074).toNat ≤ 2044 := by omega
    calc (p - -1074).toNat * 2 ^ 52 + K ≤ 2044 * 2 ^ 52 + 2 ^ 53 := Nat.add_le_add (Nat.mul_le_mul_right _ hpp) (by omega)
      _ ≤ _ := by decide
  rw [Nat.min_eq_left hle]
  congr 2

theorem read_word (neg : Bool) (K : Nat) (p : Int) (h1 : 2 ^ 52 ≤ K) (h2 : K < 2 ^ 53) (hlo : -1074 ≤ p) (hhi : p ≤ 970) : double.read (wordOf neg K p) = .number neg K p := by
  have hsw : double.signWeight = 2 ^ 63 := by decide
  generalize hq : (p + 1074).toNat = q at *
  have hqq : q ≤ 2044 := by omega
  have hr : q * 2 ^ 52 + K < 2 ^ 63 := by
    calc q * 2 ^ 52 + K < 2044 * 2 ^ 52 + 2 ^ 53 := Nat.add_lt_add_of_le_of_lt (Nat.mul_le_mul_right _ hqq) h2
      _ ≤ _ := by decide
  have hmod : wordOf neg K p % 2 ^ 63 = q * 2 ^ 52 + K := by
    unfold wordOf Format.word
    rw [hsw, hq]
    cases neg
    · simpa using Nat.mod_eq_of_lt hr
    · simp only [if_true]
      rw [Nat.add_mod_left]
      exact Nat.mod_eq_of_lt hr
  have hdiv : wordOf neg K p / 2 ^ 63 % 2 = neg.toNat := by
    unfold wordOf Format.word
    rw [hsw, hq]
    cases neg
    · simp only [Bool.false_eq_true, if_false]
      rw [Nat.div_eq_of_lt hr]
      rfl
    · simp only [if_true]
      rw [Nat.add_div_left _ (by decide), Nat.div_eq_of_lt hr]
      rfl
  unfold Format.read
  rw [hsw]
  simp only [hmod, hdiv, binade_eq, inf_eq, least]
  have hb : ¬ q * 2 ^ 52 + K < 2 ^ 52 := by omega
  have hi : q * 2 ^ 52 + K < 2047 * 2 ^ 52 := by
    calc q * 2 ^ 52 + K < 2044 * 2 ^ 52 + 2 ^ 53 := Nat.add_lt_add_of_le_of_lt (Nat.mul_le_mul_right _ hqq) h2
      _ ≤ _ := by decide
  rw [if_neg hb, if_pos hi]
  have hn : (neg.toNat == 1) = neg := by cases neg <;> rfl
  have hkm : (q * 2 ^ 52 + K) % 2 ^ 52 = K - 2 ^ 52 := by omega
  have hkd : (q * 2 ^ 52 + K) / 2 ^ 52 = q + 1 := by omega
  rw [hn, hkm, hkd]
  have a1 : 2 ^ 52 + (K - 2 ^ 52) = K := by omega
  have a2 : (-1074 : Int) + ((q + 1 - 1 : Nat) : Int) = p := by omega
  rw [a1, a2]

/-- the double of an integer over a power of two -/
def fl (n : Int) (e : Int) : Nat := double.nearest (n < 0) n.natAbs e

theorem fl_word {n : Int} (h0 : n ≠ 0) (h : n.natAbs < 2 ^ 53) {e : Int} (hlo : -1000 ≤ e) (hhi : e ≤ 900) :
    fl n e = wordOf (n < 0) (sig n.natAbs) (e + n.natAbs.log2 - 52) := by
  have h0' : n.natAbs ≠ 0 := by omega
  have hl := log2_le (k := 52) h
  obtain ⟨b1, b2⟩ := sig_bounds h0' h
  unfold fl Format.nearest
  rw [if_neg h0', least, binade_eq, inf_eq]
  have hfb : (double.fractionBits : Int) = 52 := rfl
  rw [hfb]
  have hlast : max (e + (n.natAbs.log2 : Int) - 52) (-1074) = e + n.natAbs.log2 - 52 := by omega
  rw [hlast]
  have hs : (e - (e + (n.natAbs.log2 : Int) - 52)).toNat = 52 - n.natAbs.log2 := by omega
  have hd : (e + (n.natAbs.log2 : Int) - 52 - e).toNat = 0 := by omega
  simp only [hs, hd, Nat.shiftLeft_eq]
  have hc : Toward.even.cut (decide (n < 0)) (n.natAbs * 2 ^ (52 - n.natAbs.log2)) 0 = sig n.natAbs := by
    have := cut_exact .even (decide (n < 0)) (sig n.natAbs) 0
    simpa [sig] using this
  rw [hc]
  unfold wordOf
  have hle : (e + (n.natAbs.log2 : Int) - 52 - -1074).toNat * 2 ^ 52 + sig n.natAbs ≤ 2047 * 2 ^ 52 := by
    have hpp : (e + (n.natAbs.log2 : Int) - 52 - -1074).toNat ≤ 2044 := by omega
    calc _ ≤ 2044 * 2 ^ 52 + 2 ^ 53 := Nat.add_le_add (Nat.mul_le_mul_right _ hpp) (by omega)
      _ ≤ _ := by decide
  rw [Nat.min_eq_left hle]
  congr 2

theorem fl_read {n : Int} (h0 : n ≠ 0) (h : n.natAbs < 2 ^ 53) {e : Int} (hlo : -1000 ≤ e) (hhi : e ≤ 900) :
    double.read (fl n e) = .number (n < 0) (sig n.natAbs) (e + n.natAbs.log2 - 52) := by
  have h0' : n.natAbs ≠ 0 := by omega
  have hl := log2_le (k := 52) h
  obtain ⟨b1, b2⟩ := sig_bounds h0' h
  rw [fl_word h0 h hlo hhi]
  exact read_word _ _ _ b1 b2 (by omega) (by omega)

theorem read_two : double.read 4611686018427387904 = .number false (2 ^ 52) (-51) := by decide

theorem log2_52 : (2 ^ 52 : Nat).log2 = 52 := log2_of (Nat.le_refl _) (by decide)

theorem quot_two (s : Bool) (K : Nat) (p : Int) (hK : K.log2 = 52) : Datum.quotient 54 (.number s K p) (.number false (2 ^ 52) (-51)) = some (.number s (8 * K) (p - 4)) := by
  have hmore : 54 + (2 ^ 52 : Nat).log2 - K.log2 = 54 := by rw [log2_52, hK]
  have e1 : (K <<< 54) / 2 ^ 52 = K * 4 := by rw [Nat.shiftLeft_eq]; omega
  have e2 : (K <<< 54) % 2 ^ 52 = 0 := by rw [Nat.shiftLeft_eq]; omega
  have h52 : ¬ (2 ^ 52 : Nat) = 0 := by omega
  generalize (2 ^ 52 : Nat) = T at hmore e1 e2 h52
  simp only [Datum.quotient]
  rw [if_neg h52, hmore, e1, e2]
  have hx : (s ^^ false) = s := by simp
  have h3 : 2 * (K * 4) + ((0 : Nat) != 0).toNat = 8 * K := by simp; omega
  have h4 : p - -51 - ((54 : Nat) : Int) - 1 = p - 4 := by omega
  rw [hx, h3, h4]

/-- 'float64(h) / 2' -/
theorem fl_div_two {n : Int} (h0 : n ≠ 0) (h : n.natAbs < 2 ^ 53) : double.div (fl n 0) 4611686018427387904 = some (fl n (-1)) := by
  have h0' : n.natAbs ≠ 0 := by omega
  have hl := log2_le (k := 52) h
  obtain ⟨b1, b2⟩ := sig_bounds h0' h
  have hsl := sig_log2 h0' h
  unfold Format.div
  rw [fl_read h0 h (by omega) (by omega), read_two, show double.fractionBits + 2 = 54 from rfl, quot_two _ _ _ hsl, fl_word h0 h (by omega) (by omega)]
  generalize sig n.natAbs = K at b1 b2
  show some (double.nearest (decide (n < 0)) (8 * K) _) = _
  refine congrArg some ?_
  exact nearest_sig _ _ _ K 3 (by omega) b1 b2 _ (by omega) (by omega) (by omega)

/-- '2 * x' at a half -/
theorem fl_two_mul {n : Int} (h0 : n ≠ 0) (h : n.natAbs < 2 ^ 53) : double.mul 4611686018427387904 (fl n (-1)) = some (fl n 0) := by
  have h0' : n.natAbs ≠ 0 := by omega
  have hl := log2_le (k := 52) h
  obtain ⟨b1, b2⟩ := sig_bounds h0' h
  unfold Format.mul
  rw [fl_read h0 h (by omega) (by omega), read_two, fl_word h0 h (by omega) (by omega)]
  generalize sig n.natAbs = K at b1 b2
  have hp : Datum.product (.number false (2 ^ 52) (-51)) (.number (decide (n < 0)) K (-1 + (n.natAbs.log2 : Int) - 52)) = some (.number (decide (n < 0)) (2 ^ 52 * K) (-51 + (-1 + (n.natAbs.log2 : Int) - 52))) := by
    have hx : (false ^^ decide (n < 0)) = decide (n < 0) := by simp
    simp only [Datum.product, hx]
  rw [hp]
  show some (double.nearest (decide (n < 0)) (2 ^ 52 * K) _) = _
  refine congrArg some ?_
  exact nearest_sig _ _ _ K 52 (by rw [Nat.mul_comm]) b1 b2 _ (by omega) (by omega) (by omega)

/-- a double that is an integer, made whole -/
theorem fl_whole {n : Int} (h0 : n ≠ 0) (h : n.natAbs < 2 ^ 53) (way : Toward) : (double.read (fl n 0)).integral way = .number (n < 0) n.natAbs 0 := by
  have h0' : n.natAbs ≠ 0 := by omega
  have hl := log2_le (k := 52) h
  rw [fl_read h0 h (by omega) (by omega)]
  simp only [Datum.integral]
  have e1 : ((0 : Int) + (n.natAbs.log2 : Int) - 52).toNat = 0 := by omega
  have e2 : (-((0 : Int) + (n.natAbs.log2 : Int) - 52)).toNat = 52 - n.natAbs.log2 := by omega
  rw [e1, e2, Nat.shiftLeft_zero]
  unfold sig
  rw [cut_exact]

theorem fl_toInt {n : Int} (h0 : n ≠ 0) (h : n.natAbs < 2 ^ 53) (way : Toward) : (double.read (fl n 0)).toInt way = some n := by
  unfold Datum.toInt
  rw [fl_whole h0 h]
  simp only [signed, Nat.shiftLeft_zero]
  by_cases hn : n < 0
  · simp [hn]; omega
  · simp [hn]; omega

theorem order_self {n : Int} (h0 : n ≠ 0) (h : n.natAbs < 2 ^ 53) {e : Int} (hlo : -1000 ≤ e) (hhi : e ≤ 900) : double.order (fl n e) (fl n e) = some .eq := by
  unfold Format.order
  rw [fl_read h0 h hlo hhi]
  simp [Datum.order]

theorem signed_mul (s : Bool) (m a b : Nat) : signed s m (a + b) = signed s m a * 2 ^ b := by
  unfold signed
  simp only [Nat.shiftLeft_eq]
  split
  · rw [Nat.pow_add, ← Nat.mul_assoc, Int.natCast_mul, Int.neg_mul]
    simp
  · rw [Nat.pow_add, ← Nat.mul_assoc, Int.natCast_mul]
    simp

theorem compare_scale (x y : Int) (b : Nat) : compare (x * 2 ^ b) (y * 2 ^ b) = compare x y := by
  have hp : (0 : Int) < 2 ^ b := Int.pow_pos (by omega)
  rcases Int.lt_trichotomy x y with h | rfl | h
  · rw [Int.compare_eq_lt.2 h, Int.compare_eq_lt.2 (Int.mul_lt_mul_of_pos_right h hp)]
  · simp
  · rw [Int.compare_eq_gt.2 h, Int.compare_eq_gt.2 (Int.mul_lt_mul_of_pos_right h hp)]

/-- how two numbers stand to each other, at one place below both -/
theorem order_at {s t : Bool} {m n : Nat} {i j : Int} (q : Int) (hi : q ≤ i) (hj : q ≤ j) :
    Datum.order (.number s m i) (.number t n j) = some (compare (signed s m (i - q).toNat) (signed t n (j - q).toNat)) := by
  simp only [Datum.order]
  congr 1
  have hb : q ≤ min i j := by omega
  have e1 : (i - q).toNat = (i - min i j).toNat + (min i j - q).toNat := by omega
  have e2 : (j - q).toNat = (j - min i j).toNat + (min i j - q).toNat := by omega
  rw [e1, e2, signed_mul, signed_mul, compare_scale]

theorem signed_sig {n : Int} (h : n.natAbs < 2 ^ 53) (c : Nat) (x : Nat) (hx : x = n.natAbs.log2 + c) :
    signed (n < 0) (sig n.natAbs) x = n * 2 ^ (52 + c) := by
  have hl := log2_le (k := 52) h
  unfold signed sig
  rw [Nat.shiftLeft_eq, Nat.mul_assoc, ← Nat.pow_add, hx, show 52 - n.natAbs.log2 + (n.natAbs.log2 + c) = 52 + c by omega]
  by_cases hn : n < 0
  · simp only [hn, decide_true, if_true]
    rw [Int.natCast_mul, ← Int.neg_mul, show (-(n.natAbs : Int)) = n by omega]
    simp
  · simp only [hn, decide_false, Bool.false_eq_true, if_false]
    rw [Int.natCast_mul, show (n.natAbs : Int) = n by omega]
    simp

theorem fl_zero (e : Int) : fl 0 e = 0 := by
  simp [fl, Format.nearest, Format.word]

theorem read_zero : double.read 0 = .number false 0 (-1074) := by decide

/-- what a double of an integer up to 2^53 over a small power of two stands for -/
theorem fl_data {n : Int} (h : n.natAbs ≤ 2 ^ 53) {e : Int} (hlo : -900 ≤ e) (hhi : e ≤ 800) :
    ∃ s K p, double.read (fl n e) = .number s K p ∧ -1074 ≤ p ∧ signed s K (p + 1074).toNat = n * 2 ^ (e + 1074).toNat := by
  by_cases h0 : n = 0
  · subst h0
    rw [fl_zero, read_zero]
    exact ⟨_, _, _, rfl, by omega, by simp [signed]⟩
  by_cases h53 : n.natAbs < 2 ^ 53
  · refine ⟨_, _, _, fl_read h0 h53 (by omega) (by omega), ?_, ?_⟩
    · omega
    · have hl := log2_le (k := 52) h53
      have := signed_sig h53 (e + 1022).toNat (e + (n.natAbs.log2 : Int) - 52 + 1074).toNat (by omega)
      rw [this]
      congr 2
      omega
  · have hn : n.natAbs = 2 ^ 53 := by omega
    have hw : fl n e = wordOf (n < 0) (2 ^ 52) (e + 1) := by
      unfold fl
      rw [hn]
      exact nearest_sig _ _ _ (2 ^ 52) 1 (by decide) (by decide) (by decide) _ (by omega) (by omega) (by omega)
    refine ⟨_, _, _, by rw [hw]; exact read_word _ _ _ (by decide) (by decide) (by omega) (by omega), by omega, ?_⟩
    unfold signed
    rw [Nat.shiftLeft_eq, ← Nat.pow_add, show 52 + (e + 1 + 1074).toNat = 53 + (e + 1074).toNat by omega, Nat.pow_add]
    by_cases hneg : n < 0
    · simp only [hneg, decide_true, if_true]
      rw [Int.natCast_mul, ← Int.neg_mul, show -((2 ^ 53 : Nat) : Int) = n by omega]
      simp
    · simp only [hneg, decide_false, Bool.false_eq_true, if_false]
      rw [Int.natCast_mul, show ((2 ^ 53 : Nat) : Int) = n by omega]
      simp

theorem fl_order {x y : Int} (hx : x.natAbs ≤ 2 ^ 53) (hy : y.natAbs ≤ 2 ^ 53) {e f : Int} (h1 : -900 ≤ e) (h2 : e ≤ 800) (h3 : -900 ≤ f) (h4 : f ≤ 800) :
    double.order (fl x e) (fl y f) = some (compare (x * 2 ^ (e + 1074).toNat) (y * 2 ^ (f + 1074).toNat)) := by
  obtain ⟨s, K, p, hr, hp, hv⟩ := fl_data hx h1 h2
  obtain ⟨t, L, q, hr', hq, hv'⟩ := fl_data hy h3 h4
  unfold Format.order
  rw [hr, hr', order_at (-1074) hp hq]
  rw [show p - -1074 = p + 1074 by omega, show q - -1074 = q + 1074 by omega, hv, hv']

/-- two halves -/
theorem order_halves {x y : Int} (hx : x.natAbs ≤ 2 ^ 53) (hy : y.natAbs ≤ 2 ^ 53) : double.order (fl x (-1)) (fl y (-1)) = some (compare x y) := by
  rw [fl_order hx hy (by omega) (by omega) (by omega) (by omega), compare_scale]
/-- two integers -/
theorem order_wholes {x y : Int} (hx : x.natAbs ≤ 2 ^ 53) (hy : y.natAbs ≤ 2 ^ 53) : double.order (fl x 0) (fl y 0) = some (compare x y) := by
  rw [fl_order hx hy (by omega) (by omega) (by omega) (by omega), compare_scale]
theorem scale_succ (x : Int) (b : Nat) : x * 2 ^ (b + 1) = 2 * x * 2 ^ b := by
  rw [Int.pow_succ, ← Int.mul_assoc, Int.mul_comm, ← Int.mul_assoc]
/-- an integer and a half -/
theorem order_whole_half {x y : Int} (hx : x.natAbs ≤ 2 ^ 53) (hy : y.natAbs ≤ 2 ^ 53) : double.order (fl x 0) (fl y (-1)) = some (compare (2 * x) y) := by
  rw [fl_order hx hy (by omega) (by omega) (by omega) (by omega), show ((0 : Int) + 1074).toNat = 1073 + 1 by rfl, show ((-1 : Int) + 1074).toNat = 1073 by rfl, scale_succ, compare_scale]
theorem order_half_whole {x y : Int} (hx : x.natAbs ≤ 2 ^ 53) (hy : y.natAbs ≤ 2 ^ 53) : double.order (fl x (-1)) (fl y 0) = some (compare x (2 * y)) := by
  rw [fl_order hx hy (by omega) (by omega) (by omega) (by omega), show ((0 : Int) + 1074).toNat = 1073 + 1 by rfl, show ((-1 : Int) + 1074).toNat = 1073 by rfl, scale_succ y, compare_scale]

end Go.Proofs.YtfhppajnnbbcjaaGreatDoor
end

section
namespace Go.Proofs.YtfhppajnnbbcjaaGreatDoor
open Go.RowKit

/-- any element of a map, as a token -/
def Rh (v : Value) : Option (DataW Value × List MemPlace) := some (.held v, [])

def litS (k : ByteArray) : Lit := .string k.data.toList

def entriesOf (ks : List ByteArray) (xs : List Value) : List (Lit × DataW Value) := (ks.zip xs).map fun p => (litS p.1, .held p.2)
def mapD (ks : List ByteArray) (xs : List Value) : DataW Value := .map (entriesOf ks xs)

abbrev MapIs (w : World) (r n : Nat) (ks : List ByteArray) (xs : List Value) : Prop := w.ownsMap Tryz.prog 9 Rh r n (mapD ks xs)

theorem before_less : ∀ a b : List UInt8, bytesBefore a b = Op.bytesLess a b
  | [], [] => rfl
  | [], _ :: _ => rfl
  | _ :: _, [] => rfl
  | a :: r, b :: s => by simp [bytesBefore, Op.bytesLess, before_less r s]

theorem litS_before (a b : ByteArray) : (litS a).before (litS b) = decide (cmpB a b < 0) := by
  show bytesBefore _ _ = _
  rw [before_less, Bool.eq_iff_iff]
  simp [cmpB_lt_iff]

theorem litS_same (a b : ByteArray) : (litS a).sameKey (litS b) = decide (a = b) := by
  show (a.data.toList == b.data.toList) = _
  rw [Bool.eq_iff_iff]
  simp only [beq_iff_eq, decide_eq_true_eq]
  exact ⟨bytes_ext, fun h => by rw [h]⟩

theorem litS_inj {a b : ByteArray} (h : litS a = litS b) : a = b := by
  have h1 := litS_same a b
  have h2 : (litS a).sameKey (litS b) = true := by rw [← h, litS_same]; simp
  rw [h2] at h1
  simpa using h1.symm

/-- a key behind all others -/
theorem insert_last (x : Lit × DataW Value) : ∀ l : List (Lit × DataW Value), (∀ p ∈ l, x.1.before p.1 = false) → DataW.insert x l = l ++ [x]
  | [], _ => rfl
  | y :: r, h => by
    unfold DataW.insert
    rw [if_neg (by rw [h y (by simp)]; simp), insert_last x r (fun p hp => h p (by simp [hp]))]
    rfl

theorem entries_snoc {ks : List ByteArray} {xs : List Value} (h : ks.length = xs.length) (k : ByteArray) (x : Value) : entriesOf (ks ++ [k]) (xs ++ [x]) = entriesOf ks xs ++ [(litS k, .held x)] := by
  unfold entriesOf
  rw [List.zip_append h]
  simp

theorem put_last {ks : List ByteArray} {xs : List Value} (hl : ks.length = xs.length) (k : ByteArray) (x : Value) (h : ∀ s ∈ ks, cmpB s k < 0) :
    (mapD ks xs).put (litS k) (.held x) = mapD (ks ++ [k]) (xs ++ [x]) := by
  unfold mapD DataW.put
  have hm : ∀ p ∈ entriesOf ks xs, ∃ s ∈ ks, p.1 = litS s := by
    intro p hp
    obtain ⟨q, hq, rfl⟩ := List.mem_map.1 hp
    exact ⟨q.1, (List.of_mem_zip hq).1, rfl⟩
  have hf : (entriesOf ks xs).filter (fun p => !p.1.sameKey (litS k)) = entriesOf ks xs := by
    rw [List.filter_eq_self]
    intro p hp
    obtain ⟨s, hs, he⟩ := hm p hp
    rw [he, litS_same]
    have := h s hs
    have hne : s ≠ k := by
      rintro rfl
      rw [cmpB_self] at this
      omega
    simp [hne]
  simp only []
  rw [hf, insert_last, entries_snoc hl]
  intro p hp
  obtain ⟨s, hs, he⟩ := hm p hp
  simp only [he]
  rw [litS_before]
  have := h s hs
  rw [cmpB_anti] 
  simp
  omega

/-! ### Go values -/

/-- a number -/
def numV (h : Int) : Value := if h % 2 = 0 then .iface 3 (.int .i64 (h / 2)) else .iface 87 (.float .f64 (fl h (-1)))

mutual
def ARep (w : World) (D : Nat → Prop) : J → Value → Prop
  | .null, v => v = .nilIface
  | .bool b, v => v = .iface 4 (.bool b)
  | .num h, v => v = numV h
  | .str s, v => v = .iface 9 (.string s)
  | .arr l, v => ∃ S, v = .iface 88 S ∧ SlAt D l.length S (fun b o => ARow w D b l o)
  | .obj ks vs, v => ∃ r xs, v = .iface 91 (.map (some r)) ∧ D r ∧ MapIs w r ks.length ks xs ∧ ks.length = xs.length ∧ AList w D vs xs
def ARow (w : World) (D : Nat → Prop) (b : Nat) : List J → Nat → Prop
  | [], _ => True
  | x :: l, o => (∃ v, w.cell? ⟨b, o, none⟩ = some v ∧ ARep w D x v) ∧ ARow w D b l (o + 1)
def AList (w : World) (D : Nat → Prop) : List J → List Value → Prop
  | [], xs => xs = []
  | j :: l, xs => ∃ v r, xs = v :: r ∧ ARep w D j v ∧ AList w D l r
end

theorem MapIs.keep {w w' : World} {D : Nat → Prop} {r n : Nat} {ks : List ByteArray} {xs : List Value} (hs : Same D w w') (hr : D r) (h : MapIs w r n ks xs) : MapIs w' r n ks xs := by
  obtain ⟨es, clock, hb, F, hn, hD⟩ := h
  exact ⟨es, clock, (hs r hr).trans hb, F, hn, hD⟩

mutual
theorem ARep.keep {w w' : World} {D D' : Nat → Prop} (hs : Same D w w') (hB : ∀ b, D b → D' b) : ∀ (x : J) (v : Value), ARep w D x v → ARep w' D' x v
  | .null, _, h => h
  | .bool _, _, h => h
  | .num _, _, h => h
  | .str _, _, h => h
  | .arr l, v, h => by
    obtain ⟨S, hv, hr⟩ := h
    exact ⟨S, hv, hr.mono hB fun b o hb hr => ARow.keep hs hB l b o hb hr⟩
  | .obj ks vs, v, h => by
    obtain ⟨r, xs, hv, hr, hm, hl, ha⟩ := h
    exact ⟨r, xs, hv, hB r hr, hm.keep hs hr, hl, AList.keep hs hB vs xs ha⟩
theorem ARow.keep {w w' : World} {D D' : Nat → Prop} (hs : Same D w w') (hB : ∀ b, D b → D' b) : ∀ (l : List J) (b o : Nat), D b → ARow w D b l o → ARow w' D' b l o
  | [], _, _, _, _ => trivial
  | x :: l, b, o, hb, hr => by
    obtain ⟨⟨v, hc, hx⟩, hr⟩ := hr
    exact ⟨⟨v, (hs.cell hb).trans hc, ARep.keep hs hB x v hx⟩, ARow.keep hs hB l b (o + 1) hb hr⟩
theorem AList.keep {w w' : World} {D D' : Nat → Prop} (hs : Same D w w') (hB : ∀ b, D b → D' b) : ∀ (l : List J) (xs : List Value), AList w D l xs → AList w' D' l xs
  | [], _, h => h
  | j :: l, xs, h => by
    obtain ⟨v, r, hx, ha, hr⟩ := h
    exact ⟨v, r, hx, ARep.keep hs hB j v ha, AList.keep hs hB l r hr⟩
end

theorem ARow.get {w : World} {D : Nat → Prop} {b : Nat} : ∀ {l : List J} {o i : Nat} {x : J}, ARow w D b l o → l[i]? = some x → ∃ v, w.cell? ⟨b, o + i, none⟩ = some v ∧ ARep w D x v
  | [], _, _, _, _, h => by simp at h
  | a :: l, o, 0, x, hr, h => by
    simp at h
    subst h
    exact hr.1
  | a :: l, o, i + 1, x, hr, h => by
    obtain ⟨v, hc, hx⟩ := ARow.get (i := i) hr.2 (by simpa using h)
    exact ⟨v, by rwa [show o + (i + 1) = o + 1 + i by omega], hx⟩

theorem ARow.mk {w : World} {D : Nat → Prop} {b : Nat} : ∀ {l : List J} {o : Nat}, (∀ i x, l[i]? = some x → ∃ v, w.cell? ⟨b, o + i, none⟩ = some v ∧ ARep w D x v) → ARow w D b l o
  | [], _, _ => trivial
  | a :: l, o, h => ⟨h 0 a rfl, ARow.mk fun i x hi => by
      obtain ⟨v, hc, hx⟩ := h (i + 1) x (by simpa using hi)
      exact ⟨v, by rwa [show o + 1 + i = o + (i + 1) by omega], hx⟩⟩

theorem AList.length {w : World} {D : Nat → Prop} : ∀ {l : List J} {xs : List Value}, AList w D l xs → xs.length = l.length
  | [], _, h => by simp [show _ = [] from h]
  | j :: l, xs, h => by
    obtain ⟨v, r, rfl, ha, hr⟩ := h
    simp [AList.length hr]

theorem AList.get {w : World} {D : Nat → Prop} : ∀ {l : List J} {xs : List Value} {i : Nat} {x : J}, AList w D l xs → l[i]? = some x → ∃ v, xs[i]? = some v ∧ ARep w D x v
  | [], _, _, _, _, h => by simp at h
  | a :: l, xs, 0, x, hr, h => by
    obtain ⟨v, r, rfl, ha, hr⟩ := hr
    simp at h
    subst h
    exact ⟨v, rfl, ha⟩
  | a :: l, xs, i + 1, x, hr, h => by
    obtain ⟨v, r, rfl, ha, hr⟩ := hr
    obtain ⟨u, hu, hx⟩ := AList.get (i := i) hr (by simpa using h)
    exact ⟨u, by simpa using hu, hx⟩

theorem AList.snoc {w : World} {D : Nat → Prop} : ∀ {l : List J} {xs : List Value} {x : J} {v : Value}, AList w D l xs → ARep w D x v → AList w D (l ++ [x]) (xs ++ [v])
  | [], _, x, v, h, hx => by
    rw [show _ = [] from h]
    exact ⟨v, [], rfl, hx, rfl⟩
  | a :: l, xs, x, v, hr, hx => by
    obtain ⟨u, r, rfl, ha, hr⟩ := hr
    exact ⟨u, r ++ [v], rfl, ha, hr.snoc hx⟩

end Go.Proofs.YtfhppajnnbbcjaaGreatDoor
end

section
namespace Go.Proofs.YtfhppajnnbbcjaaGreatDoor
open Go.RowKit

/-! ### a box that the call has made -/
theorem box_new {w w1 : World} {cs : Array Value} {t : TypeId} {B : Nat} (hb : Below B (w.alloc (.cells cs t)) w1) (hB : w.heap.size < B) : w1.heap[w.heap.size]? = some (.cells cs t (0, 0)) :=
  (hb.block _ hB).trans (heap_alloc_new w _)
theorem heap_alloc_new1 (w : World) (a b : Obj) : ((w.alloc a).alloc b).heap[w.heap.size + 1]? = some b := by
  have := heap_alloc_new (w.alloc a) b
  rwa [World.size_alloc] at this
theorem box_cell {w : World} {b : Nat} {cs : Array Value} {t : TypeId} (h : w.heap[b]? = some (.cells cs t (0, 0))) (i : Nat) : w.cell? ⟨b, i, none⟩ = cs[i]? := cell_of_row _ _ _ _ _ _ h
theorem box_frozen {w : World} {b : Nat} {cs : Array Value} {t : TypeId} (h : w.heap[b]? = some (.cells cs t (0, 0))) (i : Nat) : w.frozen? ⟨b, i, none⟩ = false := by simp [World.frozen?, h]
theorem box_lt {w : World} {b : Nat} {o : Obj} (h : w.heap[b]? = some o) : b < w.heap.size := (Array.getElem?_eq_some_iff.1 h).1

theorem ta_hit {P : Program} {T : TypeId} {d : TypeDesc} (hT : P.underlying T = some d) (hd : ∀ m, d ≠ .interface m) (x : TypeId) (v : Value) (w : World) :
    (Instr.typeAssert (.iface T v) x T true).run P w = .ok (.tuple #[v, .bool true]) w := by
  cases d with
  | interface m => exact absurd rfl (hd m)
  | _ => simp [Instr.typeAssert, run_underlying hT]

theorem ta_hit1 {P : Program} {T : TypeId} {d : TypeDesc} (hT : P.underlying T = some d) (hd : ∀ m, d ≠ .interface m) (x : TypeId) (v : Value) (w : World) :
    (Instr.typeAssert (.iface T v) x T false).run P w = .ok v w := by
  cases d with
  | interface m => exact absurd rfl (hd m)
  | _ => simp [Instr.typeAssert, run_underlying hT]

theorem ta_miss {P : Program} {T U : TypeId} {d : TypeDesc} (hT : P.underlying T = some d) (hd : ∀ m, d ≠ .interface m) {z : Value} {w : World} (hz : (zeroValue T).run P w = .ok z w) (hne : U ≠ T) (x : TypeId) (v : Value) :
    (Instr.typeAssert (.iface U v) x T true).run P w = .ok (.tuple #[z, .bool false]) w := by
  cases d with
  | interface m => exact absurd rfl (hd m)
  | _ => simp [Instr.typeAssert, run_underlying hT, hne, hz]

theorem ta_nil {P : Program} {T : TypeId} {d : TypeDesc} (hT : P.underlying T = some d) (hd : ∀ m, d ≠ .interface m) {z : Value} {w : World} (hz : (zeroValue T).run P w = .ok z w) (x : TypeId) :
    (Instr.typeAssert .nilIface x T true).run P w = .ok (.tuple #[z, .bool false]) w := by
  cases d with
  | interface m => exact absurd rfl (hd m)
  | _ => simp [Instr.typeAssert, run_underlying hT, hz]

theorem z4 (w : World) : (zeroValue 4).run Tryz.prog w = .ok (.bool false) w := by kernel_rfl
theorem z3 (w : World) : (zeroValue 3).run Tryz.prog w = .ok (.int .i64 0) w := by kernel_rfl
theorem z87 (w : World) : (zeroValue 87).run Tryz.prog w = .ok (.float .f64 0) w := by kernel_rfl
theorem z9 (w : World) : (zeroValue 9).run Tryz.prog w = .ok (.string ⟨#[]⟩) w := by kernel_rfl
theorem z88 (w : World) : (zeroValue 88).run Tryz.prog w = .ok (.slice none 0 0) w := by kernel_rfl
theorem z91 (w : World) : (zeroValue 91).run Tryz.prog w = .ok (.map none) w := by kernel_rfl
theorem z137 (w : World) : (zeroValue 137).run Tryz.prog w = .ok (.pointer none) w := by kernel_rfl
theorem z191 (w : World) : (zeroValue 191).run Tryz.prog w = .ok (.string ⟨#[]⟩) w := by kernel_rfl

@[go_sem] theorem ta4_hit (x : TypeId) (v : Value) (w : World) : (Instr.typeAssert (.iface 4 v) x 4 true).run Tryz.prog w = .ok (.tuple #[v, .bool true]) w := ta_hit Tryz.underlying4 (fun _ h => by cases h) x v w
@[go_sem] theorem ta4_miss (U : TypeId) (h : U ≠ 4) (x : TypeId) (v : Value) (w : World) : (Instr.typeAssert (.iface U v) x 4 true).run Tryz.prog w = .ok (.tuple #[.bool false, .bool false]) w := ta_miss Tryz.underlying4 (fun _ h => by cases h) (z4 w) h x v
@[go_sem] theorem ta4_nil (x : TypeId) (w : World) : (Instr.typeAssert .nilIface x 4 true).run Tryz.prog w = .ok (.tuple #[.bool false, .bool false]) w := ta_nil Tryz.underlying4 (fun _ h => by cases h) (z4 w) x

@[go_sem] theorem ta3_hit (x : TypeId) (v : Value) (w : World) : (Instr.typeAssert (.iface 3 v) x 3 true).run Tryz.prog w = .ok (.tuple #[v, .bool true]) w := ta_hit Tryz.underlying3 (fun _ h => by cases h) x v w
@[go_sem] theorem ta3_miss (U : TypeId) (h : U ≠ 3) (x : TypeId) (v : Value) (w : World) : (Instr.typeAssert (.iface U v) x 3 true).run Tryz.prog w = .ok (.tuple #[.int .i64 0, .bool false]) w := ta_miss Tryz.underlying3 (fun _ h => by cases h) (z3 w) h x v
@[go_sem] theorem ta3_nil (x : TypeId) (w : World) : (Instr.typeAssert .nilIface x 3 true).run Tryz.prog w = .ok (.tuple #[.int .i64 0, .bool false]) w := ta_nil Tryz.underlying3 (fun _ h => by cases h) (z3 w) x

@[go_sem] theorem ta87_hit (x : TypeId) (v : Value) (w : World) : (Instr.typeAssert (.iface 87 v) x 87 true).run Tryz.prog w = .ok (.tuple #[v, .bool true]) w := ta_hit Tryz.underlying87 (fun _ h => by cases h) x v w
@[go_sem] theorem ta87_miss (U : TypeId) (h : U ≠ 87) (x : TypeId) (v : Value) (w : World) : (Instr.typeAssert (.iface U v) x 87 true).run Tryz.prog w = .ok (.tuple #[.float .f64 0, .bool false]) w := ta_miss Tryz.underlying87 (fun _ h => by cases h) (z87 w) h x v
@[go_sem] theorem ta87_nil (x : TypeId) (w : World) : (Instr.typeAssert .nilIface x 87 true).run Tryz.prog w = .ok (.tuple #[.float .f64 0, .bool false]) w := ta_nil Tryz.underlying87 (fun _ h => by cases h) (z87 w) x

@[go_sem] theorem ta9_hit (x : TypeId) (v : Value) (w : World) : (Instr.typeAssert (.iface 9 v) x 9 true).run Tryz.prog w = .ok (.tuple #[v, .bool true]) w := ta_hit Tryz.underlying9 (fun _ h => by cases h) x v w
@[go_sem] theorem ta9_hit1 (x : TypeId) (v : Value) (w : World) : (Instr.typeAssert (.iface 9 v) x 9 false).run Tryz.prog w = .ok v w := ta_hit1 Tryz.underlying9 (fun _ h => by cases h) x v w
@[go_sem] theorem ta9_miss (U : TypeId) (h : U ≠ 9) (x : TypeId) (v : Value) (w : World) : (Instr.typeAssert (.iface U v) x 9 true).run Tryz.prog w = .ok (.tuple #[.string ⟨#[]⟩, .bool false]) w := ta_miss Tryz.underlying9 (fun _ h => by cases h) (z9 w) h x v
@[go_sem] theorem ta9_nil (x : TypeId) (w : World) : (Instr.typeAssert .nilIface x 9 true).run Tryz.prog w = .ok (.tuple #[.string ⟨#[]⟩, .bool false]) w := ta_nil Tryz.underlying9 (fun _ h => by cases h) (z9 w) x

@[go_sem] theorem ta88_hit (x : TypeId) (v : Value) (w : World) : (Instr.typeAssert (.iface 88 v) x 88 true).run Tryz.prog w = .ok (.tuple #[v, .bool true]) w := ta_hit Tryz.underlying88 (fun _ h => by cases h) x v w
@[go_sem] theorem ta88_hit1 (x : TypeId) (v : Value) (w : World) : (Instr.typeAssert (.iface 88 v) x 88 false).run Tryz.prog w = .ok v w := ta_hit1 Tryz.underlying88 (fun _ h => by cases h) x v w
@[go_sem] theorem ta88_miss (U : TypeId) (h : U ≠ 88) (x : TypeId) (v : Value) (w : World) : (Instr.typeAssert (.iface U v) x 88 true).run Tryz.prog w = .ok (.tuple #[.slice none 0 0, .bool false]) w := ta_miss Tryz.underlying88 (fun _ h => by cases h) (z88 w) h x v
@[go_sem] theorem ta88_nil (x : TypeId) (w : World) : (Instr.typeAssert .nilIface x 88 true).run Tryz.prog w = .ok (.tuple #[.slice none 0 0, .bool false]) w := ta_nil Tryz.underlying88 (fun _ h => by cases h) (z88 w) x

@[go_sem] theorem ta91_hit (x : TypeId) (v : Value) (w : World) : (Instr.typeAssert (.iface 91 v) x 91 true).run Tryz.prog w = .ok (.tuple #[v, .bool true]) w := ta_hit Tryz.underlying91 (fun _ h => by cases h) x v w
@[go_sem] theorem ta91_miss (U : TypeId) (h : U ≠ 91) (x : TypeId) (v : Value) (w : World) : (Instr.typeAssert (.iface U v) x 91 true).run Tryz.prog w = .ok (.tuple #[.map none, .bool false]) w := ta_miss Tryz.underlying91 (fun _ h => by cases h) (z91 w) h x v
@[go_sem] theorem ta91_nil (x : TypeId) (w : World) : (Instr.typeAssert .nilIface x 91 true).run Tryz.prog w = .ok (.tuple #[.map none, .bool false]) w := ta_nil Tryz.underlying91 (fun _ h => by cases h) (z91 w) x

@[go_sem] theorem ta137_miss (U : TypeId) (h : U ≠ 137) (x : TypeId) (v : Value) (w : World) : (Instr.typeAssert (.iface U v) x 137 true).run Tryz.prog w = .ok (.tuple #[.pointer none, .bool false]) w := ta_miss Tryz.underlying137 (fun _ h => by cases h) (z137 w) h x v
@[go_sem] theorem ta137_nil (x : TypeId) (w : World) : (Instr.typeAssert .nilIface x 137 true).run Tryz.prog w = .ok (.tuple #[.pointer none, .bool false]) w := ta_nil Tryz.underlying137 (fun _ h => by cases h) (z137 w) x

@[go_sem] theorem ta191_miss (U : TypeId) (h : U ≠ 191) (x : TypeId) (v : Value) (w : World) : (Instr.typeAssert (.iface U v) x 191 true).run Tryz.prog w = .ok (.tuple #[.string ⟨#[]⟩, .bool false]) w := ta_miss Tryz.underlying191 (fun _ h => by cases h) (z191 w) h x v
@[go_sem] theorem ta191_nil (x : TypeId) (w : World) : (Instr.typeAssert .nilIface x 191 true).run Tryz.prog w = .ok (.tuple #[.string ⟨#[]⟩, .bool false]) w := ta_nil Tryz.underlying191 (fun _ h => by cases h) (z191 w) x

end Go.Proofs.YtfhppajnnbbcjaaGreatDoor
end

section
namespace Go.Proofs.YtfhppajnnbbcjaaGreatDoor
open Go.RowKit

def VChunks (w : World) (D : Nat → Prop) : List J → List Value → Prop
  | [], xs => xs = []
  | x :: l, xs => ∃ cs r, xs = cs ++ r ∧ cs.length = 6 ∧ SRep w D x cs ∧ VChunks w D l r

theorem VChunks.length {w : World} {D : Nat → Prop} : ∀ {l : List J} {xs : List Value}, VChunks w D l xs → xs.length = l.length * 6
  | [], _, h => by simp [show _ = [] from h]
  | x :: l, _, h => by
    obtain ⟨cs, r, rfl, hl, -, hr⟩ := h
    simp [hl, VChunks.length hr]; omega

theorem VChunks.snoc {w : World} {D : Nat → Prop} {x : J} {cs : List Value} (hc : cs.length = 6) (hx : SRep w D x cs) : ∀ {l : List J} {xs : List Value}, VChunks w D l xs → VChunks w D (l ++ [x]) (xs ++ cs)
  | [], _, h => by
    rw [show _ = [] from h]
    exact ⟨cs, [], by simp, hc, hx, rfl⟩
  | y :: l, _, h => by
    obtain ⟨cs', r, rfl, hl, hy, hr⟩ := h
    exact ⟨cs', r ++ cs, by simp, hl, hy, VChunks.snoc hc hx hr⟩

theorem VChunks.keep {w w' : World} {D D' : Nat → Prop} (hs : Same D w w') (hD : ∀ b, D b → D' b) : ∀ {l : List J} {xs : List Value}, VChunks w D l xs → VChunks w' D' l xs
  | [], _, h => h
  | x :: l, _, h => by
    obtain ⟨cs, r, rfl, hl, hx, hr⟩ := h
    exact ⟨cs, r, rfl, hl, VRep.keep hs hD _ _ hx, VChunks.keep hs hD hr⟩

theorem VChunks.row {w : World} {D : Nat → Prop} {b : Nat} : ∀ {l : List J} {xs : List Value} {o : Nat}, VChunks w D l xs → (∀ j u, xs[j]? = some u → w.cell? ⟨b, o + j, none⟩ = some u) → VRow w D b (toVL l) o
  | [], _, _, _, _ => trivial
  | x :: l, _, o, h, hc => by
    obtain ⟨cs, r, rfl, hl, hx, hr⟩ := h
    refine ⟨⟨cs, hl, fun j u hj => hc j u ?_, hx⟩, VChunks.row hr fun j u hj => ?_⟩
    · rw [List.getElem?_append_left (List.getElem?_eq_some_iff.1 hj).1]; exact hj
    · have := hc (6 + j) u (by rw [List.getElem?_append_right (by omega), hl]; simpa using hj)
      rwa [show o + 6 + j = o + (6 + j) by omega]

/-- the blocks of w in D0 but the row of v -/
abbrev But (D0 : Nat → Prop) (w : World) (v : Value) : Nat → Prop := fun b => D0 b ∧ b < w.heap.size ∧ some b ≠ v.ownBlock

/-- the slice value v, the call's own, holds the list l; its row lies from block base on, what its elements hold in D0 -/
def VGrow (w : World) (base : Nat) (D0 : Nat → Prop) (v : Value) (l : List J) : Prop :=
  ∃ xs, w.ownsRow base 26 6 v l.length xs ∧ VChunks w (But D0 w v) l xs

theorem VGrow.none_ (w : World) (base : Nat) (D0 : Nat → Prop) : VGrow w base D0 (.slice none 0 0) [] := ⟨[], ⟨by simp, .inl ⟨rfl, rfl⟩⟩, rfl⟩

theorem VGrow.own_lt {w : World} {base : Nat} {D0 : Nat → Prop} {v : Value} {l : List J} (h : VGrow w base D0 v l) : ∀ k, v.ownBlock = some k → base ≤ k ∧ k < w.heap.size := by
  obtain ⟨xs, ho, -⟩ := h
  exact ho.lt

theorem VGrow.form {w : World} {base : Nat} {D0 : Nat → Prop} {v : Value} {l : List J} (h : VGrow w base D0 v l) : ∃ A c, v = .slice A l.length c := by
  obtain ⟨xs, ho, -⟩ := h
  rcases ho.2 with ⟨rfl, hn⟩ | ⟨g, cap, cur, hv, -⟩
  · exact ⟨none, 0, by rw [hn]⟩
  · exact ⟨_, _, hv⟩

/-- kept while other blocks are written -/
theorem VGrow.keep {w w' : World} {base : Nat} {D0 : Nat → Prop} {v : Value} {l : List J} (h : VGrow w base D0 v l) (hsame : ∀ b, b < w.heap.size → D0 b ∨ base ≤ b → w'.heap[b]? = w.heap[b]?) (hsz : w.heap.size ≤ w'.heap.size) : VGrow w' base D0 v l := by
  obtain ⟨xs, ho, hc⟩ := h
  refine ⟨xs, ?_, hc.keep (fun b hb => hsame b hb.2.1 (.inl hb.1)) (fun b hb => ⟨hb.1, Nat.lt_of_lt_of_le hb.2.1 hsz, hb.2.2⟩)⟩
  refine ⟨ho.1, ?_⟩
  rcases ho.2 with hn | ⟨g, cap, cur, hv, hg, hh, r⟩
  · exact .inl hn
  · exact .inr ⟨g, cap, cur, hv, hg, by rw [hsame g (box_lt hh) (.inr hg)]; exact hh, r⟩

theorem VGrow.below {w w' : World} {base : Nat} {D0 : Nat → Prop} {v : Value} {l : List J} (h : VGrow w base D0 v l) (hb : Below w.heap.size w w') : VGrow w' base D0 v l :=
  h.keep (fun b hlt _ => hb.block b hlt) hb.size

theorem VGrow.step {w wB w' : World} {base : Nat} {D0 : Nat → Prop} {v v' : Value} {l : List J} {xs : List Value} {x : J} {cs : List Value} (hc : VChunks w (But D0 w v) l xs) (hx : SRep w (But D0 w v) x cs) (h6 : cs.length = 6)
    (hB : ∀ b, b < w.heap.size → wB.heap[b]? = w.heap[b]?) (hBs : w.heap.size ≤ wB.heap.size)
    (hown : w'.ownsRow base 26 6 v' (l.length + 1) (xs ++ cs)) (hg : wB.grownBy w' v.ownBlock) (hat : v'.ownBlock = v.ownBlock ∨ v'.ownBlock = some wB.heap.size) : VGrow w' base D0 v' (l ++ [x]) := by
  have hsame : Same (But D0 w v) w w' := fun b hb => (hg.block b (Nat.lt_of_lt_of_le hb.2.1 hBs) hb.2.2).trans (hB b hb.2.1)
  have hD : ∀ b, But D0 w v b → But D0 w' v' b := fun b hb => ⟨hb.1, Nat.lt_of_lt_of_le hb.2.1 (Nat.le_trans hBs hg.size), by
    rcases hat with e | e <;> rw [e]
    · exact hb.2.2
    · have := hb.2.1; simp; omega⟩
  refine ⟨xs ++ cs, by simpa using hown, ?_⟩
  exact VChunks.snoc h6 (VRep.keep hsame hD _ _ hx) (hc.keep hsame hD)

/-- read at the end -/
theorem VGrow.slat {w : World} {base : Nat} {D0 D : Nat → Prop} {v : Value} {l : List J} (h : VGrow w base D0 v l) (h1 : ∀ b, D0 b → b < w.heap.size → D b) (h2 : ∀ b, base ≤ b → b < w.heap.size → D b) :
    SlAt D l.length v (fun b o => VRow w D b (toVL l) o) := by
  obtain ⟨xs, ho, hc⟩ := h
  rcases ho.2 with ⟨rfl, hn⟩ | ⟨g, cap, cur, hv, hg, hh, hnc, hcm, -⟩
  · exact ⟨_, _, by rw [hn], by omega, by unfold maxLen; omega, fun h => absurd h (by omega)⟩
  · refine ⟨_, cap, hv, hnc, hcm, fun _ => ⟨g, 0, rfl, h2 g hg (box_lt hh), ?_⟩⟩
    refine VChunks.row (hc.keep (fun _ _ => rfl) (fun b hb => h1 b hb.1 hb.2.1)) fun j u hj => ?_
    have := ho.cells (g := g) (by rw [hv]; rfl) j u hj
    rwa [Addr.add_lit] at this

theorem Tryz.info26 : (Tryz.prog.info? 26).map (fun i => (i.zero, i.size, i.bytes)) = some (some (.agg #[.int .i64 0, .int .i64 0, .string ⟨#[]⟩, .slice none 0 0, .slice none 0 0, .slice none 0 0]), 6, 104) := by kernel_rfl

end Go.Proofs.YtfhppajnnbbcjaaGreatDoor
end

section
namespace Go.Proofs.YtfhppajnnbbcjaaGreatDoor
open Go.RowKit

theorem find_entries {ks : List ByteArray} {xs : List Value} {s : ByteArray} {v : Value} : ∀ {i : Nat}, (∀ j, j < i → ks[j]? ≠ some s) → ks[i]? = some s → xs[i]? = some v →
    (entriesOf ks xs).find? (fun p => p.1.sameKey (litS s)) = some (litS s, .held v) := by
  induction ks generalizing xs with
  | nil => intro i _ h; simp at h
  | cons k ks ih =>
    intro i hlt hk hx
    cases xs with
    | nil => simp at hx
    | cons x xs =>
      cases i with
      | zero =>
        simp only [List.getElem?_cons_zero, Option.some.injEq] at hk hx
        subst hk hx
        show List.find? _ ((litS k, DataW.held x) :: entriesOf ks xs) = _
        rw [List.find?_cons_of_pos (by simp [litS_same])]
      | succ i =>
        simp only [List.getElem?_cons_succ] at hk hx
        show List.find? _ ((litS k, DataW.held x) :: entriesOf ks xs) = _
        rw [List.find?_cons_of_neg]
        · exact ih (fun j hj => by simpa using hlt (j + 1) (by omega)) hk hx
        · have := hlt 0 (by omega)
          simp only [List.getElem?_cons_zero, ne_eq, Option.some.injEq] at this
          simp [litS_same, this]

theorem not_before {ks : List ByteArray} (hs : ks.Pairwise (fun a b => cmpB a b < 0)) {i : Nat} {s : ByteArray} (hk : ks[i]? = some s) : ∀ j, j < i → ks[j]? ≠ some s := by
  intro j hj e
  obtain ⟨hi, rfl⟩ := List.getElem?_eq_some_iff.1 hk
  obtain ⟨hj', e⟩ := List.getElem?_eq_some_iff.1 e
  have := List.pairwise_iff_getElem.1 hs j i hj' hi hj
  rw [e, cmpB_self] at this
  omega

theorem find_none {ks : List ByteArray} {s : ByteArray} : ∀ {xs : List Value}, s ∉ ks → (entriesOf ks xs).find? (fun p => p.1.sameKey (litS s)) = none := by
  intro xs h
  rw [List.find?_eq_none]
  intro p hp
  obtain ⟨q, hq, rfl⟩ := List.mem_map.1 hp
  have : q.1 ∈ ks := (List.of_mem_zip hq).1
  simp only [litS_same, decide_eq_true_eq]
  rintro rfl
  exact h this

theorem has_find {es : List (Lit × DataW Value)} {k : Lit} : Maps.has (.map es) k = (es.find? (fun p => p.1.sameKey k)).isSome := by
  rw [Maps.has_eq]
  induction es with
  | nil => rfl
  | cons p r ih =>
    by_cases h : p.1.sameKey k = true
    · simp [h]
    · simp [h, ih]

theorem z20 (w : World) : (zeroValue 20).run Tryz.prog w = .ok .nilIface w := by kernel_rfl

/-- m[s], s among the keys -/
theorem MapIs.hit {w : World} {r n : Nat} {ks : List ByteArray} {xs : List Value} (h : MapIs w r n ks xs) (hs : ks.Pairwise (fun a b => cmpB a b < 0)) {i : Nat} {s : ByteArray} {v : Value} (hk : ks[i]? = some s) (hx : xs[i]? = some v) (hz : s.size ≤ 1048576) :
    (Instr.lookup 91 (.map (some r)) (.string s) false).run Tryz.prog w = .ok v w ∧ (Instr.lookup 91 (.map (some r)) (.string s) true).run Tryz.prog w = .ok (.tuple #[v, .bool true]) w := by
  have hkey : keyOf Tryz.prog 9 (.string s) = some (litS s) := WideMaps.keyOf_string_mk Tryz.underlying9 (by unfold maxLen; omega)
  have hf := find_entries (not_before hs hk) hk hx
  have hat : ∀ zd, (mapD ks xs).atKey (litS s) zd = .held v := fun zd => by
    unfold mapD DataW.atKey
    simp only [hf]
  have hhas : Maps.has (mapD ks xs) (litS s) = true := by unfold mapD; rw [has_find, hf]; rfl
  constructor
  · obtain ⟨u, ps, hrun, hu⟩ := World.ownsMap.lookup h (Maps.string_keyed Tryz.underlying9) Tryz.underlying91 (z20 w) (zd := .held .nilIface) (zp := []) rfl hkey
    rw [hat] at hu
    simp only [Rh, Option.some.injEq, Prod.mk.injEq, DataW.held.injEq] at hu
    rw [hrun, hu.1]
  · obtain ⟨u, ps, hrun, hu⟩ := World.ownsMap.look_ok h (Maps.string_keyed Tryz.underlying9) Tryz.underlying91 (z20 w) (zd := .held .nilIface) (zp := []) rfl hkey
    rw [hat] at hu
    simp only [Rh, Option.some.injEq, Prod.mk.injEq, DataW.held.injEq] at hu
    rw [hrun, hu.1, hhas]

/-- m[s], s not among the keys -/
theorem MapIs.miss {w : World} {r n : Nat} {ks : List ByteArray} {xs : List Value} (h : MapIs w r n ks xs) {s : ByteArray} (hk : s ∉ ks) (hz : s.size ≤ 1048576) :
    (Instr.lookup 91 (.map (some r)) (.string s) false).run Tryz.prog w = .ok .nilIface w ∧ (Instr.lookup 91 (.map (some r)) (.string s) true).run Tryz.prog w = .ok (.tuple #[.nilIface, .bool false]) w := by
  have hkey : keyOf Tryz.prog 9 (.string s) = some (litS s) := WideMaps.keyOf_string_mk Tryz.underlying9 (by unfold maxLen; omega)
  have hf := find_none (xs := xs) hk
  have hat : ∀ zd, (mapD ks xs).atKey (litS s) zd = zd := fun zd => by
    unfold mapD DataW.atKey
    simp only [hf]
  have hhas : Maps.has (mapD ks xs) (litS s) = false := by unfold mapD; rw [has_find, hf]; rfl
  constructor
  · obtain ⟨u, ps, hrun, hu⟩ := World.ownsMap.lookup h (Maps.string_keyed Tryz.underlying9) Tryz.underlying91 (z20 w) (zd := .held .nilIface) (zp := []) rfl hkey
    rw [hat] at hu
    simp only [Rh, Option.some.injEq, Prod.mk.injEq, DataW.held.injEq] at hu
    rw [hrun, hu.1]
  · obtain ⟨u, ps, hrun, hu⟩ := World.ownsMap.look_ok h (Maps.string_keyed Tryz.underlying9) Tryz.underlying91 (z20 w) (zd := .held .nilIface) (zp := []) rfl hkey
    rw [hat] at hu
    simp only [Rh, Option.some.injEq, Prod.mk.injEq, DataW.held.injEq] at hu
    rw [hrun, hu.1, hhas]

/-- len(m) -/
theorem MapIs.len {w : World} {r n : Nat} {ks : List ByteArray} {xs : List Value} (h : MapIs w r n ks xs) (hl : ks.length = xs.length) (ty : TypeId) : (Builtin.len_ #[91] ty #[.map (some r)]).run Tryz.prog w = .ok (.int .i64 ks.length) w := by
  rw [World.ownsMap.len h Tryz.underlying91]
  have : Maps.size (mapD ks xs) = ks.length := by
    show (entriesOf ks xs).length = _
    simp [entriesOf]
    omega
  rw [this]

/-! ### own rows -/
theorem ownsRow_turn {w w' : World} {base size n : Nat} {e : TypeId} {v : Value} {xs : List Value} (h : w.ownsRow base e size v n xs) (hs : ∀ g, v.ownBlock = some g → w'.heap[g]? = w.heap[g]?) : w'.ownsRow base e size v n xs := by
  refine ⟨h.1, ?_⟩
  rcases h.2 with hn | ⟨g, cap, cur, hv, hg, hh, r⟩
  · exact .inl hn
  · exact .inr ⟨g, cap, cur, hv, hg, by rw [hs g (by rw [hv]; rfl)]; exact hh, r⟩

theorem ownsRow_form {w : World} {base size n : Nat} {e : TypeId} {v : Value} {xs : List Value} (h : w.ownsRow base e size v n xs) : ∃ A c, v = .slice A n c ∧ (0 < n → ∃ g, A = some ⟨g, 0, none⟩ ∧ base ≤ g ∧ g < w.heap.size ∧ ∀ j u, xs[j]? = some u → w.cell? ⟨g, j, none⟩ = some u) ∧ n ≤ c ∧ c ≤ maxLen := by
  rcases h.2 with ⟨rfl, hn⟩ | ⟨g, cap, cur, hv, hg, hh, h1, h2, r⟩
  · exact ⟨none, 0, by rw [hn], fun h => by omega, by omega, by unfold maxLen; omega⟩
  · refine ⟨_, cap, hv, fun _ => ⟨g, rfl, hg, box_lt hh, fun j u hj => ?_⟩, h1, h2⟩
    have := h.cells (g := g) (by rw [hv]; rfl) j u hj
    rwa [Addr.add_lit, Nat.zero_add] at this

/-- kept while its own row and the blocks of its elements are kept -/
theorem VGrow.turn {w w' : World} {base : Nat} {D0 D1 : Nat → Prop} {v : Value} {l : List J} (h : VGrow w base D0 v l) (hown : ∀ g, v.ownBlock = some g → w'.heap[g]? = w.heap[g]?) (hsame : ∀ b, b < w.heap.size → D0 b → some b ≠ v.ownBlock → w'.heap[b]? = w.heap[b]?)
    (hD : ∀ b, b < w.heap.size → D0 b → D1 b) (hsz : w.heap.size ≤ w'.heap.size) : VGrow w' base D1 v l := by
  obtain ⟨xs, ho, hc⟩ := h
  exact ⟨xs, ownsRow_turn ho hown, hc.keep (fun b hb => hsame b hb.2.1 hb.1 hb.2.2) (fun b hb => ⟨hD b hb.2.1 hb.1, Nat.lt_of_lt_of_le hb.2.1 hsz, hb.2.2⟩)⟩

end Go.Proofs.YtfhppajnnbbcjaaGreatDoor
end

section
namespace Go.Proofs.YtfhppajnnbbcjaaGreatDoor
open Go.RowKit

/-- the looker in block X -/
abbrev LkSt (w : World) (X : Nat) (p b : Int) (bad : Bool) : Prop := w.heap[X]? = some (.cells #[.int .i64 p, .int .i64 b, .bool bad] 75 (0, 0))

theorem bytes_beq (a b : ByteArray) : (a == b) = decide (a = b) := by
  obtain ⟨x⟩ := a
  obtain ⟨y⟩ := b
  show (x == y) = _
  rw [Bool.eq_iff_iff]
  simp

theorem grown_setCell {w : World} {X i : Nat} {v : Value} : w.grownBy (w.setCell ⟨X, i, none⟩ v) (some X) :=
  ⟨rfl, rfl, rfl, by simp [World.setCell], fun k _ hk => heap_setCell_other _ _ _ _ (fun e => hk (by rw [e]))⟩

theorem want_any (w : World) (X : Nat) (p b : Int) (bad ok : Bool) (hX : LkSt w X p b bad) :
    Calls Tryz.prog 103 #[.pointer (some ⟨X, 0, none⟩), .bool ok] w fun e w' => e = .returned (.tuple #[]) ∧ LkSt w' X p b (bad || !ok) ∧ w.grownBy w' (some X) := by
  have c2 : w.cell? ⟨X, 2, none⟩ = some (.bool bad) := box_cell hX 2
  have f2 := box_frozen hX 2
  have HX := Lib.hid hX
  clear hX
  cases bad <;> cases ok
  all_goals
    go_enter Tryz.func103, Tryz.ntmps103
    go_wp2_with fail
    go_end0
    refine ⟨rfl, ?_, grown_setCell⟩
    rw [LkSt, heap_setCell_same _ _ _ _ _ _ HX.out]
    rfl

theorem grown_trans {a b c : World} {r : Option Nat} (h : a.grownBy b r) (k : b.grownBy c r) : a.grownBy c r := World.grownBy.trans h k

theorem part_any (w : World) (X : Nat) (p b deep : Int) (bad : Bool) (hX : LkSt w X p b bad) (hp0 : 0 ≤ p) (hp : p ≤ 1000) :
    Calls Tryz.prog 102 #[.pointer (some ⟨X, 0, none⟩), .int .i64 deep] w fun e w' => ∃ bad', e = .returned (.bool (!bad')) ∧ LkSt w' X (p + 1) b bad' ∧ (bad' = false → bad = false ∧ p + 1 ≤ 400 ∧ b ≤ 2000 ∧ deep ≤ 60) ∧ w.grownBy w' (some X) := by
  have c0 : w.cell? ⟨X, 0, none⟩ = some (.int .i64 p) := box_cell hX 0
  have f0 := box_frozen hX 0
  have hw : IntKind.i64.wrap (p + 1) = p + 1 := by rw [IntKind.wrap_i64]; omega
  have h1 : LkSt (w.setCell ⟨X, 0, none⟩ (.int .i64 (p + 1))) X (p + 1) b bad := by
    rw [LkSt, heap_setCell_same _ _ _ _ _ _ hX]
    rfl
  have c0' := box_cell h1 0
  have c1' := box_cell h1 1
  have HW := fun ok => Lib.hid (want_any _ X (p + 1) b bad ok h1)
  simp at c0' c1'
  have H1 := Lib.hid h1
  clear h1 hX
  have fin : ∀ (ok : Bool) (w2 : World), (ok = true → p + 1 ≤ 400 ∧ b ≤ 2000 ∧ deep ≤ 60) → LkSt w2 X (p + 1) b (bad || !ok) → (w.setCell ⟨X, 0, none⟩ (.int .i64 (p + 1))).grownBy w2 (some X) →
      ∃ bad', Ending.returned (.bool (!(bad || !ok))) = .returned (.bool (!bad')) ∧ LkSt w2 X (p + 1) b bad' ∧ (bad' = false → bad = false ∧ p + 1 ≤ 400 ∧ b ≤ 2000 ∧ deep ≤ 60) ∧ w.grownBy w2 (some X) := by
    intro ok w2 hok h2 hg
    refine ⟨_, rfl, h2, fun hb => ?_, grown_trans grown_setCell hg⟩
    cases bad <;> cases ok <;> simp at hb hok ⊢
    exact hok
  have HF := Lib.hid fin
  clear fin
  by_cases t1 : p + 1 ≤ 400
  all_goals by_cases t2 : b ≤ 2000
  all_goals by_cases t3 : deep ≤ 60
  all_goals
    go_enter Tryz.func102, Tryz.ntmps102
    go_wp2_with fail
    refine (HW _).out.mono ?_
    rintro e w2 ⟨rfl, h2, hg⟩
    have c2 := box_cell h2 2
    simp at c2
    have H2 := Lib.hid (And.intro h2 hg)
    clear h2 hg
    go_wp2_with fail
    go_ret
    have := HF.out _ w2 (by simp [t1, t2, t3]) H2.out.1 H2.out.2
    simpa using this

end Go.Proofs.YtfhppajnnbbcjaaGreatDoor
end

section
namespace Go.Proofs
open Go.Shelf
def Tryz.lays163_ren : Go.Shelf.Ren := ⟨fun | 196 => 163 | 259 => 206 | n => n, fun | 9 => 9 | 4 => 4 | 3 => 3 | 5 => 5 | 12 => 12 | 119 => 230 | 0 => 0 | 46 => 118 | 139 => 233 | 138 => 232 | 53 => 200 | n => n, fun | 3 => 0 | 4 => 1 | n => n⟩
theorem Tryz.lays163 : Go.Proofs.Lays.n196 Tryz.prog Tryz.lays163_ren := {
  mixed := by kernel_rfl
  f196 := Tryz.func163.trans (congrArg some (by kernel_rfl))
  f259 := Tryz.func206.trans (congrArg some (by kernel_rfl))
  t0 := Tryz.underlying0
  a0 := Tryz.isAgg0
  z0 := Tryz.sizeOf0
  v0 := Tryz.zeroValue0
  t3 := Tryz.underlying3
  a3 := Tryz.isAgg3
  z3 := Tryz.sizeOf3
  v3 := Tryz.zeroValue3
  t4 := Tryz.underlying4
  a4 := Tryz.isAgg4
  z4 := Tryz.sizeOf4
  v4 := Tryz.zeroValue4
  t5 := Tryz.underlying5
  a5 := Tryz.isAgg5
  z5 := Tryz.sizeOf5
  v5 := Tryz.zeroValue5
  t9 := Tryz.underlying9
  a9 := Tryz.isAgg9
  z9 := Tryz.sizeOf9
  v9 := Tryz.zeroValue9
  t12 := Tryz.underlying12
  a12 := Tryz.isAgg12
  z12 := Tryz.sizeOf12
  v12 := Tryz.zeroValue12
  t46 := Tryz.underlying118
  a46 := Tryz.isAgg118
  z46 := Tryz.sizeOf118
  v46 := Tryz.zeroValue118
  t53 := Tryz.underlying200
  a53 := Tryz.isAgg200
  z53 := Tryz.sizeOf200
  v53 := Tryz.zeroValue200
  t119 := Tryz.underlying230
  a119 := Tryz.isAgg230
  z119 := Tryz.sizeOf230
  t138 := Tryz.underlying232
  a138 := Tryz.isAgg232
  z138 := Tryz.sizeOf232
  v138 := Tryz.zeroValue232
  t139 := Tryz.underlying233
  a139 := Tryz.isAgg233
  z139 := Tryz.sizeOf233
  v139 := Tryz.zeroValue233
  g3 := by kernel_rfl
  g4 := by kernel_rfl }
end Go.Proofs

namespace Go.Proofs.YtfhppajnnbbcjaaGreatDoor
open Go.RowKit

/-- the two tables of unicode/utf8 lie as laid -/
abbrev U8 (w : World) : Prop := Lib.Utf8Tabs 0 1 w

theorem U8.keep {w w' : World} (h : U8 w) (hs : ∀ b, b < 2 → w'.heap[b]? = w.heap[b]?) : U8 w' := by
  refine ⟨fun c hc => ?_, fun i hi => ?_⟩
  · exact (World.cell?_of_block (hs 0 (by omega))).trans (h.1 c hc)
  · exact ⟨(World.cell?_of_block (hs 1 (by omega))).trans (h.2 i hi).1, (World.cell?_of_block (hs 1 (by omega))).trans (h.2 i hi).2⟩

theorem U8.size {w : World} (h : U8 w) : 2 ≤ w.heap.size := by
  have := World.block_lt_of_cell? w _ (h.2 0 (by omega)).1
  simp at this
  omega

theorem U8.below {w w' : World} {B : Nat} (h : U8 w) (hb : Below B w w') (hB : 2 ≤ B) : U8 w' := h.keep fun b hlt => hb.block b (by omega)
theorem U8.grown {w w' : World} {X : Nat} (h : U8 w) (hg : w.grownBy w' (some X)) (hX : 2 ≤ X) : U8 w' := h.keep fun b hlt => hg.block b (by have := h.size; omega) (by simp; omega)

/-- a string of valid UTF-8 -/
def okS (s : ByteArray) : Bool := Lib.validD s.data.toList

theorem valid_any (s : ByteArray) (w : World) (hs : s.size ≤ 281474976710656) (hU : U8 w) :
    Calls Tryz.prog 163 #[.string s] w fun e w' => e = .returned (.bool (okS s)) ∧ Below w.heap.size w w' :=
  Any.utf8_ValidString Tryz.lays163 s w (by omega) hU

theorem grown_below {w w1 w2 : World} {X : Nat} (h : w.grownBy w1 (some X)) (hb : Below w1.heap.size w1 w2) : w.grownBy w2 (some X) :=
  ⟨hb.os.trans h.os, hb.tape.trans h.tape, hb.output.trans h.output, Nat.le_trans h.size hb.size, fun k hk hne => (hb.block k (Nat.lt_of_lt_of_le hk h.size)).trans (h.block k hk hne)⟩

theorem str_any (w : World) (X : Nat) (p b : Int) (bad : Bool) (s : ByteArray) (hX : LkSt w X p b bad) (hX2 : 2 ≤ X) (hb0 : 0 ≤ b) (hb : b ≤ 281474976710656) (hs : s.size ≤ 281474976710656) (hU : U8 w) :
    Calls Tryz.prog 104 #[.pointer (some ⟨X, 0, none⟩), .string s] w fun e w' => ∃ bad', e = .returned (.tuple #[]) ∧ LkSt w' X p (b + s.size) bad' ∧ (bad' = false → bad = false ∧ b + s.size ≤ 2000 ∧ okS s = true) ∧ w.grownBy w' (some X) := by
  have c1 : w.cell? ⟨X, 1, none⟩ = some (.int .i64 b) := box_cell hX 1
  have f1 := box_frozen hX 1
  have hw : IntKind.i64.wrap (b + s.size) = b + s.size := by rw [IntKind.wrap_i64]; omega
  have h1 : LkSt (w.setCell ⟨X, 1, none⟩ (.int .i64 (b + s.size))) X p (b + s.size) bad := by
    rw [LkSt, heap_setCell_same _ _ _ _ _ _ hX]
    rfl
  have c1' := box_cell h1 1
  simp at c1'
  have H1 := Lib.hid h1
  have HW := fun (w2 : World) (h2 : LkSt w2 X p (b + s.size) bad) ok => Lib.hid (want_any w2 X p (b + s.size) bad ok h2)
  have HV := Lib.hid (valid_any s (w.setCell ⟨X, 1, none⟩ (.int .i64 (b + s.size))) hs (hU.grown grown_setCell hX2))
  have hsz := box_lt hX
  clear h1 hX hU
  have fin : ∀ (ok : Bool) (w1 w2 : World), (ok = true → b + s.size ≤ 2000 ∧ okS s = true) → w.grownBy w1 (some X) → LkSt w2 X p (b + s.size) (bad || !ok) → w1.grownBy w2 (some X) →
      ∃ bad', Ending.returned (.tuple #[]) = .returned (.tuple #[]) ∧ LkSt w2 X p (b + s.size) bad' ∧ (bad' = false → bad = false ∧ b + s.size ≤ 2000 ∧ okS s = true) ∧ w.grownBy w2 (some X) := by
    intro ok w1 w2 hok h1 h2 hg
    refine ⟨_, rfl, h2, fun hb => ?_, grown_trans h1 hg⟩
    cases bad <;> cases ok <;> simp at hb hok ⊢
    exact hok
  have HF := Lib.hid fin
  clear fin
  by_cases t1 : b + s.size ≤ 2000
  · go_enter Tryz.func104, Tryz.ntmps104
    go_wp2_with fail
    refine HV.out.mono ?_
    rintro e w2 ⟨rfl, hb2⟩
    have h2 : LkSt w2 X p (b + s.size) bad := (hb2.block _ (by simp [World.setCell]; omega)).trans H1.out
    have H2 := Lib.hid (And.intro h2 hb2)
    clear h2 hb2
    generalize hok : okS s = ok at HF
    go_wp2_with fail
    refine (HW _ H2.out.1 _).out.mono ?_
    rintro e w3 ⟨rfl, h3, hg⟩
    have H3 := Lib.hid (And.intro h3 hg)
    clear h3 hg
    go_wp2_with fail
    go_end0
    obtain ⟨bad', -, h⟩ := HF.out _ w2 w3 (by simp [t1]) (grown_below grown_setCell H2.out.2) H3.out.1 H3.out.2
    rw [← hok] at h
    exact ⟨bad', rfl, h⟩
  · go_enter Tryz.func104, Tryz.ntmps104
    go_wp2_with fail
    refine (HW _ H1.out _).out.mono ?_
    rintro e w3 ⟨rfl, h3, hg⟩
    have H3 := Lib.hid (And.intro h3 hg)
    clear h3 hg
    go_wp2_with fail
    go_end0
    obtain ⟨bad', -, h⟩ := HF.out false _ w3 (by simp) grown_setCell H3.out.1 H3.out.2
    exact ⟨bad', rfl, h⟩

end Go.Proofs.YtfhppajnnbbcjaaGreatDoor
end
