/- Walks: the reference's small. -/
import Derived.Test.YtfhppajnnbbcjaaGreatDoorGy8
namespace Go.Proofs.YtfhppajnnbbcjaaGreatDoor
open Go.RowKit

/-- whether a product stays small -/
def smallB (a b : Int) : Bool := max a (-a) == 0 || decide (max b (-b) ≤ 18014398509481984 / max a (-a))

theorem smallB_mul {a b : Int} (h : smallB a b = true) : -18014398509481984 ≤ a * b ∧ a * b ≤ 18014398509481984 := by
  unfold smallB at h
  rw [Bool.or_eq_true, beq_iff_eq, decide_eq_true_eq] at h
  have hA : ∀ x : Int, max x (-x) = x.natAbs := fun x => by omega
  rw [hA, hA] at h
  have hm : ((a * b).natAbs : Int) ≤ 18014398509481984 := by
    rw [Int.natAbs_mul]
    rcases h with h | h
    · have : a.natAbs = 0 := by omega
      rw [this]; omega
    · by_cases ha : (a.natAbs : Int) = 0
      · have : a.natAbs = 0 := by omega
        rw [this]; omega
      · have h1 := (Int.le_ediv_iff_mul_le (by omega)).1 h
        rw [Int.natCast_mul, Int.mul_comm]
        exact h1
  omega

set_option maxRecDepth 100000 in
theorem small_any (a b : Int) (w : World) (ha : -18014398509481984 ≤ a ∧ a ≤ 18014398509481984) (hb : -18014398509481984 ≤ b ∧ b ≤ 18014398509481984) :
    Calls Tryz.prog 93 #[.int .i64 a, .int .i64 b] w fun e w' => e = .returned (.bool (smallB a b)) ∧ Below w.heap.size w w' := by
  go_enter Tryz.func93, Tryz.ntmps93
  by_cases h0 : max a (-a) = 0
  · go_wp2_with fail
    go_ret
    exact ⟨by simp [smallB, h0], Below.refl _ _⟩
  · go_wp2_with fail
    go_ret
    exact ⟨rfl, Below.refl _ _⟩
end Go.Proofs.YtfhppajnnbbcjaaGreatDoor
