/- Walks: the reference's number, Whole. -/
import Derived.Test.YtfhppajnnbbcjaaGreatDoorGy8
namespace Go.Proofs.YtfhppajnnbbcjaaGreatDoor
open Go.RowKit

/-- a half count that the reference speaks of -/
def NumOK (h : Int) : Prop := (-18014398509481984 ≤ h ∧ h ≤ 18014398509481984) ∧ (h.tmod 2 = 0 ∨ (-9007199254740992 < h ∧ h < 9007199254740992))

abbrev numCells (h : Int) : Array Value := #[.int .i64 3, .int .i64 h, .string noText, .slice none 0 0, .slice none 0 0, .slice none 0 0]

def MNumPost (h : Int) (w : World) (e : Ending) (w' : World) : Prop := ∃ c how, e = .returned (.tuple #[.agg c, .int .i64 how]) ∧ (NumOK h ∧ how = 0 ∧ c = numCells h ∨ ¬ NumOK h ∧ how = 2 ∧ c = zsix.toArray) ∧ Below w.heap.size w w'

set_option maxRecDepth 100000 in
theorem number_any (h : Int) (w : World) (hb : -4611686018427387904 ≤ h ∧ h ≤ 4611686018427387904) : Calls Tryz.prog 90 #[.int .i64 h] w (MNumPost h w) := by
  go_enter Tryz.func90, Tryz.ntmps90
  by_cases h1 : h < -18014398509481984
  · go_wp2_with fail
    refine bodyPost_ret (v := .tuple #[.agg #[.int .i64 0, .int .i64 0, .string ⟨#[]⟩, .slice none 0 0, .slice none 0 0, .slice none 0 0], .int .i64 2]) (by simp [results, Tryz.results90, go_sem]) rfl ?_
    exact ⟨_, _, rfl, .inr ⟨by unfold NumOK; omega, rfl, rfl⟩, (Below.refl _ _).alloc (Nat.le_refl _) _⟩
  by_cases h2 : 18014398509481984 < h
  · go_wp2_with fail
    refine bodyPost_ret (v := .tuple #[.agg #[.int .i64 0, .int .i64 0, .string ⟨#[]⟩, .slice none 0 0, .slice none 0 0, .slice none 0 0], .int .i64 2]) (by simp [results, Tryz.results90, go_sem]) rfl ?_
    exact ⟨_, _, rfl, .inr ⟨by unfold NumOK; omega, rfl, rfl⟩, (Below.refl _ _).alloc (Nat.le_refl _) _⟩
  by_cases h3 : h.tmod 2 = 0
  · go_wp2_with fail
    refine bodyPost_ret (v := .tuple #[.agg (numCells h), .int .i64 0]) (by simp [results, Tryz.results90, go_sem]; try rfl) rfl ?_
    exact ⟨_, _, rfl, .inl ⟨by unfold NumOK; omega, rfl, rfl⟩, (Below.refl _ _).alloc (Nat.le_refl _) _⟩
  by_cases h4 : h ≤ -9007199254740992
  · go_wp2_with fail
    refine bodyPost_ret (v := .tuple #[.agg #[.int .i64 0, .int .i64 0, .string ⟨#[]⟩, .slice none 0 0, .slice none 0 0, .slice none 0 0], .int .i64 2]) (by simp [results, Tryz.results90, go_sem]) rfl ?_
    exact ⟨_, _, rfl, .inr ⟨by unfold NumOK; omega, rfl, rfl⟩, (Below.refl _ _).alloc (Nat.le_refl _) _⟩
  by_cases h5 : 9007199254740992 ≤ h
  · have h6 : ¬ h % 2 = 0 := by rw [← Int.tmod_eq_emod_of_nonneg (by omega)]; exact h3
    go_wp2_with fail
    refine bodyPost_ret (v := .tuple #[.agg #[.int .i64 0, .int .i64 0, .string ⟨#[]⟩, .slice none 0 0, .slice none 0 0, .slice none 0 0], .int .i64 2]) (by simp [results, Tryz.results90, go_sem]) rfl ?_
    exact ⟨_, _, rfl, .inr ⟨by unfold NumOK; omega, rfl, rfl⟩, (Below.refl _ _).alloc (Nat.le_refl _) _⟩
  · go_wp2_with fail
    refine bodyPost_ret (v := .tuple #[.agg (numCells h), .int .i64 0]) (by simp [results, Tryz.results90, go_sem]; try rfl) rfl ?_
    exact ⟨_, _, rfl, .inl ⟨by unfold NumOK; omega, rfl, rfl⟩, (Below.refl _ _).alloc (Nat.le_refl _) _⟩

def WholePost (k h : Int) (w : World) (e : Ending) (w' : World) : Prop := ∃ i b, e = .returned (.tuple #[.int .i64 i, .bool b]) ∧ (k = 3 ∧ h.tmod 2 = 0 ∧ i = h.tdiv 2 ∧ b = true ∨ ¬ (k = 3 ∧ h.tmod 2 = 0) ∧ b = false) ∧ Below w.heap.size w w'

set_option maxRecDepth 100000 in
theorem whole_any (k h : Int) (c2 c3 c4 c5 : Value) (w : World) (hb : -4611686018427387904 ≤ h ∧ h ≤ 4611686018427387904) : Calls Tryz.prog 77 #[.agg #[.int .i64 k, .int .i64 h, c2, c3, c4, c5]] w (WholePost k h w) := by
  go_enter Tryz.func77, Tryz.ntmps77
  by_cases hk : k = 3
  · subst hk
    by_cases h3 : h.tmod 2 = 0
    · go_wp2_with fail
      refine bodyPost_ret (v := .tuple #[.int .i64 (h.tdiv 2), .bool true]) (by simp [results, Tryz.results77, go_sem]) rfl ?_
      exact ⟨_, _, rfl, .inl ⟨rfl, h3, rfl, rfl⟩, (Below.refl _ _).alloc (Nat.le_refl _) _⟩
    · go_wp2_with fail
      refine bodyPost_ret (v := .tuple #[.int .i64 0, .bool false]) (by simp [results, Tryz.results77, go_sem]) rfl ?_
      exact ⟨_, _, rfl, .inr ⟨fun h => h3 h.2, rfl⟩, (Below.refl _ _).alloc (Nat.le_refl _) _⟩
  · go_wp2_with fail
    refine bodyPost_ret (v := .tuple #[.int .i64 0, .bool false]) (by simp [results, Tryz.results77, go_sem]) rfl ?_
    exact ⟨_, _, rfl, .inr ⟨fun h => hk h.1, rfl⟩, (Below.refl _ _).alloc (Nat.le_refl _) _⟩
end Go.Proofs.YtfhppajnnbbcjaaGreatDoor
