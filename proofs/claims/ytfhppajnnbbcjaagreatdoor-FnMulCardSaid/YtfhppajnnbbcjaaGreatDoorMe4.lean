/- THE CARD of the law FnMul: the row, its listed variables tied to the program's text (the ties are given). -/
import Derived.Test.YtfhppajnnbbcjaaGreatDoorMe3
import Derived.Test.YtfhppajnnbbcjaaGreatDoorTie
import Derived.Test.YtfhppajnnbbcjaaGreatDoorCards
import Derived.SevenTiedAt
namespace Go.Proofs.YtfhppajnnbbcjaaGreatDoor
open Go
/-- THE CARD of FnMul. -/
theorem fnMul_card : Rows.FnMulCardSaid :=
  Claim7.holds_tied_plain_at .later [] [.data, .data, .widerDeep, .widerDeep, .data, .data, .data, .data, .data, .data, .sentinel, .sentinel, .pinned, .pinned, .pinned] true (true, "064a0895d53e575a78d22afe9a8786a60ce6383f45bc19fc78439605e0cbe354") true Mul.holds (fun _ h => by cases h) (by as_aux_lemma => kernel_rfl) (fun _ h => by cases h) fnMul_row_tie rfl ⟨rfl, rfl⟩ (by as_aux_lemma => kernel_rfl) rfl
    (fun f fn hf hfn => by
      obtain rfl : f = 4 := Option.some.inj (Mul.named.symm.trans hf) |>.symm
      obtain rfl : fn = Tryz.f4 := (Option.some.inj (Tryz.func4.symm.trans hfn)).symm
      exact ⟨by as_aux_lemma => kernel_rfl, fun j t ht => by
        rw [Tryz.params4] at ht
        have hm : t ∈ [26, 26] := by simpa using Array.mem_of_getElem? ht
        have hall : ([26, 26].all fun u => !Tryz.prog.wantsStandIn u) = true := by kernel_rfl
        exact (show Tryz.prog.wantsStandIn t = false by simpa using List.all_eq_true.1 hall t hm)⟩)
    (by as_aux_lemma => kernel_rfl)
#print axioms fnMul_card
end Go.Proofs.YtfhppajnnbbcjaaGreatDoor
