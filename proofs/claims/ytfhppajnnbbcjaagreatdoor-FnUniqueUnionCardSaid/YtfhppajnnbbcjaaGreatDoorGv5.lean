/- THE CARD of the law FnUniqueUnion: the row, its listed variables tied to the program's text (the ties are given). -/
import Derived.Test.YtfhppajnnbbcjaaGreatDoorGv4
import Derived.Test.YtfhppajnnbbcjaaGreatDoorTie
import Derived.Test.YtfhppajnnbbcjaaGreatDoorCards
import Derived.SevenTiedAt

section
namespace Go.Proofs.YtfhppajnnbbcjaaGreatDoor
open Go
/-- THE CARD of FnUniqueUnion. -/
theorem fnUniqueUnion_card : Rows.FnUniqueUnionCardSaid :=
  Claim7.holds_tied_plain_at .later [] [.data, .data, .widerDeep, .widerDeep, .data, .data, .data, .data, .data, .data, .sentinel, .sentinel, .pinned, .pinned, .pinned] true (true, "064a0895d53e575a78d22afe9a8786a60ce6383f45bc19fc78439605e0cbe354") true UniqueUnion.holds (fun _ h => by cases h) (by as_aux_lemma => kernel_rfl) (fun _ h => by cases h) fnUniqueUnion_row_tie rfl ⟨rfl, rfl⟩ (by as_aux_lemma => kernel_rfl) rfl
    (fun f fn hf hfn => by
      obtain rfl : f = 7 := Option.some.inj (UniqueUnion.named.symm.trans hf) |>.symm
      obtain rfl : fn = Tryz.f7 := (Option.some.inj (Tryz.func7.symm.trans hfn)).symm
      exact ⟨by as_aux_lemma => kernel_rfl, fun j t ht => by
        rw [Tryz.params7] at ht
        have hm : t ∈ [23, 23] := by simpa using Array.mem_of_getElem? ht
        have hall : ([23, 23].all fun u => !Tryz.prog.wantsStandIn u) = true := by kernel_rfl
        exact (show Tryz.prog.wantsStandIn t = false by simpa using List.all_eq_true.1 hall t hm)⟩)
    (by as_aux_lemma => kernel_rfl)
#print axioms fnUniqueUnion_card
end Go.Proofs.YtfhppajnnbbcjaaGreatDoor
end
