/- THE ROW of the law FnUniqueUnion: whatever the input it returns true, and the input reads as it did. -/
import Derived.Test.YtfhppajnnbbcjaaGreatDoorGz5
import Derived.Test.YtfhppajnnbbcjaaGreatDoorGv2
import Derived.Test.YtfhppajnnbbcjaaGreatDoorGv3

section
namespace Go.Proofs.YtfhppajnnbbcjaaGreatDoor
open Go.RowKit Go.ChangeShapes Go.WideShapes
namespace UniqueUnion

set_option maxRecDepth 100000 in
theorem lifted (os : Os) (started : os.Started) (H : Type) (enc : TypeId × Value → H) :
    ReturnsInHanded {} Tryz.checked os 7 .any (fun w args => (Rows.fnUniqueUnionSpec.pre enc Tryz.prog Tryz.f7 [] false w args ∧ laidMetH Tryz.prog Rows.fnUniqueUnionRow.laid w) ∧ sizedMet enc Tryz.prog Tryz.f7 (OpenSpec.ofChange Rows.fnUniqueUnionSpec) false w args)
      (Rows.fnUniqueUnionSpec.post enc Tryz.prog Tryz.f7 false true false false) := by
  refine returnsInHanded_of_change_and (C := Tryz.checked) (X := fun w _ => laidMetH Tryz.prog Rows.fnUniqueUnionRow.laid w) (fun _ _ _ hh h => h.of_heap hh) own started (by kernel_rfl) Tryz.func7
    (ChangeSpec.witness_shaped (enc := enc) (C := Tryz.checked) (os := os) (X := fun w _ => laidMetH Tryz.prog Rows.fnUniqueUnionRow.laid w) false (World.laidAll Tryz.prog os Rows.fnUniqueUnionRow.laid) #[.slice none 0 0, .slice none 0 0] 8 (World.laidAll_os _ _ _)
      (World.shaped_of_ZipB (by kernel_rfl) (by kernel_rfl)) (by kernel_rfl) (by kernel_rfl) (by kernel_rfl)
      (by rw [MakeChecks.laidMetH_plain _ _ _ (by kernel_rfl)]; exact laidMet_laidAll _ (by kernel_rfl) (by kernel_rfl))) ?_
  intro W base args ds gs before hval0 hW _ hsz hL _
  have hval : ∀ (j : Nat) t v, Tryz.f7.params[j]? = some t → args[j]? = some v → Value.okWide Tryz.prog W .any base t v := hval0
  have hW' := hW
  obtain ⟨p, q, hA0, hV, rfl, _, _⟩ := hW
  have hA : DataW.TrodAll enc Tryz.prog W 0 (fun _ => true) true Tryz.f7.params.toList args.toList ds p := hA0
  rw [Tryz.params7] at hA hval hsz
  obtain ⟨v0, v1, d0, d1, p0, p1, rfl, rfl, rfl, h0, h1⟩ := trodAll_two hA
  obtain ⟨rfl, rfl⟩ := trodVars_none hV
  obtain ⟨hw0, hw1⟩ := within_two hsz
  obtain ⟨x, hx, hsx⟩ := open_vs (hval 0 23 v0 rfl rfl) h0 hw0
  obtain ⟨y, hy, hsy⟩ := open_vs (hval 1 23 v1 rfl rfl) h1 hw1
  rw [MakeChecks.laidMetH_plain _ _ _ (by kernel_rfl)] at hL
  have hU : U8 W := u8_of hL (by simp [Rows.fnUniqueUnionRow]) (by simp [Rows.fnUniqueUnionRow])
  have hlt : ∀ y ∈ p0 ++ p1, y.block < W.heap.size := fun y hy => hW'.lt y (by simpa using hy)
  refine (UniqueUnion_law x y (All W) v0 v1 W hx hy (fun _ h => h) hU hsx hsy).mono fun e W' ⟨he, hb⟩ => ?_
  subst he
  exact ⟨_, rfl, _, _, _, [], _, [], hW', trodAll_mk1 (shut_bool Tryz.underlying4 _),
    trodAll_mk2 (Below.trod laidOut readable23 (of_decide_eq_true (by kernel_rfl)) h0 hb fun y hy => hlt y (by simp [hy])) (Below.trod laidOut readable23 (of_decide_eq_true (by kernel_rfl)) h1 hb fun y hy => hlt y (by simp [hy])), rfl, hb.frame _, fun h => by cases h⟩

theorem holds : Rows.FnUniqueUnionSaid :=
  OpenClaim.holds_of_wide 7 Tryz.f7 rfl rfl rfl rfl rfl rfl rfl ⟨rfl, rfl, rfl, rfl, rfl⟩ rfl rfl rfl rfl rfl named Tryz.func7 facts
    (of_decide_eq_true (by as_aux_lemma => kernel_rfl)) (by unfold Func.isWrapper; first | (rw [if_pos (by decide +kernel)]; kernel_rfl) | (rw [if_neg (by decide +kernel)]; exact ⟨rfl, rfl⟩))
    (fun os started H enc _ => lifted os started H enc)
#print axioms holds
end UniqueUnion
end Go.Proofs.YtfhppajnnbbcjaaGreatDoor
end
