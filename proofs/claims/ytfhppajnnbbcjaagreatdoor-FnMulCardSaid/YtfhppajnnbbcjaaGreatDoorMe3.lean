/- THE ROW of the law FnMul: whatever the input it returns true, and the input reads as it did. -/
import Derived.Test.YtfhppajnnbbcjaaGreatDoorGy5
import Derived.Test.YtfhppajnnbbcjaaGreatDoorMe2
import Derived.Test.YtfhppajnnbbcjaaGreatDoorMuJ
namespace Go.Proofs.YtfhppajnnbbcjaaGreatDoor
open Go.RowKit Go.ChangeShapes Go.WideShapes
namespace Mul

set_option maxRecDepth 100000 in
theorem lifted (os : Os) (started : os.Started) (H : Type) (enc : TypeId × Value → H) :
    ReturnsInHanded {} Tryz.checked os 4 .any (fun w args => (Rows.fnMulSpec.pre enc Tryz.prog Tryz.f4 [] false w args ∧ laidMetH Tryz.prog Rows.fnMulRow.laid w) ∧ sizedMet enc Tryz.prog Tryz.f4 (OpenSpec.ofChange Rows.fnMulSpec) false w args)
      (Rows.fnMulSpec.post enc Tryz.prog Tryz.f4 false true false false) := by
  refine returnsInHanded_of_change_and (C := Tryz.checked) (X := fun w _ => laidMetH Tryz.prog Rows.fnMulRow.laid w) (fun _ _ _ hh h => h.of_heap hh) own started (by kernel_rfl) Tryz.func4
    (ChangeSpec.witness_shaped (enc := enc) (C := Tryz.checked) (os := os) (X := fun w _ => laidMetH Tryz.prog Rows.fnMulRow.laid w) false (World.laidAll Tryz.prog os Rows.fnMulRow.laid) #[.agg #[.int .i64 0, .int .i64 0, .string ByteArray.empty, .slice none 0 0, .slice none 0 0, .slice none 0 0], .agg #[.int .i64 0, .int .i64 0, .string ByteArray.empty, .slice none 0 0, .slice none 0 0, .slice none 0 0]] 8 (World.laidAll_os _ _ _)
      (World.shaped_of_ZipB (by kernel_rfl) (by kernel_rfl)) (by kernel_rfl) (by kernel_rfl) (by kernel_rfl)
      (by rw [MakeChecks.laidMetH_plain _ _ _ (by kernel_rfl)]; exact laidMet_laidAll _ (by kernel_rfl) (by kernel_rfl))) ?_
  intro W base args ds gs before hval0 hW _ hsz hL _
  have hval : ∀ (j : Nat) t v, Tryz.f4.params[j]? = some t → args[j]? = some v → Value.okWide Tryz.prog W .any base t v := hval0
  have hW' := hW
  obtain ⟨p, q, hA0, hV, rfl, _, _⟩ := hW
  have hA : DataW.TrodAll enc Tryz.prog W 0 (fun _ => true) true Tryz.f4.params.toList args.toList ds p := hA0
  rw [Tryz.params4] at hA hval hsz
  obtain ⟨v0, v1, d0, d1, p0, p1, rfl, rfl, rfl, h0, h1⟩ := trodAll_two hA
  obtain ⟨rfl, rfl⟩ := trodVars_none hV
  obtain ⟨hw0, hw1⟩ := within_two hsz
  obtain ⟨x, cx, rfl, hx, hsx⟩ := open_v (hval 0 26 v0 rfl rfl) h0 hw0
  obtain ⟨y, cy, rfl, hy, hsy⟩ := open_v (hval 1 26 v1 rfl rfl) h1 hw1
  rw [MakeChecks.laidMetH_plain _ _ _ (by kernel_rfl)] at hL
  have hU : U8 W := u8_of hL (by simp [Rows.fnMulRow]) (by simp [Rows.fnMulRow])
  have hlt : ∀ y ∈ p0 ++ p1, y.block < W.heap.size := fun y hy => hW'.lt y (by simpa using hy)
  refine (Mul_law x y (All W) cx cy W hx hy (fun _ h => h) hU hsx hsy).mono fun e W' ⟨he, hb⟩ => ?_
  subst he
  exact ⟨_, rfl, _, _, _, [], _, [], hW', trodAll_mk1 (shut_bool Tryz.underlying4 _),
    trodAll_mk2 (Below.trod laidOut readable26 (of_decide_eq_true (by kernel_rfl)) h0 hb fun y hy => hlt y (by simp [hy])) (Below.trod laidOut readable26 (of_decide_eq_true (by kernel_rfl)) h1 hb fun y hy => hlt y (by simp [hy])), rfl, hb.frame _, fun h => by cases h⟩

theorem holds : Rows.FnMulSaid :=
  OpenClaim.holds_of_wide 4 Tryz.f4 rfl rfl rfl rfl rfl rfl rfl ⟨rfl, rfl, rfl, rfl, rfl⟩ rfl rfl rfl rfl rfl named Tryz.func4 facts
    (of_decide_eq_true (by as_aux_lemma => kernel_rfl)) (by unfold Func.isWrapper; first | (rw [if_pos (by decide +kernel)]; kernel_rfl) | (rw [if_neg (by decide +kernel)]; exact ⟨rfl, rfl⟩))
    (fun os started H enc _ => lifted os started H enc)
#print axioms holds
end Mul
end Go.Proofs.YtfhppajnnbbcjaaGreatDoor
