/- THE ROW of the law FnGetSteps: whatever the input it returns true, and the input reads as it did. -/
import Derived.Test.YtfhppajnnbbcjaaGreatDoorGx12
import Derived.Test.YtfhppajnnbbcjaaGreatDoorGx13

section
namespace Go.Proofs.YtfhppajnnbbcjaaGreatDoor
open Go.RowKit Go.ChangeShapes Go.WideShapes
namespace GetSteps

set_option maxRecDepth 100000 in
theorem lifted (os : Os) (started : os.Started) (H : Type) (enc : TypeId × Value → H) :
    ReturnsInHanded {} Tryz.checked os 5 .any (fun w args => (Rows.fnGetStepsSpec.pre enc Tryz.prog Tryz.f5 [] false w args ∧ laidMetH Tryz.prog Rows.fnGetStepsRow.laid w) ∧ sizedMet enc Tryz.prog Tryz.f5 (OpenSpec.ofChange Rows.fnGetStepsSpec) false w args)
      (Rows.fnGetStepsSpec.post enc Tryz.prog Tryz.f5 false true false false) := by
  refine returnsInHanded_of_change_and (C := Tryz.checked) (X := fun w _ => laidMetH Tryz.prog Rows.fnGetStepsRow.laid w) (fun _ _ _ hh h => h.of_heap hh) own started (by kernel_rfl) Tryz.func5
    (ChangeSpec.witness_shaped (enc := enc) (C := Tryz.checked) (os := os) (X := fun w _ => laidMetH Tryz.prog Rows.fnGetStepsRow.laid w) false (World.laidAll Tryz.prog os Rows.fnGetStepsRow.laid) #[.agg #[.int .i64 0, .int .i64 0, .string ByteArray.empty, .slice none 0 0, .slice none 0 0, .slice none 0 0], .int .u16 0, .slice none 0 0] 8 (World.laidAll_os _ _ _)
      (World.shaped_of_ZipB (by kernel_rfl) (by kernel_rfl)) (by kernel_rfl) (by kernel_rfl) (by kernel_rfl)
      (by rw [MakeChecks.laidMetH_plain _ _ _ (by kernel_rfl)]; exact laidMet_laidAll _ (by kernel_rfl) (by kernel_rfl))) ?_
  intro W base args ds gs before hval0 hW _ hsz hL _
  have hval : ∀ (j : Nat) t v, Tryz.f5.params[j]? = some t → args[j]? = some v → Value.okWide Tryz.prog W .any base t v := hval0
  have hW' := hW
  obtain ⟨p, q, hA0, hV, rfl, _, _⟩ := hW
  have hA : DataW.TrodAll enc Tryz.prog W 0 (fun _ => true) true Tryz.f5.params.toList args.toList ds p := hA0
  rw [Tryz.params5] at hA hval hsz
  obtain ⟨v0, v1, v2, d0, d1, d2, p0, p1, p2, rfl, rfl, rfl, h0, h1, h2⟩ := trodAll_three hA
  obtain ⟨rfl, rfl⟩ := trodVars_none hV
  obtain ⟨hw0, -, hw2⟩ := within_three hsz
  obtain ⟨n, rfl, rfl, rfl, wn⟩ := open_int Tryz.underlying38 (hval 1 38 v1 rfl rfl) h1
  obtain ⟨x, cv, rfl, hx, hsx⟩ := open_v (hval 0 26 v0 rfl rfl) h0 hw0
  obtain ⟨l, hl, hsl⟩ := open_vs (hval 2 23 v2 rfl rfl) h2 hw2
  rw [MakeChecks.laidMetH_plain _ _ _ (by kernel_rfl)] at hL
  have hU : U8 W := u8_of hL (by simp [Rows.fnGetStepsRow]) (by simp [Rows.fnGetStepsRow])
  have hn : 0 ≤ n ∧ n < 65536 := by
    simp [Lit.wf, IntKind.min, IntKind.max, IntKind.signed, IntKind.bits] at wn
    omega
  obtain ⟨m, rfl⟩ := Int.eq_ofNat_of_zero_le hn.1
  have hlt : ∀ y ∈ p0 ++ p2, y.block < W.heap.size := fun y hy => hW'.lt y (by simpa using hy)
  refine (GetSteps_any x l m (All W) cv v2 W hx hl (fun _ h => h) hU hsx hsl (by omega)).mono fun e W' ⟨he, hb⟩ => ?_
  subst he
  exact ⟨_, rfl, _, _, _, [], _, [], hW', trodAll_mk1 (shut_bool Tryz.underlying4 _),
    trodAll_mk3 (Below.trod laidOut readable26 (of_decide_eq_true (by kernel_rfl)) h0 hb fun y hy => hlt y (by simp [hy])) (shut_int Tryz.underlying38 wn) (Below.trod laidOut readable23 (of_decide_eq_true (by kernel_rfl)) h2 hb fun y hy => hlt y (by simp [hy])), rfl, hb.frame _, fun h => by cases h⟩

theorem holds : Rows.FnGetStepsSaid :=
  OpenClaim.holds_of_wide 5 Tryz.f5 rfl rfl rfl rfl rfl rfl rfl ⟨rfl, rfl, rfl, rfl, rfl⟩ rfl rfl rfl rfl rfl named Tryz.func5 facts
    (of_decide_eq_true (by as_aux_lemma => kernel_rfl)) (by unfold Func.isWrapper; first | (rw [if_pos (by decide +kernel)]; kernel_rfl) | (rw [if_neg (by decide +kernel)]; exact ⟨rfl, rfl⟩))
    (fun os started H enc _ => lifted os started H enc)
#print axioms holds
end GetSteps
end Go.Proofs.YtfhppajnnbbcjaaGreatDoor
end
