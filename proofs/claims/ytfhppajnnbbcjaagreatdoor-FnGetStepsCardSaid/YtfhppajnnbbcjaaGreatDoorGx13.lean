/- THE CLOSED FACTS of the row of the law FnGetSteps, each by itself (together they are more than the kernel's lid), and their join. -/
import Derived.Test.YtfhppajnnbbcjaaGreatDoorGx12

section
namespace Go.Proofs.YtfhppajnnbbcjaaGreatDoor
open Go
namespace GetSteps
theorem band {a b : Bool} (ha : a = true) (hb : b = true) : (a && b) = true := by rw [ha, hb]; rfl
theorem jf_wf : (Rows.fnGetStepsRow.wf (OpenSpec.ofChange Rows.fnGetStepsSpec)) = true := by kernel_rfl
theorem jf_mapsr : (mapsRowed Tryz.prog) = true := by kernel_rfl
theorem jf_par : (Tryz.f5.params.all (Tryz.prog.readableRec ·)) = true := by kernel_rfl
theorem jf_nt : (namedTie Tryz.prog Rows.fnGetStepsRow.named Rows.fnGetStepsSpec.vars) = true := by kernel_rfl
theorem jf_s1 : (Rows.fnGetStepsRow.stops == []) = true := by kernel_rfl
theorem jf_s2 : (Tryz.prog.stops == []) = true := by kernel_rfl
theorem jf_s3 : (Rows.fnGetStepsRow.knobs == []) = true := by kernel_rfl
theorem jf_s4 : (Tryz.prog.stopKnobs == []) = true := by kernel_rfl
theorem jf_inpl : (Rows.fnGetStepsRow.inPlace == Tryz.prog.inPlace 5) = true := by kernel_rfl
theorem jf_unf : (Rows.fnGetStepsRow.unfollowed == Tryz.prog.unfollowed 5) = true := by kernel_rfl
theorem jf_rec : (Rows.fnGetStepsRow.recurses == Tryz.prog.recurses 5) = true := by kernel_rfl
theorem jf_nam : (Rows.fnGetStepsRow.named == Tryz.prog.varsNamed 5) = true := by kernel_rfl
theorem jf_m1 : (Rows.fnGetStepsRow.maps == (Tryz.f5.params.toList ++ Rows.fnGetStepsSpec.plain.varTypes Tryz.prog).any (Tryz.prog.mapsRec ·)) = true := by kernel_rfl
theorem jf_m2 : (Rows.fnGetStepsRow.ifaces == (Tryz.f5.params.toList ++ Rows.fnGetStepsSpec.plain.varTypes Tryz.prog).any (Tryz.prog.ifacesRec ·)) = true := by kernel_rfl
theorem jf_m3 : (Rows.fnGetStepsRow.mapsOut == Tryz.prog.mapsAmong Tryz.f5.resultTypes.toList) = true := by kernel_rfl
theorem jf_l1 : (Rows.fnGetStepsRow.loops == (Tryz.f5.params.toList ++ Rows.fnGetStepsSpec.plain.varTypes Tryz.prog).any (Tryz.prog.loopsFrom ·)) = true := by kernel_rfl
theorem jf_l2 : (Rows.fnGetStepsRow.wideKeys == (Tryz.f5.params.toList ++ Rows.fnGetStepsSpec.plain.varTypes Tryz.prog ++ Tryz.f5.resultTypes.toList).any (Tryz.prog.wideKeysFrom ·)) = true := by kernel_rfl
theorem jf_va : (Rows.fnGetStepsSpec.vars.all (Tryz.prog.varReadable ·)) = true := by kernel_rfl
theorem jf_rt : (Tryz.f5.resultTypes.all (fun t => Tryz.prog.readableRec t && decide (t < Tryz.prog.types.size))) = true := by kernel_rfl
theorem jf_io : (Rows.fnGetStepsRow.ifacesOut == Tryz.f5.resultTypes.toList.any (Tryz.prog.ifacesRec ·)) = true := by kernel_rfl
theorem jf_lo : (Rows.fnGetStepsRow.loopsOut == Tryz.f5.resultTypes.toList.any (Tryz.prog.loopsFrom ·)) = true := by kernel_rfl
theorem jf_pk : (Rows.fnGetStepsRow.plainKeys == Tryz.prog.plainKeys) = true := by kernel_rfl
theorem jf_st : (Rows.fnGetStepsRow.shortTexts.isNone) = true := by kernel_rfl
theorem jf_sh : (Tryz.prog.stopsHeard) = true := by kernel_rfl
theorem jf_me : (Tryz.prog.mayEnter) = true := by kernel_rfl
theorem jf_li : (Rows.fnGetStepsRow.lifted == Tryz.prog.liftsFinal) = true := by kernel_rfl
theorem jf_mk : (Tryz.prog.make == some Rows.fnGetStepsRow.make) = true := by kernel_rfl
theorem jf_ki : (Rows.fnGetStepsRow.kinds == (if Rows.fnGetStepsRow.domain.isEmpty then [] else Tryz.f5.params.toList.map fun t => match Tryz.prog.underlying t with | some (.int k) => some k | _ => none)) = true := by kernel_rfl
theorem jf_pi : (Rows.fnGetStepsRow.pinned == Rows.fnGetStepsRow.pinnedBy) = true := by kernel_rfl
theorem jf_ve : (Rows.fnGetStepsRow.veiled == (Tryz.f5.params.toList ++ Rows.fnGetStepsSpec.plain.varTypes Tryz.prog ++ Tryz.f5.resultTypes.toList).any (Tryz.prog.veiledRec ·)) = true := by kernel_rfl
theorem jf_vf : (Rows.fnGetStepsRow.veiledFits Tryz.prog Tryz.f5.params.toList (Tryz.f5.params.toList ++ Rows.fnGetStepsSpec.plain.varTypes Tryz.prog ++ Tryz.f5.resultTypes.toList)) = true := by kernel_rfl
set_option maxRecDepth 100000 in
theorem facts : joinedFacts Tryz.prog 5 Tryz.f5 Rows.fnGetStepsSpec Rows.fnGetStepsRow = true := by
  unfold joinedFacts
  exact band (band (band (band (band (band (band (band (band (band (band (band (band (band (band (band (band (band (band (band (band (band (band (band (band (band (band (band (band (band (band jf_wf laidOut) jf_mapsr) jf_par) jf_nt) jf_s1) jf_s2) jf_s3) jf_s4) jf_inpl) jf_unf) jf_rec) jf_nam) jf_m1) jf_m2) jf_m3) jf_l1) jf_l2) jf_va) jf_rt) jf_io) jf_lo) jf_pk) jf_st) jf_sh) jf_me) jf_li) jf_mk) jf_ki) jf_pi) jf_ve) jf_vf
theorem named : Tryz.prog.funcNamed Rows.fnGetStepsRow.func = some 5 := by kernel_rfl
end GetSteps
end Go.Proofs.YtfhppajnnbbcjaaGreatDoor
end
