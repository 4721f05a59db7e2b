/- THE CLOSED FACTS of the row of the law FnSearch, each by itself (together they are more than the kernel's lid), and their join. -/
import Derived.Test.YtfhppajnnbbcjaaGreatDoorGz5

section
namespace Go.Proofs.YtfhppajnnbbcjaaGreatDoor
open Go
namespace Search
theorem band {a b : Bool} (ha : a = true) (hb : b = true) : (a && b) = true := by rw [ha, hb]; rfl
theorem jf_wf : (Rows.fnSearchRow.wf (OpenSpec.ofChange Rows.fnSearchSpec)) = true := by kernel_rfl
theorem jf_mapsr : (mapsRowed Tryz.prog) = true := by kernel_rfl
theorem jf_par : (Tryz.f6.params.all (Tryz.prog.readableRec ·)) = true := by kernel_rfl
theorem jf_nt : (namedTie Tryz.prog Rows.fnSearchRow.named Rows.fnSearchSpec.vars) = true := by kernel_rfl
theorem jf_s1 : (Rows.fnSearchRow.stops == []) = true := by kernel_rfl
theorem jf_s2 : (Tryz.prog.stops == []) = true := by kernel_rfl
theorem jf_s3 : (Rows.fnSearchRow.knobs == []) = true := by kernel_rfl
theorem jf_s4 : (Tryz.prog.stopKnobs == []) = true := by kernel_rfl
theorem jf_inpl : (Rows.fnSearchRow.inPlace == Tryz.prog.inPlace 6) = true := by kernel_rfl
theorem jf_unf : (Rows.fnSearchRow.unfollowed == Tryz.prog.unfollowed 6) = true := by kernel_rfl
theorem jf_rec : (Rows.fnSearchRow.recurses == Tryz.prog.recurses 6) = true := by kernel_rfl
theorem jf_nam : (Rows.fnSearchRow.named == Tryz.prog.varsNamed 6) = true := by kernel_rfl
theorem jf_m1 : (Rows.fnSearchRow.maps == (Tryz.f6.params.toList ++ Rows.fnSearchSpec.plain.varTypes Tryz.prog).any (Tryz.prog.mapsRec ·)) = true := by kernel_rfl
theorem jf_m2 : (Rows.fnSearchRow.ifaces == (Tryz.f6.params.toList ++ Rows.fnSearchSpec.plain.varTypes Tryz.prog).any (Tryz.prog.ifacesRec ·)) = true := by kernel_rfl
theorem jf_m3 : (Rows.fnSearchRow.mapsOut == Tryz.prog.mapsAmong Tryz.f6.resultTypes.toList) = true := by kernel_rfl
theorem jf_l1 : (Rows.fnSearchRow.loops == (Tryz.f6.params.toList ++ Rows.fnSearchSpec.plain.varTypes Tryz.prog).any (Tryz.prog.loopsFrom ·)) = true := by kernel_rfl
theorem jf_l2 : (Rows.fnSearchRow.wideKeys == (Tryz.f6.params.toList ++ Rows.fnSearchSpec.plain.varTypes Tryz.prog ++ Tryz.f6.resultTypes.toList).any (Tryz.prog.wideKeysFrom ·)) = true := by kernel_rfl
theorem jf_va : (Rows.fnSearchSpec.vars.all (Tryz.prog.varReadable ·)) = true := by kernel_rfl
theorem jf_rt : (Tryz.f6.resultTypes.all (fun t => Tryz.prog.readableRec t && decide (t < Tryz.prog.types.size))) = true := by kernel_rfl
theorem jf_io : (Rows.fnSearchRow.ifacesOut == Tryz.f6.resultTypes.toList.any (Tryz.prog.ifacesRec ·)) = true := by kernel_rfl
theorem jf_lo : (Rows.fnSearchRow.loopsOut == Tryz.f6.resultTypes.toList.any (Tryz.prog.loopsFrom ·)) = true := by kernel_rfl
theorem jf_pk : (Rows.fnSearchRow.plainKeys == Tryz.prog.plainKeys) = true := by kernel_rfl
theorem jf_st : (Rows.fnSearchRow.shortTexts.isNone) = true := by kernel_rfl
theorem jf_sh : (Tryz.prog.stopsHeard) = true := by kernel_rfl
theorem jf_me : (Tryz.prog.mayEnter) = true := by kernel_rfl
theorem jf_li : (Rows.fnSearchRow.lifted == Tryz.prog.liftsFinal) = true := by kernel_rfl
theorem jf_mk : (Tryz.prog.make == some Rows.fnSearchRow.make) = true := by kernel_rfl
theorem jf_ki : (Rows.fnSearchRow.kinds == (if Rows.fnSearchRow.domain.isEmpty then [] else Tryz.f6.params.toList.map fun t => match Tryz.prog.underlying t with | some (.int k) => some k | _ => none)) = true := by kernel_rfl
theorem jf_pi : (Rows.fnSearchRow.pinned == Rows.fnSearchRow.pinnedBy) = true := by kernel_rfl
theorem jf_ve : (Rows.fnSearchRow.veiled == (Tryz.f6.params.toList ++ Rows.fnSearchSpec.plain.varTypes Tryz.prog ++ Tryz.f6.resultTypes.toList).any (Tryz.prog.veiledRec ·)) = true := by kernel_rfl
theorem jf_vf : (Rows.fnSearchRow.veiledFits Tryz.prog Tryz.f6.params.toList (Tryz.f6.params.toList ++ Rows.fnSearchSpec.plain.varTypes Tryz.prog ++ Tryz.f6.resultTypes.toList)) = true := by kernel_rfl
set_option maxRecDepth 100000 in
theorem facts : joinedFacts Tryz.prog 6 Tryz.f6 Rows.fnSearchSpec Rows.fnSearchRow = true := by
  unfold joinedFacts
  exact band (band (band (band (band (band (band (band (band (band (band (band (band (band (band (band (band (band (band (band (band (band (band (band (band (band (band (band (band (band (band jf_wf laidOut) jf_mapsr) jf_par) jf_nt) jf_s1) jf_s2) jf_s3) jf_s4) jf_inpl) jf_unf) jf_rec) jf_nam) jf_m1) jf_m2) jf_m3) jf_l1) jf_l2) jf_va) jf_rt) jf_io) jf_lo) jf_pk) jf_st) jf_sh) jf_me) jf_li) jf_mk) jf_ki) jf_pi) jf_ve) jf_vf
theorem named : Tryz.prog.funcNamed Rows.fnSearchRow.func = some 6 := by kernel_rfl
end Search
end Go.Proofs.YtfhppajnnbbcjaaGreatDoor
end
