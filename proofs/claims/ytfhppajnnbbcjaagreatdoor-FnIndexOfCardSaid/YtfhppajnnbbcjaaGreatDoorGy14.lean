/- THE CLOSED FACTS of the row of the law FnIndexOf, each by itself (together they are more than the kernel's lid), and their join. -/
import Derived.Test.YtfhppajnnbbcjaaGreatDoorGy5

section
namespace Go.Proofs.YtfhppajnnbbcjaaGreatDoor
open Go
namespace IndexOf
theorem band {a b : Bool} (ha : a = true) (hb : b = true) : (a && b) = true := by rw [ha, hb]; rfl
theorem jf_wf : (Rows.fnIndexOfRow.wf (OpenSpec.ofChange Rows.fnIndexOfSpec)) = true := by kernel_rfl
theorem jf_mapsr : (mapsRowed Tryz.prog) = true := by kernel_rfl
theorem jf_par : (Tryz.f3.params.all (Tryz.prog.readableRec ·)) = true := by kernel_rfl
theorem jf_nt : (namedTie Tryz.prog Rows.fnIndexOfRow.named Rows.fnIndexOfSpec.vars) = true := by kernel_rfl
theorem jf_s1 : (Rows.fnIndexOfRow.stops == []) = true := by kernel_rfl
theorem jf_s2 : (Tryz.prog.stops == []) = true := by kernel_rfl
theorem jf_s3 : (Rows.fnIndexOfRow.knobs == []) = true := by kernel_rfl
theorem jf_s4 : (Tryz.prog.stopKnobs == []) = true := by kernel_rfl
theorem jf_inpl : (Rows.fnIndexOfRow.inPlace == Tryz.prog.inPlace 3) = true := by kernel_rfl
theorem jf_unf : (Rows.fnIndexOfRow.unfollowed == Tryz.prog.unfollowed 3) = true := by kernel_rfl
theorem jf_rec : (Rows.fnIndexOfRow.recurses == Tryz.prog.recurses 3) = true := by kernel_rfl
theorem jf_nam : (Rows.fnIndexOfRow.named == Tryz.prog.varsNamed 3) = true := by kernel_rfl
theorem jf_m1 : (Rows.fnIndexOfRow.maps == (Tryz.f3.params.toList ++ Rows.fnIndexOfSpec.plain.varTypes Tryz.prog).any (Tryz.prog.mapsRec ·)) = true := by kernel_rfl
theorem jf_m2 : (Rows.fnIndexOfRow.ifaces == (Tryz.f3.params.toList ++ Rows.fnIndexOfSpec.plain.varTypes Tryz.prog).any (Tryz.prog.ifacesRec ·)) = true := by kernel_rfl
theorem jf_m3 : (Rows.fnIndexOfRow.mapsOut == Tryz.prog.mapsAmong Tryz.f3.resultTypes.toList) = true := by kernel_rfl
theorem jf_l1 : (Rows.fnIndexOfRow.loops == (Tryz.f3.params.toList ++ Rows.fnIndexOfSpec.plain.varTypes Tryz.prog).any (Tryz.prog.loopsFrom ·)) = true := by kernel_rfl
theorem jf_l2 : (Rows.fnIndexOfRow.wideKeys == (Tryz.f3.params.toList ++ Rows.fnIndexOfSpec.plain.varTypes Tryz.prog ++ Tryz.f3.resultTypes.toList).any (Tryz.prog.wideKeysFrom ·)) = true := by kernel_rfl
theorem jf_va : (Rows.fnIndexOfSpec.vars.all (Tryz.prog.varReadable ·)) = true := by kernel_rfl
theorem jf_rt : (Tryz.f3.resultTypes.all (fun t => Tryz.prog.readableRec t && decide (t < Tryz.prog.types.size))) = true := by kernel_rfl
theorem jf_io : (Rows.fnIndexOfRow.ifacesOut == Tryz.f3.resultTypes.toList.any (Tryz.prog.ifacesRec ·)) = true := by kernel_rfl
theorem jf_lo : (Rows.fnIndexOfRow.loopsOut == Tryz.f3.resultTypes.toList.any (Tryz.prog.loopsFrom ·)) = true := by kernel_rfl
theorem jf_pk : (Rows.fnIndexOfRow.plainKeys == Tryz.prog.plainKeys) = true := by kernel_rfl
theorem jf_st : (Rows.fnIndexOfRow.shortTexts.isNone) = true := by kernel_rfl
theorem jf_sh : (Tryz.prog.stopsHeard) = true := by kernel_rfl
theorem jf_me : (Tryz.prog.mayEnter) = true := by kernel_rfl
theorem jf_li : (Rows.fnIndexOfRow.lifted == Tryz.prog.liftsFinal) = true := by kernel_rfl
theorem jf_mk : (Tryz.prog.make == some Rows.fnIndexOfRow.make) = true := by kernel_rfl
theorem jf_ki : (Rows.fnIndexOfRow.kinds == (if Rows.fnIndexOfRow.domain.isEmpty then [] else Tryz.f3.params.toList.map fun t => match Tryz.prog.underlying t with | some (.int k) => some k | _ => none)) = true := by kernel_rfl
theorem jf_pi : (Rows.fnIndexOfRow.pinned == Rows.fnIndexOfRow.pinnedBy) = true := by kernel_rfl
theorem jf_ve : (Rows.fnIndexOfRow.veiled == (Tryz.f3.params.toList ++ Rows.fnIndexOfSpec.plain.varTypes Tryz.prog ++ Tryz.f3.resultTypes.toList).any (Tryz.prog.veiledRec ·)) = true := by kernel_rfl
theorem jf_vf : (Rows.fnIndexOfRow.veiledFits Tryz.prog Tryz.f3.params.toList (Tryz.f3.params.toList ++ Rows.fnIndexOfSpec.plain.varTypes Tryz.prog ++ Tryz.f3.resultTypes.toList)) = true := by kernel_rfl
set_option maxRecDepth 100000 in
theorem facts : joinedFacts Tryz.prog 3 Tryz.f3 Rows.fnIndexOfSpec Rows.fnIndexOfRow = true := by
  unfold joinedFacts
  exact band (band (band (band (band (band (band (band (band (band (band (band (band (band (band (band (band (band (band (band (band (band (band (band (band (band (band (band (band (band (band jf_wf laidOut) jf_mapsr) jf_par) jf_nt) jf_s1) jf_s2) jf_s3) jf_s4) jf_inpl) jf_unf) jf_rec) jf_nam) jf_m1) jf_m2) jf_m3) jf_l1) jf_l2) jf_va) jf_rt) jf_io) jf_lo) jf_pk) jf_st) jf_sh) jf_me) jf_li) jf_mk) jf_ki) jf_pi) jf_ve) jf_vf
theorem named : Tryz.prog.funcNamed Rows.fnIndexOfRow.func = some 3 := by kernel_rfl
end IndexOf
end Go.Proofs.YtfhppajnnbbcjaaGreatDoor
end
