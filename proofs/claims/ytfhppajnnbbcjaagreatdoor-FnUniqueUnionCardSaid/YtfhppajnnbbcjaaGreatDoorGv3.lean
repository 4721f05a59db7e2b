/- THE CLOSED FACTS of the row of the law FnUniqueUnion, each by itself (together they are more than the kernel's lid), and their join. -/
import Derived.Test.YtfhppajnnbbcjaaGreatDoorGz5

section
namespace Go.Proofs.YtfhppajnnbbcjaaGreatDoor
open Go
namespace UniqueUnion
theorem band {a b : Bool} (ha : a = true) (hb : b = true) : (a && b) = true := by rw [ha, hb]; rfl
theorem jf_wf : (Rows.fnUniqueUnionRow.wf (OpenSpec.ofChange Rows.fnUniqueUnionSpec)) = true := by kernel_rfl
theorem jf_mapsr : (mapsRowed Tryz.prog) = true := by kernel_rfl
theorem jf_par : (Tryz.f7.params.all (Tryz.prog.readableRec ·)) = true := by kernel_rfl
theorem jf_nt : (namedTie Tryz.prog Rows.fnUniqueUnionRow.named Rows.fnUniqueUnionSpec.vars) = true := by kernel_rfl
theorem jf_s1 : (Rows.fnUniqueUnionRow.stops == []) = true := by kernel_rfl
theorem jf_s2 : (Tryz.prog.stops == []) = true := by kernel_rfl
theorem jf_s3 : (Rows.fnUniqueUnionRow.knobs == []) = true := by kernel_rfl
theorem jf_s4 : (Tryz.prog.stopKnobs == []) = true := by kernel_rfl
theorem jf_inpl : (Rows.fnUniqueUnionRow.inPlace == Tryz.prog.inPlace 7) = true := by kernel_rfl
theorem jf_unf : (Rows.fnUniqueUnionRow.unfollowed == Tryz.prog.unfollowed 7) = true := by kernel_rfl
theorem jf_rec : (Rows.fnUniqueUnionRow.recurses == Tryz.prog.recurses 7) = true := by kernel_rfl
theorem jf_nam : (Rows.fnUniqueUnionRow.named == Tryz.prog.varsNamed 7) = true := by kernel_rfl
theorem jf_m1 : (Rows.fnUniqueUnionRow.maps == (Tryz.f7.params.toList ++ Rows.fnUniqueUnionSpec.plain.varTypes Tryz.prog).any (Tryz.prog.mapsRec ·)) = true := by kernel_rfl
theorem jf_m2 : (Rows.fnUniqueUnionRow.ifaces == (Tryz.f7.params.toList ++ Rows.fnUniqueUnionSpec.plain.varTypes Tryz.prog).any (Tryz.prog.ifacesRec ·)) = true := by kernel_rfl
theorem jf_m3 : (Rows.fnUniqueUnionRow.mapsOut == Tryz.prog.mapsAmong Tryz.f7.resultTypes.toList) = true := by kernel_rfl
theorem jf_l1 : (Rows.fnUniqueUnionRow.loops == (Tryz.f7.params.toList ++ Rows.fnUniqueUnionSpec.plain.varTypes Tryz.prog).any (Tryz.prog.loopsFrom ·)) = true := by kernel_rfl
theorem jf_l2 : (Rows.fnUniqueUnionRow.wideKeys == (Tryz.f7.params.toList ++ Rows.fnUniqueUnionSpec.plain.varTypes Tryz.prog ++ Tryz.f7.resultTypes.toList).any (Tryz.prog.wideKeysFrom ·)) = true := by kernel_rfl
theorem jf_va : (Rows.fnUniqueUnionSpec.vars.all (Tryz.prog.varReadable ·)) = true := by kernel_rfl
theorem jf_rt : (Tryz.f7.resultTypes.all (fun t => Tryz.prog.readableRec t && decide (t < Tryz.prog.types.size))) = true := by kernel_rfl
theorem jf_io : (Rows.fnUniqueUnionRow.ifacesOut == Tryz.f7.resultTypes.toList.any (Tryz.prog.ifacesRec ·)) = true := by kernel_rfl
theorem jf_lo : (Rows.fnUniqueUnionRow.loopsOut == Tryz.f7.resultTypes.toList.any (Tryz.prog.loopsFrom ·)) = true := by kernel_rfl
theorem jf_pk : (Rows.fnUniqueUnionRow.plainKeys == Tryz.prog.plainKeys) = true := by kernel_rfl
theorem jf_st : (Rows.fnUniqueUnionRow.shortTexts.isNone) = true := by kernel_rfl
theorem jf_sh : (Tryz.prog.stopsHeard) = true := by kernel_rfl
theorem jf_me : (Tryz.prog.mayEnter) = true := by kernel_rfl
theorem jf_li : (Rows.fnUniqueUnionRow.lifted == Tryz.prog.liftsFinal) = true := by kernel_rfl
theorem jf_mk : (Tryz.prog.make == some Rows.fnUniqueUnionRow.make) = true := by kernel_rfl
theorem jf_ki : (Rows.fnUniqueUnionRow.kinds == (if Rows.fnUniqueUnionRow.domain.isEmpty then [] else Tryz.f7.params.toList.map fun t => match Tryz.prog.underlying t with | some (.int k) => some k | _ => none)) = true := by kernel_rfl
theorem jf_pi : (Rows.fnUniqueUnionRow.pinned == Rows.fnUniqueUnionRow.pinnedBy) = true := by kernel_rfl
theorem jf_ve : (Rows.fnUniqueUnionRow.veiled == (Tryz.f7.params.toList ++ Rows.fnUniqueUnionSpec.plain.varTypes Tryz.prog ++ Tryz.f7.resultTypes.toList).any (Tryz.prog.veiledRec ·)) = true := by kernel_rfl
theorem jf_vf : (Rows.fnUniqueUnionRow.veiledFits Tryz.prog Tryz.f7.params.toList (Tryz.f7.params.toList ++ Rows.fnUniqueUnionSpec.plain.varTypes Tryz.prog ++ Tryz.f7.resultTypes.toList)) = true := by kernel_rfl
set_option maxRecDepth 100000 in
theorem facts : joinedFacts Tryz.prog 7 Tryz.f7 Rows.fnUniqueUnionSpec Rows.fnUniqueUnionRow = true := by
  unfold joinedFacts
  exact band (band (band (band (band (band (band (band (band (band (band (band (band (band (band (band (band (band (band (band (band (band (band (band (band (band (band (band (band (band (band jf_wf laidOut) jf_mapsr) jf_par) jf_nt) jf_s1) jf_s2) jf_s3) jf_s4) jf_inpl) jf_unf) jf_rec) jf_nam) jf_m1) jf_m2) jf_m3) jf_l1) jf_l2) jf_va) jf_rt) jf_io) jf_lo) jf_pk) jf_st) jf_sh) jf_me) jf_li) jf_mk) jf_ki) jf_pi) jf_ve) jf_vf
theorem named : Tryz.prog.funcNamed Rows.fnUniqueUnionRow.func = some 7 := by kernel_rfl
end UniqueUnion
end Go.Proofs.YtfhppajnnbbcjaaGreatDoor
end
