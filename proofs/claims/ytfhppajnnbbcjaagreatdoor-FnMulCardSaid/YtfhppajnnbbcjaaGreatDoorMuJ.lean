/- THE CLOSED FACTS of the row of the law FnMul, each by itself (together they are more than the kernel's lid), and their join. -/
import Derived.Test.YtfhppajnnbbcjaaGreatDoorGy5
namespace Go.Proofs.YtfhppajnnbbcjaaGreatDoor
open Go
namespace Mul
theorem band {a b : Bool} (ha : a = true) (hb : b = true) : (a && b) = true := by rw [ha, hb]; rfl
theorem jf_wf : (Rows.fnMulRow.wf (OpenSpec.ofChange Rows.fnMulSpec)) = true := by kernel_rfl
theorem jf_mapsr : (mapsRowed Tryz.prog) = true := by kernel_rfl
theorem jf_par : (Tryz.f4.params.all (Tryz.prog.readableRec ·)) = true := by kernel_rfl
theorem jf_nt : (namedTie Tryz.prog Rows.fnMulRow.named Rows.fnMulSpec.vars) = true := by kernel_rfl
theorem jf_s1 : (Rows.fnMulRow.stops == []) = true := by kernel_rfl
theorem jf_s2 : (Tryz.prog.stops == []) = true := by kernel_rfl
theorem jf_s3 : (Rows.fnMulRow.knobs == []) = true := by kernel_rfl
theorem jf_s4 : (Tryz.prog.stopKnobs == []) = true := by kernel_rfl
theorem jf_inpl : (Rows.fnMulRow.inPlace == Tryz.prog.inPlace 4) = true := by kernel_rfl
theorem jf_unf : (Rows.fnMulRow.unfollowed == Tryz.prog.unfollowed 4) = true := by kernel_rfl
theorem jf_rec : (Rows.fnMulRow.recurses == Tryz.prog.recurses 4) = true := by kernel_rfl
theorem jf_nam : (Rows.fnMulRow.named == Tryz.prog.varsNamed 4) = true := by kernel_rfl
theorem jf_m1 : (Rows.fnMulRow.maps == (Tryz.f4.params.toList ++ Rows.fnMulSpec.plain.varTypes Tryz.prog).any (Tryz.prog.mapsRec ·)) = true := by kernel_rfl
theorem jf_m2 : (Rows.fnMulRow.ifaces == (Tryz.f4.params.toList ++ Rows.fnMulSpec.plain.varTypes Tryz.prog).any (Tryz.prog.ifacesRec ·)) = true := by kernel_rfl
theorem jf_m3 : (Rows.fnMulRow.mapsOut == Tryz.prog.mapsAmong Tryz.f4.resultTypes.toList) = true := by kernel_rfl
theorem jf_l1 : (Rows.fnMulRow.loops == (Tryz.f4.params.toList ++ Rows.fnMulSpec.plain.varTypes Tryz.prog).any (Tryz.prog.loopsFrom ·)) = true := by kernel_rfl
theorem jf_l2 : (Rows.fnMulRow.wideKeys == (Tryz.f4.params.toList ++ Rows.fnMulSpec.plain.varTypes Tryz.prog ++ Tryz.f4.resultTypes.toList).any (Tryz.prog.wideKeysFrom ·)) = true := by kernel_rfl
theorem jf_va : (Rows.fnMulSpec.vars.all (Tryz.prog.varReadable ·)) = true := by kernel_rfl
theorem jf_rt : (Tryz.f4.resultTypes.all (fun t => Tryz.prog.readableRec t && decide (t < Tryz.prog.types.size))) = true := by kernel_rfl
theorem jf_io : (Rows.fnMulRow.ifacesOut == Tryz.f4.resultTypes.toList.any (Tryz.prog.ifacesRec ·)) = true := by kernel_rfl
theorem jf_lo : (Rows.fnMulRow.loopsOut == Tryz.f4.resultTypes.toList.any (Tryz.prog.loopsFrom ·)) = true := by kernel_rfl
theorem jf_pk : (Rows.fnMulRow.plainKeys == Tryz.prog.plainKeys) = true := by kernel_rfl
theorem jf_st : (Rows.fnMulRow.shortTexts.isNone) = true := by kernel_rfl
theorem jf_sh : (Tryz.prog.stopsHeard) = true := by kernel_rfl
theorem jf_me : (Tryz.prog.mayEnter) = true := by kernel_rfl
theorem jf_li : (Rows.fnMulRow.lifted == Tryz.prog.liftsFinal) = true := by kernel_rfl
theorem jf_mk : (Tryz.prog.make == some Rows.fnMulRow.make) = true := by kernel_rfl
theorem jf_ki : (Rows.fnMulRow.kinds == (if Rows.fnMulRow.domain.isEmpty then [] else Tryz.f4.params.toList.map fun t => match Tryz.prog.underlying t with | some (.int k) => some k | _ => none)) = true := by kernel_rfl
theorem jf_pi : (Rows.fnMulRow.pinned == Rows.fnMulRow.pinnedBy) = true := by kernel_rfl
theorem jf_ve : (Rows.fnMulRow.veiled == (Tryz.f4.params.toList ++ Rows.fnMulSpec.plain.varTypes Tryz.prog ++ Tryz.f4.resultTypes.toList).any (Tryz.prog.veiledRec ·)) = true := by kernel_rfl
theorem jf_vf : (Rows.fnMulRow.veiledFits Tryz.prog Tryz.f4.params.toList (Tryz.f4.params.toList ++ Rows.fnMulSpec.plain.varTypes Tryz.prog ++ Tryz.f4.resultTypes.toList)) = true := by kernel_rfl
set_option maxRecDepth 100000 in
theorem facts : joinedFacts Tryz.prog 4 Tryz.f4 Rows.fnMulSpec Rows.fnMulRow = true := by
  unfold joinedFacts
  exact band (band (band (band (band (band (band (band (band (band (band (band (band (band (band (band (band (band (band (band (band (band (band (band (band (band (band (band (band (band (band jf_wf laidOut) jf_mapsr) jf_par) jf_nt) jf_s1) jf_s2) jf_s3) jf_s4) jf_inpl) jf_unf) jf_rec) jf_nam) jf_m1) jf_m2) jf_m3) jf_l1) jf_l2) jf_va) jf_rt) jf_io) jf_lo) jf_pk) jf_st) jf_sh) jf_me) jf_li) jf_mk) jf_ki) jf_pi) jf_ve) jf_vf
theorem named : Tryz.prog.funcNamed Rows.fnMulRow.func = some 4 := by kernel_rfl
end Mul
end Go.Proofs.YtfhppajnnbbcjaaGreatDoor
