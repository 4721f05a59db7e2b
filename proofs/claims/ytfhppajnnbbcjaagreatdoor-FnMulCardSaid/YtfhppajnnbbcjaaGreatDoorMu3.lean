/- Walks: the reference's times, at two numbers. -/
import Derived.Test.YtfhppajnnbbcjaaGreatDoorMu1
import Derived.Test.YtfhppajnnbbcjaaGreatDoorMu2
import Derived.Test.YtfhppajnnbbcjaaGreatDoorGy12
namespace Go.Proofs.YtfhppajnnbbcjaaGreatDoor
open Go.RowKit

/-- whether the reference speaks of the product of two numbers -/
def MulOK (a b : Int) : Prop := smallB a b = true ∧ (a * b).tmod 2 = 0 ∧ ¬ (a * b = 0 ∧ (a < 0 ∨ b < 0)) ∧ NumOK ((a * b).tdiv 2)

theorem srep_numC (W : World) (D : Nat → Prop) (h : Int) : SRep W D (.num h) (numCells h).toList := ⟨_, _, _, rfl, emp _ _, emp _ _, emp _ _⟩

def TimesNum (a b : Int) (w : World) (e : Ending) (w' : World) : Prop := (MulOK a b ∧ SpecPost (.num ((a * b).tdiv 2)) 0 w e w') ∨ SpecPost .null 2 w e w'

set_option maxHeartbeats 1000000 in
set_option maxRecDepth 100000 in
theorem times_num (a b : Int) (A1 A2 A3 B1 B2 B3 : Option Addr) (c1 c2 c3 d1 d2 d3 : Nat) (w : World) (ha : -18014398509481984 ≤ a ∧ a ≤ 18014398509481984) (hb : -18014398509481984 ≤ b ∧ b ≤ 18014398509481984) :
    Calls Tryz.prog 48 #[.agg #[.int .i64 3, .int .i64 a, .string noText, .slice A1 0 c1, .slice A2 0 c2, .slice A3 0 c3], .agg #[.int .i64 3, .int .i64 b, .string noText, .slice B1 0 d1, .slice B2 0 d2, .slice B3 0 d3]] w (TimesNum a b w) := by
  have HS := Lib.hid (fun W => small_any a b W ha hb)
  go_enter Tryz.func48, Tryz.ntmps48
  go_wp2_with fail
  generalize hW : ((World.alloc _ _).alloc _).alloc _ = W0
  have h3 := Lib.hid (alloc3 hW)
  clear hW
  refine (HS.out W0).mono ?_
  rintro e w1 ⟨rfl, hb1⟩
  have hA := (hb1.block _ (box_lt h3.out.2.2.1)).trans h3.out.2.2.1
  have hB := (hb1.block _ (box_lt h3.out.2.2.2.1)).trans h3.out.2.2.2.1
  have hZ := (hb1.block _ (box_lt h3.out.2.2.2.2)).trans h3.out.2.2.2.2
  have a1 : w1.cell? ⟨w.heap.size, 1, none⟩ = _ := box_cell hA 1
  have b1 : w1.cell? ⟨w.heap.size + 1, 1, none⟩ = _ := box_cell hB 1
  have a0 : w1.cell? ⟨w.heap.size, 0, none⟩ = _ := box_cell hA 0
  have b0 : w1.cell? ⟨w.heap.size + 1, 0, none⟩ = _ := box_cell hB 0
  have z0 : w1.cell? ⟨w.heap.size + 1 + 1, 0, none⟩ = _ := box_cell hZ 0
  have z1 : w1.cell? ⟨w.heap.size + 1 + 1, 1, none⟩ = _ := box_cell hZ 1
  have z2 : w1.cell? ⟨w.heap.size + 1 + 1, 2, none⟩ = _ := box_cell hZ 2
  have z3 : w1.cell? ⟨w.heap.size + 1 + 1, 3, none⟩ = _ := box_cell hZ 3
  have z4 : w1.cell? ⟨w.heap.size + 1 + 1, 4, none⟩ = _ := box_cell hZ 4
  have z5 : w1.cell? ⟨w.heap.size + 1 + 1, 5, none⟩ = _ := box_cell hZ 5
  have fz := box_frozen hZ
  have HB := Lib.hid (h3.out.1.trans (hb1.mono h3.out.1.size))
  have hlo := h3.out.1.size
  have HZB := Lib.hid hZ
  clear hA hB hZ hb1 h3
  cases hs : smallB a b with
  | false =>
    go_wp2_with fail
    refine bodyPost_ret (v := .tuple #[.agg #[.int .i64 0, .int .i64 0, .string ⟨#[]⟩, .slice none 0 0, .slice none 0 0, .slice none 0 0], .int .i64 2]) (by simp [results, Tryz.results48, go_sem, z0, z1, z2, z3, z4, z5]) rfl ?_
    refine .inr ⟨zsix, rfl, zsix_rep _ _, ?_⟩
    iterate 6 refine Below.setCell ?_ (by simp; omega) _
    exact HB.out
  | true =>
    have hm := smallB_mul hs
    by_cases h2 : (a * b).tmod 2 = 0
    · by_cases h0 : a * b = 0
      · by_cases ha0 : a < 0
        · go_wp2_with fail
          refine bodyPost_ret (v := .tuple #[.agg #[.int .i64 0, .int .i64 0, .string ⟨#[]⟩, .slice none 0 0, .slice none 0 0, .slice none 0 0], .int .i64 2]) (by simp [results, Tryz.results48, go_sem, z0, z1, z2, z3, z4, z5]) rfl ?_
          refine .inr ⟨zsix, rfl, zsix_rep _ _, ?_⟩
          iterate 6 refine Below.setCell ?_ (by simp; omega) _
          exact HB.out
        · by_cases hb0 : b < 0
          · go_wp2_with fail
            refine bodyPost_ret (v := .tuple #[.agg #[.int .i64 0, .int .i64 0, .string ⟨#[]⟩, .slice none 0 0, .slice none 0 0, .slice none 0 0], .int .i64 2]) (by simp [results, Tryz.results48, go_sem, z0, z1, z2, z3, z4, z5]) rfl ?_
            refine .inr ⟨zsix, rfl, zsix_rep _ _, ?_⟩
            iterate 6 refine Below.setCell ?_ (by simp; omega) _
            exact HB.out
          · have HN := Lib.hid (number_any 0 w1 (by omega))
            have HF := Lib.hid (And.intro hs (And.intro h2 (show ¬ (a * b = 0 ∧ (a < 0 ∨ b < 0)) by omega)))
            have H0 := Lib.hid h0
            clear hm
            go_wp2_with fail
            refine HN.out.mono ?_
            rintro e w2 ⟨c, how, rfl, hc, hb2⟩
            have hZ2 := (hb2.block _ (box_lt HZB.out)).trans HZB.out
            have y0 : w2.cell? ⟨w.heap.size + 1 + 1, 0, none⟩ = _ := box_cell hZ2 0
            have y1 : w2.cell? ⟨w.heap.size + 1 + 1, 1, none⟩ = _ := box_cell hZ2 1
            have y2 : w2.cell? ⟨w.heap.size + 1 + 1, 2, none⟩ = _ := box_cell hZ2 2
            have y3 : w2.cell? ⟨w.heap.size + 1 + 1, 3, none⟩ = _ := box_cell hZ2 3
            have y4 : w2.cell? ⟨w.heap.size + 1 + 1, 4, none⟩ = _ := box_cell hZ2 4
            have y5 : w2.cell? ⟨w.heap.size + 1 + 1, 5, none⟩ = _ := box_cell hZ2 5
            have fy := box_frozen hZ2
            have HB2 := Lib.hid (HB.out.trans (hb2.mono HB.out.size))
            clear hb2 hZ2 HN a1 b1 a0 b0 z0 z1 z2 z3 z4 z5 fz
            rcases hc with ⟨hok, rfl, rfl⟩ | ⟨-, rfl, rfl⟩
            · have HOK := Lib.hid hok
              clear hok
              go_wp2_with fail
              refine bodyPost_ret (v := .tuple #[.agg (numCells 0), .int .i64 0]) (by simp [results, Tryz.results48, go_sem, y0, y1, y2, y3, y4, y5]; try rfl) rfl ?_
              refine .inl ⟨⟨HF.out.1, HF.out.2.1, HF.out.2.2, by rw [H0.out]; exact HOK.out⟩, (numCells 0).toList, rfl, by rw [H0.out]; exact srep_numC _ _ _, ?_⟩
              iterate 6 refine Below.setCell ?_ (by simp; omega) _
              exact HB2.out
            · go_wp2_with fail
              refine bodyPost_ret (v := .tuple #[.agg zsix.toArray, .int .i64 2]) (by simp [results, Tryz.results48, go_sem, zsix, y0, y1, y2, y3, y4, y5]) rfl ?_
              refine .inr ⟨zsix, rfl, zsix_rep _ _, ?_⟩
              iterate 6 refine Below.setCell ?_ (by simp; omega) _
              exact HB2.out
      · have hq : -4611686018427387904 ≤ (a * b).tdiv 2 ∧ (a * b).tdiv 2 ≤ 4611686018427387904 := by
          rw [tdiv_two ((tmod_two _).1 h2)]
          omega
        have HN := Lib.hid (number_any ((a * b).tdiv 2) w1 hq)
        have HF := Lib.hid (And.intro hs (And.intro h2 (show ¬ (a * b = 0 ∧ (a < 0 ∨ b < 0)) from fun h => h0 h.1)))
        obtain ⟨Q, hQ⟩ : ∃ Q, (a * b).tdiv 2 = Q := ⟨_, rfl⟩
        rw [hQ] at HN
        have HQ := Lib.hid hQ
        have hw1 : wrap64 (a * b) = a * b := by unfold wrap64; omega
        have hw2 : wrap64 Q = Q := by unfold wrap64; omega
        clear hq hm
        go_wp2_with fail
        refine HN.out.mono ?_
        rintro e w2 ⟨c, how, rfl, hc, hb2⟩
        have hZ2 := (hb2.block _ (box_lt HZB.out)).trans HZB.out
        have y0 : w2.cell? ⟨w.heap.size + 1 + 1, 0, none⟩ = _ := box_cell hZ2 0
        have y1 : w2.cell? ⟨w.heap.size + 1 + 1, 1, none⟩ = _ := box_cell hZ2 1
        have y2 : w2.cell? ⟨w.heap.size + 1 + 1, 2, none⟩ = _ := box_cell hZ2 2
        have y3 : w2.cell? ⟨w.heap.size + 1 + 1, 3, none⟩ = _ := box_cell hZ2 3
        have y4 : w2.cell? ⟨w.heap.size + 1 + 1, 4, none⟩ = _ := box_cell hZ2 4
        have y5 : w2.cell? ⟨w.heap.size + 1 + 1, 5, none⟩ = _ := box_cell hZ2 5
        have fy := box_frozen hZ2
        have HB2 := Lib.hid (HB.out.trans (hb2.mono HB.out.size))
        clear hb2 hZ2 HN a1 b1 a0 b0 z0 z1 z2 z3 z4 z5 fz
        rcases hc with ⟨hok, rfl, rfl⟩ | ⟨-, rfl, rfl⟩
        · have HOK := Lib.hid hok
          clear hok
          go_wp2_with fail
          refine bodyPost_ret (v := .tuple #[.agg (numCells Q), .int .i64 0]) (by simp [results, Tryz.results48, go_sem, y0, y1, y2, y3, y4, y5]; try rfl) rfl ?_
          refine .inl ⟨⟨HF.out.1, HF.out.2.1, HF.out.2.2, by rw [HQ.out]; exact HOK.out⟩, (numCells Q).toList, rfl, by rw [HQ.out]; exact srep_numC _ _ _, ?_⟩
          iterate 6 refine Below.setCell ?_ (by simp; omega) _
          exact HB2.out
        · go_wp2_with fail
          refine bodyPost_ret (v := .tuple #[.agg zsix.toArray, .int .i64 2]) (by simp [results, Tryz.results48, go_sem, zsix, y0, y1, y2, y3, y4, y5]) rfl ?_
          refine .inr ⟨zsix, rfl, zsix_rep _ _, ?_⟩
          iterate 6 refine Below.setCell ?_ (by simp; omega) _
          exact HB2.out
    · go_wp2_with fail
      refine bodyPost_ret (v := .tuple #[.agg #[.int .i64 0, .int .i64 0, .string ⟨#[]⟩, .slice none 0 0, .slice none 0 0, .slice none 0 0], .int .i64 2]) (by simp [results, Tryz.results48, go_sem, z0, z1, z2, z3, z4, z5]) rfl ?_
      refine .inr ⟨zsix, rfl, zsix_rep _ _, ?_⟩
      iterate 6 refine Below.setCell ?_ (by simp; omega) _
      exact HB.out
end Go.Proofs.YtfhppajnnbbcjaaGreatDoor
