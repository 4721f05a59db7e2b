/- Walks: impl.OpMul, over its door: what is answered is told by what impl.result makes of it. -/
import Derived.Test.YtfhppajnnbbcjaaGreatDoorGy10
namespace Go.Proofs.YtfhppajnnbbcjaaGreatDoor
open Go.RowKit

/-- what the door answers -/
def ZPostM (Rj : J → Prop) (Re : Prop) (W : World) (e : Ending) (W' : World) : Prop :=
  (∃ v j, e = .returned v ∧ Rj j ∧ Calls Tryz.prog 43 #[v] W' (ResOK j W') ∧ Below W.heap.size W W') ∨ (∃ v, e = .returned v ∧ Re ∧ Calls Tryz.prog 43 #[v] W' (ResErr W') ∧ Below W.heap.size W W')
def ZHypM (Z : FuncId) (x y : J) (Rj : J → Prop) (Re : Prop) : Prop := ∀ (D : Nat → Prop) (v u : Value) (W : World), (∀ b, D b → All W b) → ARep W D x v → ARep W D y u → Calls Tryz.prog Z #[v, u] W (ZPostM Rj Re W)

set_option maxHeartbeats 1000000 in
set_option maxRecDepth 100000 in
theorem door_OpMul (x y : J) (Rj : J → Prop) (Re : Prop) (D : Nat → Prop) (cx cp : List Value) (w : World) (wx : x.WF) (wp : y.WF) (hz : ZHypM 51 x y Rj Re) (hD : ∀ b, D b → All w b) (hx : SRep w D x cx) (hp : SRep w D y cp) :
    Calls Tryz.prog 16 #[.agg cx.toArray, .agg cp.toArray] w (DPost Rj Re w) := by
  have hb0 : Below w.heap.size w (((w.alloc (.cells cx.toArray 26)).alloc (.cells cp.toArray 26)).alloc (.cells zRes 34)) := (((Below.refl _ _).alloc (Nat.le_refl _) _).alloc (by simp) _).alloc (by simp; omega) _
  have hsz0 : (((w.alloc (.cells cx.toArray 26)).alloc (.cells cp.toArray 26)).alloc (.cells zRes 34)).heap.size = w.heap.size + 3 := by simp
  have HC1 := Lib.hid (toGo_all x D cx _ wx (fun b hb => Nat.lt_of_lt_of_le (hD b hb) hb0.size) (VRep.keep (Same.of_below hb0 hD) (fun _ h => h) _ _ hx))
  have HC2 : Hid (∀ W, Below w.heap.size w W → Calls Tryz.prog 42 #[.agg cp.toArray] W (ToGoPost y W)) := fun W hb => toGo_all y D cp W wp (fun b hb' => Nat.lt_of_lt_of_le (hD b hb') hb.size) (VRep.keep (Same.of_below hb hD) (fun _ h => h) _ _ hp)
  obtain ⟨A1, c1, A2, c2, A3, c3, rfl⟩ := SRep.six hx
  obtain ⟨B1, d1, B2, d2, B3, d3, rfl⟩ := SRep.six hp
  have hbx1 := heap_alloc_new1 w (.cells [Value.int .i64 x.kind, .int .i64 x.half, .string x.text, .slice A1 x.list.length c1, .slice A2 x.keys.length c2, .slice A3 x.vals.length c3].toArray 26) (.cells [Value.int .i64 y.kind, .int .i64 y.half, .string y.text, .slice B1 y.list.length d1, .slice B2 y.keys.length d2, .slice B3 y.vals.length d3].toArray 26)
  have hbx2 : (((w.alloc (.cells [Value.int .i64 x.kind, .int .i64 x.half, .string x.text, .slice A1 x.list.length c1, .slice A2 x.keys.length c2, .slice A3 x.vals.length c3].toArray 26)).alloc (.cells [Value.int .i64 y.kind, .int .i64 y.half, .string y.text, .slice B1 y.list.length d1, .slice B2 y.keys.length d2, .slice B3 y.vals.length d3].toArray 26)).alloc (.cells zRes 34)).heap[w.heap.size + 1]? = some (.cells [Value.int .i64 y.kind, .int .i64 y.half, .string y.text, .slice B1 y.list.length d1, .slice B2 y.keys.length d2, .slice B3 y.vals.length d3].toArray 26 (0, 0)) := (Below.heap_alloc _ _ _ (by simp)).trans hbx1
  have hbx3 : (((w.alloc (.cells [Value.int .i64 x.kind, .int .i64 x.half, .string x.text, .slice A1 x.list.length c1, .slice A2 x.keys.length c2, .slice A3 x.vals.length c3].toArray 26)).alloc (.cells [Value.int .i64 y.kind, .int .i64 y.half, .string y.text, .slice B1 y.list.length d1, .slice B2 y.keys.length d2, .slice B3 y.vals.length d3].toArray 26)).alloc (.cells zRes 34)).heap[w.heap.size + 2]? = some (.cells zRes 34 (0, 0)) := by
    have := heap_alloc_new ((w.alloc (.cells [Value.int .i64 x.kind, .int .i64 x.half, .string x.text, .slice A1 x.list.length c1, .slice A2 x.keys.length c2, .slice A3 x.vals.length c3].toArray 26)).alloc (.cells [Value.int .i64 y.kind, .int .i64 y.half, .string y.text, .slice B1 y.list.length d1, .slice B2 y.keys.length d2, .slice B3 y.vals.length d3].toArray 26)) (.cells zRes 34)
    rwa [World.size_alloc, World.size_alloc] at this
  have HB := Lib.hid (And.intro hb0 (And.intro hsz0 (And.intro hbx2 hbx3)))
  have HW := Lib.hid (And.intro wx (And.intro wp (And.intro hz hD)))
  clear hx hp hb0 hsz0 wx wp hz hD hbx1 hbx2 hbx3
  go_enter Tryz.func16, Tryz.ntmps16
  go_wp2_with fail
  refine HC1.out.mono ?_
  clear HC1
  rintro e w1 ⟨v1, rfl, hv1, hb1⟩
  obtain ⟨W0, hA, hs0, hbp, hbr, hv1, hb1⟩ : ∃ W0 : World, Below w.heap.size w W0 ∧ W0.heap.size = w.heap.size + 3 ∧ W0.heap[w.heap.size + 1]? = some (.cells [Value.int .i64 y.kind, .int .i64 y.half, .string y.text, .slice B1 y.list.length d1, .slice B2 y.keys.length d2, .slice B3 y.vals.length d3].toArray 26 (0, 0)) ∧ W0.heap[w.heap.size + 2]? = some (.cells zRes 34 (0, 0)) ∧
    ARep w1 (Fresh W0 w1) x v1 ∧ Below W0.heap.size W0 w1 := ⟨_, HB.out.1, HB.out.2.1, HB.out.2.2.1, HB.out.2.2.2, hv1, hb1⟩
  clear HB
  have hsz1 := hb1.size
  have hbp1 := (hb1.block _ (by omega)).trans hbp
  have hbr1 := (hb1.block _ (by omega)).trans hbr
  have hA1 : Below w.heap.size w w1 := hA.trans (hb1.mono (by omega))
  have q0 : w1.cell? ⟨w.heap.size + 1, 0, none⟩ = _ := box_cell hbp1 0
  have q1 : w1.cell? ⟨w.heap.size + 1, 1, none⟩ = _ := box_cell hbp1 1
  have q2 : w1.cell? ⟨w.heap.size + 1, 2, none⟩ = _ := box_cell hbp1 2
  have q3 : w1.cell? ⟨w.heap.size + 1, 3, none⟩ = _ := box_cell hbp1 3
  have q4 : w1.cell? ⟨w.heap.size + 1, 4, none⟩ = _ := box_cell hbp1 4
  have q5 : w1.cell? ⟨w.heap.size + 1, 5, none⟩ = _ := box_cell hbp1 5
  have HC := Lib.hid (HC2.out w1 hA1)
  have HV := Lib.hid (And.intro hv1 (And.intro hs0 (And.intro hsz1 (And.intro hbr1 hA1))))
  clear HC2 hv1 hb1 hA hs0 hbp hbr hsz1 hbp1 hbr1 hA1
  go_wp2_with fail
  refine HC.out.mono ?_
  clear HC
  rintro e w2 ⟨v2, rfl, hv2, hb2⟩
  have hsz2 := hb2.size
  obtain ⟨hv1, hs0, hsz1, hbr1, hA1⟩ := HV.out
  have hv1' : ARep w2 (fun b => w.heap.size + 3 ≤ b ∧ b < w2.heap.size) x v1 := ARep.keep (fun b hb => hb2.block b hb.2) (fun b hb => ⟨by have := hb.1; omega, Nat.lt_of_lt_of_le hb.2 hsz2⟩) _ _ hv1
  have hS' : ARep w2 (fun b => w.heap.size + 3 ≤ b ∧ b < w2.heap.size) y v2 := ARep.keep (fun _ _ => rfl) (fun b hb => ⟨by have := hb.1; omega, hb.2⟩) _ _ hv2
  have HG := Lib.hid (HW.out.2.2.1 (fun b => w.heap.size + 3 ≤ b ∧ b < w2.heap.size) v1 v2 w2 (fun b hb => hb.2) hv1' hS')
  have HD := Lib.hid (And.intro (hA1.trans (hb2.mono (by omega))) (And.intro ((hb2.block _ (by omega)).trans hbr1) (show w.heap.size + 3 ≤ w2.heap.size by omega)))
  clear hv1' hS' hv2 hv1 hs0 hsz1 hbr1 hA1 HV hb2 hsz2 q0 q1 q2 q3 q4 q5
  go_wp2_with fail
  refine HG.out.mono ?_
  clear HG
  intro e w3 hpost
  rcases hpost with ⟨v, y, rfl, hR, hres, hb3⟩ | ⟨v, rfl, hR, hres, hb3⟩
  · have hD3 := And.intro (HD.out.1.trans (hb3.mono (by have := HD.out.2.2; omega))) (And.intro ((hb3.block _ (box_lt HD.out.2.1)).trans HD.out.2.1) (Nat.le_trans HD.out.2.2 hb3.size))
    replace HD := Lib.hid hD3
    have HR := Lib.hid hres
    have HY := Lib.hid hR
    clear hres hD3 hb3 hR
    go_wp2_with fail
    refine HR.out.mono ?_
    clear HR
    rintro e w4 ⟨E1, e1, E2, e2, E3, e3, rfl, hr4, hb4⟩
    have hbr4 := (hb4.block _ (box_lt HD.out.2.1)).trans HD.out.2.1
    have r0 : w4.cell? ⟨w.heap.size + 2, 0, none⟩ = _ := box_cell hbr4 0
    have r1 : w4.cell? ⟨w.heap.size + 2, 1, none⟩ = _ := box_cell hbr4 1
    have r2 : w4.cell? ⟨w.heap.size + 2, 2, none⟩ = _ := box_cell hbr4 2
    have r3 : w4.cell? ⟨w.heap.size + 2, 3, none⟩ = _ := box_cell hbr4 3
    have r4 : w4.cell? ⟨w.heap.size + 2, 4, none⟩ = _ := box_cell hbr4 4
    have r5 : w4.cell? ⟨w.heap.size + 2, 5, none⟩ = _ := box_cell hbr4 5
    have r6 : w4.cell? ⟨w.heap.size + 2, 6, none⟩ = _ := box_cell hbr4 6
    have fz := box_frozen hbr4
    have HF := Lib.hid (And.intro hr4 hb4)
    clear hr4 hb4 hbr4
    go_wp2_with fail
    refine bodyPost_ret (v := .agg #[.int .i64 y.kind, .int .i64 y.half, .string y.text, .slice E1 y.list.length e1, .slice E2 y.keys.length e2, .slice E3 y.vals.length e3, .int .i64 0]) (by simp [results, Tryz.results16, go_sem, r0, r1, r2, r3, r4, r5, r6]) rfl ?_
    refine .inl ⟨y, HY.out, ?_⟩
    refine ⟨E1, e1, E2, e2, E3, e3, rfl, ?_, ?_⟩
    · refine VRep.keep (D := Fresh w3 w4) (fun b hb => ?_) (fun b hb => ⟨by have := hb.1; have := HD.out.2.2; omega, by have := hb.2; simp [World.setCell]; omega⟩) _ _ HF.out.1
      have hne : b ≠ w.heap.size + 2 := by have := hb.1; have := HD.out.2.2; omega
      iterate 7 rw [heap_setCell_other _ _ _ _ hne]
    · repeat (refine Below.setCell ?_ (by simp; omega) _)
      exact HD.out.1.trans (HF.out.2.mono (by have := HD.out.2.2; omega))
  · have HR := Lib.hid hres
    have HY := Lib.hid (And.intro hR hb3)
    clear hres hR hb3
    go_wp2_with fail
    refine HR.out.mono ?_
    clear HR
    rintro e w4 ⟨rfl, hb4⟩
    have hbr4 := (hb4.block _ (Nat.lt_of_lt_of_le (box_lt HD.out.2.1) HY.out.2.size)).trans ((HY.out.2.block _ (box_lt HD.out.2.1)).trans HD.out.2.1)
    have r0 : w4.cell? ⟨w.heap.size + 2, 0, none⟩ = _ := box_cell hbr4 0
    have r1 : w4.cell? ⟨w.heap.size + 2, 1, none⟩ = _ := box_cell hbr4 1
    have r2 : w4.cell? ⟨w.heap.size + 2, 2, none⟩ = _ := box_cell hbr4 2
    have r3 : w4.cell? ⟨w.heap.size + 2, 3, none⟩ = _ := box_cell hbr4 3
    have r4 : w4.cell? ⟨w.heap.size + 2, 4, none⟩ = _ := box_cell hbr4 4
    have r5 : w4.cell? ⟨w.heap.size + 2, 5, none⟩ = _ := box_cell hbr4 5
    have r6 : w4.cell? ⟨w.heap.size + 2, 6, none⟩ = _ := box_cell hbr4 6
    have fz := box_frozen hbr4
    have HF := Lib.hid hb4
    clear hb4 hbr4
    go_wp2_with fail
    refine bodyPost_ret (v := .agg #[.int .i64 0, .int .i64 0, .string ⟨#[]⟩, .slice none 0 0, .slice none 0 0, .slice none 0 0, .int .i64 1]) (by simp [results, Tryz.results16, go_sem, r0, r1, r2, r3, r4, r5, r6]) rfl ?_
    refine .inr ⟨HY.out.1, rfl, ?_⟩
    repeat (refine Below.setCell ?_ (by simp; omega) _)
    have := HD.out.2.2
    have := HY.out.2.size
    exact (HD.out.1.trans (HY.out.2.mono (by omega))).trans (HF.out.mono (by omega))

end Go.Proofs.YtfhppajnnbbcjaaGreatDoor
