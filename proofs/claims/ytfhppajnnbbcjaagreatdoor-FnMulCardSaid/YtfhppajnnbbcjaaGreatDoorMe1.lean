/- Walks: the laws' fit; spec.Operate at the sign of the product. -/
import Derived.Test.YtfhppajnnbbcjaaGreatDoorMd1
namespace Go.Proofs.YtfhppajnnbbcjaaGreatDoor
open Go.RowKit

def Fit2Post (v x : V) (w : World) (e : Ending) (w' : World) : Prop := ∃ b, e = .returned (.bool b) ∧ (b = true → GoodV v 400 2000 ∧ GoodV x 400 2000) ∧ Below w.heap.size w w'

set_option maxRecDepth 100000 in
theorem fit2_any (v x : V) (D : Nat → Prop) (cv cx : List Value) (w : World) (hv : VRep w D v cv) (hx : VRep w D x cx) (hD : ∀ b, D b → All w b) (hU : U8 w) (hsv : v.Small) (hsx : x.Small) :
    Calls Tryz.prog 14 #[.agg cv.toArray, .agg cx.toArray] w (Fit2Post v x w) := by
  have HC1 := Lib.hid (fun W (hW : Below w.heap.size w W) => Fit_any v D cv W (VRep.keep (Same.of_below hW hD) (fun _ h => h) _ _ hv) (fun b hb => Nat.lt_of_lt_of_le (hD b hb) hW.size) (hU.below hW hU.size) hsv)
  have HC2 := Lib.hid (fun W (hW : Below w.heap.size w W) => Fit_any x D cx W (VRep.keep (Same.of_below hW hD) (fun _ h => h) _ _ hx) (fun b hb => Nat.lt_of_lt_of_le (hD b hb) hW.size) (hU.below hW hU.size) hsx)
  obtain ⟨vk, vh, vt, vl, vks, vvs⟩ := v
  obtain ⟨L, K, S, rfl, hL, hK, hS⟩ := hv
  obtain ⟨A1, c1, rfl⟩ := hL.form
  obtain ⟨A2, c2, rfl⟩ := hK.form
  obtain ⟨A3, c3, rfl⟩ := hS.form
  obtain ⟨xk, xh, xt, xl, xks, xvs⟩ := x
  obtain ⟨L, K, S, rfl, hL', hK', hS'⟩ := hx
  obtain ⟨B1, d1, rfl⟩ := hL'.form
  obtain ⟨B2, d2, rfl⟩ := hK'.form
  obtain ⟨B3, d3, rfl⟩ := hS'.form
  clear hL hK hS hL' hK' hS' hD hU hsv hsx
  go_enter Tryz.func14, Tryz.ntmps14
  go_wp2_with fail
  generalize hW : (World.alloc _ _).alloc _ = W0
  have H2 := Lib.hid (alloc2 hW)
  clear hW
  refine (HC1.out W0 H2.out.1).mono ?_
  clear HC1
  rintro e w1 ⟨b, rfl, hg1, hb1⟩
  have HB1 := Lib.hid (And.intro (H2.out.1.trans (hb1.mono H2.out.1.size)) hg1)
  have hby := (hb1.block _ (box_lt H2.out.2.2.2)).trans H2.out.2.2.2
  have y0 : w1.cell? ⟨w.heap.size + 1, 0, none⟩ = _ := box_cell hby 0
  have y1 : w1.cell? ⟨w.heap.size + 1, 1, none⟩ = _ := box_cell hby 1
  have y2 : w1.cell? ⟨w.heap.size + 1, 2, none⟩ = _ := box_cell hby 2
  have y3 : w1.cell? ⟨w.heap.size + 1, 3, none⟩ = _ := box_cell hby 3
  have y4 : w1.cell? ⟨w.heap.size + 1, 4, none⟩ = _ := box_cell hby 4
  have y5 : w1.cell? ⟨w.heap.size + 1, 5, none⟩ = _ := box_cell hby 5
  clear hg1 hb1 hby H2
  cases b with
  | false =>
    go_wp2_with fail
    go_ret
    exact ⟨false, rfl, (fun h => nomatch h), HB1.out.1⟩
  | true =>
    go_wp2_with fail
    refine (HC2.out w1 HB1.out.1).mono ?_
    clear HC2
    rintro e w2 ⟨b, rfl, hg2, hb2⟩
    have HB2 := Lib.hid (And.intro (HB1.out.1.trans (hb2.mono HB1.out.1.size)) hg2)
    clear hg2 hb2 y0 y1 y2 y3 y4 y5
    go_wp2_with fail
    go_ret
    exact ⟨b, rfl, fun h => ⟨HB1.out.2 (by trivial), HB2.out.2 h⟩, HB2.out.1⟩

theorem dpost_res {Rj : J → Prop} {Re : Prop} {w w' : World} {e : Ending} (h : DPost Rj Re w e w') : ∃ u, e = .returned u ∧ ResG Rj Re u w' (Fresh w w') ∧ Below w.heap.size w w' := by
  rcases h with ⟨j, hj, A1, c1, A2, c2, A3, c3, rfl, hr, hb⟩ | ⟨he, rfl, hb⟩
  · exact ⟨_, rfl, .inl ⟨j, A1, c1, A2, c2, A3, c3, hj, rfl, hr⟩, hb⟩
  · exact ⟨_, rfl, .inr ⟨he, rfl⟩, hb⟩

set_option maxRecDepth 100000 in
set_option maxHeartbeats 1000000 in
theorem operate_any (x y : J) (wx : x.WF) (wy : y.WF) (px : x.parts ≤ 1000) (py : y.parts ≤ 1000) (D : Nat → Prop) (cx cy : List Value) (w : World) (hD : ∀ b, D b → All w b) (hx : SRep w D x cx) (hy : SRep w D y cy) :
    Calls Tryz.prog 15 #[.string ⟨#[42]⟩, .agg cx.toArray, .agg cy.toArray] w (fun e w' => ∃ j how, OKM x y j how ∧ SpecD j how D w e w') := by
  have hk : ∀ W, Below w.heap.size w W → SRep W D x cx ∧ SRep W D y cy := fun W hb => ⟨VRep.keep (Same.of_below hb hD) (fun _ h => h) _ _ hx, VRep.keep (Same.of_below hb hD) (fun _ h => h) _ _ hy⟩
  have HV1 := Lib.hid (fun W (hW : Below w.heap.size w W) => vague x D cx W (fun b hb => Nat.lt_of_lt_of_le (hD b hb) hW.size) (hk W hW).1)
  have HV2 := Lib.hid (fun W (hW : Below w.heap.size w W) => vague y D cy W (fun b hb => Nat.lt_of_lt_of_le (hD b hb) hW.size) (hk W hW).2)
  have HC := Lib.hid (fun W (hW : Below w.heap.size w W) => times_any x y wx wy px py D cx cy W (fun b hb => Nat.lt_of_lt_of_le (hD b hb) hW.size) (hk W hW).1 (hk W hW).2)
  have HD := Lib.hid hD
  obtain ⟨A1, c1, A2, c2, A3, c3, rfl⟩ := SRep.six hx
  obtain ⟨B1, d1, B2, d2, B3, d3, rfl⟩ := SRep.six hy
  clear hx hy hD hk wx wy px py
  go_enter Tryz.func15, Tryz.ntmps15
  go_wp2_with fail
  generalize hW : ((World.alloc _ _).alloc _).alloc _ = W0
  have H3 := Lib.hid (alloc3 hW)
  clear hW
  refine (HV1.out W0 H3.out.1).mono ?_
  rintro e w1 ⟨rfl, hb1⟩
  have HB := Lib.hid (And.intro (H3.out.1.trans (hb1.mono H3.out.1.size)) (And.intro ((hb1.block _ (box_lt H3.out.2.2.1)).trans H3.out.2.2.1) (And.intro ((hb1.block _ (box_lt H3.out.2.2.2.1)).trans H3.out.2.2.2.1) ((hb1.block _ (box_lt H3.out.2.2.2.2)).trans H3.out.2.2.2.2))))
  clear hb1 H3
  have hbx := HB.out.2.1
  have hby := HB.out.2.2.1
  have q0 : w1.cell? ⟨w.heap.size, 0, none⟩ = _ := box_cell hbx 0
  have q1 : w1.cell? ⟨w.heap.size, 1, none⟩ = _ := box_cell hbx 1
  have q2 : w1.cell? ⟨w.heap.size, 2, none⟩ = _ := box_cell hbx 2
  have q3 : w1.cell? ⟨w.heap.size, 3, none⟩ = _ := box_cell hbx 3
  have q4 : w1.cell? ⟨w.heap.size, 4, none⟩ = _ := box_cell hbx 4
  have q5 : w1.cell? ⟨w.heap.size, 5, none⟩ = _ := box_cell hbx 5
  have y0 : w1.cell? ⟨w.heap.size + 1, 0, none⟩ = _ := box_cell hby 0
  have y1 : w1.cell? ⟨w.heap.size + 1, 1, none⟩ = _ := box_cell hby 1
  have y2 : w1.cell? ⟨w.heap.size + 1, 2, none⟩ = _ := box_cell hby 2
  have y3 : w1.cell? ⟨w.heap.size + 1, 3, none⟩ = _ := box_cell hby 3
  have y4 : w1.cell? ⟨w.heap.size + 1, 4, none⟩ = _ := box_cell hby 4
  have y5 : w1.cell? ⟨w.heap.size + 1, 5, none⟩ = _ := box_cell hby 5
  clear hbx hby
  go_wp2_with fail
  refine (HV2.out w1 HB.out.1).mono ?_
  clear HV1 HV2
  rintro e w2 ⟨rfl, hb2⟩
  replace HB := Lib.hid (And.intro (HB.out.1.trans (hb2.mono HB.out.1.size)) (And.intro ((hb2.block _ (box_lt HB.out.2.1)).trans HB.out.2.1) (And.intro ((hb2.block _ (box_lt HB.out.2.2.1)).trans HB.out.2.2.1) ((hb2.block _ (box_lt HB.out.2.2.2)).trans HB.out.2.2.2))))
  clear hb2 q0 q1 q2 q3 q4 q5 y0 y1 y2 y3 y4 y5
  have hbx := HB.out.2.1
  have hby := HB.out.2.2.1
  have q0 : w2.cell? ⟨w.heap.size, 0, none⟩ = _ := box_cell hbx 0
  have q1 : w2.cell? ⟨w.heap.size, 1, none⟩ = _ := box_cell hbx 1
  have q2 : w2.cell? ⟨w.heap.size, 2, none⟩ = _ := box_cell hbx 2
  have q3 : w2.cell? ⟨w.heap.size, 3, none⟩ = _ := box_cell hbx 3
  have q4 : w2.cell? ⟨w.heap.size, 4, none⟩ = _ := box_cell hbx 4
  have q5 : w2.cell? ⟨w.heap.size, 5, none⟩ = _ := box_cell hbx 5
  have y0 : w2.cell? ⟨w.heap.size + 1, 0, none⟩ = _ := box_cell hby 0
  have y1 : w2.cell? ⟨w.heap.size + 1, 1, none⟩ = _ := box_cell hby 1
  have y2 : w2.cell? ⟨w.heap.size + 1, 2, none⟩ = _ := box_cell hby 2
  have y3 : w2.cell? ⟨w.heap.size + 1, 3, none⟩ = _ := box_cell hby 3
  have y4 : w2.cell? ⟨w.heap.size + 1, 4, none⟩ = _ := box_cell hby 4
  have y5 : w2.cell? ⟨w.heap.size + 1, 5, none⟩ = _ := box_cell hby 5
  clear hbx hby
  go_wp2_with fail
  refine (HC.out w2 HB.out.1).mono ?_
  clear HC
  rintro e w3 ⟨j, how, hok, cs, rfl, hcs, hb3⟩
  obtain ⟨E1, e1, E2, e2, E3, e3, rfl⟩ := SRep.six hcs
  have hZ := (hb3.block _ (box_lt HB.out.2.2.2)).trans HB.out.2.2.2
  have z0 : w3.cell? ⟨w.heap.size + 1 + 1, 0, none⟩ = _ := box_cell hZ 0
  have z1 : w3.cell? ⟨w.heap.size + 1 + 1, 1, none⟩ = _ := box_cell hZ 1
  have z2 : w3.cell? ⟨w.heap.size + 1 + 1, 2, none⟩ = _ := box_cell hZ 2
  have z3 : w3.cell? ⟨w.heap.size + 1 + 1, 3, none⟩ = _ := box_cell hZ 3
  have z4 : w3.cell? ⟨w.heap.size + 1 + 1, 4, none⟩ = _ := box_cell hZ 4
  have z5 : w3.cell? ⟨w.heap.size + 1 + 1, 5, none⟩ = _ := box_cell hZ 5
  have fz := box_frozen hZ
  have HF := Lib.hid (And.intro hcs (And.intro (HB.out.1.trans (hb3.mono HB.out.1.size)) (And.intro hok (And.intro (box_lt HB.out.2.2.2) hb3.size))))
  clear hcs hb3 hZ hok q0 q1 q2 q3 q4 q5 y0 y1 y2 y3 y4 y5
  go_wp2_with fail
  refine bodyPost_ret (v := .tuple #[.agg #[.int .i64 j.kind, .int .i64 j.half, .string j.text, .slice E1 j.list.length e1, .slice E2 j.keys.length e2, .slice E3 j.vals.length e3], .int .i64 how]) (by simp [results, Tryz.results15, go_sem, z0, z1, z2, z3, z4, z5]) rfl ?_
  refine ⟨j, how, HF.out.2.2.1, [.int .i64 j.kind, .int .i64 j.half, .string j.text, .slice E1 j.list.length e1, .slice E2 j.keys.length e2, .slice E3 j.vals.length e3], rfl, VRep.keep (fun b hb => ?_) (fun b hb => hb.imp id fun h => ⟨by have := h.1; have := HF.out.2.2.2.1; omega, by have := h.2; simp [World.setCell]; omega⟩) _ _ HF.out.1, ?_⟩
  · have hne : b ≠ w.heap.size + 1 + 1 := by
      rcases hb with h | h
      · have := HD.out b h; omega
      · have := h.1; have := HF.out.2.2.2.1; omega
    iterate 6 rw [heap_setCell_other _ _ _ _ hne]
  · iterate 6 refine Below.setCell ?_ (by simp; omega) _
    exact HF.out.2.1
end Go.Proofs.YtfhppajnnbbcjaaGreatDoor
