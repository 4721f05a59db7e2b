/- Walks: the law FnMul. -/
import Derived.Test.YtfhppajnnbbcjaaGreatDoorMe1
namespace Go.Proofs.YtfhppajnnbbcjaaGreatDoor
open Go.RowKit

/-- what the values of the last row are good for -/
def F4m (cv cx : Array Value) (Rj : J → Prop) (Re : Prop) (j : J) (how : Int) : Nat → Value → World → Prop
  | 0, u, _ => u = .int .i64 how
  | 1, u, _ => u = .bool false
  | 2, u, _ => u = .bool false
  | 3, u, _ => u = .agg cv
  | 4, u, _ => u = .agg cx
  | 5, u, W => ResG Rj Re u W (fun b => b < W.heap.size)
  | 6, u, W => ∃ cs : List Value, u = .agg cs.toArray ∧ SRep W (fun b => b < W.heap.size) j cs
  | 7, u, _ => u = .int .i64 how
  | 8, u, _ => u = .bool true
  | 9, u, _ => u = .bool true
  | _, _, _ => True

theorem F4m.keep {cv cx : Array Value} {Rj : J → Prop} {Re : Prop} {j : J} {how : Int} {i : Nat} {u : Value} {W W' : World} (h : F4m cv cx Rj Re j how i u W) (hb : Below W.heap.size W W') : F4m cv cx Rj Re j how i u W' := by
  have hs : Same (fun b => b < W.heap.size) W W' := fun b hb' => hb.block b hb'
  have hd : ∀ b, b < W.heap.size → b < W'.heap.size := fun b hb' => Nat.lt_of_lt_of_le hb' hb.size
  match i, h with
  | 0, h => exact h
  | 1, h => exact h
  | 2, h => exact h
  | 3, h => exact h
  | 4, h => exact h
  | 5, h => exact ResG.keep h hs hd
  | 6, ⟨cs, hu, hr⟩ => exact ⟨cs, hu, VRep.keep hs hd _ _ hr⟩
  | 7, h => exact h
  | 8, h => exact h
  | 9, h => exact h
  | k + 10, _ => trivial
theorem F4m.six {cv cx : Array Value} {Rj : J → Prop} {Re : Prop} {j : J} {how : Int} {u : Value} {W : World} (h : F4m cv cx Rj Re j how 6 u W) : ∃ cs : List Value, u = .agg cs.toArray ∧ SRep W (fun b => b < W.heap.size) j cs := h

set_option maxHeartbeats 2000000 in
set_option maxRecDepth 100000 in
theorem Mul_law (v x : V) (D : Nat → Prop) (cv cx : List Value) (w : World) (hv : VRep w D v cv) (hx : VRep w D x cx) (hD : ∀ b, D b → All w b) (hU : U8 w) (hsv : v.Small) (hsx : x.Small) :
    Calls Tryz.prog 4 #[.agg cv.toArray, .agg cx.toArray] w (TrueP w) := by
  have hk : ∀ W, Below w.heap.size w W → VRep W D v cv ∧ VRep W D x cx := fun W hb => ⟨VRep.keep (Same.of_below hb hD) (fun _ h => h) _ _ hv, VRep.keep (Same.of_below hb hD) (fun _ h => h) _ _ hx⟩
  have HC1 := Lib.hid (fun W (hW : Below w.heap.size w W) => zzFits1_any v D cv W (hk _ hW).1 (fun b hb => Nat.lt_of_lt_of_le (hD b hb) hW.size) hsv)
  have HC2 := Lib.hid (fun W (hW : Below w.heap.size w W) => zzFits1_any x D cx W (hk _ hW).2 (fun b hb => Nat.lt_of_lt_of_le (hD b hb) hW.size) hsx)
  obtain ⟨vk, vh, vt, vl, vks, vvs⟩ := v
  obtain ⟨L, K, S, rfl, hL, hK, hS⟩ := hv
  obtain ⟨A1, c1, rfl⟩ := hL.form
  obtain ⟨A2, c2, rfl⟩ := hK.form
  obtain ⟨A3, c3, rfl⟩ := hS.form
  obtain ⟨xk, xh, xt, xl, xks, xvs⟩ := x
  obtain ⟨L, K, S, rfl, hL', hK', hS'⟩ := hx
  obtain ⟨B1, d1, rfl⟩ := hL'.form
  obtain ⟨B2, d2, rfl⟩ := hK'.form
  obtain ⟨B3, d3, rfl⟩ := hS'.form
  have HX := Lib.hid (And.intro hk (And.intro hD (And.intro hU (And.intro hsv hsx))))
  clear hk hD hU hsv hsx hL hK hS hL' hK' hS'
  go_enter Tryz.func4, Tryz.ntmps4
  go_wp2_with fail
  generalize hW : (World.alloc _ _).alloc _ = W0
  have H2 := Lib.hid (alloc2 hW)
  clear hW
  refine (HC1.out W0 H2.out.1).mono ?_
  clear HC1
  rintro e w1 ⟨b, rfl, hb1⟩
  have HB1 := Lib.hid (H2.out.1.trans (hb1.mono H2.out.1.size))
  have HBX := Lib.hid (And.intro ((hb1.block _ (box_lt H2.out.2.2.1)).trans H2.out.2.2.1) ((hb1.block _ (box_lt H2.out.2.2.2)).trans H2.out.2.2.2))
  clear hb1 H2
  cases b with
  | false =>
    go_wp2_with fail
    go_ret
    exact ⟨rfl, HB1.out⟩
  | true =>
    have hbx := HBX.out.1
    have hby := HBX.out.2
    have q0 : w1.cell? ⟨w.heap.size, 0, none⟩ = _ := box_cell hbx 0
    have q1 : w1.cell? ⟨w.heap.size, 1, none⟩ = _ := box_cell hbx 1
    have q2 : w1.cell? ⟨w.heap.size, 2, none⟩ = _ := box_cell hbx 2
    have q3 : w1.cell? ⟨w.heap.size, 3, none⟩ = _ := box_cell hbx 3
    have q4 : w1.cell? ⟨w.heap.size, 4, none⟩ = _ := box_cell hbx 4
    have q5 : w1.cell? ⟨w.heap.size, 5, none⟩ = _ := box_cell hbx 5
    have y0 : w1.cell? ⟨w.heap.size + 1, 0, none⟩ = _ := box_cell hby 0
    have y1 : w1.cell? ⟨w.heap.size + 1, 1, none⟩ = _ := box_cell hby 1
    have y2 : w1.cell? ⟨w.heap.size + 1, 2, none⟩ = _ := box_cell hby 2
    have y3 : w1.cell? ⟨w.heap.size + 1, 3, none⟩ = _ := box_cell hby 3
    have y4 : w1.cell? ⟨w.heap.size + 1, 4, none⟩ = _ := box_cell hby 4
    have y5 : w1.cell? ⟨w.heap.size + 1, 5, none⟩ = _ := box_cell hby 5
    have hlt := box_lt hby
    have hlt0 := box_lt hbx
    clear hbx hby
    go_wp2_with fail
    refine (HC2.out w1 HB1.out).mono ?_
    clear HC2
    rintro e w2 ⟨b, rfl, hb2⟩
    replace HBX := Lib.hid (And.intro ((hb2.block _ (box_lt HBX.out.1)).trans HBX.out.1) ((hb2.block _ (box_lt HBX.out.2)).trans HBX.out.2))
    replace HB1 := Lib.hid (HB1.out.trans (hb2.mono HB1.out.size))
    clear hb2 q0 q1 q2 q3 q4 q5 y0 y1 y2 y3 y4 y5 hlt hlt0
    cases b with
    | false =>
      go_wp2_with fail
      go_ret
      exact ⟨rfl, HB1.out⟩
    | true =>
      have hbx := HBX.out.1
      have hby := HBX.out.2
      have q0 : w2.cell? ⟨w.heap.size, 0, none⟩ = _ := box_cell hbx 0
      have q1 : w2.cell? ⟨w.heap.size, 1, none⟩ = _ := box_cell hbx 1
      have q2 : w2.cell? ⟨w.heap.size, 2, none⟩ = _ := box_cell hbx 2
      have q3 : w2.cell? ⟨w.heap.size, 3, none⟩ = _ := box_cell hbx 3
      have q4 : w2.cell? ⟨w.heap.size, 4, none⟩ = _ := box_cell hbx 4
      have q5 : w2.cell? ⟨w.heap.size, 5, none⟩ = _ := box_cell hbx 5
      have y0 : w2.cell? ⟨w.heap.size + 1, 0, none⟩ = _ := box_cell hby 0
      have y1 : w2.cell? ⟨w.heap.size + 1, 1, none⟩ = _ := box_cell hby 1
      have y2 : w2.cell? ⟨w.heap.size + 1, 2, none⟩ = _ := box_cell hby 2
      have y3 : w2.cell? ⟨w.heap.size + 1, 3, none⟩ = _ := box_cell hby 3
      have y4 : w2.cell? ⟨w.heap.size + 1, 4, none⟩ = _ := box_cell hby 4
      have y5 : w2.cell? ⟨w.heap.size + 1, 5, none⟩ = _ := box_cell hby 5
      have hlt := box_lt hby
      have hlt0 := box_lt hbx
      clear hbx hby
      have HF := Lib.hid (fit2_any (.mk vk vh vt vl vks vvs) (.mk xk xh xt xl xks xvs) D [Value.int .i64 vk, .int .i64 vh, .string vt, .slice A1 vl.length c1, .slice A2 vks.length c2, .slice A3 vvs.length c3] [Value.int .i64 xk, .int .i64 xh, .string xt, .slice B1 xl.length d1, .slice B2 xks.length d2, .slice B3 xvs.length d3] w2 (HX.out.1 _ HB1.out).1 (HX.out.1 _ HB1.out).2 (fun b hb => Nat.lt_of_lt_of_le (HX.out.2.1 b hb) HB1.out.size) (HX.out.2.2.1.below HB1.out HX.out.2.2.1.size) HX.out.2.2.2.1 HX.out.2.2.2.2)
      go_wp2_with fail
      refine HF.out.mono ?_
      clear HF
      rintro e w3 ⟨b, rfl, hgood, hb3⟩
      have HB3 := Lib.hid (HB1.out.trans (hb3.mono HB1.out.size))
      replace HBX := Lib.hid (And.intro ((hb3.block _ (box_lt HBX.out.1)).trans HBX.out.1) ((hb3.block _ (box_lt HBX.out.2)).trans HBX.out.2))
      clear hb3 HB1 q0 q1 q2 q3 q4 q5 y0 y1 y2 y3 y4 y5 hlt hlt0
      cases b with
      | false =>
        clear hgood
        go_wp2_with fail
        go_ret
        exact ⟨rfl, HB3.out⟩
      | true =>
        have hbx := HBX.out.1
        have hby := HBX.out.2
        have q0 : w3.cell? ⟨w.heap.size, 0, none⟩ = _ := box_cell hbx 0
        have q1 : w3.cell? ⟨w.heap.size, 1, none⟩ = _ := box_cell hbx 1
        have q2 : w3.cell? ⟨w.heap.size, 2, none⟩ = _ := box_cell hbx 2
        have q3 : w3.cell? ⟨w.heap.size, 3, none⟩ = _ := box_cell hbx 3
        have q4 : w3.cell? ⟨w.heap.size, 4, none⟩ = _ := box_cell hbx 4
        have q5 : w3.cell? ⟨w.heap.size, 5, none⟩ = _ := box_cell hbx 5
        have y0 : w3.cell? ⟨w.heap.size + 1, 0, none⟩ = _ := box_cell hby 0
        have y1 : w3.cell? ⟨w.heap.size + 1, 1, none⟩ = _ := box_cell hby 1
        have y2 : w3.cell? ⟨w.heap.size + 1, 2, none⟩ = _ := box_cell hby 2
        have y3 : w3.cell? ⟨w.heap.size + 1, 3, none⟩ = _ := box_cell hby 3
        have y4 : w3.cell? ⟨w.heap.size + 1, 4, none⟩ = _ := box_cell hby 4
        have y5 : w3.cell? ⟨w.heap.size + 1, 5, none⟩ = _ := box_cell hby 5
        have hlt := box_lt hby
        have hlt0 := box_lt hbx
        clear hbx hby
        obtain ⟨⟨jv, hjv, gv⟩, ⟨jx, hjx, gx⟩⟩ := hgood rfl
        have hJ : ∀ W, Below w.heap.size w W → SRep W D jv [Value.int .i64 vk, .int .i64 vh, .string vt, .slice A1 vl.length c1, .slice A2 vks.length c2, .slice A3 vvs.length c3] ∧ SRep W D jx [Value.int .i64 xk, .int .i64 xh, .string xt, .slice B1 xl.length d1, .slice B2 xks.length d2, .slice B3 xvs.length d3] := fun W hb => by
          obtain ⟨h1, h2⟩ := HX.out.1 W hb
          rw [hjv] at h1
          rw [hjx] at h2
          exact ⟨h1, h2⟩
        have pv := gv.parts
        have px := gx.parts
        have HO := Lib.hid (operate_any jv jx gv.wf gx.wf (by omega) (by omega) D [Value.int .i64 vk, .int .i64 vh, .string vt, .slice A1 vl.length c1, .slice A2 vks.length c2, .slice A3 vvs.length c3] [Value.int .i64 xk, .int .i64 xh, .string xt, .slice B1 xl.length d1, .slice B2 xks.length d2, .slice B3 xvs.length d3] w3 (fun b hb => Nat.lt_of_lt_of_le (HX.out.2.1 b hb) HB3.out.size) (hJ _ HB3.out).1 (hJ _ HB3.out).2)
        have HJ := Lib.hid (And.intro hJ (And.intro HX.out.2.1 (And.intro gv.wf gx.wf)))
        clear hgood gv gx hjv hjx hJ pv px HX
        go_wp2_with fail
        refine HO.out.mono ?_
        clear HO
        rintro e w4 ⟨j, how, hok, cs, rfl, hr, hb4⟩
        obtain ⟨E1, e1, E2, e2, E3, e3, rfl⟩ := SRep.six hr
        have HB4 := Lib.hid (HB3.out.trans (hb4.mono HB3.out.size))
        have hDf : ∀ b, (D b ∨ Fresh w3 w4 b) → b < w4.heap.size := fun b hb => by
          rcases hb with h | h
          · exact Nat.lt_of_lt_of_le (HJ.out.2.1 b h) HB4.out.size
          · exact h.2
        have HRJ := Lib.hid (VRep.keep (D' := fun b => b < w4.heap.size) (fun _ _ => rfl) hDf _ _ hr)
        replace HBX := Lib.hid (And.intro ((hb4.block _ (box_lt HBX.out.1)).trans HBX.out.1) ((hb4.block _ (box_lt HBX.out.2)).trans HBX.out.2))
        clear hr hb4 hDf HB3 q0 q1 q2 q3 q4 q5 y0 y1 y2 y3 y4 y5 hlt hlt0
        obtain ⟨W5, hW5⟩ : ∃ W5, w4.alloc (.cells #[Value.int .i64 j.kind, .int .i64 j.half, .string j.text, .slice E1 j.list.length e1, .slice E2 j.keys.length e2, .slice E3 j.vals.length e3] 26) = W5 := ⟨_, rfl⟩
        have hb55 : Below w4.heap.size w4 W5 := by rw [← hW5]; exact (Below.refl _ _).alloc (Nat.le_refl _) _
        have hg5 : W5.heap[w4.heap.size]? = some (.cells #[Value.int .i64 j.kind, .int .i64 j.half, .string j.text, .slice E1 j.list.length e1, .slice E2 j.keys.length e2, .slice E3 j.vals.length e3] 26 (0, 0)) := by rw [← hW5]; exact heap_alloc_new w4 _
        have HB := Lib.hid (And.intro (HB4.out.trans (hb55.mono HB4.out.size)) (VRep.keep (D' := fun b => b < W5.heap.size) (fun b hb => hb55.block b hb) (fun b hb => Nat.lt_of_lt_of_le hb hb55.size) _ _ HRJ.out))
        replace HBX := Lib.hid (And.intro ((hb55.block _ (box_lt HBX.out.1)).trans HBX.out.1) (And.intro ((hb55.block _ (box_lt HBX.out.2)).trans HBX.out.2) hg5))
        have HW5 := Lib.hid hW5
        clear hb55 hg5 HB4 HRJ hW5
        rcases hok with rfl | ⟨rfl, hz⟩ | ⟨rfl, wj, hz⟩
        · go_wp2_with fail
          rw [HW5.out]
          refine region_tail 10 (by kernel_rfl) (by kernel_rfl) ?_
          simp only [List.take_succ_cons, List.take_zero, List.drop_succ_cons, List.drop_zero]
          iterate 3 still_step
          iterate 6
            with_reducible refine still_skip ?_ ?_
            · kernel_rfl
            simp only [Act.put, List.setIfInBounds_toArray, List.set_cons_zero, List.set_cons_succ]
          still_step
          refine wpStill_nil ?_
          go_wp2_with fail
          go_ret
          exact ⟨rfl, HB.out.1.drew⟩
        · have HI := Lib.hid (fun W (hW : Below W5.heap.size W5 W) => door_OpMul jv jx (fun _ => False) True D [Value.int .i64 vk, .int .i64 vh, .string vt, .slice A1 vl.length c1, .slice A2 vks.length c2, .slice A3 vvs.length c3] [Value.int .i64 xk, .int .i64 xh, .string xt, .slice B1 xl.length d1, .slice B2 xks.length d2, .slice B3 xvs.length d3] W HJ.out.2.2.1 HJ.out.2.2.2 hz (fun b hb => Nat.lt_of_lt_of_le (HJ.out.2.1 b hb) (HB.out.1.trans (hW.mono HB.out.1.size)).size) (HJ.out.1 _ (HB.out.1.trans (hW.mono HB.out.1.size))).1 (HJ.out.1 _ (HB.out.1.trans (hW.mono HB.out.1.size))).2)
          have HAG := Lib.hid (show Agree (fun _ => False) True j 1 from .inr (.inl ⟨rfl, fun _ h => h⟩))
          clear hz
          go_wp2_with fail
          rw [HW5.out]
          clear HW5
          refine wp_region_RG 10 (by kernel_rfl) (by kernel_rfl) (Below W5.heap.size W5) (fun _ i u W => F4m #[Value.int .i64 vk, .int .i64 vh, .string vt, .slice A1 vl.length c1, .slice A2 vks.length c2, .slice A3 vvs.length c3] #[Value.int .i64 xk, .int .i64 xh, .string xt, .slice B1 xl.length d1, .slice B2 xks.length d2, .slice B3 xvs.length d3] (fun _ => False) True j 1 i u W) (by simp [AllSteps, frameOf, Act.put, upd]) ((Below.refl _ _).drew) ⟨?s0, ?s1, ?s2, ?s3, ?s4, ?s5, ?s6, ?s7, ?s8, ?s9, trivial⟩ ?e
          case s0 =>
            intro xs d W hd hdeps hG hF K hK
            clear hdeps
            simp only [frameOf, List.take_succ_cons, List.take_zero, Act.put, List.setIfInBounds_toArray, List.set_cons_zero, List.set_cons_succ, Nat.zero_add, Nat.reduceAdd]
            go_simp
            exact hK _ _ _ (by simp only [frameOf, List.take_succ_cons, List.take_zero, Act.put, List.setIfInBounds_toArray, List.set_cons_zero, List.set_cons_succ, Nat.zero_add, Nat.reduceAdd]) hG (fun j u _ _ h => h) rfl
          case s1 =>
            intro xs d W hd hdeps hG hF K hK
            simp [Region.binds] at hdeps
            have f0 : xs 0 = _ := hF 0 hdeps
            simp only [frameOf, List.take_succ_cons, List.take_zero, Act.put, List.setIfInBounds_toArray, List.set_cons_zero, List.set_cons_succ, Nat.zero_add, Nat.reduceAdd]
            simp only [f0]
            go_simp
            exact hK _ _ _ (by simp only [frameOf, List.take_succ_cons, List.take_zero, Act.put, List.setIfInBounds_toArray, List.set_cons_zero, List.set_cons_succ, Nat.zero_add, Nat.reduceAdd, f0]) hG (fun j u _ _ h => h) rfl
          case s2 =>
            intro xs d W hd hdeps hG hF K hK
            simp [Region.binds] at hdeps
            have f1 : xs 1 = _ := hF 1 hdeps
            simp only [frameOf, List.take_succ_cons, List.take_zero, Act.put, List.setIfInBounds_toArray, List.set_cons_zero, List.set_cons_succ, Nat.zero_add, Nat.reduceAdd]
            simp only [f1]
            go_simp
            exact hK _ _ _ (by simp only [frameOf, List.take_succ_cons, List.take_zero, Act.put, List.setIfInBounds_toArray, List.set_cons_zero, List.set_cons_succ, Nat.zero_add, Nat.reduceAdd, f1]) hG (fun j u _ _ h => h) rfl
          case s3 =>
            intro xs d W hd hdeps hG hF K hK
            simp [Region.binds] at hdeps
            have f2 : xs 2 = _ := hF 2 hdeps
            have hb := (hG.block _ (box_lt HBX.out.1)).trans HBX.out.1
            have b0 := box_cell hb 0
            have b1 := box_cell hb 1
            have b2 := box_cell hb 2
            have b3 := box_cell hb 3
            have b4 := box_cell hb 4
            have b5 := box_cell hb 5
            simp at b0 b1 b2 b3 b4 b5
            clear hb
            simp only [frameOf, List.take_succ_cons, List.take_zero, Act.put, List.setIfInBounds_toArray, List.set_cons_zero, List.set_cons_succ, Nat.zero_add, Nat.reduceAdd]
            simp only [f2]
            rw [if_pos (by kernel_rfl)]
            go_simp
            exact hK _ _ _ (by simp only [frameOf, List.take_succ_cons, List.take_zero, Act.put, List.setIfInBounds_toArray, List.set_cons_zero, List.set_cons_succ, Nat.zero_add, Nat.reduceAdd, f2]) hG (fun j u _ _ h => h) rfl
          case s4 =>
            intro xs d W hd hdeps hG hF K hK
            simp [Region.binds] at hdeps
            have f2 : xs 2 = _ := hF 2 hdeps
            have hb := (hG.block _ (box_lt HBX.out.2.1)).trans HBX.out.2.1
            have b0 := box_cell hb 0
            have b1 := box_cell hb 1
            have b2 := box_cell hb 2
            have b3 := box_cell hb 3
            have b4 := box_cell hb 4
            have b5 := box_cell hb 5
            simp at b0 b1 b2 b3 b4 b5
            clear hb
            simp only [frameOf, List.take_succ_cons, List.take_zero, Act.put, List.setIfInBounds_toArray, List.set_cons_zero, List.set_cons_succ, Nat.zero_add, Nat.reduceAdd]
            simp only [f2]
            rw [if_pos (by kernel_rfl)]
            go_simp
            exact hK _ _ _ (by simp only [frameOf, List.take_succ_cons, List.take_zero, Act.put, List.setIfInBounds_toArray, List.set_cons_zero, List.set_cons_succ, Nat.zero_add, Nat.reduceAdd, f2]) hG (fun j u _ _ h => h) rfl
          case s5 =>
            intro xs d W hd hdeps hG hF K hK
            simp [Region.binds] at hdeps
            have f3 : xs 3 = _ := hF 3 hdeps.1
            have f4 : xs 4 = _ := hF 4 hdeps.2.1
            have f2 : xs 2 = _ := hF 2 hdeps.2.2
            have HG2 := Lib.hid (And.intro hG hK)
            clear hG hK hF
            simp only [frameOf, List.take_succ_cons, List.take_zero, Act.put, List.setIfInBounds_toArray, List.set_cons_zero, List.set_cons_succ, Nat.zero_add, Nat.reduceAdd]
            simp only [f2, f3, f4]
            rw [if_pos (by kernel_rfl)]
            go_simp
            refine (HI.out W HG2.out.1).mono ?_
            intro e w9 hp
            obtain ⟨u, he, hu, hb9⟩ := dpost_res hp
            subst he
            obtain ⟨hG, hK⟩ := HG2.out
            exact hK _ _ _ (by simp only [frameOf, List.take_succ_cons, List.take_zero, Act.put, List.setIfInBounds_toArray, List.set_cons_zero, List.set_cons_succ, Nat.zero_add, Nat.reduceAdd, f2, f3, f4]) (hG.trans (hb9.mono hG.size)) (fun j u _ _ h => h.keep hb9) (ResG.keep hu (fun _ _ => rfl) (fun b hb => hb.2))
          case s6 =>
            intro xs d W hd hdeps hG hF K hK
            simp [Region.binds] at hdeps
            have f2 : xs 2 = _ := hF 2 hdeps
            have hb := (hG.block _ (box_lt HBX.out.2.2)).trans HBX.out.2.2
            have b0 := box_cell hb 0
            have b1 := box_cell hb 1
            have b2 := box_cell hb 2
            have b3 := box_cell hb 3
            have b4 := box_cell hb 4
            have b5 := box_cell hb 5
            simp at b0 b1 b2 b3 b4 b5
            clear hb
            simp only [frameOf, List.take_succ_cons, List.take_zero, Act.put, List.setIfInBounds_toArray, List.set_cons_zero, List.set_cons_succ, Nat.zero_add, Nat.reduceAdd]
            simp only [f2]
            rw [if_pos (by kernel_rfl)]
            go_simp
            exact hK _ _ _ (by simp only [frameOf, List.take_succ_cons, List.take_zero, Act.put, List.setIfInBounds_toArray, List.set_cons_zero, List.set_cons_succ, Nat.zero_add, Nat.reduceAdd, f2]) hG (fun j u _ _ h => h) ⟨_, rfl, VRep.keep (fun b hb => hG.block b hb) (fun b hb => Nat.lt_of_lt_of_le hb hG.size) _ _ HB.out.2⟩
          case s7 =>
            intro xs d W hd hdeps hG hF K hK
            simp [Region.binds] at hdeps
            have f2 : xs 2 = _ := hF 2 hdeps
            simp only [frameOf, List.take_succ_cons, List.take_zero, Act.put, List.setIfInBounds_toArray, List.set_cons_zero, List.set_cons_succ, Nat.zero_add, Nat.reduceAdd]
            simp only [f2]
            rw [if_pos (by kernel_rfl)]
            go_simp
            exact hK _ _ _ (by simp only [frameOf, List.take_succ_cons, List.take_zero, Act.put, List.setIfInBounds_toArray, List.set_cons_zero, List.set_cons_succ, Nat.zero_add, Nat.reduceAdd, f2]) hG (fun j u _ _ h => h) rfl
          case s8 =>
            intro xs d W hd hdeps hG hF K hK
            simp [Region.binds] at hdeps
            have f5 := hF 5 hdeps.1
            have h6 := F4m.six (hF 6 hdeps.2.1)
            have f7 : xs 7 = _ := hF 7 hdeps.2.2.1
            have f2 : xs 2 = _ := hF 2 hdeps.2.2.2.2
            have g6 := h6.choose_spec.1
            have hr := h6.choose_spec.2
            generalize h6.choose = cs at g6 hr
            clear h6
            have HT := Lib.hid (told_agree HAG.out (fun b => b < W.heap.size) (xs 5) cs W (fun b hb => hb) f5 hr)
            have HG2 := Lib.hid (And.intro hG hK)
            clear hG hK hF f5 hr
            simp only [frameOf, List.take_succ_cons, List.take_zero, Act.put, List.setIfInBounds_toArray, List.set_cons_zero, List.set_cons_succ, Nat.zero_add, Nat.reduceAdd]
            simp only [f2, g6, f7]
            rw [if_pos (by kernel_rfl)]
            go_simp
            refine HT.out.mono ?_
            rintro e w9 ⟨rfl, hb9⟩
            obtain ⟨hG, hK⟩ := HG2.out
            exact hK _ _ _ (by simp only [frameOf, List.take_succ_cons, List.take_zero, Act.put, List.setIfInBounds_toArray, List.set_cons_zero, List.set_cons_succ, Nat.zero_add, Nat.reduceAdd, f2, g6, f7]) (hG.trans (hb9.mono hG.size)) (fun j u _ _ h => h.keep hb9) rfl
          case s9 =>
            intro xs d W hd hdeps hG hF K hK
            simp [Region.binds] at hdeps
            have f2 : xs 2 = _ := hF 2 hdeps.1
            have f8 : xs 8 = _ := hF 8 hdeps.2
            simp only [frameOf, List.take_succ_cons, List.take_zero, Act.put, List.setIfInBounds_toArray, List.set_cons_zero, List.set_cons_succ, Nat.zero_add, Nat.reduceAdd]
            simp only [f2, f8]
            go_simp
            exact hK _ _ _ (by simp only [frameOf, List.take_succ_cons, List.take_zero, Act.put, List.setIfInBounds_toArray, List.set_cons_zero, List.set_cons_succ, Nat.zero_add, Nat.reduceAdd, f2, f8]) hG (fun j u _ _ h => h) rfl
          case e =>
            intro xs W hG hF
            have f9 : xs 9 = _ := hF 9 (by omega)
            have hGG := Lib.hid (HB.out.1.trans (hG.mono HB.out.1.size))
            clear hG hF
            simp only [frameOf, List.take_succ_cons, List.take_zero, List.drop_succ_cons, List.drop_zero, Act.put, List.setIfInBounds_toArray, List.set_cons_zero, List.set_cons_succ, Nat.zero_add, Nat.reduceAdd, f9]
            go_wp2_with fail
            go_ret
            exact ⟨rfl, hGG.out⟩
        · have HI := Lib.hid (fun W (hW : Below W5.heap.size W5 W) => door_OpMul jv jx (· = j) False D [Value.int .i64 vk, .int .i64 vh, .string vt, .slice A1 vl.length c1, .slice A2 vks.length c2, .slice A3 vvs.length c3] [Value.int .i64 xk, .int .i64 xh, .string xt, .slice B1 xl.length d1, .slice B2 xks.length d2, .slice B3 xvs.length d3] W HJ.out.2.2.1 HJ.out.2.2.2 hz (fun b hb => Nat.lt_of_lt_of_le (HJ.out.2.1 b hb) (HB.out.1.trans (hW.mono HB.out.1.size)).size) (HJ.out.1 _ (HB.out.1.trans (hW.mono HB.out.1.size))).1 (HJ.out.1 _ (HB.out.1.trans (hW.mono HB.out.1.size))).2)
          have HAG := Lib.hid (show Agree (· = j) False j 0 from .inr (.inr ⟨rfl, wj, id, fun _ h => h⟩))
          clear hz wj
          go_wp2_with fail
          rw [HW5.out]
          clear HW5
          refine wp_region_RG 10 (by kernel_rfl) (by kernel_rfl) (Below W5.heap.size W5) (fun _ i u W => F4m #[Value.int .i64 vk, .int .i64 vh, .string vt, .slice A1 vl.length c1, .slice A2 vks.length c2, .slice A3 vvs.length c3] #[Value.int .i64 xk, .int .i64 xh, .string xt, .slice B1 xl.length d1, .slice B2 xks.length d2, .slice B3 xvs.length d3] (· = j) False j 0 i u W) (by simp [AllSteps, frameOf, Act.put, upd]) ((Below.refl _ _).drew) ⟨?s0, ?s1, ?s2, ?s3, ?s4, ?s5, ?s6, ?s7, ?s8, ?s9, trivial⟩ ?e
          case s0 =>
            intro xs d W hd hdeps hG hF K hK
            clear hdeps
            simp only [frameOf, List.take_succ_cons, List.take_zero, Act.put, List.setIfInBounds_toArray, List.set_cons_zero, List.set_cons_succ, Nat.zero_add, Nat.reduceAdd]
            go_simp
            exact hK _ _ _ (by simp only [frameOf, List.take_succ_cons, List.take_zero, Act.put, List.setIfInBounds_toArray, List.set_cons_zero, List.set_cons_succ, Nat.zero_add, Nat.reduceAdd]) hG (fun j u _ _ h => h) rfl
          case s1 =>
            intro xs d W hd hdeps hG hF K hK
            simp [Region.binds] at hdeps
            have f0 : xs 0 = _ := hF 0 hdeps
            simp only [frameOf, List.take_succ_cons, List.take_zero, Act.put, List.setIfInBounds_toArray, List.set_cons_zero, List.set_cons_succ, Nat.zero_add, Nat.reduceAdd]
            simp only [f0]
            go_simp
            exact hK _ _ _ (by simp only [frameOf, List.take_succ_cons, List.take_zero, Act.put, List.setIfInBounds_toArray, List.set_cons_zero, List.set_cons_succ, Nat.zero_add, Nat.reduceAdd, f0]) hG (fun j u _ _ h => h) rfl
          case s2 =>
            intro xs d W hd hdeps hG hF K hK
            simp [Region.binds] at hdeps
            have f1 : xs 1 = _ := hF 1 hdeps
            simp only [frameOf, List.take_succ_cons, List.take_zero, Act.put, List.setIfInBounds_toArray, List.set_cons_zero, List.set_cons_succ, Nat.zero_add, Nat.reduceAdd]
            simp only [f1]
            go_simp
            exact hK _ _ _ (by simp only [frameOf, List.take_succ_cons, List.take_zero, Act.put, List.setIfInBounds_toArray, List.set_cons_zero, List.set_cons_succ, Nat.zero_add, Nat.reduceAdd, f1]) hG (fun j u _ _ h => h) rfl
          case s3 =>
            intro xs d W hd hdeps hG hF K hK
            simp [Region.binds] at hdeps
            have f2 : xs 2 = _ := hF 2 hdeps
            have hb := (hG.block _ (box_lt HBX.out.1)).trans HBX.out.1
            have b0 := box_cell hb 0
            have b1 := box_cell hb 1
            have b2 := box_cell hb 2
            have b3 := box_cell hb 3
            have b4 := box_cell hb 4
            have b5 := box_cell hb 5
            simp at b0 b1 b2 b3 b4 b5
            clear hb
            simp only [frameOf, List.take_succ_cons, List.take_zero, Act.put, List.setIfInBounds_toArray, List.set_cons_zero, List.set_cons_succ, Nat.zero_add, Nat.reduceAdd]
            simp only [f2]
            rw [if_pos (by kernel_rfl)]
            go_simp
            exact hK _ _ _ (by simp only [frameOf, List.take_succ_cons, List.take_zero, Act.put, List.setIfInBounds_toArray, List.set_cons_zero, List.set_cons_succ, Nat.zero_add, Nat.reduceAdd, f2]) hG (fun j u _ _ h => h) rfl
          case s4 =>
            intro xs d W hd hdeps hG hF K hK
            simp [Region.binds] at hdeps
            have f2 : xs 2 = _ := hF 2 hdeps
            have hb := (hG.block _ (box_lt HBX.out.2.1)).trans HBX.out.2.1
            have b0 := box_cell hb 0
            have b1 := box_cell hb 1
            have b2 := box_cell hb 2
            have b3 := box_cell hb 3
            have b4 := box_cell hb 4
            have b5 := box_cell hb 5
            simp at b0 b1 b2 b3 b4 b5
            clear hb
            simp only [frameOf, List.take_succ_cons, List.take_zero, Act.put, List.setIfInBounds_toArray, List.set_cons_zero, List.set_cons_succ, Nat.zero_add, Nat.reduceAdd]
            simp only [f2]
            rw [if_pos (by kernel_rfl)]
            go_simp
            exact hK _ _ _ (by simp only [frameOf, List.take_succ_cons, List.take_zero, Act.put, List.setIfInBounds_toArray, List.set_cons_zero, List.set_cons_succ, Nat.zero_add, Nat.reduceAdd, f2]) hG (fun j u _ _ h => h) rfl
          case s5 =>
            intro xs d W hd hdeps hG hF K hK
            simp [Region.binds] at hdeps
            have f3 : xs 3 = _ := hF 3 hdeps.1
            have f4 : xs 4 = _ := hF 4 hdeps.2.1
            have f2 : xs 2 = _ := hF 2 hdeps.2.2
            have HG2 := Lib.hid (And.intro hG hK)
            clear hG hK hF
            simp only [frameOf, List.take_succ_cons, List.take_zero, Act.put, List.setIfInBounds_toArray, List.set_cons_zero, List.set_cons_succ, Nat.zero_add, Nat.reduceAdd]
            simp only [f2, f3, f4]
            rw [if_pos (by kernel_rfl)]
            go_simp
            refine (HI.out W HG2.out.1).mono ?_
            intro e w9 hp
            obtain ⟨u, he, hu, hb9⟩ := dpost_res hp
            subst he
            obtain ⟨hG, hK⟩ := HG2.out
            exact hK _ _ _ (by simp only [frameOf, List.take_succ_cons, List.take_zero, Act.put, List.setIfInBounds_toArray, List.set_cons_zero, List.set_cons_succ, Nat.zero_add, Nat.reduceAdd, f2, f3, f4]) (hG.trans (hb9.mono hG.size)) (fun j u _ _ h => h.keep hb9) (ResG.keep hu (fun _ _ => rfl) (fun b hb => hb.2))
          case s6 =>
            intro xs d W hd hdeps hG hF K hK
            simp [Region.binds] at hdeps
            have f2 : xs 2 = _ := hF 2 hdeps
            have hb := (hG.block _ (box_lt HBX.out.2.2)).trans HBX.out.2.2
            have b0 := box_cell hb 0
            have b1 := box_cell hb 1
            have b2 := box_cell hb 2
            have b3 := box_cell hb 3
            have b4 := box_cell hb 4
            have b5 := box_cell hb 5
            simp at b0 b1 b2 b3 b4 b5
            clear hb
            simp only [frameOf, List.take_succ_cons, List.take_zero, Act.put, List.setIfInBounds_toArray, List.set_cons_zero, List.set_cons_succ, Nat.zero_add, Nat.reduceAdd]
            simp only [f2]
            rw [if_pos (by kernel_rfl)]
            go_simp
            exact hK _ _ _ (by simp only [frameOf, List.take_succ_cons, List.take_zero, Act.put, List.setIfInBounds_toArray, List.set_cons_zero, List.set_cons_succ, Nat.zero_add, Nat.reduceAdd, f2]) hG (fun j u _ _ h => h) ⟨_, rfl, VRep.keep (fun b hb => hG.block b hb) (fun b hb => Nat.lt_of_lt_of_le hb hG.size) _ _ HB.out.2⟩
          case s7 =>
            intro xs d W hd hdeps hG hF K hK
            simp [Region.binds] at hdeps
            have f2 : xs 2 = _ := hF 2 hdeps
            simp only [frameOf, List.take_succ_cons, List.take_zero, Act.put, List.setIfInBounds_toArray, List.set_cons_zero, List.set_cons_succ, Nat.zero_add, Nat.reduceAdd]
            simp only [f2]
            rw [if_pos (by kernel_rfl)]
            go_simp
            exact hK _ _ _ (by simp only [frameOf, List.take_succ_cons, List.take_zero, Act.put, List.setIfInBounds_toArray, List.set_cons_zero, List.set_cons_succ, Nat.zero_add, Nat.reduceAdd, f2]) hG (fun j u _ _ h => h) rfl
          case s8 =>
            intro xs d W hd hdeps hG hF K hK
            simp [Region.binds] at hdeps
            have f5 := hF 5 hdeps.1
            have h6 := F4m.six (hF 6 hdeps.2.1)
            have f7 : xs 7 = _ := hF 7 hdeps.2.2.1
            have f2 : xs 2 = _ := hF 2 hdeps.2.2.2.2
            have g6 := h6.choose_spec.1
            have hr := h6.choose_spec.2
            generalize h6.choose = cs at g6 hr
            clear h6
            have HT := Lib.hid (told_agree HAG.out (fun b => b < W.heap.size) (xs 5) cs W (fun b hb => hb) f5 hr)
            have HG2 := Lib.hid (And.intro hG hK)
            clear hG hK hF f5 hr
            simp only [frameOf, List.take_succ_cons, List.take_zero, Act.put, List.setIfInBounds_toArray, List.set_cons_zero, List.set_cons_succ, Nat.zero_add, Nat.reduceAdd]
            simp only [f2, g6, f7]
            rw [if_pos (by kernel_rfl)]
            go_simp
            refine HT.out.mono ?_
            rintro e w9 ⟨rfl, hb9⟩
            obtain ⟨hG, hK⟩ := HG2.out
            exact hK _ _ _ (by simp only [frameOf, List.take_succ_cons, List.take_zero, Act.put, List.setIfInBounds_toArray, List.set_cons_zero, List.set_cons_succ, Nat.zero_add, Nat.reduceAdd, f2, g6, f7]) (hG.trans (hb9.mono hG.size)) (fun j u _ _ h => h.keep hb9) rfl
          case s9 =>
            intro xs d W hd hdeps hG hF K hK
            simp [Region.binds] at hdeps
            have f2 : xs 2 = _ := hF 2 hdeps.1
            have f8 : xs 8 = _ := hF 8 hdeps.2
            simp only [frameOf, List.take_succ_cons, List.take_zero, Act.put, List.setIfInBounds_toArray, List.set_cons_zero, List.set_cons_succ, Nat.zero_add, Nat.reduceAdd]
            simp only [f2, f8]
            go_simp
            exact hK _ _ _ (by simp only [frameOf, List.take_succ_cons, List.take_zero, Act.put, List.setIfInBounds_toArray, List.set_cons_zero, List.set_cons_succ, Nat.zero_add, Nat.reduceAdd, f2, f8]) hG (fun j u _ _ h => h) rfl
          case e =>
            intro xs W hG hF
            have f9 : xs 9 = _ := hF 9 (by omega)
            have hGG := Lib.hid (HB.out.1.trans (hG.mono HB.out.1.size))
            clear hG hF
            simp only [frameOf, List.take_succ_cons, List.take_zero, List.drop_succ_cons, List.drop_zero, Act.put, List.setIfInBounds_toArray, List.set_cons_zero, List.set_cons_succ, Nat.zero_add, Nat.reduceAdd, f9]
            go_wp2_with fail
            go_ret
            exact ⟨rfl, hGG.out⟩
end Go.Proofs.YtfhppajnnbbcjaaGreatDoor
