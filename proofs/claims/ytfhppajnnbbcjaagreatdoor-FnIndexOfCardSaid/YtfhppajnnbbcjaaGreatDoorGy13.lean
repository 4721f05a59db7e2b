/- The reference at index and rindex, at all JSON values: what it says, and that the program's answer agrees with it.
   Walks: the law FnIndexOf. -/
import Derived.Test.YtfhppajnnbbcjaaGreatDoorGy11
import Derived.Test.YtfhppajnnbbcjaaGreatDoorGy12
import Derived.Test.YtfhppajnnbbcjaaGreatDoorGy10
import Derived.Test.YtfhppajnnbbcjaaGreatDoorGy5

section
namespace Go.Proofs.YtfhppajnnbbcjaaGreatDoor
open Go.RowKit

def Pick (fs : Bool) (p : Nat → Bool) (n : Nat) (q : Option Nat) : Prop := if fs then PickF p n q else PickL p n q
def IsAt (fs : Bool) : List J → List J → Option Nat → Prop := if fs then IsFirst else IsLast

theorem wAns_pick (fs : Bool) (p : Nat → Bool) (n : Nat) : ∃ q, wAns fs (hits p n) = numO q ∧ Pick fs p n q := by
  cases h : hits p n with
  | nil =>
    refine ⟨none, by cases fs <;> rfl, ?_⟩
    cases fs <;> exact hits_nil h
  | cons a l =>
    cases fs with
    | true =>
      obtain ⟨k, rfl, hk⟩ := hits_head (p := p) (n := n) (j := a) (by rw [h]; rfl)
      exact ⟨some k, rfl, hk⟩
    | false =>
      have hl : (hits p n)[(hits p n).length - 1]? = some ((hits p n)[(hits p n).length - 1]'(by rw [h]; simp)) := List.getElem?_eq_getElem _
      obtain ⟨k, hk, hp⟩ := hits_last hl
      refine ⟨some k, ?_, hp⟩
      unfold wAns
      rw [← h]
      simp only [Bool.false_eq_true, if_false]
      rw [hl, hk]
      rfl

theorem pick_same {fs : Bool} {a b : List J} {p : Nat → Bool} {n : Nat} {r q : Option Nat} (h : IsAt fs a b r) (k : Pick fs p n q) (hb : b ≠ []) (e : ∀ i, LAt a b i ↔ i < n ∧ p i = true) : r = q := by
  cases fs with
  | true => exact first_pick h k hb e
  | false => exact last_pick h k hb e

theorem pick_wf {fs : Bool} {p : Nat → Bool} {n : Nat} {q : Option Nat} (k : Pick fs p n q) (hn : n ≤ 1048577) : (numO q).WF := by
  cases q with
  | none => trivial
  | some q =>
    have : q < n := by cases fs <;> exact k.1
    simp only [numO, J.WF]
    omega

/-- what the program may answer -/
def RIdx (fs : Bool) (x y : J) (j : J) : Prop := ∃ r, j = numO r ∧ IdxO (IsAt fs) x y r

theorem agree_pick {fs : Bool} {x y : J} {a b : List J} {p : Nat → Bool} {n : Nat} (hx : ∀ r, IdxO (IsAt fs) x y r → IsAt fs a b r) (hE : ¬ IdxE x y) (hb : b ≠ []) (e : ∀ i, LAt a b i ↔ i < n ∧ p i = true) (hn : n ≤ 1048577) :
    Agree (RIdx fs x y) (IdxE x y) (wAns fs (hits p n)) 0 := by
  obtain ⟨q, hq, hp⟩ := wAns_pick fs p n
  rw [hq]
  refine .inr (.inr ⟨rfl, pick_wf hp hn, hE, ?_⟩)
  rintro j' ⟨r, rfl, hr⟩
  rw [pick_same (hx r hr) hp hb e]

theorem idx_ref (nm : ByteArray) (fs : Bool) (n1 : (nm.toList == [105, 110, 100, 105, 99, 101, 115]) = false) (n2 : (nm.toList == [105, 110, 100, 101, 120]) = fs) (x y : J) (wx : x.WF) (wy : y.WF) :
    ∃ j how, RefOK 74 nm x y j how ∧ Agree (RIdx fs x y) (IdxE x y) j how := by
  by_cases h0 : x = .null ∨ y = .null
  · exact ⟨_, _, fun D cx cy w hD hx hy => where_null nm x y h0 D cx cy w hx hy, .inl rfl⟩
  have hx0 : x.kind ≠ 0 := by
    intro h
    cases x with
    | null => exact h0 (.inl rfl)
    | bool b => cases b <;> simp [J.kind] at h
    | _ => simp [J.kind] at h
  have hy0 : y.kind ≠ 0 := by
    intro h
    cases y with
    | null => exact h0 (.inr rfl)
    | bool b => cases b <;> simp [J.kind] at h
    | _ => simp [J.kind] at h
  by_cases h5 : x.kind = 5
  · cases x with
    | arr a =>
      have hla : a.length ≤ 1048576 := wx.1
      by_cases h5' : y.kind = 5
      · cases y with
        | arr b =>
          by_cases hb : b = []
          · subst hb
            exact ⟨_, _, fun D cx cy w hD hx hy => where_list_silent nm a D cx cy w hx hy, .inl rfl⟩
          · exact ⟨_, _, fun D cx cy w hD hx hy => where_list nm fs n1 n2 a b hb D cx cy w wx wy hD hx hy, agree_pick (fun r h => h) id hb (fun i => pL_at) (by omega)⟩
        | bool b => cases b <;> simp [J.kind] at h5'
        | _ => simp [J.kind] at h5'
      · refine ⟨_, _, fun D cx cy w hD hx hy => where_elem nm fs n1 n2 a y hy0 h5' D cx cy w wx wy hD hx hy, agree_pick (a := a) (b := [y]) (fun r h => ?_) id (by simp) (fun i => pE_at) (by omega)⟩
        cases y with
        | arr b => simp [J.kind] at h5'
        | _ => exact h
    | bool b => cases b <;> simp [J.kind] at h5
    | _ => simp [J.kind] at h5
  by_cases h4 : x.kind = 4 ∧ y.kind = 4
  · cases x with
    | str s =>
      cases y with
      | str t =>
        have hls : s.size ≤ 1048576 := by simpa only [J.WF] using wx
        by_cases ht : t = noText ∨ asc s = false
        · exact ⟨_, _, fun D cx cy w hD hx hy => where_text_silent nm s t ht wx D cx cy w hx hy, .inl rfl⟩
        · have ht1 : t ≠ noText := fun h => ht (.inl h)
          have ha : asc s = true := by
            cases h : asc s with
            | true => rfl
            | false => exact absurd (.inr h) ht
          refine ⟨_, _, fun D cx cy w hD hx hy => where_text nm fs n1 n2 s t ht1 ha D cx cy w wx wy hx hy, agree_pick (fun r h => h) id (runesJ_ne ht1) (fun i => ?_) (by omega)⟩
          rw [text_at ha, ← pT_iff]
          refine ⟨fun h => ⟨?_, h⟩, fun h => h.2⟩
          have hA := pT_iff.1 h
          have h0 : 0 < t.size := by
            rcases Nat.eq_zero_or_pos t.size with h0 | h0
            · exact absurd (bytes_ext (by
                have h1 : t.data.toList.length = 0 := by simpa using h0
                rw [List.eq_nil_of_length_eq_zero h1]; rfl)) ht1
            · exact h0
          have := hA.1
          omega
      | bool b => cases b <;> simp [J.kind] at h4
      | _ => simp [J.kind] at h4
    | bool b => cases b <;> simp [J.kind] at h4
    | _ => simp [J.kind] at h4
  · refine ⟨_, _, fun D cx cy w hD hx hy => where_raises nm x y hx0 hy0 h5 (by omega) D cx cy w hx hy, .inr (.inl ⟨rfl, ?_⟩)⟩
    rintro j' ⟨r, rfl, hr⟩
    cases x with
    | null => exact hx0 rfl
    | arr a => exact h5 rfl
    | str s =>
      cases y with
      | str t => exact h4 ⟨rfl, rfl⟩
      | _ => exact hr
    | _ => exact hr

theorem idx_ref1 (x y : J) (wx : x.WF) (wy : y.WF) : ∃ j how, RefOK 74 idxName x y j how ∧ Agree (RIdx true x y) (IdxE x y) j how :=
  idx_ref idxName true (by rw [toList_data]; rfl) (by rw [toList_data]; rfl) x y wx wy
theorem idx_ref2 (x y : J) (wx : x.WF) (wy : y.WF) : ∃ j how, RefOK 74 ridxName x y j how ∧ Agree (RIdx false x y) (IdxE x y) j how :=
  idx_ref ridxName false (by rw [toList_data]; rfl) (by rw [toList_data]; rfl) x y wx wy
end Go.Proofs.YtfhppajnnbbcjaaGreatDoor
end

section
namespace Go.Proofs.YtfhppajnnbbcjaaGreatDoor
open Go.RowKit

/-- what the values of the last row are good for -/
def F7i (cv cx : Array Value) (R1 R2 : J → Prop) (E : Prop) (j1 j2 : J) (h1 h2 : Int) (n : Nat) : Nat → Value → World → Prop
  | 0, u, _ => u = .agg cv
  | 1, u, _ => u = .agg cx
  | 2, u, W => ResG R1 E u W (fun b => n ≤ b ∧ b < W.heap.size)
  | 3, u, W => ∃ cs : List Value, u = .agg cs.toArray ∧ SRep W (fun b => n ≤ b ∧ b < W.heap.size) j1 cs
  | 4, u, _ => u = .int .i64 h1
  | 5, u, _ => u = .bool true
  | 6, u, _ => u = .bool true
  | 7, u, _ => u = .agg cv
  | 8, u, _ => u = .agg cx
  | 9, u, W => ResG R2 E u W (fun b => n ≤ b ∧ b < W.heap.size)
  | 10, u, W => ∃ cs : List Value, u = .agg cs.toArray ∧ SRep W (fun b => n ≤ b ∧ b < W.heap.size) j2 cs
  | 11, u, _ => u = .int .i64 h2
  | 12, u, _ => u = .bool true
  | _, _, _ => True

theorem F7i.keep {cv cx : Array Value} {R1 R2 : J → Prop} {E : Prop} {j1 j2 : J} {h1 h2 : Int} {n i : Nat} {u : Value} {W W' : World} (h : F7i cv cx R1 R2 E j1 j2 h1 h2 n i u W) (hb : Below W.heap.size W W') : F7i cv cx R1 R2 E j1 j2 h1 h2 n i u W' := by
  have hs : Same (fun b => n ≤ b ∧ b < W.heap.size) W W' := fun b hb' => hb.block b hb'.2
  have hd : ∀ b, (n ≤ b ∧ b < W.heap.size) → (n ≤ b ∧ b < W'.heap.size) := fun b hb' => ⟨hb'.1, Nat.lt_of_lt_of_le hb'.2 hb.size⟩
  match i, h with
  | 0, h => exact h
  | 1, h => exact h
  | 2, h => exact ResG.keep h hs hd
  | 3, ⟨cs, hu, hr⟩ => exact ⟨cs, hu, VRep.keep hs hd _ _ hr⟩
  | 4, h => exact h
  | 5, h => exact h
  | 6, h => exact h
  | 7, h => exact h
  | 8, h => exact h
  | 9, h => exact ResG.keep h hs hd
  | 10, ⟨cs, hu, hr⟩ => exact ⟨cs, hu, VRep.keep hs hd _ _ hr⟩
  | 11, h => exact h
  | 12, h => exact h
  | k + 13, _ => trivial

theorem F7i.ex3 {cv cx : Array Value} {R1 R2 : J → Prop} {E : Prop} {j1 j2 : J} {h1 h2 : Int} {n : Nat} {u : Value} {W : World} (h : F7i cv cx R1 R2 E j1 j2 h1 h2 n 3 u W) :
    ∃ cs : List Value, u = .agg cs.toArray ∧ SRep W (fun b => n ≤ b ∧ b < W.heap.size) j1 cs := h
theorem F7i.ex10 {cv cx : Array Value} {R1 R2 : J → Prop} {E : Prop} {j1 j2 : J} {h1 h2 : Int} {n : Nat} {u : Value} {W : World} (h : F7i cv cx R1 R2 E j1 j2 h1 h2 n 10 u W) :
    ∃ cs : List Value, u = .agg cs.toArray ∧ SRep W (fun b => n ≤ b ∧ b < W.heap.size) j2 cs := h
theorem dpost_res {Rj : J → Prop} {Re : Prop} {w w' : World} {e : Ending} (h : DPost Rj Re w e w') : ∃ u, e = .returned u ∧ ResG Rj Re u w' (Fresh w w') ∧ Below w.heap.size w w' := by
  rcases h with ⟨j, hj, A1, c1, A2, c2, A3, c3, rfl, hr, hb⟩ | ⟨he, rfl, hb⟩
  · exact ⟨_, rfl, .inl ⟨j, A1, c1, A2, c2, A3, c3, hj, rfl, hr⟩, hb⟩
  · exact ⟨_, rfl, .inr ⟨he, rfl⟩, hb⟩

set_option maxHeartbeats 2000000 in
set_option maxRecDepth 100000 in
theorem IndexOf_law (v x : V) (D : Nat → Prop) (cv cx : List Value) (w : World) (hv : VRep w D v cv) (hx : VRep w D x cx) (hD : ∀ b, D b → All w b) (hU : U8 w) (hsv : v.Small) (hsx : x.Small) :
    Calls Tryz.prog 3 #[.agg cv.toArray, .agg cx.toArray] w (TrueP w) := by
  have hk : ∀ W, Below w.heap.size w W → VRep W D v cv ∧ VRep W D x cx := fun W hb => ⟨VRep.keep (Same.of_below hb hD) (fun _ h => h) _ _ hv, VRep.keep (Same.of_below hb hD) (fun _ h => h) _ _ hx⟩
  have HC1 := Lib.hid (fun W (hW : Below w.heap.size w W) => zzFits1_any v D cv W (hk _ hW).1 (fun b hb => Nat.lt_of_lt_of_le (hD b hb) hW.size) hsv)
  have HC2 := Lib.hid (fun W (hW : Below w.heap.size w W) => zzFits1_any x D cx W (hk _ hW).2 (fun b hb => Nat.lt_of_lt_of_le (hD b hb) hW.size) hsx)
  obtain ⟨vk, vh, vt, vl, vks, vvs⟩ := v
  obtain ⟨L, K, S, rfl, hL, hK, hS⟩ := hv
  obtain ⟨A1, c1, rfl⟩ := hL.form
  obtain ⟨A2, c2, rfl⟩ := hK.form
  obtain ⟨A3, c3, rfl⟩ := hS.form
  obtain ⟨xk, xh, xt, xl, xks, xvs⟩ := x
  obtain ⟨L, K, S, rfl, hL', hK', hS'⟩ := hx
  obtain ⟨B1, d1, rfl⟩ := hL'.form
  obtain ⟨B2, d2, rfl⟩ := hK'.form
  obtain ⟨B3, d3, rfl⟩ := hS'.form
  have HX := Lib.hid (And.intro hk (And.intro hD (And.intro hU (And.intro hsv hsx))))
  clear hk hD hU hsv hsx hL hK hS hL' hK' hS'
  go_enter Tryz.func3, Tryz.ntmps3
  go_wp2_with fail
  generalize hW : (World.alloc _ _).alloc _ = W0
  have H2 := Lib.hid (alloc2 hW)
  clear hW
  refine (HC1.out W0 H2.out.1).mono ?_
  clear HC1
  rintro e w1 ⟨b, rfl, hb1⟩
  have HB1 := Lib.hid (H2.out.1.trans (hb1.mono H2.out.1.size))
  have HBX := Lib.hid (And.intro ((hb1.block _ (box_lt H2.out.2.2.1)).trans H2.out.2.2.1) ((hb1.block _ (box_lt H2.out.2.2.2)).trans H2.out.2.2.2))
  clear hb1 H2
  cases b with
  | false =>
    go_wp2_with fail
    go_ret
    exact ⟨rfl, HB1.out⟩
  | true =>
    have hbx := HBX.out.1
    have hby := HBX.out.2
    have q0 : w1.cell? ⟨w.heap.size, 0, none⟩ = _ := box_cell hbx 0
    have q1 : w1.cell? ⟨w.heap.size, 1, none⟩ = _ := box_cell hbx 1
    have q2 : w1.cell? ⟨w.heap.size, 2, none⟩ = _ := box_cell hbx 2
    have q3 : w1.cell? ⟨w.heap.size, 3, none⟩ = _ := box_cell hbx 3
    have q4 : w1.cell? ⟨w.heap.size, 4, none⟩ = _ := box_cell hbx 4
    have q5 : w1.cell? ⟨w.heap.size, 5, none⟩ = _ := box_cell hbx 5
    have y0 : w1.cell? ⟨w.heap.size + 1, 0, none⟩ = _ := box_cell hby 0
    have y1 : w1.cell? ⟨w.heap.size + 1, 1, none⟩ = _ := box_cell hby 1
    have y2 : w1.cell? ⟨w.heap.size + 1, 2, none⟩ = _ := box_cell hby 2
    have y3 : w1.cell? ⟨w.heap.size + 1, 3, none⟩ = _ := box_cell hby 3
    have y4 : w1.cell? ⟨w.heap.size + 1, 4, none⟩ = _ := box_cell hby 4
    have y5 : w1.cell? ⟨w.heap.size + 1, 5, none⟩ = _ := box_cell hby 5
    have hlt := box_lt hby
    have hlt0 := box_lt hbx
    clear hbx hby
    go_wp2_with fail
    refine (HC2.out w1 HB1.out).mono ?_
    clear HC2
    rintro e w2 ⟨b, rfl, hb2⟩
    replace HBX := Lib.hid (And.intro ((hb2.block _ (box_lt HBX.out.1)).trans HBX.out.1) ((hb2.block _ (box_lt HBX.out.2)).trans HBX.out.2))
    replace HB1 := Lib.hid (HB1.out.trans (hb2.mono HB1.out.size))
    clear hb2 q0 q1 q2 q3 q4 q5 y0 y1 y2 y3 y4 y5 hlt hlt0
    cases b with
    | false =>
      go_wp2_with fail
      go_ret
      exact ⟨rfl, HB1.out⟩
    | true =>
      have hbx := HBX.out.1
      have hby := HBX.out.2
      have q0 : w2.cell? ⟨w.heap.size, 0, none⟩ = _ := box_cell hbx 0
      have q1 : w2.cell? ⟨w.heap.size, 1, none⟩ = _ := box_cell hbx 1
      have q2 : w2.cell? ⟨w.heap.size, 2, none⟩ = _ := box_cell hbx 2
      have q3 : w2.cell? ⟨w.heap.size, 3, none⟩ = _ := box_cell hbx 3
      have q4 : w2.cell? ⟨w.heap.size, 4, none⟩ = _ := box_cell hbx 4
      have q5 : w2.cell? ⟨w.heap.size, 5, none⟩ = _ := box_cell hbx 5
      have y0 : w2.cell? ⟨w.heap.size + 1, 0, none⟩ = _ := box_cell hby 0
      have y1 : w2.cell? ⟨w.heap.size + 1, 1, none⟩ = _ := box_cell hby 1
      have y2 : w2.cell? ⟨w.heap.size + 1, 2, none⟩ = _ := box_cell hby 2
      have y3 : w2.cell? ⟨w.heap.size + 1, 3, none⟩ = _ := box_cell hby 3
      have y4 : w2.cell? ⟨w.heap.size + 1, 4, none⟩ = _ := box_cell hby 4
      have y5 : w2.cell? ⟨w.heap.size + 1, 5, none⟩ = _ := box_cell hby 5
      have hlt := box_lt hby
      have hlt0 := box_lt hbx
      clear hbx hby
      have hbA : Below w2.heap.size w2 (w2.alloc (.cells ([Value.int .i64 vk, .int .i64 vh, .string vt, .slice A1 vl.length c1, .slice A2 vks.length c2, .slice A3 vvs.length c3] ++ [Value.int .i64 xk, .int .i64 xh, .string xt, .slice B1 xl.length d1, .slice B2 xks.length d2, .slice B3 xvs.length d3]).toArray 26)) := (Below.refl _ _).alloc (Nat.le_refl _) _
      have hbw2 := HB1.out.trans (hbA.mono HB1.out.size)
      have hkk := HX.out.1 _ hbw2
      have hsl := lit_two (heap_alloc_new w2 (.cells ([Value.int .i64 vk, .int .i64 vh, .string vt, .slice A1 vl.length c1, .slice A2 vks.length c2, .slice A3 vvs.length c3] ++ [Value.int .i64 xk, .int .i64 xh, .string xt, .slice B1 xl.length d1, .slice B2 xks.length d2, .slice B3 xvs.length d3]).toArray 26)) (VRep.keep (D' := fun b => D b ∨ b = w2.heap.size) (fun _ _ => rfl) (fun b hb => .inl hb) _ _ hkk.1)
        (VRep.keep (D' := fun b => D b ∨ b = w2.heap.size) (fun _ _ => rfl) (fun b hb => .inl hb) _ _ hkk.2) rfl rfl (.inr rfl)
      have HFT := Lib.hid (fits_any _ _ _ _ hsl (fun b hb => by
        rcases hb with h | h
        · exact Nat.lt_of_lt_of_le (HX.out.2.1 b h) hbw2.size
        · subst h; simp) (HX.out.2.2.1.below hbw2 HX.out.2.2.1.size) ⟨HX.out.2.2.2.1, HX.out.2.2.2.2, trivial⟩)
      have HW := Lib.hid (And.intro hbw2 (And.intro ((hbA.block _ (box_lt HBX.out.1)).trans HBX.out.1) ((hbA.block _ (box_lt HBX.out.2)).trans HBX.out.2)))
      clear hbA hbw2 hkk hsl HBX HB1
      go_wp2_with fail
      refine HFT.out.mono ?_
      clear HFT
      rintro e w3 ⟨b, rfl, hgood, hb3⟩
      have HB3 := Lib.hid (HW.out.1.trans (hb3.mono HW.out.1.size))
      have HBX := Lib.hid (And.intro ((hb3.block _ (box_lt HW.out.2.1)).trans HW.out.2.1) ((hb3.block _ (box_lt HW.out.2.2)).trans HW.out.2.2))
      clear hb3 HW q0 q1 q2 q3 q4 q5 y0 y1 y2 y3 y4 y5 hlt hlt0
      cases b with
      | false =>
        clear hgood
        go_wp2_with fail
        go_ret
        exact ⟨rfl, HB3.out⟩
      | true =>
        obtain ⟨jv, hjv, gv⟩ := hgood rfl (.mk vk vh vt vl vks vvs) (by simp)
        obtain ⟨jx, hjx, gx⟩ := hgood rfl (.mk xk xh xt xl xks xvs) (by simp)
        have hJ : ∀ W, Below w.heap.size w W → SRep W D jv [Value.int .i64 vk, .int .i64 vh, .string vt, .slice A1 vl.length c1, .slice A2 vks.length c2, .slice A3 vvs.length c3] ∧ SRep W D jx [Value.int .i64 xk, .int .i64 xh, .string xt, .slice B1 xl.length d1, .slice B2 xks.length d2, .slice B3 xvs.length d3] := fun W hb => by
          obtain ⟨h1, h2⟩ := HX.out.1 W hb
          rw [hjv] at h1
          rw [hjx] at h2
          exact ⟨h1, h2⟩
        have wv := gv.wf
        have wx := gx.wf
        obtain ⟨j1, h1, hr1, ha1⟩ := idx_ref1 jv jx wv wx
        obtain ⟨j2, h2, hr2, ha2⟩ := idx_ref2 jv jx wv wx
        have HJ := Lib.hid (And.intro hJ (And.intro HX.out.2.1 (And.intro wv (And.intro wx (And.intro ha1 ha2)))))
        have HR1 := Lib.hid hr1
        have HR2 := Lib.hid hr2
        clear hgood gv gx hjv hjx hJ wv wx hr1 hr2 ha1 ha2 HX
        have hbx := HBX.out.1
        have hby := HBX.out.2
        have q0 : w3.cell? ⟨w.heap.size, 0, none⟩ = _ := box_cell hbx 0
        have q1 : w3.cell? ⟨w.heap.size, 1, none⟩ = _ := box_cell hbx 1
        have q2 : w3.cell? ⟨w.heap.size, 2, none⟩ = _ := box_cell hbx 2
        have q3 : w3.cell? ⟨w.heap.size, 3, none⟩ = _ := box_cell hbx 3
        have q4 : w3.cell? ⟨w.heap.size, 4, none⟩ = _ := box_cell hbx 4
        have q5 : w3.cell? ⟨w.heap.size, 5, none⟩ = _ := box_cell hbx 5
        have y0 : w3.cell? ⟨w.heap.size + 1, 0, none⟩ = _ := box_cell hby 0
        have y1 : w3.cell? ⟨w.heap.size + 1, 1, none⟩ = _ := box_cell hby 1
        have y2 : w3.cell? ⟨w.heap.size + 1, 2, none⟩ = _ := box_cell hby 2
        have y3 : w3.cell? ⟨w.heap.size + 1, 3, none⟩ = _ := box_cell hby 3
        have y4 : w3.cell? ⟨w.heap.size + 1, 4, none⟩ = _ := box_cell hby 4
        have y5 : w3.cell? ⟨w.heap.size + 1, 5, none⟩ = _ := box_cell hby 5
        have hlt := box_lt hby
        have hlt0 := box_lt hbx
        clear hbx hby
        have hC1 := call_idx jv jx j1 h1 HR1.out (fun b => D b ∨ b = w3.heap.size) [Value.int .i64 vk, .int .i64 vh, .string vt, .slice A1 vl.length c1, .slice A2 vks.length c2, .slice A3 vvs.length c3] (.slice (some ⟨w3.heap.size, 0, none⟩) 1 1) (w3.alloc (.cells #[Value.int .i64 xk, .int .i64 xh, .string xt, .slice B1 xl.length d1, .slice B2 xks.length d2, .slice B3 xvs.length d3] 26)) (fun b hb => by
            rcases hb with h | h
            · have := Nat.lt_of_lt_of_le (HJ.out.2.1 b h) HB3.out.size; simp; omega
            · subst h; simp)
          (VRep.keep (Same.of_below ((Below.refl w3.heap.size w3).alloc (Nat.le_refl _) _) (fun b hb => Nat.lt_of_lt_of_le (HJ.out.2.1 b hb) HB3.out.size)) (fun b hb => .inl hb) _ _ (HJ.out.1 _ HB3.out).1)
          (lit_single (heap_alloc_new w3 (.cells #[Value.int .i64 xk, .int .i64 xh, .string xt, .slice B1 xl.length d1, .slice B2 xks.length d2, .slice B3 xvs.length d3] 26)) (VRep.keep (Same.of_below ((Below.refl w3.heap.size w3).alloc (Nat.le_refl _) _) (fun b hb => Nat.lt_of_lt_of_le (HJ.out.2.1 b hb) HB3.out.size)) (fun b hb => .inl hb) _ _ (HJ.out.1 _ HB3.out).2) rfl (.inr rfl))
        have HC1 := Lib.hid hC1
        clear hC1
        go_wp2_with fail
        refine HC1.out.mono ?_
        clear HC1
        rintro e w4 ⟨cs, rfl, hr, hb4⟩
        have hb4' : Below w3.heap.size w3 w4 := ((Below.refl _ _).alloc (Nat.le_refl _) _).trans (hb4.mono (by simp))
        obtain ⟨E1, e1, E2, e2, E3, e3, rfl⟩ := SRep.six hr
        have HBX4 := Lib.hid (And.intro ((hb4'.block _ (box_lt HBX.out.1)).trans HBX.out.1) ((hb4'.block _ (box_lt HBX.out.2)).trans HBX.out.2))
        have HB4 := Lib.hid (And.intro (HB3.out.trans (hb4'.mono HB3.out.size)) (VRep.keep (D' := fun b => w.heap.size ≤ b ∧ b < w4.heap.size) (fun _ _ => rfl) (fun b hb => ⟨by have := hb.1; have := HB3.out.size; simp at *; omega, hb.2⟩) _ _ hr))
        clear hr hb4 hb4' q0 q1 q2 q3 q4 q5 y0 y1 y2 y3 y4 y5 hlt hlt0 HBX HB3
        have HBX := HBX4
        clear HBX4
        have hbx := HBX.out.1
        have hby := HBX.out.2
        have q0 : w4.cell? ⟨w.heap.size, 0, none⟩ = _ := box_cell hbx 0
        have q1 : w4.cell? ⟨w.heap.size, 1, none⟩ = _ := box_cell hbx 1
        have q2 : w4.cell? ⟨w.heap.size, 2, none⟩ = _ := box_cell hbx 2
        have q3 : w4.cell? ⟨w.heap.size, 3, none⟩ = _ := box_cell hbx 3
        have q4 : w4.cell? ⟨w.heap.size, 4, none⟩ = _ := box_cell hbx 4
        have q5 : w4.cell? ⟨w.heap.size, 5, none⟩ = _ := box_cell hbx 5
        have y0 : w4.cell? ⟨w.heap.size + 1, 0, none⟩ = _ := box_cell hby 0
        have y1 : w4.cell? ⟨w.heap.size + 1, 1, none⟩ = _ := box_cell hby 1
        have y2 : w4.cell? ⟨w.heap.size + 1, 2, none⟩ = _ := box_cell hby 2
        have y3 : w4.cell? ⟨w.heap.size + 1, 3, none⟩ = _ := box_cell hby 3
        have y4 : w4.cell? ⟨w.heap.size + 1, 4, none⟩ = _ := box_cell hby 4
        have y5 : w4.cell? ⟨w.heap.size + 1, 5, none⟩ = _ := box_cell hby 5
        have hlt := box_lt hby
        have hlt0 := box_lt hbx
        clear hbx hby
        obtain ⟨W4, hW4⟩ : ∃ W4, w4.alloc (.cells #[Value.int .i64 j1.kind, .int .i64 j1.half, .string j1.text, .slice E1 j1.list.length e1, .slice E2 j1.keys.length e2, .slice E3 j1.vals.length e3] 26) = W4 := ⟨_, rfl⟩
        have hb44 : Below w4.heap.size w4 W4 := by rw [← hW4]; exact (Below.refl _ _).alloc (Nat.le_refl _) _
        have hs4 : W4.heap.size = w4.heap.size + 1 := by rw [← hW4]; simp
        have hg4 : W4.heap[w4.heap.size]? = some (.cells #[Value.int .i64 j1.kind, .int .i64 j1.half, .string j1.text, .slice E1 j1.list.length e1, .slice E2 j1.keys.length e2, .slice E3 j1.vals.length e3] 26 (0, 0)) := by rw [← hW4]; exact heap_alloc_new w4 _
        have HB5 := Lib.hid (And.intro (HB4.out.1.trans (hb44.mono HB4.out.1.size)) (And.intro (VRep.keep (D' := fun b => w.heap.size ≤ b ∧ b < W4.heap.size) (fun b hb => hb44.block b hb.2) (fun b hb => ⟨hb.1, by have := hb.2; omega⟩) _ _ HB4.out.2)
          (And.intro ((hb44.block _ (box_lt HBX.out.1)).trans HBX.out.1) (And.intro ((hb44.block _ (box_lt HBX.out.2)).trans HBX.out.2) hg4))))
        have hbA : Below W4.heap.size W4 (W4.alloc (.cells #[Value.int .i64 xk, .int .i64 xh, .string xt, .slice B1 xl.length d1, .slice B2 xks.length d2, .slice B3 xvs.length d3] 26)) := (Below.refl _ _).alloc (Nat.le_refl _) _
        have hC2 := call_ridx jv jx j2 h2 HR2.out (fun b => D b ∨ b = W4.heap.size) [Value.int .i64 vk, .int .i64 vh, .string vt, .slice A1 vl.length c1, .slice A2 vks.length c2, .slice A3 vvs.length c3] (.slice (some ⟨W4.heap.size, 0, none⟩) 1 1) (W4.alloc (.cells #[Value.int .i64 xk, .int .i64 xh, .string xt, .slice B1 xl.length d1, .slice B2 xks.length d2, .slice B3 xvs.length d3] 26)) (fun b hb => by
            rcases hb with h | h
            · have := Nat.lt_of_lt_of_le (HJ.out.2.1 b h) HB5.out.1.size; simp; omega
            · subst h; simp)
          (VRep.keep (Same.of_below hbA (fun b hb => Nat.lt_of_lt_of_le (HJ.out.2.1 b hb) HB5.out.1.size)) (fun b hb => .inl hb) _ _ (HJ.out.1 _ HB5.out.1).1)
          (lit_single (heap_alloc_new W4 (.cells #[Value.int .i64 xk, .int .i64 xh, .string xt, .slice B1 xl.length d1, .slice B2 xks.length d2, .slice B3 xvs.length d3] 26)) (VRep.keep (Same.of_below hbA (fun b hb => Nat.lt_of_lt_of_le (HJ.out.2.1 b hb) HB5.out.1.size)) (fun b hb => .inl hb) _ _ (HJ.out.1 _ HB5.out.1).2) rfl (.inr rfl))
        rw [hs4, ← hW4] at hC2
        have HC2 := Lib.hid hC2
        have HS4 := Lib.hid (And.intro hs4 hW4)
        clear hC2 hbA hb44 hg4 hs4 hW4
        go_wp2_with fail
        refine HC2.out.mono ?_
        clear HC2
        rintro e w5 ⟨cs, rfl, hr, hb5⟩
        rw [HS4.out.2] at hr hb5
        have hb5' : Below W4.heap.size W4 w5 := ((Below.refl _ _).alloc (Nat.le_refl _) _).trans (hb5.mono (by simp))
        obtain ⟨G1, g1, G2, g2, G3, g3, rfl⟩ := SRep.six hr
        have HBX5 := Lib.hid (And.intro ((hb5'.block _ (box_lt HB5.out.2.2.1)).trans HB5.out.2.2.1) (And.intro ((hb5'.block _ (box_lt HB5.out.2.2.2.1)).trans HB5.out.2.2.2.1) ((hb5'.block _ (box_lt HB5.out.2.2.2.2)).trans HB5.out.2.2.2.2)))
        have HB6 := Lib.hid (And.intro (HB5.out.1.trans (hb5'.mono HB5.out.1.size)) (And.intro (VRep.keep (D' := fun b => w.heap.size ≤ b ∧ b < w5.heap.size) (fun b hb => hb5'.block b hb.2) (fun b hb => ⟨hb.1, Nat.lt_of_lt_of_le hb.2 hb5'.size⟩) _ _ HB5.out.2.1)
          (VRep.keep (D' := fun b => w.heap.size ≤ b ∧ b < w5.heap.size) (fun _ _ => rfl) (fun b hb => ⟨by have := hb.1; have := HB5.out.1.size; simp at *; omega, hb.2⟩) _ _ hr)))
        clear hr hb5 hb5' q0 q1 q2 q3 q4 q5 y0 y1 y2 y3 y4 y5 hlt hlt0 HBX HB4 HB5 HR1 HR2 HS4
        go_wp2_with fail
        generalize hW5 : w5.alloc _ = W5
        have hb55 : Below w5.heap.size w5 W5 := by rw [← hW5]; exact (Below.refl _ _).alloc (Nat.le_refl _) _
        have hg5 : W5.heap[w5.heap.size]? = some (.cells #[Value.int .i64 j2.kind, .int .i64 j2.half, .string j2.text, .slice G1 j2.list.length g1, .slice G2 j2.keys.length g2, .slice G3 j2.vals.length g3] 26 (0, 0)) := by rw [← hW5]; exact heap_alloc_new w5 _
        have hd5 : ∀ b, (w.heap.size ≤ b ∧ b < w5.heap.size) → (w.heap.size ≤ b ∧ b < W5.heap.size) := fun b hb => ⟨hb.1, Nat.lt_of_lt_of_le hb.2 hb55.size⟩
        have HB := Lib.hid (And.intro (HB6.out.1.trans (hb55.mono HB6.out.1.size)) (And.intro (VRep.keep (D' := fun b => w.heap.size ≤ b ∧ b < W5.heap.size) (fun b hb => hb55.block b hb.2) hd5 _ _ HB6.out.2.1)
          (VRep.keep (D' := fun b => w.heap.size ≤ b ∧ b < W5.heap.size) (fun b hb => hb55.block b hb.2) hd5 _ _ HB6.out.2.2)))
        have HBX := Lib.hid (And.intro ((hb55.block _ (box_lt HBX5.out.1)).trans HBX5.out.1) (And.intro ((hb55.block _ (box_lt HBX5.out.2.1)).trans HBX5.out.2.1) (And.intro ((hb55.block _ (box_lt HBX5.out.2.2)).trans HBX5.out.2.2) hg5)))
        have HI1 := Lib.hid (fun W (hW : Below W5.heap.size W5 W) => IndexOf_any jv jx D [Value.int .i64 vk, .int .i64 vh, .string vt, .slice A1 vl.length c1, .slice A2 vks.length c2, .slice A3 vvs.length c3] [Value.int .i64 xk, .int .i64 xh, .string xt, .slice B1 xl.length d1, .slice B2 xks.length d2, .slice B3 xvs.length d3] W HJ.out.2.2.1 HJ.out.2.2.2.1 (fun b hb => Nat.lt_of_lt_of_le (HJ.out.2.1 b hb) (HB.out.1.trans (hW.mono HB.out.1.size)).size)
          (HJ.out.1 _ (HB.out.1.trans (hW.mono HB.out.1.size))).1 (HJ.out.1 _ (HB.out.1.trans (hW.mono HB.out.1.size))).2)
        have HI2 := Lib.hid (fun W (hW : Below W5.heap.size W5 W) => RIndexOf_any jv jx D [Value.int .i64 vk, .int .i64 vh, .string vt, .slice A1 vl.length c1, .slice A2 vks.length c2, .slice A3 vvs.length c3] [Value.int .i64 xk, .int .i64 xh, .string xt, .slice B1 xl.length d1, .slice B2 xks.length d2, .slice B3 xvs.length d3] W HJ.out.2.2.1 HJ.out.2.2.2.1 (fun b hb => Nat.lt_of_lt_of_le (HJ.out.2.1 b hb) (HB.out.1.trans (hW.mono HB.out.1.size)).size)
          (HJ.out.1 _ (HB.out.1.trans (hW.mono HB.out.1.size))).1 (HJ.out.1 _ (HB.out.1.trans (hW.mono HB.out.1.size))).2)
        clear hb55 hg5 hd5 hW5 HBX5 HB6
        refine wp_region_RG 13 (by kernel_rfl) (by kernel_rfl) (Below W5.heap.size W5) (fun _ i u W => F7i #[Value.int .i64 vk, .int .i64 vh, .string vt, .slice A1 vl.length c1, .slice A2 vks.length c2, .slice A3 vvs.length c3] #[Value.int .i64 xk, .int .i64 xh, .string xt, .slice B1 xl.length d1, .slice B2 xks.length d2, .slice B3 xvs.length d3] (RIdx true jv jx) (RIdx false jv jx) (IdxE jv jx) j1 j2 h1 h2 w.heap.size i u W) (by simp [AllSteps, frameOf, Act.put, upd]) ((Below.refl _ _).drew) ⟨?s0, ?s1, ?s2, ?s3, ?s4, ?s5, ?s6, ?s7, ?s8, ?s9, ?s10, ?s11, ?s12, trivial⟩ ?e
        case s0 =>
          intro xs d W hd hdeps hG hF K hK
          clear hdeps
          have hb := (hG.block _ (box_lt HBX.out.1)).trans HBX.out.1
          have b0 := box_cell hb 0
          have b1 := box_cell hb 1
          have b2 := box_cell hb 2
          have b3 := box_cell hb 3
          have b4 := box_cell hb 4
          have b5 := box_cell hb 5
          simp at b0 b1 b2 b3 b4 b5
          clear hb
          simp only [frameOf, List.take_succ_cons, List.take_zero, Act.put, List.setIfInBounds_toArray, List.set_cons_zero, List.set_cons_succ, Nat.zero_add, Nat.reduceAdd]
          go_simp
          exact hK _ _ _ (by simp only [frameOf, List.take_succ_cons, List.take_zero, Act.put, List.setIfInBounds_toArray, List.set_cons_zero, List.set_cons_succ, Nat.zero_add, Nat.reduceAdd]) hG (fun j u _ _ h => h) rfl
        case s1 =>
          intro xs d W hd hdeps hG hF K hK
          clear hdeps
          have hb := (hG.block _ (box_lt HBX.out.2.1)).trans HBX.out.2.1
          have b0 := box_cell hb 0
          have b1 := box_cell hb 1
          have b2 := box_cell hb 2
          have b3 := box_cell hb 3
          have b4 := box_cell hb 4
          have b5 := box_cell hb 5
          simp at b0 b1 b2 b3 b4 b5
          clear hb
          simp only [frameOf, List.take_succ_cons, List.take_zero, Act.put, List.setIfInBounds_toArray, List.set_cons_zero, List.set_cons_succ, Nat.zero_add, Nat.reduceAdd]
          go_simp
          exact hK _ _ _ (by simp only [frameOf, List.take_succ_cons, List.take_zero, Act.put, List.setIfInBounds_toArray, List.set_cons_zero, List.set_cons_succ, Nat.zero_add, Nat.reduceAdd]) hG (fun j u _ _ h => h) rfl
        case s2 =>
          intro xs d W hd hdeps hG hF K hK
          simp [Region.binds] at hdeps
          have f0 : xs 0 = _ := hF 0 hdeps.1
          have f1 : xs 1 = _ := hF 1 hdeps.2
          have HG2 := Lib.hid (And.intro hG hK)
          clear hG hK hF
          simp only [frameOf, List.take_succ_cons, List.take_zero, Act.put, List.setIfInBounds_toArray, List.set_cons_zero, List.set_cons_succ, Nat.zero_add, Nat.reduceAdd]
          simp only [f0, f1]
          go_simp
          refine (HI1.out W HG2.out.1).mono ?_
          intro e w9 hp
          obtain ⟨u, he, hu, hb9⟩ := dpost_res hp
          subst he
          obtain ⟨hG, hK⟩ := HG2.out
          exact hK _ _ _ (by simp only [frameOf, List.take_succ_cons, List.take_zero, Act.put, List.setIfInBounds_toArray, List.set_cons_zero, List.set_cons_succ, Nat.zero_add, Nat.reduceAdd, f0, f1]) (hG.trans (hb9.mono hG.size)) (fun j u _ _ h => h.keep hb9) (ResG.keep hu (fun _ _ => rfl) (fun b hb => ⟨Nat.le_trans (Nat.le_trans HB.out.1.size hG.size) hb.1, hb.2⟩))
        case s3 =>
          intro xs d W hd hdeps hG hF K hK
          clear hdeps
          have hb := (hG.block _ (box_lt HBX.out.2.2.1)).trans HBX.out.2.2.1
          have b0 := box_cell hb 0
          have b1 := box_cell hb 1
          have b2 := box_cell hb 2
          have b3 := box_cell hb 3
          have b4 := box_cell hb 4
          have b5 := box_cell hb 5
          simp at b0 b1 b2 b3 b4 b5
          clear hb
          simp only [frameOf, List.take_succ_cons, List.take_zero, Act.put, List.setIfInBounds_toArray, List.set_cons_zero, List.set_cons_succ, Nat.zero_add, Nat.reduceAdd]
          go_simp
          exact hK _ _ _ (by simp only [frameOf, List.take_succ_cons, List.take_zero, Act.put, List.setIfInBounds_toArray, List.set_cons_zero, List.set_cons_succ, Nat.zero_add, Nat.reduceAdd]) hG (fun j u _ _ h => h) ⟨_, rfl, VRep.keep (fun b hb => hG.block b hb.2) (fun b hb => ⟨hb.1, Nat.lt_of_lt_of_le hb.2 hG.size⟩) _ _ HB.out.2.1⟩
        case s4 =>
          intro xs d W hd hdeps hG hF K hK
          clear hdeps
          simp only [frameOf, List.take_succ_cons, List.take_zero, Act.put, List.setIfInBounds_toArray, List.set_cons_zero, List.set_cons_succ, Nat.zero_add, Nat.reduceAdd]
          go_simp
          exact hK _ _ _ (by simp only [frameOf, List.take_succ_cons, List.take_zero, Act.put, List.setIfInBounds_toArray, List.set_cons_zero, List.set_cons_succ, Nat.zero_add, Nat.reduceAdd]) hG (fun j u _ _ h => h) rfl
        case s5 =>
          intro xs d W hd hdeps hG hF K hK
          simp [Region.binds] at hdeps
          have f2 := hF 2 hdeps.1
          have h3 := F7i.ex3 (hF 3 hdeps.2.1)
          have f4 : xs 4 = _ := hF 4 hdeps.2.2.1
          have g3 := h3.choose_spec.1
          have hr := h3.choose_spec.2
          generalize h3.choose = cs at g3 hr
          clear h3
          have HT := Lib.hid (told_agree HJ.out.2.2.2.2.1 (fun b => w.heap.size ≤ b ∧ b < W.heap.size) (xs 2) cs W (fun b hb => hb.2) f2 hr)
          have HG2 := Lib.hid (And.intro hG hK)
          clear hG hK hF f2 hr
          simp only [frameOf, List.take_succ_cons, List.take_zero, Act.put, List.setIfInBounds_toArray, List.set_cons_zero, List.set_cons_succ, Nat.zero_add, Nat.reduceAdd]
          simp only [g3, f4]
          go_simp
          refine HT.out.mono ?_
          rintro e w9 ⟨rfl, hb9⟩
          obtain ⟨hG, hK⟩ := HG2.out
          exact hK _ _ _ (by simp only [frameOf, List.take_succ_cons, List.take_zero, Act.put, List.setIfInBounds_toArray, List.set_cons_zero, List.set_cons_succ, Nat.zero_add, Nat.reduceAdd, g3, f4]) (hG.trans (hb9.mono hG.size)) (fun j u _ _ h => h.keep hb9) rfl
        case s6 =>
          intro xs d W hd hdeps hG hF K hK
          simp [Region.binds] at hdeps
          have f5 : xs 5 = _ := hF 5 hdeps
          simp only [frameOf, List.take_succ_cons, List.take_zero, Act.put, List.setIfInBounds_toArray, List.set_cons_zero, List.set_cons_succ, Nat.zero_add, Nat.reduceAdd]
          simp only [f5]
          go_simp
          exact hK _ _ _ (by simp only [frameOf, List.take_succ_cons, List.take_zero, Act.put, List.setIfInBounds_toArray, List.set_cons_zero, List.set_cons_succ, Nat.zero_add, Nat.reduceAdd, f5]) hG (fun j u _ _ h => h) rfl
        case s7 =>
          intro xs d W hd hdeps hG hF K hK
          simp [Region.binds] at hdeps
          have f6 : xs 6 = _ := hF 6 hdeps
          have hb := (hG.block _ (box_lt HBX.out.1)).trans HBX.out.1
          have b0 := box_cell hb 0
          have b1 := box_cell hb 1
          have b2 := box_cell hb 2
          have b3 := box_cell hb 3
          have b4 := box_cell hb 4
          have b5 := box_cell hb 5
          simp at b0 b1 b2 b3 b4 b5
          clear hb
          simp only [frameOf, List.take_succ_cons, List.take_zero, Act.put, List.setIfInBounds_toArray, List.set_cons_zero, List.set_cons_succ, Nat.zero_add, Nat.reduceAdd]
          simp only [f6]
          go_simp
          exact hK _ _ _ (by simp only [frameOf, List.take_succ_cons, List.take_zero, Act.put, List.setIfInBounds_toArray, List.set_cons_zero, List.set_cons_succ, Nat.zero_add, Nat.reduceAdd, f6]) hG (fun j u _ _ h => h) rfl
        case s8 =>
          intro xs d W hd hdeps hG hF K hK
          simp [Region.binds] at hdeps
          have f6 : xs 6 = _ := hF 6 hdeps
          have hb := (hG.block _ (box_lt HBX.out.2.1)).trans HBX.out.2.1
          have b0 := box_cell hb 0
          have b1 := box_cell hb 1
          have b2 := box_cell hb 2
          have b3 := box_cell hb 3
          have b4 := box_cell hb 4
          have b5 := box_cell hb 5
          simp at b0 b1 b2 b3 b4 b5
          clear hb
          simp only [frameOf, List.take_succ_cons, List.take_zero, Act.put, List.setIfInBounds_toArray, List.set_cons_zero, List.set_cons_succ, Nat.zero_add, Nat.reduceAdd]
          simp only [f6]
          go_simp
          exact hK _ _ _ (by simp only [frameOf, List.take_succ_cons, List.take_zero, Act.put, List.setIfInBounds_toArray, List.set_cons_zero, List.set_cons_succ, Nat.zero_add, Nat.reduceAdd, f6]) hG (fun j u _ _ h => h) rfl
        case s9 =>
          intro xs d W hd hdeps hG hF K hK
          simp [Region.binds] at hdeps
          have f7 : xs 7 = _ := hF 7 hdeps.1
          have f8 : xs 8 = _ := hF 8 hdeps.2.1
          have f6 : xs 6 = _ := hF 6 hdeps.2.2
          have HG2 := Lib.hid (And.intro hG hK)
          clear hG hK hF
          simp only [frameOf, List.take_succ_cons, List.take_zero, Act.put, List.setIfInBounds_toArray, List.set_cons_zero, List.set_cons_succ, Nat.zero_add, Nat.reduceAdd]
          simp only [f7, f8, f6]
          go_simp
          refine (HI2.out W HG2.out.1).mono ?_
          intro e w9 hp
          obtain ⟨u, he, hu, hb9⟩ := dpost_res hp
          subst he
          obtain ⟨hG, hK⟩ := HG2.out
          exact hK _ _ _ (by simp only [frameOf, List.take_succ_cons, List.take_zero, Act.put, List.setIfInBounds_toArray, List.set_cons_zero, List.set_cons_succ, Nat.zero_add, Nat.reduceAdd, f7, f8, f6]) (hG.trans (hb9.mono hG.size)) (fun j u _ _ h => h.keep hb9) (ResG.keep hu (fun _ _ => rfl) (fun b hb => ⟨Nat.le_trans (Nat.le_trans HB.out.1.size hG.size) hb.1, hb.2⟩))
        case s10 =>
          intro xs d W hd hdeps hG hF K hK
          simp [Region.binds] at hdeps
          have f6 : xs 6 = _ := hF 6 hdeps
          have hb := (hG.block _ (box_lt HBX.out.2.2.2)).trans HBX.out.2.2.2
          have b0 := box_cell hb 0
          have b1 := box_cell hb 1
          have b2 := box_cell hb 2
          have b3 := box_cell hb 3
          have b4 := box_cell hb 4
          have b5 := box_cell hb 5
          simp at b0 b1 b2 b3 b4 b5
          clear hb
          simp only [frameOf, List.take_succ_cons, List.take_zero, Act.put, List.setIfInBounds_toArray, List.set_cons_zero, List.set_cons_succ, Nat.zero_add, Nat.reduceAdd]
          simp only [f6]
          go_simp
          exact hK _ _ _ (by simp only [frameOf, List.take_succ_cons, List.take_zero, Act.put, List.setIfInBounds_toArray, List.set_cons_zero, List.set_cons_succ, Nat.zero_add, Nat.reduceAdd, f6]) hG (fun j u _ _ h => h) ⟨_, rfl, VRep.keep (fun b hb => hG.block b hb.2) (fun b hb => ⟨hb.1, Nat.lt_of_lt_of_le hb.2 hG.size⟩) _ _ HB.out.2.2⟩
        case s11 =>
          intro xs d W hd hdeps hG hF K hK
          simp [Region.binds] at hdeps
          have f6 : xs 6 = _ := hF 6 hdeps
          simp only [frameOf, List.take_succ_cons, List.take_zero, Act.put, List.setIfInBounds_toArray, List.set_cons_zero, List.set_cons_succ, Nat.zero_add, Nat.reduceAdd]
          simp only [f6]
          go_simp
          exact hK _ _ _ (by simp only [frameOf, List.take_succ_cons, List.take_zero, Act.put, List.setIfInBounds_toArray, List.set_cons_zero, List.set_cons_succ, Nat.zero_add, Nat.reduceAdd, f6]) hG (fun j u _ _ h => h) rfl
        case s12 =>
          intro xs d W hd hdeps hG hF K hK
          simp [Region.binds] at hdeps
          have f9 := hF 9 hdeps.1
          have h10 := F7i.ex10 (hF 10 hdeps.2.1)
          have f11 : xs 11 = _ := hF 11 hdeps.2.2.1
          have g10 := h10.choose_spec.1
          have hr := h10.choose_spec.2
          generalize h10.choose = cs at g10 hr
          clear h10
          have f6 : xs 6 = _ := hF 6 hdeps.2.2.2.2
          have HT := Lib.hid (told_agree HJ.out.2.2.2.2.2 (fun b => w.heap.size ≤ b ∧ b < W.heap.size) (xs 9) cs W (fun b hb => hb.2) f9 hr)
          have HG2 := Lib.hid (And.intro hG hK)
          clear hG hK hF f9 hr
          simp only [frameOf, List.take_succ_cons, List.take_zero, Act.put, List.setIfInBounds_toArray, List.set_cons_zero, List.set_cons_succ, Nat.zero_add, Nat.reduceAdd]
          simp only [g10, f11, f6]
          go_simp
          refine HT.out.mono ?_
          rintro e w9 ⟨rfl, hb9⟩
          obtain ⟨hG, hK⟩ := HG2.out
          exact hK _ _ _ (by simp only [frameOf, List.take_succ_cons, List.take_zero, Act.put, List.setIfInBounds_toArray, List.set_cons_zero, List.set_cons_succ, Nat.zero_add, Nat.reduceAdd, g10, f11, f6]) (hG.trans (hb9.mono hG.size)) (fun j u _ _ h => h.keep hb9) rfl
        case e =>
        intro xs W hG hF
        have f6 : xs 6 = _ := hF 6 (by omega)
        have f12 : xs 12 = _ := hF 12 (by omega)
        have HE := Lib.hid (HB.out.1.trans (hG.mono HB.out.1.size))
        clear hG hF
        simp only [frameOf, List.take_succ_cons, List.take_zero, List.drop_succ_cons, List.drop_zero, Act.put, List.setIfInBounds_toArray, List.set_cons_zero, List.set_cons_succ, Nat.zero_add, Nat.reduceAdd, f6, f12]
        clear f6 f12
        go_wp2_with fail
        go_ret
        exact ⟨rfl, HE.out⟩
end Go.Proofs.YtfhppajnnbbcjaaGreatDoor
end
