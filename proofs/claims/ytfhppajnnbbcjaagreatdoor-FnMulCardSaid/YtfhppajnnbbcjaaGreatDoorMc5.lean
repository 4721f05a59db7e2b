/- Walks: spec.times, at whatever two values. -/
import Derived.Test.YtfhppajnnbbcjaaGreatDoorMc4
import Derived.Test.YtfhppajnnbbcjaaGreatDoorMu3
import Derived.Test.YtfhppajnnbbcjaaGreatDoorMr2
namespace Go.Proofs.YtfhppajnnbbcjaaGreatDoor
open Go.RowKit

/-- an answer of the reference: a value and how -/
def SpecD (j : J) (how : Int) (D : Nat → Prop) (w : World) (e : Ending) (w' : World) : Prop := ∃ cs, e = .returned (.tuple #[.agg cs.toArray, .int .i64 how]) ∧ SRep w' (fun b => D b ∨ Fresh w w' b) j cs ∧ Below w.heap.size w w'
theorem SpecPost.toD {j : J} {how : Int} {D : Nat → Prop} {w w' : World} {e : Ending} (h : SpecPost j how w e w') : SpecD j how D w e w' := by
  obtain ⟨cs, he, hr, hb⟩ := h
  exact ⟨cs, he, VRep.keep (fun _ _ => rfl) (fun b hb => .inr hb) _ _ hr, hb⟩

def RefM (f : FuncId) (x y : J) (j : J) (how : Int) : Prop := ∀ (D : Nat → Prop) (cx cy : List Value) (w : World), (∀ b, D b → All w b) → SRep w D x cx → SRep w D y cy → Calls Tryz.prog f #[.agg cx.toArray, .agg cy.toArray] w (SpecD j how D w)

set_option maxRecDepth 100000 in
set_option maxHeartbeats 1000000 in
theorem times_raises {x y : J} (h : (x.kind = 3 ∧ y.kind ≠ 3 ∧ y.kind ≠ 4) ∨ (x.kind = 4 ∧ y.kind ≠ 3) ∨ (x.kind = 6 ∧ y.kind ≠ 6) ∨ (x.kind ≠ 3 ∧ x.kind ≠ 4 ∧ x.kind ≠ 6)) : RefM 48 x y .null 1 := by
  intro D cx cy w hD hx hy
  obtain ⟨A1, c1, A2, c2, A3, c3, rfl⟩ := SRep.six hx
  obtain ⟨B1, d1, B2, d2, B3, d3, rfl⟩ := SRep.six hy
  clear hx hy hD
  rcases h with ⟨h1, h2, h3⟩ | ⟨h1, h2⟩ | ⟨h1, h2⟩ | ⟨h1, h2, h3⟩
  · have e1 : (x.kind == 3) = true := by simp [h1]
    have e2 : (x.kind == 4) = false := by simp [h1]
    have e3 : (x.kind == 6) = false := by simp [h1]
    have e4 : (y.kind == 3) = false := by simp [h2]
    have e5 : (y.kind == 4) = false := by simp [h3]
    clear h1 h2 h3
    go_enter Tryz.func48, Tryz.ntmps48
    go_wp2_with fail
    refine bodyPost_ret (v := .tuple #[.agg zsix.toArray, .int .i64 1]) (by simp [results, Tryz.results48, go_sem, zsix]) rfl ?_
    refine ⟨zsix, rfl, zsix_rep _ _, ?_⟩
    exact (((Below.refl _ _).alloc (Nat.le_refl _) _).alloc (by simp) _).alloc (by simp; omega) _
  · have e1 : (x.kind == 3) = false := by simp [h1]
    have e2 : (x.kind == 4) = true := by simp [h1]
    have e3 : (x.kind == 6) = false := by simp [h1]
    have e4 : (y.kind == 3) = false := by simp [h2]
    clear h1 h2
    go_enter Tryz.func48, Tryz.ntmps48
    go_wp2_with fail
    refine bodyPost_ret (v := .tuple #[.agg zsix.toArray, .int .i64 1]) (by simp [results, Tryz.results48, go_sem, zsix]) rfl ?_
    refine ⟨zsix, rfl, zsix_rep _ _, ?_⟩
    exact (((Below.refl _ _).alloc (Nat.le_refl _) _).alloc (by simp) _).alloc (by simp; omega) _
  · have e1 : (x.kind == 3) = false := by simp [h1]
    have e2 : (x.kind == 4) = false := by simp [h1]
    have e3 : (x.kind == 6) = true := by simp [h1]
    have e4 : (y.kind == 6) = false := by simp [h2]
    clear h1 h2
    go_enter Tryz.func48, Tryz.ntmps48
    go_wp2_with fail
    refine bodyPost_ret (v := .tuple #[.agg zsix.toArray, .int .i64 1]) (by simp [results, Tryz.results48, go_sem, zsix]) rfl ?_
    refine ⟨zsix, rfl, zsix_rep _ _, ?_⟩
    exact (((Below.refl _ _).alloc (Nat.le_refl _) _).alloc (by simp) _).alloc (by simp; omega) _
  · have e1 : (x.kind == 3) = false := by simp [h1]
    have e2 : (x.kind == 4) = false := by simp [h2]
    have e3 : (x.kind == 6) = false := by simp [h3]
    clear h1 h2 h3
    go_enter Tryz.func48, Tryz.ntmps48
    go_wp2_with fail
    refine bodyPost_ret (v := .tuple #[.agg zsix.toArray, .int .i64 1]) (by simp [results, Tryz.results48, go_sem, zsix]) rfl ?_
    refine ⟨zsix, rfl, zsix_rep _ _, ?_⟩
    exact (((Below.refl _ _).alloc (Nat.le_refl _) _).alloc (by simp) _).alloc (by simp; omega) _

set_option maxRecDepth 100000 in
set_option maxHeartbeats 1000000 in
theorem times_numStr (a : Int) (t : ByteArray) : RefM 48 (.num a) (.str t) .null 2 := by
  intro D cx cy w hD hx hy
  obtain ⟨A1, c1, A2, c2, A3, c3, rfl⟩ := SRep.six hx
  obtain ⟨B1, d1, B2, d2, B3, d3, rfl⟩ := SRep.six hy
  clear hx hy hD
  simp only [J.kind, J.half, J.text, J.list, J.keys, J.vals] at *
  go_enter Tryz.func48, Tryz.ntmps48
  go_wp2_with fail
  refine bodyPost_ret (v := .tuple #[.agg zsix.toArray, .int .i64 2]) (by simp [results, Tryz.results48, go_sem, zsix]) rfl ?_
  refine ⟨zsix, rfl, zsix_rep _ _, ?_⟩
  exact (((Below.refl _ _).alloc (Nat.le_refl _) _).alloc (by simp) _).alloc (by simp; omega) _

set_option maxRecDepth 100000 in
set_option maxHeartbeats 1000000 in
theorem times_objs (ka ks : List ByteArray) (va vs : List J) (wa : (J.obj ka va).WF) (wb : (J.obj ks vs).WF) : RefM 48 (.obj ka va) (.obj ks vs) (mrg (.obj ks vs) (.obj ka va)) 0 := by
  intro D cx cy w hD hx hy
  have HC := Lib.hid (fun W (hW : Below w.heap.size w W) => merged_all (.obj ks vs) (.obj ka va) D cx cy W rfl rfl wa wb (fun b hb => Nat.lt_of_lt_of_le (hD b hb) hW.size) (VRep.keep (Same.of_below hW hD) (fun _ h => h) _ _ hx) (VRep.keep (Same.of_below hW hD) (fun _ h => h) _ _ hy))
  have HD := Lib.hid hD
  obtain ⟨A1, c1, A2, c2, A3, c3, rfl⟩ := SRep.six hx
  obtain ⟨B1, d1, B2, d2, B3, d3, rfl⟩ := SRep.six hy
  clear hx hy hD wa wb
  generalize hz : mrg (J.obj ks vs) (J.obj ka va) = z at *
  clear hz
  simp only [J.kind, J.half, J.text, J.list, J.keys, J.vals] at *
  go_enter Tryz.func48, Tryz.ntmps48
  go_wp2_with fail
  generalize hW : ((World.alloc _ _).alloc _).alloc _ = W0
  have H3 := Lib.hid (alloc3 hW)
  clear hW
  refine (HC.out W0 H3.out.1).mono ?_
  clear HC
  rintro e w1 ⟨cs, rfl, hcs, hb1⟩
  obtain ⟨E1, e1, E2, e2, E3, e3, rfl⟩ := SRep.six hcs
  have hZ := (hb1.block _ (box_lt H3.out.2.2.2.2)).trans H3.out.2.2.2.2
  have z0 : w1.cell? ⟨w.heap.size + 1 + 1, 0, none⟩ = _ := box_cell hZ 0
  have z1 : w1.cell? ⟨w.heap.size + 1 + 1, 1, none⟩ = _ := box_cell hZ 1
  have z2 : w1.cell? ⟨w.heap.size + 1 + 1, 2, none⟩ = _ := box_cell hZ 2
  have z3 : w1.cell? ⟨w.heap.size + 1 + 1, 3, none⟩ = _ := box_cell hZ 3
  have z4 : w1.cell? ⟨w.heap.size + 1 + 1, 4, none⟩ = _ := box_cell hZ 4
  have z5 : w1.cell? ⟨w.heap.size + 1 + 1, 5, none⟩ = _ := box_cell hZ 5
  have fz := box_frozen hZ
  have HF := Lib.hid (And.intro hcs (And.intro (H3.out.1.trans (hb1.mono H3.out.1.size)) (And.intro H3.out.2.1 hb1.size)))
  clear hcs hb1 hZ H3
  go_wp2_with fail
  refine bodyPost_ret (v := .tuple #[.agg #[.int .i64 z.kind, .int .i64 z.half, .string z.text, .slice E1 z.list.length e1, .slice E2 z.keys.length e2, .slice E3 z.vals.length e3], .int .i64 0]) (by simp [results, Tryz.results48, go_sem, z0, z1, z2, z3, z4, z5]) rfl ?_
  refine ⟨[.int .i64 z.kind, .int .i64 z.half, .string z.text, .slice E1 z.list.length e1, .slice E2 z.keys.length e2, .slice E3 z.vals.length e3], rfl, VRep.keep (fun b hb => ?_) (fun b hb => hb.imp id fun h => ⟨by have := h.1; have := HF.out.2.2.1; omega, by have := h.2; simp [World.setCell]; omega⟩) _ _ HF.out.1, ?_⟩
  · have hne : b ≠ w.heap.size + 1 + 1 := by
      rcases hb with h | h
      · have := HD.out b h; omega
      · have := h.1; have := HF.out.2.2.1; omega
    iterate 6 rw [heap_setCell_other _ _ _ _ hne]
  · iterate 6 refine Below.setCell ?_ (by simp; omega) _
    exact HF.out.2.1

theorem copies_size (s : ByteArray) (k : Nat) : (copies s k).size = k * s.size := by
  have := Lib.repeatL_length s.data.toList k
  simp only [copies, ByteArray.size, List.size_toArray]
  rw [this]
  simp
theorem copies_succ (s : ByteArray) (k : Nat) : copies s k ++ s = copies s (k + 1) := by
  apply bytes_ext
  unfold copies
  rw [Lib.repeatL_add, Lib.repeatL_one]
  simp

/-- where the reference says what a text times a number is -/
def TextOK (s : ByteArray) (h : Int) : Prop := h.tmod 2 = 0 ∧ 1 ≤ h.tdiv 2 ∧ h.tdiv 2 ≤ 10000 ∧ h.tdiv 2 * (s.size : Int) ≤ 10000

set_option maxRecDepth 100000 in
set_option maxHeartbeats 1000000 in
theorem times_text (s : ByteArray) (h : Int) (hb : -18014398509481984 ≤ h ∧ h ≤ 18014398509481984) (hs : s.size ≤ 1048576) (D : Nat → Prop) (cx cy : List Value) (w : World) (hx : SRep w D (.str s) cx) (hy : SRep w D (.num h) cy) :
    Calls Tryz.prog 48 #[.agg cx.toArray, .agg cy.toArray] w (fun e w' => (TextOK s h ∧ SpecPost (.str (copies s (h.tdiv 2).toNat)) 0 w e w') ∨ SpecPost .null 2 w e w') := by
  obtain ⟨A1, c1, A2, c2, A3, c3, rfl⟩ := SRep.six hx
  obtain ⟨B1, d1, B2, d2, B3, d3, rfl⟩ := SRep.six hy
  clear hx hy
  simp only [J.kind, J.half, J.text, J.list, J.keys, J.vals] at *
  have HC := Lib.hid (fun W => whole_any 3 h (.string noText) (.slice B1 0 d1) (.slice B2 0 d2) (.slice B3 0 d3) W (by omega))
  go_enter Tryz.func48, Tryz.ntmps48
  go_wp2_with fail
  generalize hW : ((World.alloc _ _).alloc _).alloc _ = W0
  have H3 := Lib.hid (alloc3 hW)
  clear hW
  refine (HC.out W0).mono ?_
  clear HC
  rintro e w1 ⟨n, ok, rfl, hn, hb1⟩
  have hA := (hb1.block _ (box_lt H3.out.2.2.1)).trans H3.out.2.2.1
  have hZ := (hb1.block _ (box_lt H3.out.2.2.2.2)).trans H3.out.2.2.2.2
  have a2 : w1.cell? ⟨w.heap.size, 2, none⟩ = _ := box_cell hA 2
  have z0 : w1.cell? ⟨w.heap.size + 1 + 1, 0, none⟩ = _ := box_cell hZ 0
  have z1 : w1.cell? ⟨w.heap.size + 1 + 1, 1, none⟩ = _ := box_cell hZ 1
  have z2 : w1.cell? ⟨w.heap.size + 1 + 1, 2, none⟩ = _ := box_cell hZ 2
  have z3 : w1.cell? ⟨w.heap.size + 1 + 1, 3, none⟩ = _ := box_cell hZ 3
  have z4 : w1.cell? ⟨w.heap.size + 1 + 1, 4, none⟩ = _ := box_cell hZ 4
  have z5 : w1.cell? ⟨w.heap.size + 1 + 1, 5, none⟩ = _ := box_cell hZ 5
  have fz := box_frozen hZ
  have HB := Lib.hid (H3.out.1.trans (hb1.mono H3.out.1.size))
  have HZ := Lib.hid hZ
  clear hA hZ hb1 H3
  rcases hn with ⟨-, he, rfl, rfl⟩ | ⟨-, rfl⟩
  · obtain ⟨q, hq⟩ : ∃ q, h.tdiv 2 = q := ⟨_, rfl⟩
    rw [hq]
    have hqb : -9007199254740992 ≤ q ∧ q ≤ 9007199254740992 := by
      have := tdiv_two ((tmod_two _).1 he)
      omega
    have HE := Lib.hid (And.intro he hq)
    clear he hq
    by_cases h1 : q < 1
    · go_wp2_with fail
      refine bodyPost_ret (v := .tuple #[.agg zsix.toArray, .int .i64 2]) (by simp [results, Tryz.results48, go_sem, zsix, z0, z1, z2, z3, z4, z5]) rfl ?_
      refine .inr ⟨zsix, rfl, zsix_rep _ _, ?_⟩
      iterate 6 refine Below.setCell ?_ (by simp; omega) _
      exact HB.out
    by_cases h2 : 10000 < q
    · go_wp2_with fail
      refine bodyPost_ret (v := .tuple #[.agg zsix.toArray, .int .i64 2]) (by simp [results, Tryz.results48, go_sem, zsix, z0, z1, z2, z3, z4, z5]) rfl ?_
      refine .inr ⟨zsix, rfl, zsix_rep _ _, ?_⟩
      iterate 6 refine Below.setCell ?_ (by simp; omega) _
      exact HB.out
    obtain ⟨c, rfl⟩ : ∃ c : Nat, q = (c : Int) := ⟨q.toNat, by omega⟩
    obtain ⟨p, hp⟩ : ∃ p : Int, (c : Int) * (s.size : Int) = p := ⟨_, rfl⟩
    have hpn : p = ((c * s.size : Nat) : Int) := by rw [← hp, Int.natCast_mul]
    have hpb : 0 ≤ p ∧ p ≤ 10485760000 := by
      have h5 : c * s.size ≤ 10000 * 1048576 := Nat.mul_le_mul (by omega) hs
      omega
    have hwp : wrap64 p = p := by unfold wrap64; omega
    by_cases h3 : 10000 < p
    · clear hpn
      go_wp2_with fail
      refine bodyPost_ret (v := .tuple #[.agg zsix.toArray, .int .i64 2]) (by simp [results, Tryz.results48, go_sem, zsix, z0, z1, z2, z3, z4, z5]) rfl ?_
      refine .inr ⟨zsix, rfl, zsix_rep _ _, ?_⟩
      iterate 6 refine Below.setCell ?_ (by simp; omega) _
      exact HB.out
    · have HP := Lib.hid (And.intro hp hpn)
      have h3' : p ≤ 10000 := by omega
      clear hpn
      go_wp2_with fail
      have HL : Hid (∀ k, k ≤ c → (copies s k).size ≤ 10000) := fun k hk => by
        rw [copies_size]
        have := Nat.mul_le_mul_right s.size hk
        have := HP.out.2
        omega
      clear hp hwp
      go_loopw [8, 95] (fun v i wr => ∃ k : Nat, k ≤ c ∧ i = .int .i64 k ∧ v = .string (copies s k) ∧ Hid (wr = w1)) (fun _ i _ => c - (intOf i).toNat)
      case atStart => exact ⟨0, Nat.zero_le _, rfl, rfl, Lib.hid rfl⟩
      case round =>
        obtain ⟨k, hk, rfl, rfl, hw⟩ := hrel
        obtain rfl := hw.out
        clear hw
        by_cases hlt : k < c
        · have hcs := copies_succ s k
          have hl1 := HL.out k (by omega)
          have hl2 := HL.out (k + 1) (by omega)
          go_wp2_with fail
          go_roundw
          case rel => exact ⟨k + 1, by omega, by go_num, rfl, trivial⟩
          case measure => simp [intOf]; omega
        · have hkc : k = c := by omega
          subst hkc
          have HS := Lib.hid (fun W => Str_any (copies s k) W)
          go_wp2_with fail
          refine (HS.out _).mono ?_
          rintro e w2 ⟨rfl, hb2⟩
          have hZ2 := (hb2.block _ (box_lt HZ.out)).trans HZ.out
          have y0 : w2.cell? ⟨w.heap.size + 1 + 1, 0, none⟩ = _ := box_cell hZ2 0
          have y1 : w2.cell? ⟨w.heap.size + 1 + 1, 1, none⟩ = _ := box_cell hZ2 1
          have y2 : w2.cell? ⟨w.heap.size + 1 + 1, 2, none⟩ = _ := box_cell hZ2 2
          have y3 : w2.cell? ⟨w.heap.size + 1 + 1, 3, none⟩ = _ := box_cell hZ2 3
          have y4 : w2.cell? ⟨w.heap.size + 1 + 1, 4, none⟩ = _ := box_cell hZ2 4
          have y5 : w2.cell? ⟨w.heap.size + 1 + 1, 5, none⟩ = _ := box_cell hZ2 5
          have fy := box_frozen hZ2
          have HB2 := Lib.hid (HB.out.trans (hb2.mono HB.out.size))
          clear hb2 hZ2 HS a2 z0 z1 z2 z3 z4 z5 fz
          go_wp2_with fail
          refine bodyPost_ret (v := .tuple #[.agg #[.int .i64 4, .int .i64 0, .string (copies s k), .slice none 0 0, .slice none 0 0, .slice none 0 0], .int .i64 0]) (by simp [results, Tryz.results48, go_sem, y0, y1, y2, y3, y4, y5]) rfl ?_
          refine .inl ⟨⟨HE.out.1, by rw [HE.out.2]; omega, by rw [HE.out.2]; omega, by rw [HE.out.2, HP.out.1]; exact h3'⟩, [.int .i64 4, .int .i64 0, .string (copies s k), .slice none 0 0, .slice none 0 0, .slice none 0 0], rfl, (by rw [HE.out.2, Int.toNat_natCast]; exact ⟨_, _, _, rfl, emp _ _, emp _ _, emp _ _⟩), ?_⟩
          iterate 6 refine Below.setCell ?_ (by simp; omega) _
          exact HB2.out
  · go_wp2_with fail
    refine bodyPost_ret (v := .tuple #[.agg zsix.toArray, .int .i64 2]) (by simp [results, Tryz.results48, go_sem, zsix, z0, z1, z2, z3, z4, z5]) rfl ?_
    refine .inr ⟨zsix, rfl, zsix_rep _ _, ?_⟩
    iterate 6 refine Below.setCell ?_ (by simp; omega) _
    exact HB.out
end Go.Proofs.YtfhppajnnbbcjaaGreatDoor
