/- Walks: spec.where at two lists.
   Walks: spec.where at two texts.
   A region that draws its order, by an invariant: what each operation leaves holds on, whatever comes up next; each operation is walked once. -/
import Derived.Test.YtfhppajnnbbcjaaGreatDoorGz6
import Derived.StillTail
import Derived.Lib.Hide

section
namespace Go.Proofs.YtfhppajnnbbcjaaGreatDoor
open Go.RowKit

theorem size26 (w : World) : (sizeOf 26).run Tryz.prog w = .ok 6 w := by
  obtain ⟨i, hi, hz, hs, hb⟩ := info_parts Tryz.info26
  simp [sizeOf, typeInfo, hi, hs]
theorem window6 (W : World) (b o n c k m : Nat) (hm : 0 < m) (hh : k + m ≤ c) :
    (Instr.slice 23 (.slice (some ⟨b, o, none⟩) n c) (some (.int .i64 (k : Int))) (some (.int .i64 ((k : Int) + (m : Int)))) none).run Tryz.prog W = .ok (.slice (some ⟨b, o + k * 6, none⟩) m (c - k)) W := by
  have ht' : Tryz.prog.underlying 23 = some (.slice (Tryz.prog.elem 23)) := by simp [Program.elem, Tryz.underlying23]
  have he : Tryz.prog.elem 23 = 26 := by simp [Program.elem, Tryz.underlying23]
  rw [run_slice_lh W 23 _ _ _ ht' .i64 .i64 _ _ (by omega) (by omega) (by omega), he, size26]
  have hne : ¬ c = k := by omega
  have e1 : ((k : Int) + (m : Int)).toNat = k + m := by omega
  have e2 : ((k : Int)).toNat = k := by omega
  rw [e1, e2]
  by_cases h0 : k = 0
  · subst h0
    simp [Result.andThen, sliced, Addr.add, hne]
  · have h6 : ¬ k * 6 = 0 := by omega
    simp [Result.andThen, sliced, Addr.add, hne]
    exact h6

set_option maxRecDepth 100000 in
set_option maxHeartbeats 2000000 in
theorem where_list (nm : ByteArray) (fs : Bool) (n1 : (nm.toList == [105, 110, 100, 105, 99, 101, 115]) = false) (n2 : (nm.toList == [105, 110, 100, 101, 120]) = fs) (a b : List J) (hb0 : b ≠ []) (D : Nat → Prop) (cx cy : List Value) (w : World) (wx : (J.arr a).WF) (wy : (J.arr b).WF) (hD : ∀ b, D b → All w b) (hx : SRep w D (.arr a) cx) (hy : SRep w D (.arr b) cy) :
    Calls Tryz.prog 74 #[.string nm, .agg cx.toArray, .agg cy.toArray] w (SpecPost (wAns fs (hits (pL a b) (a.length + 1 - b.length))) 0 w) := by
  obtain ⟨L, K, S, rfl, hL, hK, hS⟩ := hx.cells
  obtain ⟨A2, a2, rfl⟩ := hK.form
  obtain ⟨A3, a3, rfl⟩ := hS.form
  obtain ⟨A1, a1, rfl, hc1, hm1, hr1⟩ := hL
  obtain ⟨L, K, S, rfl, hL, hK, hS⟩ := hy.cells
  obtain ⟨B2, b2, rfl⟩ := hK.form
  obtain ⟨B3, b3, rfl⟩ := hS.form
  have hLy := hL
  obtain ⟨B1, b1, rfl, hc2, hm2, hr2⟩ := hL
  change a.length ≤ a1 at hc1
  change SlAt D b.length _ _ at hLy
  unfold maxLen at hm1 hm2
  have hla : a.length ≤ 1048576 := wx.1
  have hlb : b.length ≤ 1048576 := wy.1
  have hb1 : 0 < b.length := List.length_pos_iff.2 hb0
  obtain ⟨n, hn⟩ : ∃ n, a.length + 1 - b.length = n := ⟨_, rfl⟩
  rw [hn]
  have HN := Lib.hid hn
  have hnb : n ≤ a.length + 1 := by omega
  clear hn
  obtain ⟨p, hp⟩ : ∃ p : Nat → Bool, p = pL a b := ⟨_, rfl⟩
  rw [← hp]
  obtain ⟨csx, hcsx⟩ : ∃ cs : Array Value, #[Value.int .i64 5, .int .i64 0, .string noText, .slice A1 a.length a1, .slice A2 0 a2, .slice A3 0 a3] = cs := ⟨_, rfl⟩
  obtain ⟨csy, hcsy⟩ : ∃ cs : Array Value, #[Value.int .i64 5, .int .i64 0, .string noText, .slice B1 b.length b1, .slice B2 0 b2, .slice B3 0 b3] = cs := ⟨_, rfl⟩
  have HW := Lib.hid (And.intro hcsx (And.intro hcsy (And.intro hr1 (And.intro hLy (And.intro wx (And.intro wy (And.intro hD hp)))))))
  clear hx hy hK hS hLy hr1 hr2 hm2 hc2 wx wy hD hp hb0 hcsx hcsy
  have hz0 : (((w.alloc (.cells #[Value.int .i64 5, .int .i64 0, .string noText, .slice A1 a.length a1, .slice A2 0 a2, .slice A3 0 a3] 26)).alloc (.cells #[Value.int .i64 5, .int .i64 0, .string noText, .slice B1 b.length b1, .slice B2 0 b2, .slice B3 0 b3] 26)).alloc (.cells #[.int .i64 0, .int .i64 0, .string ⟨#[]⟩, .slice none 0 0, .slice none 0 0, .slice none 0 0] 26)) = (((w.alloc (.cells csx 26)).alloc (.cells csy 26)).alloc (.cells zsix.toArray 26)) := by rw [← HW.out.1, ← HW.out.2.1]
  obtain ⟨W0, hW1⟩ : ∃ W, (((w.alloc (.cells #[Value.int .i64 5, .int .i64 0, .string noText, .slice A1 a.length a1, .slice A2 0 a2, .slice A3 0 a3] 26)).alloc (.cells #[Value.int .i64 5, .int .i64 0, .string noText, .slice B1 b.length b1, .slice B2 0 b2, .slice B3 0 b3] 26)).alloc (.cells #[.int .i64 0, .int .i64 0, .string ⟨#[]⟩, .slice none 0 0, .slice none 0 0, .slice none 0 0] 26)) = W := ⟨_, rfl⟩
  have HR0 := Lib.hid (show WRel [] w csx csy (.slice none 0 0) W0 by rw [← hW1, hz0]; exact WRel.start w csx csy)
  have hW0 := Lib.hid hW1
  clear hz0 hW1
  change Calls Tryz.prog 74 #[.string nm, .agg #[Value.int .i64 5, .int .i64 0, .string noText, .slice A1 a.length a1, .slice A2 0 a2, .slice A3 0 a3], .agg #[Value.int .i64 5, .int .i64 0, .string noText, .slice B1 b.length b1, .slice B2 0 b2, .slice B3 0 b3]] w _
  go_enter Tryz.func74, Tryz.ntmps74
  go_wp2_with fail
  rw [hW0.out]
  clear hW0
  go_loopw [8, 10] (fun v i wr => ∃ (k : Nat) (v0 : Value), v0 = v ∧ k ≤ n ∧ i = .int .i64 k ∧ Hid (WRel (hits p k) w csx csy v0 wr)) (fun _ i _ => n - (intOf i).toNat)
  case atStart => exact ⟨0, _, rfl, Nat.zero_le _, rfl, HR0⟩
  case round =>
    obtain ⟨k, v, rfl, hk, rfl, hR⟩ := hrel
    have hbx := hR.out.2.1
    rw [← HW.out.1] at hbx
    have hby := hR.out.2.2.1
    rw [← HW.out.2.1] at hby
    have q0 : wr.cell? ⟨w.heap.size, 0, none⟩ = _ := box_cell hbx 0
    have q1 : wr.cell? ⟨w.heap.size, 1, none⟩ = _ := box_cell hbx 1
    have q2 : wr.cell? ⟨w.heap.size, 2, none⟩ = _ := box_cell hbx 2
    have q3 : wr.cell? ⟨w.heap.size, 3, none⟩ = _ := box_cell hbx 3
    have q4 : wr.cell? ⟨w.heap.size, 4, none⟩ = _ := box_cell hbx 4
    have q5 : wr.cell? ⟨w.heap.size, 5, none⟩ = _ := box_cell hbx 5
    have qy0 : wr.cell? ⟨w.heap.size + 1, 0, none⟩ = _ := box_cell hby 0
    have qy1 : wr.cell? ⟨w.heap.size + 1, 1, none⟩ = _ := box_cell hby 1
    have qy2 : wr.cell? ⟨w.heap.size + 1, 2, none⟩ = _ := box_cell hby 2
    have qy3 : wr.cell? ⟨w.heap.size + 1, 3, none⟩ = _ := box_cell hby 3
    have qy4 : wr.cell? ⟨w.heap.size + 1, 4, none⟩ = _ := box_cell hby 4
    have qy5 : wr.cell? ⟨w.heap.size + 1, 5, none⟩ = _ := box_cell hby 5
    have hlt := box_lt hby
    clear hbx hby
    by_cases ha : k + b.length ≤ a.length
    · obtain ⟨hr1, hLy, wx, wy, hD, hp⟩ := HW.out.2.2
      obtain ⟨bk1, o1, rfl, hlt1, hs1⟩ := hr1 (by show 0 < a.length; omega)
      have hbw := hR.out.1
      have hrow := VRow.keep (Same.of_below hbw hD) (fun _ h => h) _ _ _ hlt1 hs1
      have hsub : SlAt D ((a.drop k).take b.length).length (.slice (some ⟨bk1, o1 + k * 6, none⟩) b.length (a1 - k)) (fun b' o => VRow wr D b' (toVL ((a.drop k).take b.length)) o) := by
        have hl : ((a.drop k).take b.length).length = b.length := by rw [List.length_take, List.length_drop]; omega
        refine ⟨_, _, by rw [hl], by rw [hl]; omega, by unfold maxLen; omega, fun _ => ⟨bk1, o1 + k * 6, rfl, hlt1, ?_⟩⟩
        exact vrow_sub hrow k b.length
      have hDr : ∀ b, D b → b < wr.heap.size := fun b hb => Nat.lt_of_lt_of_le (hD b hb) hbw.size
      have HC := Lib.hid (fun W (hW : Below wr.heap.size wr W) => lists_all ((a.drop k).take b.length) b D _ _ W (WFL_take wx.2 k b.length) wy.2 (fun b hb => Nat.lt_of_lt_of_le (hDr b hb) hW.size)
        (SlJ.keep hsub (Same.of_below hW hDr) (fun _ h => h)) (SlJ.keep hLy (Same.of_below (hbw.trans (hW.mono hbw.size)) hD) (fun _ h => h)))
      have HP := Lib.hid hp
      obtain ⟨ok, hok⟩ : ∃ ok, (cmpL ((a.drop k).take b.length) b == 0) = ok := ⟨_, rfl⟩
      obtain ⟨nn, hnn⟩ : ∃ nn, cmpL ((a.drop k).take b.length) b = nn := ⟨_, rfl⟩
      rw [hnn] at HC hok
      have HOK := Lib.hid (show p k = ok by rw [HP.out]; unfold pL; rw [hnn]; exact hok)
      clear hr1 hLy wx wy hD hp hs1 hrow hsub hDr hbw hlt1 hnn HP
      have hk1 : k < n := by have := HN.out; omega
      have hwr : IntKind.i64.wrap ((k : Int) + (b.length : Int)) = (k : Int) + (b.length : Int) := by rw [IntKind.wrap_i64]; omega
      have hrun := fun W => window6 W bk1 o1 a.length a1 k b.length hb1 (by omega)
      go_wp2_with fail
      refine region_tail 11 (by kernel_rfl) (by kernel_rfl) ?_
      simp only [List.take_succ_cons, List.take_zero, List.drop_succ_cons, List.drop_zero]
      repeat still_step
      refine wpStill_nil ?_
      clear hrun hwr
      go_wp2_with fail
      refine (HC.out _ ?_).mono ?_
      · exact (Below.refl _ _).drew
      rintro e w1 ⟨rfl, hb1⟩
      have HR1 := Lib.hid (hR.out.mono ((Below.refl wr.heap.size wr).drew.trans (hb1.mono (Nat.le_refl _))))
      clear hR hb1 q0 q1 q2 q3 q4 q5 qy0 qy1 qy2 qy3 qy4 qy5 HC
      cases ok
      · go_wp2_with fail
        have HK := Lib.hid (show WRel (hits p (k + 1)) w csx csy v w1 by
          unfold hits; rw [HOK.out]; simpa using HR1.out)
        clear HR1 HOK
        go_roundw
        case rel => exact ⟨k + 1, v, rfl, by omega, by go_num, HK⟩
        case measure => simp [intOf]; omega
      · go_wp2_with fail
        refine (Num_any k _ (by omega) (by omega)).mono ?_
        rintro e w2 ⟨rfl, hb2⟩
        have hhl := hits_length p k
        have HST := Lib.hid (HR1.out.step hb2 (x := .num (2 * (k : Int))) (fun W D => srep_num W D _))
        have HB2 := Lib.hid hb2
        clear hb2
        go_wp2_with (at_builtin; refine wpList_append_G rfl (.tmp 100) (.tmp 103) 23 rfl EJ Tryz.under23 (w.heap.size + 3) _ (hits p k) [.num (2 * (k : Int))] v _ rfl rfl HST.out.1 HST.out.2.1 ?c1 ?c2 HST.out.2.2 ?_)
        case c1 => simp [maxLen]; omega
        case c2 => simp [EJ]; omega
        intro v' w3 hg hgb _
        have HK := Lib.hid (show WRel (hits p (k + 1)) w csx csy v' w3 by
          unfold hits; rw [HOK.out]; exact HR1.out.grow HB2.out hg hgb)
        clear hg hgb HST HB2 HR1 HOK hhl
        go_wp2_with fail
        go_roundw
        case rel => exact ⟨k + 1, v', rfl, by omega, by go_num, HK⟩
        case measure => simp [intOf]; omega
    · have hk' : k = n := by have := HN.out; omega
      clear HN
      subst hk'
      obtain ⟨A, c, hvs⟩ := hR.out.2.2.2.2.form
      subst hvs
      have hhl := hits_length p k
      obtain ⟨l, hl⟩ : ∃ l, hits p k = l := ⟨_, rfl⟩
      rw [hl] at hR hhl ⊢
      have HL := Lib.hid hl
      have hbx := hR.out.2.2.2.1
      have r0 : wr.cell? ⟨w.heap.size + 1 + 1, 0, none⟩ = _ := box_cell hbx 0
      have r1 : wr.cell? ⟨w.heap.size + 1 + 1, 1, none⟩ = _ := box_cell hbx 1
      have r2 : wr.cell? ⟨w.heap.size + 1 + 1, 2, none⟩ = _ := box_cell hbx 2
      have r3 : wr.cell? ⟨w.heap.size + 1 + 1, 3, none⟩ = _ := box_cell hbx 3
      have r4 : wr.cell? ⟨w.heap.size + 1 + 1, 4, none⟩ = _ := box_cell hbx 4
      have r5 : wr.cell? ⟨w.heap.size + 1 + 1, 5, none⟩ = _ := box_cell hbx 5
      have fz := box_frozen hbx
      have hlt := box_lt hbx
      clear hbx
      cases l with
      | nil =>
        simp only [List.length_nil]
        go_wp2_with fail
        refine bodyPost_ret (v := .tuple #[.agg zsix.toArray, .int .i64 0]) (by simp [results, Tryz.results74, go_sem, zsix, r0, r1, r2, r3, r4, r5]) rfl ?_
        refine spec_set (zsix_rep wr _) (by simp [World.setCell]) (fun b hb => by iterate 6 rw [heap_setCell_other _ _ _ _ hb]) (by
          repeat (refine Below.setCell ?_ (by simp; omega) _)
          exact hR.out.1) ?_
        rw [HL.out]; cases fs <;> rfl
      | cons b0 l0 =>
        obtain ⟨m, hm⟩ : ∃ m, (b0 :: l0).length = m + 1 := ⟨l0.length, rfl⟩
        rw [hm] at hhl ⊢
        have HM := Lib.hid hm
        have hsl := hR.out.2.2.2.2.sl (D := fun b => w.heap.size + 3 ≤ b ∧ b < wr.heap.size) (fun b h1 h2 => ⟨h1, h2⟩) (fun b h1 h2 => ⟨h1, h2⟩)
        obtain ⟨A', c', he, -, -, hr⟩ := hsl
        obtain ⟨b, o, hA, hb, hrow⟩ := hr (by simp)
        rw [hA] at he
        obtain ⟨rfl, -, rfl⟩ := Value.slice.inj he
        have HROW := Lib.hid (And.intro hb hrow)
        clear hl hm he hr hA hb hrow
        cases fs
        · obtain ⟨cs, hcs, hrep⟩ := Row.get (i := m) HROW.out.2 (x := (b0 :: l0)[m]'(by rw [HM.out]; omega)) (List.getElem?_eq_getElem _)
          simp only [EJ] at hcs hrep
          obtain ⟨j, hj⟩ : ∃ j, (b0 :: l0)[m]'(by rw [HM.out]; omega) = j := ⟨_, rfl⟩
          rw [hj] at hrep
          have HJ := Lib.hid (And.intro hj hrep)
          obtain ⟨E1, e1, E2, e2, E3, e3, rfl⟩ := SRep.six hrep
          have s0 : wr.cell? ⟨b, o + m * 6, none⟩ = _ := hcs 0 _ rfl
          have s1 := hcs 1 _ rfl
          have s2 := hcs 2 _ rfl
          have s3 := hcs 3 _ rfl
          have s4 := hcs 4 _ rfl
          have s5 := hcs 5 _ rfl
          clear hj hrep hcs
          go_wp2_with fail
          refine bodyPost_ret (v := .tuple #[.agg #[.int .i64 j.kind, .int .i64 j.half, .string j.text, .slice E1 j.list.length e1, .slice E2 j.keys.length e2, .slice E3 j.vals.length e3], .int .i64 0]) (by simp [results, Tryz.results74, go_sem, r0, r1, r2, r3, r4, r5]) rfl ?_
          refine spec_set HJ.out.2 (by simp [World.setCell]) (fun b hb => by iterate 6 rw [heap_setCell_other _ _ _ _ hb]) (by
            repeat (refine Below.setCell ?_ (by simp; omega) _)
            exact hR.out.1) ?_
          rw [HL.out]
          unfold wAns
          rw [HM.out]
          simp only [Bool.false_eq_true, if_false, Nat.add_sub_cancel]
          rw [List.getElem?_eq_getElem (by rw [HM.out]; omega), HJ.out.1]
          rfl
        · obtain ⟨cs, hcs, hrep⟩ := Row.get (i := 0) HROW.out.2 (x := (b0 :: l0)[0]'(by rw [HM.out]; omega)) (List.getElem?_eq_getElem _)
          simp only [EJ] at hcs hrep
          simp only [Nat.zero_mul, Nat.add_zero] at hcs
          obtain ⟨j, hj⟩ : ∃ j, (b0 :: l0)[0]'(by rw [HM.out]; omega) = j := ⟨_, rfl⟩
          rw [hj] at hrep
          have HJ := Lib.hid (And.intro hj hrep)
          obtain ⟨E1, e1, E2, e2, E3, e3, rfl⟩ := SRep.six hrep
          have s0 : wr.cell? ⟨b, o, none⟩ = _ := hcs 0 _ rfl
          have s1 := hcs 1 _ rfl
          have s2 := hcs 2 _ rfl
          have s3 := hcs 3 _ rfl
          have s4 := hcs 4 _ rfl
          have s5 := hcs 5 _ rfl
          clear hj hrep hcs
          go_wp2_with fail
          refine bodyPost_ret (v := .tuple #[.agg #[.int .i64 j.kind, .int .i64 j.half, .string j.text, .slice E1 j.list.length e1, .slice E2 j.keys.length e2, .slice E3 j.vals.length e3], .int .i64 0]) (by simp [results, Tryz.results74, go_sem, r0, r1, r2, r3, r4, r5]) rfl ?_
          refine spec_set HJ.out.2 (by simp [World.setCell]) (fun b hb => by iterate 6 rw [heap_setCell_other _ _ _ _ hb]) (by
            repeat (refine Below.setCell ?_ (by simp; omega) _)
            exact hR.out.1) ?_
          rw [HL.out, ← HJ.out.1]
          rfl
end Go.Proofs.YtfhppajnnbbcjaaGreatDoor
end

section
namespace Go.Proofs.YtfhppajnnbbcjaaGreatDoor
open Go.RowKit

theorem hits_gap {p : Nat → Bool} {k : Nat} : ∀ {n : Nat}, k ≤ n → (∀ j, k ≤ j → j < n → p j = false) → hits p n = hits p k
  | 0, h, _ => by rw [show k = 0 by omega]
  | n + 1, h, hj => by
    by_cases e : k = n + 1
    · rw [e]
    · rw [show hits p (n + 1) = hits p n ++ (if p n then [.num (2 * (n : Int))] else []) from rfl, hj n (by omega) (by omega), hits_gap (by omega) fun j h1 h2 => hj j h1 (by omega)]
      simp

def fm (n : Int) (z : Nat) : Nat := if n < 0 then 0 else z + 1 - n.toNat
/-- the next place from k on, as find tells it -/
def FNext (s t : ByteArray) (k : Nat) (n : Int) : Prop := (n = -1 ∧ ∀ i, k ≤ i → ¬ At s t i) ∨ ∃ i : Nat, n = i ∧ k ≤ i ∧ At s t i ∧ ∀ j, k ≤ j → j < i → ¬ At s t j
def FPost (s t : ByteArray) (k : Nat) (w : World) (e : Ending) (w' : World) : Prop := (∃ n : Int, e = .returned (.int .i64 n) ∧ FNext s t k n) ∧ w' = w
theorem find_next (s t : ByteArray) (k0 : Nat) (w : World) (hs : s.size ≤ 1048576) (ht : t.size ≤ 1048576) (hk : k0 ≤ 1048577) : Calls Tryz.prog 123 #[.string s, .string t, .int .i64 k0] w (FPost s t k0 w) := find_any s t k0 w hs ht hk
theorem pT_no {s t : ByteArray} {i : Nat} (h : ¬ At s t i) : pT s t i = false := by
  cases hp : pT s t i with
  | false => rfl
  | true => exact absurd (pT_iff.1 hp) h

set_option maxRecDepth 100000 in
set_option maxHeartbeats 2000000 in
theorem where_text (nm : ByteArray) (fs : Bool) (n1 : (nm.toList == [105, 110, 100, 105, 99, 101, 115]) = false) (n2 : (nm.toList == [105, 110, 100, 101, 120]) = fs) (s t : ByteArray) (ht : t ≠ noText) (ha : asc s = true) (D : Nat → Prop) (cx cy : List Value) (w : World) (wx : (J.str s).WF) (wy : (J.str t).WF) (hx : SRep w D (.str s) cx) (hy : SRep w D (.str t) cy) :
    Calls Tryz.prog 74 #[.string nm, .agg cx.toArray, .agg cy.toArray] w (SpecPost (wAns fs (hits (pT s t) s.size)) 0 w) := by
  obtain ⟨L, K, S, rfl, hL, hK, hS⟩ := hx.cells
  obtain ⟨A1, a1, rfl⟩ := hL.form
  obtain ⟨A2, a2, rfl⟩ := hK.form
  obtain ⟨A3, a3, rfl⟩ := hS.form
  obtain ⟨L, K, S, rfl, hL', hK', hS'⟩ := hy.cells
  obtain ⟨B1, b1, rfl⟩ := hL'.form
  obtain ⟨B2, b2, rfl⟩ := hK'.form
  obtain ⟨B3, b3, rfl⟩ := hS'.form
  simp only [J.kind, J.half, J.text, J.list, J.keys, J.vals, List.length_nil]
  have hla : s.size ≤ 1048576 := by simpa only [J.WF] using wx
  have hlb : t.size ≤ 1048576 := by simpa only [J.WF] using wy
  have hb1 : 0 < t.size := by
    rcases Nat.eq_zero_or_pos t.size with h0 | h0
    · exact absurd (bytes_ext (by
        have h1 : t.data.toList.length = 0 := by simpa using h0
        rw [List.eq_nil_of_length_eq_zero h1]; rfl)) ht
    · exact h0
  have H1 := Lib.hid (fun W => ascii_any s W hla)
  rw [ha] at H1
  have HF := Lib.hid (fun k W hk => find_next s t k W hla hlb hk)
  have hE : (t.toList == ([] : List UInt8)) = false := by
    rw [beq_eq_false_iff_ne]
    intro h'
    rw [toList_data] at h'
    exact ht (bytes_ext (by rw [h']; rfl))
  obtain ⟨p, hp⟩ : ∃ p : Nat → Bool, p = pT s t := ⟨_, rfl⟩
  rw [← hp]
  obtain ⟨csx, hcsx⟩ : ∃ cs : Array Value, #[Value.int .i64 4, .int .i64 0, .string s, .slice A1 0 a1, .slice A2 0 a2, .slice A3 0 a3] = cs := ⟨_, rfl⟩
  obtain ⟨csy, hcsy⟩ : ∃ cs : Array Value, #[Value.int .i64 4, .int .i64 0, .string t, .slice B1 0 b1, .slice B2 0 b2, .slice B3 0 b3] = cs := ⟨_, rfl⟩
  have HW := Lib.hid (And.intro hcsx (And.intro hcsy hp))
  clear hx hy hL hL' hK hK' hS hS' wx wy hp ht ha hcsx hcsy
  have hz0 : (((w.alloc (.cells #[Value.int .i64 4, .int .i64 0, .string s, .slice A1 0 a1, .slice A2 0 a2, .slice A3 0 a3] 26)).alloc (.cells #[Value.int .i64 4, .int .i64 0, .string t, .slice B1 0 b1, .slice B2 0 b2, .slice B3 0 b3] 26)).alloc (.cells #[.int .i64 0, .int .i64 0, .string ⟨#[]⟩, .slice none 0 0, .slice none 0 0, .slice none 0 0] 26)) = (((w.alloc (.cells csx 26)).alloc (.cells csy 26)).alloc (.cells zsix.toArray 26)) := by rw [← HW.out.1, ← HW.out.2.1]
  obtain ⟨W0, hW1⟩ : ∃ W, (((w.alloc (.cells #[Value.int .i64 4, .int .i64 0, .string s, .slice A1 0 a1, .slice A2 0 a2, .slice A3 0 a3] 26)).alloc (.cells #[Value.int .i64 4, .int .i64 0, .string t, .slice B1 0 b1, .slice B2 0 b2, .slice B3 0 b3] 26)).alloc (.cells #[.int .i64 0, .int .i64 0, .string ⟨#[]⟩, .slice none 0 0, .slice none 0 0, .slice none 0 0] 26)) = W := ⟨_, rfl⟩
  have HR0 := Lib.hid (show WRel [] w csx csy (.slice none 0 0) W0 by rw [← hW1, hz0]; exact WRel.start w csx csy)
  have hW0 := Lib.hid hW1
  clear hz0 hW1
  change Calls Tryz.prog 74 #[.string nm, .agg #[Value.int .i64 4, .int .i64 0, .string s, .slice A1 0 a1, .slice A2 0 a2, .slice A3 0 a3], .agg #[Value.int .i64 4, .int .i64 0, .string t, .slice B1 0 b1, .slice B2 0 b2, .slice B3 0 b3]] w _
  go_enter Tryz.func74, Tryz.ntmps74
  go_wp2_with (go_at_call 122; refine (H1.out _).mono ?_; rintro e w1 ⟨rfl, rfl⟩)
  refine (HF.out 0 _ (by omega)).mono ?_
  rintro e w1 ⟨⟨n0, rfl, hn0⟩, rfl⟩
  have HN0 := Lib.hid hn0
  clear hn0 H1 hE
  go_wp2_with fail
  rw [hW0.out]
  clear hW0
  go_loopw [8, 9] (fun v i wr => ∃ (k : Nat) (n : Int) (v0 : Value), v0 = v ∧ k ≤ s.size ∧ i = .int .i64 n ∧ Hid (FNext s t k n) ∧ Hid (WRel (hits p k) w csx csy v0 wr)) (fun _ i _ => fm (intOf i) s.size)
  case atStart => exact ⟨0, n0, _, rfl, Nat.zero_le _, rfl, HN0, HR0⟩
  case round =>
    obtain ⟨k, n, v, rfl, hk, rfl, hN, hR⟩ := hrel
    clear HR0 HN0
    rcases hN.out with ⟨rfl, hno⟩ | ⟨i, rfl, hki, hat, hno⟩
    · have HR := Lib.hid (show WRel (hits p s.size) w csx csy v wr by
        rw [hits_gap hk fun j h1 h2 => by rw [HW.out.2.2]; exact pT_no (hno j h1)]; exact hR.out)
      clear hR hN hno
      have hR := HR
      clear HR
      obtain ⟨A, c, hvs⟩ := hR.out.2.2.2.2.form
      subst hvs
      have hhl := hits_length p s.size
      obtain ⟨l, hl⟩ : ∃ l, hits p s.size = l := ⟨_, rfl⟩
      rw [hl] at hR hhl ⊢
      have HL := Lib.hid hl
      have hbx := hR.out.2.2.2.1
      have r0 : wr.cell? ⟨w.heap.size + 1 + 1, 0, none⟩ = _ := box_cell hbx 0
      have r1 : wr.cell? ⟨w.heap.size + 1 + 1, 1, none⟩ = _ := box_cell hbx 1
      have r2 : wr.cell? ⟨w.heap.size + 1 + 1, 2, none⟩ = _ := box_cell hbx 2
      have r3 : wr.cell? ⟨w.heap.size + 1 + 1, 3, none⟩ = _ := box_cell hbx 3
      have r4 : wr.cell? ⟨w.heap.size + 1 + 1, 4, none⟩ = _ := box_cell hbx 4
      have r5 : wr.cell? ⟨w.heap.size + 1 + 1, 5, none⟩ = _ := box_cell hbx 5
      have fz := box_frozen hbx
      have hlt := box_lt hbx
      clear hbx
      cases l with
      | nil =>
        simp only [List.length_nil]
        go_wp2_with fail
        refine bodyPost_ret (v := .tuple #[.agg zsix.toArray, .int .i64 0]) (by simp [results, Tryz.results74, go_sem, zsix, r0, r1, r2, r3, r4, r5]) rfl ?_
        refine spec_set (zsix_rep wr _) (by simp [World.setCell]) (fun b hb => by iterate 6 rw [heap_setCell_other _ _ _ _ hb]) (by
          repeat (refine Below.setCell ?_ (by simp; omega) _)
          exact hR.out.1) ?_
        rw [HL.out]; cases fs <;> rfl
      | cons b0 l0 =>
        obtain ⟨m, hm⟩ : ∃ m, (b0 :: l0).length = m + 1 := ⟨l0.length, rfl⟩
        rw [hm] at hhl ⊢
        have HM := Lib.hid hm
        have hsl := hR.out.2.2.2.2.sl (D := fun b => w.heap.size + 3 ≤ b ∧ b < wr.heap.size) (fun b h1 h2 => ⟨h1, h2⟩) (fun b h1 h2 => ⟨h1, h2⟩)
        obtain ⟨A', c', he, -, -, hr⟩ := hsl
        obtain ⟨b, o, hA, hb, hrow⟩ := hr (by simp)
        rw [hA] at he
        obtain ⟨rfl, -, rfl⟩ := Value.slice.inj he
        have HROW := Lib.hid (And.intro hb hrow)
        clear hl hm he hr hA hb hrow
        cases fs
        · obtain ⟨cs, hcs, hrep⟩ := Row.get (i := m) HROW.out.2 (x := (b0 :: l0)[m]'(by rw [HM.out]; omega)) (List.getElem?_eq_getElem _)
          simp only [EJ] at hcs hrep
          obtain ⟨j, hj⟩ : ∃ j, (b0 :: l0)[m]'(by rw [HM.out]; omega) = j := ⟨_, rfl⟩
          rw [hj] at hrep
          have HJ := Lib.hid (And.intro hj hrep)
          obtain ⟨E1, e1, E2, e2, E3, e3, rfl⟩ := SRep.six hrep
          have s0 : wr.cell? ⟨b, o + m * 6, none⟩ = _ := hcs 0 _ rfl
          have s1 := hcs 1 _ rfl
          have s2 := hcs 2 _ rfl
          have s3 := hcs 3 _ rfl
          have s4 := hcs 4 _ rfl
          have s5 := hcs 5 _ rfl
          clear hj hrep hcs
          go_wp2_with fail
          refine bodyPost_ret (v := .tuple #[.agg #[.int .i64 j.kind, .int .i64 j.half, .string j.text, .slice E1 j.list.length e1, .slice E2 j.keys.length e2, .slice E3 j.vals.length e3], .int .i64 0]) (by simp [results, Tryz.results74, go_sem, r0, r1, r2, r3, r4, r5]) rfl ?_
          refine spec_set HJ.out.2 (by simp [World.setCell]) (fun b hb => by iterate 6 rw [heap_setCell_other _ _ _ _ hb]) (by
            repeat (refine Below.setCell ?_ (by simp; omega) _)
            exact hR.out.1) ?_
          rw [HL.out]
          unfold wAns
          rw [HM.out]
          simp only [Bool.false_eq_true, if_false, Nat.add_sub_cancel]
          rw [List.getElem?_eq_getElem (by rw [HM.out]; omega), HJ.out.1]
          rfl
        · obtain ⟨cs, hcs, hrep⟩ := Row.get (i := 0) HROW.out.2 (x := (b0 :: l0)[0]'(by rw [HM.out]; omega)) (List.getElem?_eq_getElem _)
          simp only [EJ] at hcs hrep
          simp only [Nat.zero_mul, Nat.add_zero] at hcs
          obtain ⟨j, hj⟩ : ∃ j, (b0 :: l0)[0]'(by rw [HM.out]; omega) = j := ⟨_, rfl⟩
          rw [hj] at hrep
          have HJ := Lib.hid (And.intro hj hrep)
          obtain ⟨E1, e1, E2, e2, E3, e3, rfl⟩ := SRep.six hrep
          have s0 : wr.cell? ⟨b, o, none⟩ = _ := hcs 0 _ rfl
          have s1 := hcs 1 _ rfl
          have s2 := hcs 2 _ rfl
          have s3 := hcs 3 _ rfl
          have s4 := hcs 4 _ rfl
          have s5 := hcs 5 _ rfl
          clear hj hrep hcs
          go_wp2_with fail
          refine bodyPost_ret (v := .tuple #[.agg #[.int .i64 j.kind, .int .i64 j.half, .string j.text, .slice E1 j.list.length e1, .slice E2 j.keys.length e2, .slice E3 j.vals.length e3], .int .i64 0]) (by simp [results, Tryz.results74, go_sem, r0, r1, r2, r3, r4, r5]) rfl ?_
          refine spec_set HJ.out.2 (by simp [World.setCell]) (fun b hb => by iterate 6 rw [heap_setCell_other _ _ _ _ hb]) (by
            repeat (refine Below.setCell ?_ (by simp; omega) _)
            exact hR.out.1) ?_
          rw [HL.out, ← HJ.out.1]
          rfl
    · have hi : i + t.size ≤ s.size := hat.1
      have HH := Lib.hid (show hits p (i + 1) = hits p k ++ [.num (2 * (i : Int))] by
        rw [hits, hits_gap hki fun j h1 h2 => by rw [HW.out.2.2]; exact pT_no (hno j h1 h2), show p i = true by rw [HW.out.2.2]; exact pT_iff.2 hat]; rfl)
      clear hN hno hat
      have hhl := hits_length p k
      go_wp2_with fail
      refine (Num_any i _ (by omega) (by omega)).mono ?_
      rintro e w2 ⟨rfl, hb2⟩
      have HST := Lib.hid (hR.out.step hb2 (x := .num (2 * (i : Int))) (fun W D => srep_num W D _))
      have HB2 := Lib.hid hb2
      clear hb2
      go_wp2_with (at_builtin; refine wpList_append_G rfl (.tmp 57) (.tmp 60) 23 rfl EJ Tryz.under23 (w.heap.size + 3) _ (hits p k) [.num (2 * (i : Int))] v _ rfl rfl HST.out.1 HST.out.2.1 ?c1 ?c2 HST.out.2.2 ?_)
      case c1 => simp [maxLen]; omega
      case c2 => simp [EJ]; omega
      intro v' w3 hg hgb _
      have HK := Lib.hid (show WRel (hits p (i + 1)) w csx csy v' w3 by
        rw [HH.out]; exact hR.out.grow HB2.out hg hgb)
      clear hg hgb HST HB2 hR HH hhl
      have hbx := HK.out.2.1
      rw [← HW.out.1] at hbx
      have hby := HK.out.2.2.1
      rw [← HW.out.2.1] at hby
      have q2 : w3.cell? ⟨w.heap.size, 2, none⟩ = _ := box_cell hbx 2
      have qy2 : w3.cell? ⟨w.heap.size + 1, 2, none⟩ = _ := box_cell hby 2
      have hlt := box_lt hby
      clear hbx hby
      have HG := Lib.hid (HF.out (i + 1) w3 (by omega))
      rw [show (((i + 1 : Nat) : Int)) = (i : Int) + 1 by omega] at HG
      go_wp2_with fail
      refine HG.out.mono ?_
      rintro e w4 ⟨⟨n', rfl, hn'⟩, rfl⟩
      have HN' := Lib.hid hn'
      have hms : fm n' s.size < fm i s.size := by
        unfold fm
        rw [if_neg (show ¬ (i : Int) < 0 by omega)]
        rcases hn' with ⟨rfl, -⟩ | ⟨i', rfl, h1, h2, -⟩
        · rw [if_pos (by omega)]; omega
        · have := h2.1
          rw [if_neg (by omega)]
          omega
      have HM := Lib.hid hms
      clear hn' HG q2 qy2 hms
      go_wp2_with fail
      go_roundw
      case rel => exact ⟨i + 1, n', v', rfl, by omega, rfl, HN', HK⟩
      case measure => exact HM.out
end Go.Proofs.YtfhppajnnbbcjaaGreatDoor
end

section
namespace Go.Proofs.YtfhppajnnbbcjaaGreatDoor
open Go

section
variable {P : Program} {ops : Array Oper} {Q : Exit → Act → World → Prop} {md : Region.Mode}

/-- no operation waits for a later one -/
def lexB (md : Region.Mode) (ops : Array Oper) : Bool := (List.range ops.size).all fun i => match ops[i]? with
  | some o => o.after.all fun e => !Region.binds md e || decide (e.on < i)
  | none => true

theorem lexB_spec (h : lexB md ops = true) {i : Nat} {o : Oper} (ho : ops[i]? = some o) : ∀ e ∈ o.after, Region.binds md e = true → e.on < i := by
  intro e he hb
  have hi : i < ops.size := (Array.getElem?_eq_some_iff.1 ho).1
  have h1 := List.all_eq_true.1 h i (List.mem_range.2 hi)
  rw [ho] at h1
  have h2 := Array.all_eq_true_iff_forall_mem.1 h1 e he
  simpa [hb] using h2

/-- an operation of which all that it waits for has come up -/
theorem some_ready (hx : lexB md ops = true) {listed : Array Bool} : ∀ (i : Nat), i < ops.size → listed.getD i true = false → listed.size = ops.size → Region.ready md ops listed ≠ [] := by
  intro i
  induction i using Nat.strongRecOn with
  | _ i ih =>
    intro hi hun hsz hr
    obtain ⟨o, ho⟩ : ∃ o, ops[i]? = some o := ⟨_, Array.getElem?_eq_getElem hi⟩
    by_cases hall : ∀ e ∈ o.after, Region.binds md e = true → listed.getD e.on false = true
    · have : i ∈ Region.ready md ops listed := mem_ready.2 ⟨hun, o, ho, hall⟩
      rw [hr] at this
      cases this
    · apply hall
      intro e he hb
      have hlt := lexB_spec hx ho e he hb
      cases hl : listed.getD e.on false with
      | true => rfl
      | false => exact absurd hr (ih e.on hlt (by omega) (getD_in (by omega) hl) hsz)

def tailB (md : Region.Mode) (ops : Array Oper) (n : Nat) : Bool :=
  lexB md ops && decide (n < ops.size) && Region.sinkB md ops n && Region.chainB md ops n && Region.seqB md ops (ops.size - n) n (Array.replicate n true ++ Array.replicate (ops.size - n) false)

theorem countP_set {listed : Array Bool} {i n : Nat} (hi : i < n) (hun : listed.getD i true = false) (hsz : i < listed.size) :
    (List.range n).countP (fun j => !listed.getD j true) = (List.range n).countP (fun j => !(listed.setIfInBounds i true).getD j true) + 1 := by
  induction n with
  | zero => omega
  | succ n ih =>
    rw [List.range_succ, List.countP_append, List.countP_append]
    by_cases h : i = n
    · subst h
      have e1 : (List.range i).countP (fun j => !(listed.setIfInBounds i true).getD j true) = (List.range i).countP (fun j => !listed.getD j true) := by
        apply List.countP_congr
        intro j hj
        have : i ≠ j := by have := List.mem_range.1 hj; omega
        rw [getD_set_ne true this]
      have e2 : (listed.setIfInBounds i true).getD i true = true := by simp [hsz]
      rw [e1, List.countP_singleton, List.countP_singleton, hun, e2]
      simp
    · rw [ih (by omega), List.countP_singleton, List.countP_singleton, getD_set_ne true h]
      omega

abbrev Done (listed : Array Bool) : Nat → Prop := fun j => listed.getD j false = true

theorem wpAny_rg {n : Nat} (hB : tailB md ops n = true) (I : (Nat → Prop) → Act → World → Prop)
    (hstep : ∀ i, i < n → ∀ o, ops[i]? = some o → ∀ (d : Nat → Prop) a w, ¬ d i → (∀ e ∈ o.after, Region.binds md e = true → d e.on) → I d a w → wpOp P ops Q i (fun a' w' => I (fun j => d j ∨ j = i) a' w') a w)
    (hend : ∀ a w, I (fun j => j < n) a w → wpList P ops Q (ops.toList.drop n) a w) :
    ∀ (c : Nat) (listed : Array Bool) (a : Act) (w : World), HeadInv md ops n listed → (List.range n).countP (fun i => !listed.getD i true) = c → I (Done listed) a w → wpAny P md ops Q (c + (ops.size - n)) listed a w := by
  simp only [tailB, Bool.and_eq_true, decide_eq_true_eq] at hB
  obtain ⟨⟨⟨⟨hx, hn⟩, hs⟩, hc⟩, hseq⟩ := hB
  intro c
  induction c with
  | zero =>
    intro listed a w inv h0 hI
    have hall : ∀ i, i < n → listed.getD i true = true := fun i hi => by
      have := List.countP_eq_zero.1 h0 i (List.mem_range.2 hi)
      simpa using this
    have hall' : ∀ i, i < n → listed.getD i false = true := fun i hi => by
      have h1 := hall i hi
      have : i < listed.size := by rw [inv.size]; omega
      simp [this] at h1 ⊢
      exact h1
    have e : listed = Array.replicate n true ++ Array.replicate (ops.size - n) false := by
      apply Array.ext
      · simp [inv.size]; omega
      · intro i h1 h2
        by_cases hi : i < n
        · have := hall' i hi
          simp [h1] at this
          rw [this, Array.getElem_append_left (by simpa using hi)]
          simp
        · have := inv.tail i (by omega) (by rw [inv.size] at h1; exact h1)
          simp [h1] at this
          rw [this, Array.getElem_append_right (by simp; omega)]
          simp
    have ed : Done listed = fun j => j < n := by
      funext j
      apply propext
      constructor
      · intro hj
        apply Classical.byContradiction
        intro hjn
        by_cases hj' : j < ops.size
        · have := getD_both (inv.tail j (by omega) hj')
          rw [show listed.getD j false = true from hj] at this
          cases this
        · have hj2 : listed.getD j false = true := hj
          rw [show listed.getD j false = false by simp [Array.getElem?_eq_none (show listed.size ≤ j by rw [inv.size]; omega)]] at hj2
          cases hj2
      · exact hall' j
    rw [ed] at hI
    have hlen : (ops.toList.drop n).length = ops.size - n := by simp
    rw [Nat.zero_add, ← hlen]
    refine wpAny_of_seq (ops.toList.drop n) n listed a w (fun j => by simp) ?_ (hend a w hI)
    rw [hlen, e]
    exact hseq
  | succ c ih =>
    intro listed a w inv h0 hI
    obtain ⟨i, hi, hun⟩ : ∃ i, i < n ∧ listed.getD i true = false := by
      have : 0 < (List.range n).countP (fun i => !listed.getD i true) := by omega
      obtain ⟨i, hi, hp⟩ := List.countP_pos_iff.1 this
      exact ⟨i, List.mem_range.1 hi, by simpa using hp⟩
    rw [show c + 1 + (ops.size - n) = (c + (ops.size - n)) + 1 by omega]
    refine ⟨fun h => absurd h (some_ready hx i (by omega) hun inv.size), fun j hj => ?_⟩
    have hjn : j < n := by
      rcases Nat.lt_or_ge j n with h | h
      · exact h
      · exact absurd hj (tail_waits hs hc hn inv _ i rfl hi hun j h)
    obtain ⟨hjun, oj, hoj, hall⟩ := mem_ready.1 hj
    refine wpOp_mono (fun a' w' h' => ?_) (hstep j hjn oj hoj (Done listed) a w (by rw [show Done listed j = (listed.getD j false = true) from rfl, getD_both hjun]; simp) hall hI)
    have hjs : j < listed.size := by rw [inv.size]; exact (Array.getElem?_eq_some_iff.1 hoj).1
    refine ih _ a' w' (inv.set hj hjn) (by have := countP_set hjn hjun hjs; omega) ?_
    have : (fun k => Done listed k ∨ k = j) = Done (listed.setIfInBounds j true) := by
      funext k
      apply propext
      by_cases hk : j = k
      · subst hk
        simp [hjs]
      · have : ¬ k = j := fun e => hk e.symm
        simp only [Done, getD_set_ne false hk, this, or_false]
    rw [← this]
    exact h'

/-- all of a list's operations, each with its number -/
def AllSteps (S : Nat → Oper → Prop) : Nat → List Oper → Prop
  | _, [] => True
  | k, o :: l => S k o ∧ AllSteps S (k + 1) l

theorem AllSteps.get {S : Nat → Oper → Prop} : ∀ {l : List Oper} {k i : Nat} {o : Oper}, AllSteps S k l → l[i]? = some o → S (k + i) o
  | [], _, _, _, _, h => by simp at h
  | a :: l, k, 0, o, hS, h => by simp at h; subst h; exact hS.1
  | a :: l, k, i + 1, o, hS, h => by
    have := AllSteps.get (i := i) hS.2 (by simpa using h)
    rwa [show k + (i + 1) = k + 1 + i by omega]

/-- what an operation has to show -/
def StepOK (P : Program) (Q : Exit → Act → World → Prop) (l : List Oper) (I : (Nat → Prop) → Act → World → Prop) (i : Nat) (o : Oper) : Prop :=
  ∀ (d : Nat → Prop) (a : Act) (w : World), ¬ d i → (∀ e ∈ o.after.toList, Region.binds .any e = true → d e.on) → I d a w → ∀ K : Act → World → Prop, (∀ a' w', I (fun j => d j ∨ j = i) a' w' → K a' w') →
    if Region.wanted o (yielded l.toArray a.tmps) = true then o.wp P a w K Q else K (a.put o.dst undef) w

theorem wp_region_rg {id : Nat} {a : Act} {w : World} {l : List Oper} (n : Nat) (hm : P.follows .mixedOrders = true) (hB : tailB .any l.toArray n = true) (I : (Nat → Prop) → Act → World → Prop)
    (h0 : I (fun _ => False) a w.drew) (hstep : AllSteps (StepOK P Q l I) 0 (l.take n)) (hend : ∀ a w, I (fun j => j < n) a w → wpList P l.toArray Q (l.drop n) a w) : (Code.region id l.toArray true).wp P Q a w := by
  have hn : n < l.toArray.size := by
    simp only [tailB, Bool.and_eq_true, decide_eq_true_eq] at hB
    exact hB.1.1.1.2
  refine wp_region_any hm ?_
  have inv0 : HeadInv .any l.toArray n (Array.replicate l.toArray.size false) :=
    ⟨by simp, fun j oj _ hl => (by rw [getD_replicate_false] at hl; cases hl), fun t _ ht => getD_in (by simpa using ht) (getD_replicate_false _ _)⟩
  have hcnt : (List.range n).countP (fun i => !(Array.replicate l.toArray.size false).getD i true) = n := by
    rw [List.countP_eq_length.2, List.length_range]
    intro i hi
    have hi' : i < l.length := by have := List.mem_range.1 hi; have : l.toArray.size = l.length := by simp
                                  omega
    simp [hi']
  have h := wpAny_rg (Q := Q) hB I (fun i hi o ho d a w hd hdeps hI => by
    have ho' : (l.take n)[i]? = some o := by rw [List.getElem?_take, if_pos hi]; simpa using ho
    have hs := hstep.get ho'
    rw [Nat.zero_add] at hs
    have := hs d a w hd (fun e he => hdeps e (by simpa using he)) hI _ (fun _ _ h => h)
    unfold wpOp
    rw [ho]
    simp only
    split
    · rename_i hw; rw [if_pos hw] at this; exact .inl this
    · rename_i hw; rw [if_neg hw] at this; exact this) (by simpa using hend) n _ a w.drew inv0 hcnt (by
    have : Done (Array.replicate l.toArray.size false) = fun _ => False := by
      funext j
      apply propext
      simp only [Done, getD_replicate_false, iff_false]
      simp
    rw [this]
    exact h0)
  rwa [show n + (l.toArray.size - n) = l.toArray.size by omega] at h

/-- number i's value set -/
def upd (xs : Nat → Value) (i : Nat) (v : Value) : Nat → Value := fun j => if j = i then v else xs j

/-- the frame by the values of the region's operations -/
def frameOf (a0 : Act) : Nat → List Oper → (Nat → Value) → Act
  | _, [], _ => a0
  | k, o :: l, xs => (frameOf a0 (k + 1) l xs).put o.dst (xs k)

theorem frameOf_agree (a : Act) : ∀ (l : List Oper) (k : Nat) (xs ys : Nat → Value), (∀ i, k ≤ i → xs i = ys i) → frameOf a k l xs = frameOf a k l ys
  | [], _, _, _, _ => rfl
  | o :: l, k, xs, ys, h => by
    rw [frameOf, frameOf, frameOf_agree a l (k + 1) xs ys (fun i hi => h i (by omega)), h k (Nat.le_refl _)]

theorem frameOf_self (a : Act) : ∀ (l : List Oper) (k : Nat), ∃ xs, a = frameOf a k l xs
  | [], _ => ⟨fun _ => undef, rfl⟩
  | o :: l, k => by
    obtain ⟨xs, h⟩ := frameOf_self a l (k + 1)
    cases hd : o.dst with
    | none => exact ⟨xs, by rw [frameOf, hd]; exact h⟩
    | some t =>
      refine ⟨upd xs k (a.tmps.getD t undef), ?_⟩
      rw [frameOf, frameOf_agree a l (k + 1) _ xs (fun i hi => by simp [upd]; omega), ← h, hd]
      have : upd xs k (a.tmps.getD t undef) k = a.tmps.getD t undef := by simp [upd]
      rw [this]
      obtain ⟨tm, df⟩ := a
      unfold Act.put
      congr 1
      apply Array.ext
      · simp
      · intro i h1 h2
        by_cases hi : t = i
        · subst hi; simp [h1]
        · exact (Array.getElem_setIfInBounds_ne (by simpa using h1) hi).symm

/-- what an operation has to show, the invariant taken apart: the world (G), what each value that has been found is good for (F) -/
def StepRG (P : Program) (Q : Exit → Act → World → Prop) (l : List Oper) (frame : (Nat → Value) → Act) (G : World → Prop) (F : (Nat → Prop) → Nat → Value → World → Prop) (i : Nat) (o : Oper) : Prop :=
  ∀ (xs : Nat → Value) (d : Nat → Prop) (w : World), ¬ d i → (∀ e ∈ o.after.toList, Region.binds .any e = true → d e.on) → G w → (∀ j, d j → F d j (xs j) w) → ∀ K : Act → World → Prop,
    (∀ a' v w', a' = (frame xs).put o.dst v → G w' → (∀ j u, j ≠ i → d j → F d j u w → F (fun j => d j ∨ j = i) j u w') → F (fun j => d j ∨ j = i) i v w' → K a' w') →
    if Region.wanted o (yielded l.toArray (frame xs).tmps) = true then o.wp P (frame xs) w K Q else K ((frame xs).put o.dst undef) w

theorem wp_region_RG {id : Nat} {a : Act} {w : World} {l : List Oper} (n : Nat) (hm : P.follows .mixedOrders = true) (hB : tailB .any l.toArray n = true) (G : World → Prop) (F : (Nat → Prop) → Nat → Value → World → Prop) 
    (hcomm : AllSteps (fun i o => ∀ xs v, (frameOf a 0 (l.take n) xs).put o.dst v = frameOf a 0 (l.take n) (upd xs i v)) 0 (l.take n)) (hG : G w.drew)
    (hstep : AllSteps (StepRG P Q l (frameOf a 0 (l.take n)) G F) 0 (l.take n))
    (hend : ∀ xs w, G w → (∀ j, j < n → F (fun j => j < n) j (xs j) w) → wpList P l.toArray Q (l.drop n) (frameOf a 0 (l.take n) xs) w) : (Code.region id l.toArray true).wp P Q a w := by
  have key : ∀ (k : Nat) (m : List Oper), AllSteps (fun i o => ∀ xs v, (frameOf a 0 (l.take n) xs).put o.dst v = frameOf a 0 (l.take n) (upd xs i v)) k m → AllSteps (StepRG P Q l (frameOf a 0 (l.take n)) G F) k m →
      AllSteps (StepOK P Q l fun d a' w' => ∃ xs, a' = frameOf a 0 (l.take n) xs ∧ G w' ∧ ∀ j, d j → F d j (xs j) w') k m := by
    intro k m
    induction m generalizing k with
    | nil => intro _ _; trivial
    | cons o m ih =>
      intro h1 h2
      refine ⟨?_, ih (k + 1) h1.2 h2.2⟩
      rintro d a' w' hd hdeps ⟨xs, rfl, hg, hF⟩ K hK
      refine h2.1 xs d w' hd hdeps hg hF K fun a2 v w2 ha2 hg2 hk hv => hK _ _ ⟨upd xs k v, ha2.trans (h1.1 xs v), hg2, fun j hj => ?_⟩
      by_cases e : j = k
      · subst e
        have : upd xs j v j = v := by simp [upd]
        rw [this]
        exact hv
      · have : upd xs k v j = xs j := by simp [upd, e]
        rw [this]
        exact hk j _ e (hj.resolve_right e) (hF j (hj.resolve_right e))
  obtain ⟨xs0, ha⟩ := frameOf_self a (l.take n) 0
  refine wp_region_rg n hm hB _ ⟨xs0, ha, hG, fun j hj => hj.elim⟩ (key 0 _ hcomm hstep) ?_
  rintro a' w' ⟨xs, rfl, hg, hF⟩
  exact hend xs w' hg hF

/-- the same, where what a value is good for may depend on the others -/
def StepRGX (P : Program) (Q : Exit → Act → World → Prop) (l : List Oper) (frame : (Nat → Value) → Act) (G : World → Prop) (F : (Nat → Prop) → (Nat → Value) → Nat → World → Prop) (i : Nat) (o : Oper) : Prop :=
  ∀ (xs : Nat → Value) (d : Nat → Prop) (w : World), ¬ d i → (∀ e ∈ o.after.toList, Region.binds .any e = true → d e.on) → G w → (∀ j, d j → F d xs j w) → ∀ K : Act → World → Prop,
    (∀ a' v w', a' = (frame xs).put o.dst v → G w' → (∀ j, j ≠ i → d j → F d xs j w → F (fun j => d j ∨ j = i) (upd xs i v) j w') → F (fun j => d j ∨ j = i) (upd xs i v) i w' → K a' w') →
    if Region.wanted o (yielded l.toArray (frame xs).tmps) = true then o.wp P (frame xs) w K Q else K ((frame xs).put o.dst undef) w

theorem wp_region_RGX {id : Nat} {a : Act} {w : World} {l : List Oper} (n : Nat) (hm : P.follows .mixedOrders = true) (hB : tailB .any l.toArray n = true) (G : World → Prop) (F : (Nat → Prop) → (Nat → Value) → Nat → World → Prop) 
    (hcomm : AllSteps (fun i o => ∀ xs v, (frameOf a 0 (l.take n) xs).put o.dst v = frameOf a 0 (l.take n) (upd xs i v)) 0 (l.take n)) (hG : G w.drew)
    (hstep : AllSteps (StepRGX P Q l (frameOf a 0 (l.take n)) G F) 0 (l.take n))
    (hend : ∀ xs w, G w → (∀ j, j < n → F (fun j => j < n) xs j w) → wpList P l.toArray Q (l.drop n) (frameOf a 0 (l.take n) xs) w) : (Code.region id l.toArray true).wp P Q a w := by
  have key : ∀ (k : Nat) (m : List Oper), AllSteps (fun i o => ∀ xs v, (frameOf a 0 (l.take n) xs).put o.dst v = frameOf a 0 (l.take n) (upd xs i v)) k m → AllSteps (StepRGX P Q l (frameOf a 0 (l.take n)) G F) k m →
      AllSteps (StepOK P Q l fun d a' w' => ∃ xs, a' = frameOf a 0 (l.take n) xs ∧ G w' ∧ ∀ j, d j → F d xs j w') k m := by
    intro k m
    induction m generalizing k with
    | nil => intro _ _; trivial
    | cons o m ih =>
      intro h1 h2
      refine ⟨?_, ih (k + 1) h1.2 h2.2⟩
      rintro d a' w' hd hdeps ⟨xs, rfl, hg, hF⟩ K hK
      refine h2.1 xs d w' hd hdeps hg hF K fun a2 v w2 ha2 hg2 hk hv => hK _ _ ⟨upd xs k v, ha2.trans (h1.1 xs v), hg2, fun j hj => ?_⟩
      by_cases e : j = k
      · subst e
        exact hv
      · exact hk j e (hj.resolve_right e) (hF j (hj.resolve_right e))
  obtain ⟨xs0, ha⟩ := frameOf_self a (l.take n) 0
  refine wp_region_rg n hm hB _ ⟨xs0, ha, hG, fun j hj => hj.elim⟩ (key 0 _ hcomm hstep) ?_
  rintro a' w' ⟨xs, rfl, hg, hF⟩
  exact hend xs w' hg hF

end

end Go.Proofs.YtfhppajnnbbcjaaGreatDoor
end
