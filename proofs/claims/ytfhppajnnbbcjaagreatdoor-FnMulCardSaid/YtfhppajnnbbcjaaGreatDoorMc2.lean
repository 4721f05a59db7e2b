/- Walks: spec.place, spec.Get. -/
import Derived.Test.YtfhppajnnbbcjaaGreatDoorMc1
import Derived.Test.YtfhppajnnbbcjaaGreatDoorMa2
import Derived.Test.YtfhppajnnbbcjaaGreatDoorGy6
namespace Go.Proofs.YtfhppajnnbbcjaaGreatDoor
open Go.RowKit

set_option maxRecDepth 100000 in
set_option maxHeartbeats 1000000 in
theorem place_any (x : J) (k : ByteArray) (D : Nat → Prop) (cm : List Value) (w : World) (hD : ∀ b, D b → All w b) (hm : SRep w D x cm) (hn : x.keys.length ≤ 4194304) :
    Calls Tryz.prog 135 #[.agg cm.toArray, .string k] w fun e w' => e = .returned (.tuple #[.int .i64 (plc k x.keys : Nat), .bool (isAt k x.keys)]) ∧ Below w.heap.size w w' := by
  obtain ⟨L, K, S, rfl, hL, hK, hS⟩ := hm.cells
  obtain ⟨A2, c2, rfl, hc2, hm2, hr2⟩ := hK
  obtain ⟨A1, c1, rfl⟩ := hL.form
  obtain ⟨A3, c3, rfl⟩ := hS.form
  clear hL hS hm
  generalize x.keys = ks at *
  unfold maxLen at hm2
  have hkb : -1000 ≤ x.kind ∧ x.kind ≤ 1000 := by have := kind_bd x; omega
  have hb0 : Below w.heap.size w (w.alloc (.cells #[Value.int .i64 x.kind, .int .i64 x.half, .string x.text, .slice A1 x.list.length c1, .slice A2 ks.length c2, .slice A3 x.vals.length c3] 26)) := (Below.refl _ _).alloc (Nat.le_refl _) _
  have hnew := heap_alloc_new w (.cells #[Value.int .i64 x.kind, .int .i64 x.half, .string x.text, .slice A1 x.list.length c1, .slice A2 ks.length c2, .slice A3 x.vals.length c3] 26)
  have hrow : ∀ (j : Nat) (s : ByteArray), ks[j]? = some s → ∃ b o, A2 = some ⟨b, o, none⟩ ∧ (w.alloc (.cells #[Value.int .i64 x.kind, .int .i64 x.half, .string x.text, .slice A1 x.list.length c1, .slice A2 ks.length c2, .slice A3 x.vals.length c3] 26)).cell? ⟨b, o + j, none⟩ = some (.string s) := fun j s hj => by
    obtain ⟨b, o, hA, hb, hr⟩ := hr2 (by have := (List.getElem?_eq_some_iff.1 hj).1; omega)
    exact ⟨b, o, hA, (hb0.cell (p := ⟨b, o + j, none⟩) (hD b hb)).trans (hr j s hj)⟩
  have HR := Lib.hid hrow
  have HB := Lib.hid hb0
  clear hrow hb0 hr2 hD
  go_enter Tryz.func135, Tryz.ntmps135
  go_wp2_with fail
  generalize w.alloc _ = W0 at *
  have q4 : W0.cell? ⟨w.heap.size, 4, none⟩ = some (.slice A2 ks.length c2) := box_cell hnew 4
  clear hnew
  go_loopw [6] (fun i wr => ∃ j : Nat, Hid (j ≤ plc k ks) ∧ i = .int .i64 j ∧ Hid (wr = W0)) (fun i _ => ks.length - (intOf i).toNat)
  case atStart => exact ⟨0, Lib.hid (Nat.zero_le _), rfl, Lib.hid rfl⟩
  case round =>
    obtain ⟨j, hj, rfl, hw⟩ := hrel
    obtain rfl := hw.out
    clear hw
    have hle := plc_le k ks
    have hj0 := hj.out
    by_cases ha : j < ks.length
    · obtain ⟨s, hs⟩ : ∃ s, ks[j]? = some s := ⟨_, List.getElem?_eq_getElem ha⟩
      obtain ⟨b, o, rfl, hcell⟩ := HR.out j s hs
      by_cases hlt : cmpB s k < 0
      · have hbl : Op.bytesLess s.toList k.toList = true := by rw [toList_data, toList_data]; exact cmpB_lt_iff.1 hlt
        have HN := Lib.hid (plc_step hj0 hs hlt)
        clear hs hlt hj0 hle
        go_wp2_with fail
        go_roundw
        case rel => exact ⟨j + 1, HN, by go_num, trivial⟩
        case measure => simp [intOf]; omega
      · have hbl : Op.bytesLess s.toList k.toList = false := by
          rw [toList_data, toList_data]
          cases h : Op.bytesLess s.data.toList k.data.toList with
          | true => exact absurd (cmpB_lt_iff.2 h) hlt
          | false => rfl
        have HP := Lib.hid (plc_stop hj0 (fun s' hs' => by rw [hs] at hs'; obtain rfl := Option.some.inj hs'; exact hlt))
        have HS := Lib.hid hs
        clear hs hlt hj0 hle hj
        by_cases he : s = k
        · subst he
          have HA := Lib.hid (show isAt s ks = true by unfold isAt; rw [← HP.out, HS.out]; simp)
          go_wp2_with fail
          go_quiet (fail)
          go_wp2_with fail
          go_ret2
          exact ⟨by rw [← HP.out, HA.out] <;> rfl, below_drewN HB.out _⟩
        · have HA := Lib.hid (show isAt k ks = false by unfold isAt; rw [← HP.out, HS.out]; simpa using he)
          have hse : (s.toList == k.toList) = false := by
            rw [toList_data, toList_data]
            cases h : (s.data.toList == k.data.toList) with
            | true => exact absurd (bytes_ext (by simpa using h)) he
            | false => rfl
          go_wp2_with fail
          go_quiet (fail)
          go_wp2_with fail
          go_ret2
          exact ⟨by rw [← HP.out, HA.out] <;> rfl, below_drewN HB.out _⟩
    · have hjl : j = ks.length := by omega
      have HP := Lib.hid (plc_stop hj0 (fun s' hs' => by have := (List.getElem?_eq_some_iff.1 hs').1; omega))
      have HA := Lib.hid (show isAt k ks = false by unfold isAt; rw [← HP.out, hjl]; simp)
      clear hj0 hle hj
      go_wp2_with fail
      go_quiet (fail)
      go_wp2_with fail
      go_ret2
      exact ⟨by rw [← HP.out, HA.out] <;> rfl, below_drewN HB.out _⟩

theorem alloc2c {w W0 : World} {o1 o2 : Obj} (h : (w.alloc o1).alloc o2 = W0) : Below w.heap.size w W0 ∧ W0.heap.size = w.heap.size + 2 ∧ W0.heap[w.heap.size]? = some o1 ∧ W0.heap[w.heap.size + 1]? = some o2 := by
  subst h
  refine ⟨((Below.refl _ _).alloc (Nat.le_refl _) _).alloc (by simp) _, by simp, ?_, ?_⟩
  · rw [Below.heap_alloc _ _ _ (by simp)]; exact heap_alloc_new _ _
  · exact heap_alloc_new1 _ _ _

/-- what stands at a key -/
def getV (k : ByteArray) (ks : List ByteArray) (vs : List J) : J := (lookV k ks vs).getD .null

/-- an answer that is a value made of what was there and of what is new -/
def ValD (j : J) (D : Nat → Prop) (w : World) (e : Ending) (w' : World) : Prop := ∃ cs, e = .returned (.agg cs.toArray) ∧ SRep w' (fun b => D b ∨ Fresh w w' b) j cs ∧ Below w.heap.size w w'

/-- .. that is a part of what was there -/
def ValG (j : J) (D : Nat → Prop) (w : World) (e : Ending) (w' : World) : Prop := ∃ cs, e = .returned (.agg cs.toArray) ∧ SRep w D j cs ∧ Below w.heap.size w w'

set_option maxRecDepth 100000 in
set_option maxHeartbeats 1000000 in
theorem get_any (ks : List ByteArray) (vs : List J) (k : ByteArray) (D : Nat → Prop) (cm : List Value) (w : World) (hl : ks.length = vs.length) (hs : SortedK ks) (hn : ks.length ≤ 4194304) (hD : ∀ b, D b → All w b) (hm : SRep w D (.obj ks vs) cm) :
    Calls Tryz.prog 117 #[.agg cm.toArray, .string k] w (ValG (getV k ks vs) D w) := by
  have hk : ∀ W, Below w.heap.size w W → SRep W D (.obj ks vs) cm := fun W hb => VRep.keep (Same.of_below hb hD) (fun _ h => h) _ _ hm
  have HC := Lib.hid (fun W (hW : Below w.heap.size w W) => place_any (.obj ks vs) k D cm W (fun b hb => Nat.lt_of_lt_of_le (hD b hb) hW.size) (hk W hW) hn)
  obtain ⟨L, K, S, rfl, hL, hK, hS⟩ := hm.cells
  obtain ⟨A3, c3, rfl, hc3, hm3, hr3⟩ := hS
  obtain ⟨A1, c1, rfl⟩ := hL.form
  obtain ⟨A2, c2, rfl⟩ := hK.form
  unfold maxLen at hm3
  have HX := Lib.hid (And.intro hr3 (And.intro hD (And.intro hl (plc_look (k := k) hs hl))))
  clear hL hK hm hk hr3 hD hl hs
  simp only [J.list, J.keys, J.vals, J.kind, J.half, J.text] at *
  go_enter Tryz.func117, Tryz.ntmps117
  go_wp2_with fail
  generalize hW : (World.alloc _ _).alloc _ = W0
  have H2 := Lib.hid (alloc2c hW)
  clear hW
  refine (HC.out W0 H2.out.1).mono ?_
  clear HC
  rintro e w1 ⟨rfl, hb1⟩
  have HB := Lib.hid (H2.out.1.trans (hb1.mono H2.out.1.size))
  have hbm := (hb1.block _ (box_lt H2.out.2.2.1)).trans H2.out.2.2.1
  have hbr := (hb1.block _ (box_lt H2.out.2.2.2)).trans H2.out.2.2.2
  have q5 : w1.cell? ⟨w.heap.size, 5, none⟩ = _ := box_cell hbm 5
  have r0 : w1.cell? ⟨w.heap.size + 1, 0, none⟩ = _ := box_cell hbr 0
  have r1 : w1.cell? ⟨w.heap.size + 1, 1, none⟩ = _ := box_cell hbr 1
  have r2 : w1.cell? ⟨w.heap.size + 1, 2, none⟩ = _ := box_cell hbr 2
  have r3 : w1.cell? ⟨w.heap.size + 1, 3, none⟩ = _ := box_cell hbr 3
  have r4 : w1.cell? ⟨w.heap.size + 1, 4, none⟩ = _ := box_cell hbr 4
  have r5 : w1.cell? ⟨w.heap.size + 1, 5, none⟩ = _ := box_cell hbr 5
  have fz := box_frozen hbr
  clear hbm hbr hb1 H2
  obtain ⟨i, hi⟩ : ∃ i : Nat, plc k ks = i := ⟨_, rfl⟩
  obtain ⟨b, hb⟩ : ∃ b, isAt k ks = b := ⟨_, rfl⟩
  have HI := Lib.hid (And.intro hi hb)
  dsimp only
  rw [hi, hb]
  clear hi hb
  cases b with
  | false =>
    have HJ := Lib.hid (show getV k ks vs = .null by unfold getV; rw [HX.out.2.2.2, HI.out.2]; rfl)
    go_wp2_with fail
    refine bodyPost_ret (v := .agg zsix.toArray) (by simp [results, Tryz.results117, go_sem, zsix, r0, r1, r2, r3, r4, r5]) rfl ?_
    refine ⟨zsix, rfl, by rw [HJ.out]; exact zsix_rep _ _, ?_⟩
    repeat (refine Below.setCell ?_ (by simp) _)
    exact HB.out
  | true =>
    have hik : ks[i]? = some k := by have := HI.out.2; unfold isAt at this; rw [HI.out.1] at this; simpa using this
    have hlt : i < vs.length := by have := (List.getElem?_eq_some_iff.1 hik).1; have := HX.out.2.2.1; omega
    obtain ⟨x, hx⟩ : ∃ x, vs[i]? = some x := ⟨_, List.getElem?_eq_getElem hlt⟩
    have HJ := Lib.hid (show getV k ks vs = x by unfold getV; rw [HX.out.2.2.2, HI.out.2, if_pos rfl, HI.out.1, hx]; rfl)
    obtain ⟨b3, o3, rfl, hb3, hrow⟩ := HX.out.1 (by omega)
    obtain ⟨cs1, hl1, hg1, hv1⟩ := (VRow.keep (Same.of_below HB.out HX.out.2.1) (fun _ h => h) _ _ _ hb3 hrow).get (toVL_get hx)
    have HV := Lib.hid hv1
    obtain ⟨E1, e1, E2, e2, E3, e3, rfl⟩ := SRep.six hv1
    have p0 : w1.cell? ⟨b3, o3 + i * 6, none⟩ = _ := hg1 0 _ rfl
    have p1 := hg1 1 _ rfl
    have p2 := hg1 2 _ rfl
    have p3 := hg1 3 _ rfl
    have p4 := hg1 4 _ rfl
    have p5 := hg1 5 _ rfl
    have hne : ∀ c, D c → c ≠ w.heap.size + 1 := fun c hc => by have := HX.out.2.1 c hc; omega
    have HN := Lib.hid (And.intro hne hb3)
    clear hv1 hg1 hrow hx hik hne hb3
    go_wp2_with fail
    refine bodyPost_ret (v := .agg #[.int .i64 x.kind, .int .i64 x.half, .string x.text, .slice E1 x.list.length e1, .slice E2 x.keys.length e2, .slice E3 x.vals.length e3]) (by simp [results, Tryz.results117, go_sem, r0, r1, r2, r3, r4, r5]) rfl ?_
    refine ⟨[.int .i64 x.kind, .int .i64 x.half, .string x.text, .slice E1 x.list.length e1, .slice E2 x.keys.length e2, .slice E3 x.vals.length e3], rfl, ?_, ?_⟩
    · rw [HJ.out]
      exact VRep.keep (D := D) (fun b hb => (HB.out.block b (HX.out.2.1 b hb)).symm) (fun _ h => h) _ _ HV.out
    · repeat (refine Below.setCell ?_ (by simp) _)
      exact HB.out
end Go.Proofs.YtfhppajnnbbcjaaGreatDoor
