/- Walks: spec.along and spec.Call at 'index' and 'rindex'.
   Laws: type assertions on the interface error.
   Walks: gojq's index, toInt, clampIndex.
   Walks: gojq's funcIndex2, at keys that a straight path has.
   Walks: impl.listFromGo. -/
import Derived.Test.YtfhppajnnbbcjaaGreatDoorGz7
import Derived.Test.YtfhppajnnbbcjaaGreatDoorGz2
import Derived.Stop.Asserts
import Derived.Test.YtfhppajnnbbcjaaGreatDoorGz1
import Derived.Test.YtfhppajnnbbcjaaGreatDoorGz5
import Derived.Test.YtfhppajnnbbcjaaGreatDoorGz3

section
namespace Go.Proofs.YtfhppajnnbbcjaaGreatDoor
open Go.RowKit

abbrev idxName : ByteArray := ⟨#[105, 110, 100, 101, 120]⟩
abbrev ridxName : ByteArray := ⟨#[114, 105, 110, 100, 101, 120]⟩

/-- how a function of the reference of a name and two values answers -/
def RefOK (f : FuncId) (nm : ByteArray) (x y : J) (j : J) (how : Int) : Prop := ∀ (D : Nat → Prop) (cx cy : List Value) (w : World), (∀ b, D b → All w b) → SRep w D x cx → SRep w D y cy →
  Calls Tryz.prog f #[.string nm, .agg cx.toArray, .agg cy.toArray] w (SpecPost j how w)

theorem spec_put {w wr W' : World} {j : J} {how : Int} {cs : List Value} {r n : Nat} (hrn : r < n) (hwn : w.heap.size ≤ n) (hr : SRep wr (fun b => n ≤ b ∧ b < wr.heap.size) j cs) (hs : W'.heap.size = wr.heap.size) (hk : ∀ b, b ≠ r → W'.heap[b]? = wr.heap[b]?)
    (hb : Below w.heap.size w W') : SpecPost j how w (.returned (.tuple #[.agg cs.toArray, .int .i64 how])) W' :=
  ⟨cs, rfl, VRep.keep (fun b hb => hk b (by omega)) (fun b hb => ⟨by omega, by omega⟩) _ _ hr, hb⟩

theorem alloc3 {w W0 : World} {o1 o2 o3 : Obj} (h : ((w.alloc o1).alloc o2).alloc o3 = W0) : Below w.heap.size w W0 ∧ W0.heap.size = w.heap.size + 3 ∧ W0.heap[w.heap.size]? = some o1 ∧ W0.heap[w.heap.size + 1]? = some o2 ∧ W0.heap[w.heap.size + 1 + 1]? = some o3 := by
  subst h
  refine ⟨(((Below.refl _ _).alloc (Nat.le_refl _) _).alloc (by simp) _).alloc (by simp; omega) _, by simp, ?_, ?_, ?_⟩
  · rw [Below.heap_alloc _ _ _ (by simp; omega), Below.heap_alloc _ _ _ (by simp)]; exact heap_alloc_new _ _
  · rw [Below.heap_alloc _ _ _ (by simp)]; exact heap_alloc_new1 _ _ _
  · have := heap_alloc_new ((w.alloc o1).alloc o2) o3; rwa [World.size_alloc, World.size_alloc] at this
theorem alloc2 {w W0 : World} {o1 o2 : Obj} (h : (w.alloc o1).alloc o2 = W0) : Below w.heap.size w W0 ∧ W0.heap.size = w.heap.size + 2 ∧ W0.heap[w.heap.size]? = some o1 ∧ W0.heap[w.heap.size + 1]? = some o2 := by
  subst h
  refine ⟨((Below.refl _ _).alloc (Nat.le_refl _) _).alloc (by simp) _, by simp, ?_, ?_⟩
  · rw [Below.heap_alloc _ _ _ (by simp)]; exact heap_alloc_new _ _
  · exact heap_alloc_new1 _ _ _

/-- what the values of 'along(name, in, args[0])' are good for -/
def CallF (nm : ByteArray) (cx : Array Value) (S : Value) (p : Addr) (cy : Array Value) (j : J) (how : Int) (n : Nat) : Nat → Value → World → Prop
  | 0, u, _ => u = .string nm
  | 1, u, _ => u = .agg cx
  | 2, u, _ => u = S
  | 3, u, _ => u = .pointer (some p)
  | 4, u, _ => u = .agg cy
  | 5, u, W => ∃ cs : List Value, u = .tuple #[.agg cs.toArray, .int .i64 how] ∧ SRep W (fun b => n ≤ b ∧ b < W.heap.size) j cs
  | 6, u, W => ∃ cs : List Value, u = .agg cs.toArray ∧ SRep W (fun b => n ≤ b ∧ b < W.heap.size) j cs
  | 7, u, _ => u = .int .i64 how
  | _, _, _ => True

theorem CallF.keep {nm : ByteArray} {cx : Array Value} {S : Value} {p : Addr} {cy : Array Value} {j : J} {how : Int} {n i : Nat} {u : Value} {W W' : World} (h : CallF nm cx S p cy j how n i u W) (hb : Below W.heap.size W W') : CallF nm cx S p cy j how n i u W' := by
  match i, h with
  | 0, h => exact h
  | 1, h => exact h
  | 2, h => exact h
  | 3, h => exact h
  | 4, h => exact h
  | 5, ⟨cs, hu, hr⟩ => exact ⟨cs, hu, VRep.keep (fun b hb' => hb.block b hb'.2) (fun b hb' => ⟨hb'.1, Nat.lt_of_lt_of_le hb'.2 hb.size⟩) _ _ hr⟩
  | 6, ⟨cs, hu, hr⟩ => exact ⟨cs, hu, VRep.keep (fun b hb' => hb.block b hb'.2) (fun b hb' => ⟨hb'.1, Nat.lt_of_lt_of_le hb'.2 hb.size⟩) _ _ hr⟩
  | 7, h => exact h
  | k + 8, _ => trivial
theorem CallF.five {nm : ByteArray} {cx : Array Value} {S : Value} {p : Addr} {cy : Array Value} {j : J} {how : Int} {n : Nat} {u : Value} {W : World} (h : CallF nm cx S p cy j how n 5 u W) :
    ∃ cs : List Value, u = .tuple #[.agg cs.toArray, .int .i64 how] ∧ SRep W (fun b => n ≤ b ∧ b < W.heap.size) j cs := h
theorem CallF.six {nm : ByteArray} {cx : Array Value} {S : Value} {p : Addr} {cy : Array Value} {j : J} {how : Int} {n : Nat} {u : Value} {W : World} (h : CallF nm cx S p cy j how n 6 u W) :
    ∃ cs : List Value, u = .agg cs.toArray ∧ SRep W (fun b => n ≤ b ∧ b < W.heap.size) j cs := h

set_option maxRecDepth 100000 in
set_option maxHeartbeats 1000000 in
theorem along_idx (x y : J) (j : J) (how : Int) (H : RefOK 74 idxName x y j how) : RefOK 39 idxName x y j how := by
  intro D cx cy w hD hx hy
  have HC := Lib.hid (fun W (hW : Below w.heap.size w W) => H D cx cy W (fun b hb => Nat.lt_of_lt_of_le (hD b hb) hW.size) (VRep.keep (Same.of_below hW hD) (fun _ h => h) _ _ hx) (VRep.keep (Same.of_below hW hD) (fun _ h => h) _ _ hy))
  obtain ⟨A1, c1, A2, c2, A3, c3, rfl⟩ := SRep.six hx
  obtain ⟨B1, d1, B2, d2, B3, d3, rfl⟩ := SRep.six hy
  clear hx hy hD H
  go_enter Tryz.func39, Tryz.ntmps39
  go_wp2_with fail
  generalize hW : ((World.alloc _ _).alloc _).alloc _ = W0
  have h3 := alloc3 hW
  have H3 := Lib.hid h3
  clear h3 hW
  refine (HC.out W0 H3.out.1).mono ?_
  rintro e w1 ⟨cs, rfl, hr, hb⟩
  obtain ⟨E1, e1, E2, e2, E3, e3, rfl⟩ := SRep.six hr
  have HR := Lib.hid (And.intro hr hb)
  have hbx := (hb.block _ (box_lt H3.out.2.2.2.2)).trans H3.out.2.2.2.2
  have r0 : w1.cell? ⟨w.heap.size + 1 + 1, 0, none⟩ = _ := box_cell hbx 0
  have r1 : w1.cell? ⟨w.heap.size + 1 + 1, 1, none⟩ = _ := box_cell hbx 1
  have r2 : w1.cell? ⟨w.heap.size + 1 + 1, 2, none⟩ = _ := box_cell hbx 2
  have r3 : w1.cell? ⟨w.heap.size + 1 + 1, 3, none⟩ = _ := box_cell hbx 3
  have r4 : w1.cell? ⟨w.heap.size + 1 + 1, 4, none⟩ = _ := box_cell hbx 4
  have r5 : w1.cell? ⟨w.heap.size + 1 + 1, 5, none⟩ = _ := box_cell hbx 5
  have fz := box_frozen hbx
  have hlt := box_lt hbx
  clear hr hb hbx HC
  go_wp2_with fail
  refine bodyPost_ret (v := .tuple #[.agg #[.int .i64 j.kind, .int .i64 j.half, .string j.text, .slice E1 j.list.length e1, .slice E2 j.keys.length e2, .slice E3 j.vals.length e3], .int .i64 how]) (by simp [results, Tryz.results39, go_sem, r0, r1, r2, r3, r4, r5]) rfl ?_
  have hsz := H3.out.2.1
  refine spec_put (r := w.heap.size + 1 + 1) (n := w.heap.size + 3) (by omega) (by omega) (by rw [← hsz]; exact HR.out.1) (by simp [World.setCell]) (fun b hb => by iterate 6 rw [heap_setCell_other _ _ _ _ hb]) ?_
  repeat (refine Below.setCell ?_ (by simp; omega) _)
  exact H3.out.1.trans (HR.out.2.mono (by omega))

set_option maxRecDepth 100000 in
set_option maxHeartbeats 1000000 in
theorem along_ridx (x y : J) (j : J) (how : Int) (H : RefOK 74 ridxName x y j how) : RefOK 39 ridxName x y j how := by
  intro D cx cy w hD hx hy
  have HC := Lib.hid (fun W (hW : Below w.heap.size w W) => H D cx cy W (fun b hb => Nat.lt_of_lt_of_le (hD b hb) hW.size) (VRep.keep (Same.of_below hW hD) (fun _ h => h) _ _ hx) (VRep.keep (Same.of_below hW hD) (fun _ h => h) _ _ hy))
  obtain ⟨A1, c1, A2, c2, A3, c3, rfl⟩ := SRep.six hx
  obtain ⟨B1, d1, B2, d2, B3, d3, rfl⟩ := SRep.six hy
  clear hx hy hD H
  go_enter Tryz.func39, Tryz.ntmps39
  go_wp2_with fail
  generalize hW : ((World.alloc _ _).alloc _).alloc _ = W0
  have h3 := alloc3 hW
  have H3 := Lib.hid h3
  clear h3 hW
  refine (HC.out W0 H3.out.1).mono ?_
  rintro e w1 ⟨cs, rfl, hr, hb⟩
  obtain ⟨E1, e1, E2, e2, E3, e3, rfl⟩ := SRep.six hr
  have HR := Lib.hid (And.intro hr hb)
  have hbx := (hb.block _ (box_lt H3.out.2.2.2.2)).trans H3.out.2.2.2.2
  have r0 : w1.cell? ⟨w.heap.size + 1 + 1, 0, none⟩ = _ := box_cell hbx 0
  have r1 : w1.cell? ⟨w.heap.size + 1 + 1, 1, none⟩ = _ := box_cell hbx 1
  have r2 : w1.cell? ⟨w.heap.size + 1 + 1, 2, none⟩ = _ := box_cell hbx 2
  have r3 : w1.cell? ⟨w.heap.size + 1 + 1, 3, none⟩ = _ := box_cell hbx 3
  have r4 : w1.cell? ⟨w.heap.size + 1 + 1, 4, none⟩ = _ := box_cell hbx 4
  have r5 : w1.cell? ⟨w.heap.size + 1 + 1, 5, none⟩ = _ := box_cell hbx 5
  have fz := box_frozen hbx
  have hlt := box_lt hbx
  clear hr hb hbx HC
  go_wp2_with fail
  refine bodyPost_ret (v := .tuple #[.agg #[.int .i64 j.kind, .int .i64 j.half, .string j.text, .slice E1 j.list.length e1, .slice E2 j.keys.length e2, .slice E3 j.vals.length e3], .int .i64 how]) (by simp [results, Tryz.results39, go_sem, r0, r1, r2, r3, r4, r5]) rfl ?_
  have hsz := H3.out.2.1
  refine spec_put (r := w.heap.size + 1 + 1) (n := w.heap.size + 3) (by omega) (by omega) (by rw [← hsz]; exact HR.out.1) (by simp [World.setCell]) (fun b hb => by iterate 6 rw [heap_setCell_other _ _ _ _ hb]) ?_
  repeat (refine Below.setCell ?_ (by simp; omega) _)
  exact H3.out.1.trans (HR.out.2.mono (by omega))

set_option maxRecDepth 100000 in
set_option maxHeartbeats 1000000 in
theorem call_idx (x y : J) (j : J) (how : Int) (H : RefOK 74 idxName x y j how) (D : Nat → Prop) (cx : List Value) (S : Value) (w : World) (hD : ∀ b, D b → All w b) (hx : SRep w D x cx) (hy : SlJ w D [y] S) :
    Calls Tryz.prog 10 #[.string idxName, .agg cx.toArray, S] w (SpecPost j how w) := by
  have HC := Lib.hid (fun W (hW : Below w.heap.size w W) cy (hc : SRep W D y cy) => along_idx x y j how H D cx cy W (fun b hb => Nat.lt_of_lt_of_le (hD b hb) hW.size) (VRep.keep (Same.of_below hW hD) (fun _ h => h) _ _ hx) hc)
  have HV1 := Lib.hid (fun W (hW : Below w.heap.size w W) => vague x D cx W (fun b hb => Nat.lt_of_lt_of_le (hD b hb) hW.size) (VRep.keep (Same.of_below hW hD) (fun _ h => h) _ _ hx))
  have HV2 := Lib.hid (fun W (hW : Below w.heap.size w W) => vague (.arr [y]) D [.int .i64 5, .int .i64 0, .string noText, S, .slice none 0 0, .slice none 0 0] W (fun b hb => Nat.lt_of_lt_of_le (hD b hb) hW.size)
    ⟨_, _, _, rfl, SlJ.keep hy (Same.of_below hW hD) (fun _ h => h), emp _ _, emp _ _⟩)
  have HY := Lib.hid (fun W (hW : Below w.heap.size w W) => SlJ.keep hy (Same.of_below hW hD) (fun _ h => h))
  obtain ⟨A1, c1, A2, c2, A3, c3, rfl⟩ := SRep.six hx
  obtain ⟨A, c, rfl, -⟩ := hy
  have HD := Lib.hid hD
  clear hx hD H
  go_enter Tryz.func10, Tryz.ntmps10
  go_wp2_with fail
  generalize hW : (World.alloc _ _).alloc _ = W0
  have H2 := Lib.hid (alloc2 hW)
  clear hW
  refine (HV1.out W0 H2.out.1).mono ?_
  rintro e w1 ⟨rfl, hb1⟩
  have HB1 := Lib.hid (H2.out.1.trans (hb1.mono H2.out.1.size))
  have HX := Lib.hid (And.intro ((hb1.block _ (box_lt H2.out.2.2.1)).trans H2.out.2.2.1) ((hb1.block _ (box_lt H2.out.2.2.2)).trans H2.out.2.2.2))
  clear hb1 HV1 H2
  go_wp2_with fail
  refine (specArray_any A 1 c w1).mono ?_
  rintro e w2 ⟨rfl, hb2⟩
  have HB2 := Lib.hid (HB1.out.trans (hb2.mono HB1.out.size))
  replace HX := Lib.hid (And.intro ((hb2.block _ (box_lt HX.out.1)).trans HX.out.1) ((hb2.block _ (box_lt HX.out.2)).trans HX.out.2))
  clear hb2 HB1
  go_wp2_with fail
  refine (HV2.out w2 HB2.out).mono ?_
  rintro e w3 ⟨rfl, hb3⟩
  have HB3 := Lib.hid (HB2.out.trans (hb3.mono HB2.out.size))
  replace HX := Lib.hid (And.intro ((hb3.block _ (box_lt HX.out.1)).trans HX.out.1) ((hb3.block _ (box_lt HX.out.2)).trans HX.out.2))
  clear hb3 HB2 HV2
  go_wp2_with fail
  obtain ⟨Aq, cq, he, -, -, hr⟩ := HY.out w3 HB3.out
  obtain ⟨b, o, hA, hbD, hrow⟩ := hr (by simp)
  rw [hA] at he
  obtain ⟨rfl, -, rfl⟩ := Value.slice.inj he
  obtain ⟨cs1, hl1, hg1, hv1⟩ := hrow.get (i := 0) (toVL_get (x := y) rfl)
  have HC1 := Lib.hid (fun W (hW : Below w3.heap.size w3 W) => HC.out W (HB3.out.trans (hW.mono HB3.out.size)) cs1 (VRep.keep (Same.of_below hW (fun b hb => Nat.lt_of_lt_of_le (HD.out b hb) HB3.out.size)) (fun _ h => h) _ _ hv1))
  simp only [Nat.zero_mul, Nat.add_zero] at hg1
  obtain ⟨B1, d1, B2, d2, B3, d3, rfl⟩ := SRep.six hv1
  have s0 : w3.cell? ⟨b, o, none⟩ = _ := hg1 0 _ rfl
  have s1 := hg1 1 _ rfl
  have s2 := hg1 2 _ rfl
  have s3 := hg1 3 _ rfl
  have s4 := hg1 4 _ rfl
  have s5 := hg1 5 _ rfl
  have HS := Lib.hid (And.intro (Nat.lt_of_lt_of_le (HD.out b hbD) HB3.out.size) (And.intro s0 (And.intro s1 (And.intro s2 (And.intro s3 (And.intro s4 s5))))))
  clear he hr hA hbD hrow hl1 hg1 hv1 HC HY HD s0 s1 s2 s3 s4 s5
  refine wp_region_RG 8 (by kernel_rfl) (by kernel_rfl) (Below w3.heap.size w3) (fun _ i u W => CallF idxName #[.int .i64 x.kind, .int .i64 x.half, .string x.text, .slice A1 x.list.length c1, .slice A2 x.keys.length c2, .slice A3 x.vals.length c3] (.slice (some ⟨b, o, none⟩) 1 c) ⟨b, o, none⟩ #[.int .i64 y.kind, .int .i64 y.half, .string y.text, .slice B1 y.list.length d1, .slice B2 y.keys.length d2, .slice B3 y.vals.length d3] j how w3.heap.size i u W) (by simp [AllSteps, frameOf, Act.put, upd]) ((Below.refl _ _).drew) ⟨?s0, ?s1, ?s2, ?s3, ?s4, ?s5, ?s6, ?s7, trivial⟩ ?e
  case s0 =>
    intro xs d W hd hdeps hG hF K hK
    clear hdeps
    simp only [frameOf, List.take_succ_cons, List.take_zero, Act.put, List.setIfInBounds_toArray, List.set_cons_zero, List.set_cons_succ, Nat.zero_add, Nat.reduceAdd]
    go_simp
    exact hK _ _ _ (by simp only [frameOf, List.take_succ_cons, List.take_zero, Act.put, List.setIfInBounds_toArray, List.set_cons_zero, List.set_cons_succ, Nat.zero_add, Nat.reduceAdd]) hG (fun j u _ _ h => h) rfl
  case s1 =>
    intro xs d W hd hdeps hG hF K hK
    clear hdeps
    have hb := (hG.block _ (box_lt HX.out.1)).trans HX.out.1
    have b0 := box_cell hb 0
    have b1 := box_cell hb 1
    have b2 := box_cell hb 2
    have b3 := box_cell hb 3
    have b4 := box_cell hb 4
    have b5 := box_cell hb 5
    simp at b0 b1 b2 b3 b4 b5
    clear hb
    simp only [frameOf, List.take_succ_cons, List.take_zero, Act.put, List.setIfInBounds_toArray, List.set_cons_zero, List.set_cons_succ, Nat.zero_add, Nat.reduceAdd]
    go_simp
    exact hK _ _ _ (by simp only [frameOf, List.take_succ_cons, List.take_zero, Act.put, List.setIfInBounds_toArray, List.set_cons_zero, List.set_cons_succ, Nat.zero_add, Nat.reduceAdd]) hG (fun j u _ _ h => h) rfl
  case s2 =>
    intro xs d W hd hdeps hG hF K hK
    clear hdeps
    simp only [frameOf, List.take_succ_cons, List.take_zero, Act.put, List.setIfInBounds_toArray, List.set_cons_zero, List.set_cons_succ, Nat.zero_add, Nat.reduceAdd]
    go_simp
    exact hK _ _ _ (by simp only [frameOf, List.take_succ_cons, List.take_zero, Act.put, List.setIfInBounds_toArray, List.set_cons_zero, List.set_cons_succ, Nat.zero_add, Nat.reduceAdd]) hG (fun j u _ _ h => h) rfl
  case s3 =>
    intro xs d W hd hdeps hG hF K hK
    simp [Region.binds] at hdeps
    have f2 : xs 2 = _ := hF 2 hdeps
    simp only [frameOf, List.take_succ_cons, List.take_zero, Act.put, List.setIfInBounds_toArray, List.set_cons_zero, List.set_cons_succ, Nat.zero_add, Nat.reduceAdd]
    simp only [f2]
    go_simp
    exact hK _ _ _ (by simp only [frameOf, List.take_succ_cons, List.take_zero, Act.put, List.setIfInBounds_toArray, List.set_cons_zero, List.set_cons_succ, Nat.zero_add, Nat.reduceAdd, f2]) hG (fun j u _ _ h => h) rfl
  case s4 =>
    intro xs d W hd hdeps hG hF K hK
    simp [Region.binds] at hdeps
    have f3 : xs 3 = _ := hF 3 hdeps
    have t0 := (hG.cell (p := ⟨b, o, none⟩) HS.out.1).trans HS.out.2.1
    have t1 := (hG.cell (p := ⟨b, o + 1, none⟩) HS.out.1).trans HS.out.2.2.1
    have t2 := (hG.cell (p := ⟨b, o + 2, none⟩) HS.out.1).trans HS.out.2.2.2.1
    have t3 := (hG.cell (p := ⟨b, o + 3, none⟩) HS.out.1).trans HS.out.2.2.2.2.1
    have t4 := (hG.cell (p := ⟨b, o + 4, none⟩) HS.out.1).trans HS.out.2.2.2.2.2.1
    have t5 := (hG.cell (p := ⟨b, o + 5, none⟩) HS.out.1).trans HS.out.2.2.2.2.2.2
    simp only [frameOf, List.take_succ_cons, List.take_zero, Act.put, List.setIfInBounds_toArray, List.set_cons_zero, List.set_cons_succ, Nat.zero_add, Nat.reduceAdd]
    simp only [f3]
    go_simp
    exact hK _ _ _ (by simp only [frameOf, List.take_succ_cons, List.take_zero, Act.put, List.setIfInBounds_toArray, List.set_cons_zero, List.set_cons_succ, Nat.zero_add, Nat.reduceAdd, f3]) hG (fun j u _ _ h => h) rfl
  case s5 =>
    intro xs d W hd hdeps hG hF K hK
    simp [Region.binds] at hdeps
    have f0 : xs 0 = _ := hF 0 hdeps.1
    have f1 : xs 1 = _ := hF 1 hdeps.2.1
    have f4 : xs 4 = _ := hF 4 hdeps.2.2
    have HG2 := Lib.hid (And.intro hG hK)
    clear hG hK hF
    simp only [frameOf, List.take_succ_cons, List.take_zero, Act.put, List.setIfInBounds_toArray, List.set_cons_zero, List.set_cons_succ, Nat.zero_add, Nat.reduceAdd]
    simp only [f0, f1, f4]
    go_simp
    refine (HC1.out W HG2.out.1).mono ?_
    rintro e w4 ⟨cs, rfl, hr, hb4⟩
    obtain ⟨hG, hK⟩ := HG2.out
    exact hK _ _ _ (by simp only [frameOf, List.take_succ_cons, List.take_zero, Act.put, List.setIfInBounds_toArray, List.set_cons_zero, List.set_cons_succ, Nat.zero_add, Nat.reduceAdd, f0, f1, f4]) (hG.trans (hb4.mono hG.size)) (fun j u _ _ h => h.keep hb4) ⟨cs, rfl, VRep.keep (fun _ _ => rfl) (fun b hb => ⟨Nat.le_trans hG.size hb.1, hb.2⟩) _ _ hr⟩
  case s6 =>
    intro xs d W hd hdeps hG hF K hK
    simp [Region.binds] at hdeps
    have h5 := CallF.five (hF 5 hdeps)
    have f5 := h5.choose_spec.1
    have hr := h5.choose_spec.2
    generalize h5.choose = cs at f5 hr
    clear h5
    simp only [frameOf, List.take_succ_cons, List.take_zero, Act.put, List.setIfInBounds_toArray, List.set_cons_zero, List.set_cons_succ, Nat.zero_add, Nat.reduceAdd]
    simp only [f5]
    go_simp
    exact hK _ _ _ (by simp only [frameOf, List.take_succ_cons, List.take_zero, Act.put, List.setIfInBounds_toArray, List.set_cons_zero, List.set_cons_succ, Nat.zero_add, Nat.reduceAdd, f5]) hG (fun j u _ _ h => h) ⟨cs, rfl, hr⟩
  case s7 =>
    intro xs d W hd hdeps hG hF K hK
    simp [Region.binds] at hdeps
    have h5 := CallF.five (hF 5 hdeps)
    have f5 := h5.choose_spec.1
    have hr := h5.choose_spec.2
    generalize h5.choose = cs at f5 hr
    clear h5
    simp only [frameOf, List.take_succ_cons, List.take_zero, Act.put, List.setIfInBounds_toArray, List.set_cons_zero, List.set_cons_succ, Nat.zero_add, Nat.reduceAdd]
    simp only [f5]
    go_simp
    exact hK _ _ _ (by simp only [frameOf, List.take_succ_cons, List.take_zero, Act.put, List.setIfInBounds_toArray, List.set_cons_zero, List.set_cons_succ, Nat.zero_add, Nat.reduceAdd, f5]) hG (fun j u _ _ h => h) rfl
  case e =>
  intro xs w4 hG hF
  have h6 := CallF.six (hF 6 (by omega))
  have f6 := h6.choose_spec.1
  have hr := h6.choose_spec.2
  generalize h6.choose = cs at f6 hr
  clear h6
  have f7 : xs 7 = _ := hF 7 (by omega)
  obtain ⟨E1, e1, E2, e2, E3, e3, rfl⟩ := SRep.six hr
  have HR := Lib.hid (And.intro hr hG)
  have hbx := (hG.block _ (box_lt HX.out.2)).trans HX.out.2
  have r0 : w4.cell? ⟨w.heap.size + 1, 0, none⟩ = _ := box_cell hbx 0
  have r1 : w4.cell? ⟨w.heap.size + 1, 1, none⟩ = _ := box_cell hbx 1
  have r2 : w4.cell? ⟨w.heap.size + 1, 2, none⟩ = _ := box_cell hbx 2
  have r3 : w4.cell? ⟨w.heap.size + 1, 3, none⟩ = _ := box_cell hbx 3
  have r4 : w4.cell? ⟨w.heap.size + 1, 4, none⟩ = _ := box_cell hbx 4
  have r5 : w4.cell? ⟨w.heap.size + 1, 5, none⟩ = _ := box_cell hbx 5
  have fz := box_frozen hbx
  have hlt := box_lt hbx
  have hlt3 := box_lt HX.out.2
  clear hr hbx HC1 hG hF HS
  simp only [frameOf, List.take_succ_cons, List.take_zero, List.drop_succ_cons, List.drop_zero, Act.put, List.setIfInBounds_toArray, List.set_cons_zero, List.set_cons_succ, Nat.zero_add, Nat.reduceAdd, f6, f7]
  clear f6 f7
  go_wp2_with fail
  refine bodyPost_ret (v := .tuple #[.agg #[.int .i64 j.kind, .int .i64 j.half, .string j.text, .slice E1 j.list.length e1, .slice E2 j.keys.length e2, .slice E3 j.vals.length e3], .int .i64 how]) (by simp [results, Tryz.results10, go_sem, r0, r1, r2, r3, r4, r5]) rfl ?_
  refine spec_put (r := w.heap.size + 1) (n := w3.heap.size) (by omega) HB3.out.size HR.out.1 (by simp [World.setCell]) (fun b hb => by iterate 6 rw [heap_setCell_other _ _ _ _ hb]) ?_
  repeat (refine Below.setCell ?_ (by simp) _)
  exact HB3.out.trans (HR.out.2.mono HB3.out.size)

set_option maxRecDepth 100000 in
set_option maxHeartbeats 1000000 in
theorem call_ridx (x y : J) (j : J) (how : Int) (H : RefOK 74 ridxName x y j how) (D : Nat → Prop) (cx : List Value) (S : Value) (w : World) (hD : ∀ b, D b → All w b) (hx : SRep w D x cx) (hy : SlJ w D [y] S) :
    Calls Tryz.prog 10 #[.string ridxName, .agg cx.toArray, S] w (SpecPost j how w) := by
  have HC := Lib.hid (fun W (hW : Below w.heap.size w W) cy (hc : SRep W D y cy) => along_ridx x y j how H D cx cy W (fun b hb => Nat.lt_of_lt_of_le (hD b hb) hW.size) (VRep.keep (Same.of_below hW hD) (fun _ h => h) _ _ hx) hc)
  have HV1 := Lib.hid (fun W (hW : Below w.heap.size w W) => vague x D cx W (fun b hb => Nat.lt_of_lt_of_le (hD b hb) hW.size) (VRep.keep (Same.of_below hW hD) (fun _ h => h) _ _ hx))
  have HV2 := Lib.hid (fun W (hW : Below w.heap.size w W) => vague (.arr [y]) D [.int .i64 5, .int .i64 0, .string noText, S, .slice none 0 0, .slice none 0 0] W (fun b hb => Nat.lt_of_lt_of_le (hD b hb) hW.size)
    ⟨_, _, _, rfl, SlJ.keep hy (Same.of_below hW hD) (fun _ h => h), emp _ _, emp _ _⟩)
  have HY := Lib.hid (fun W (hW : Below w.heap.size w W) => SlJ.keep hy (Same.of_below hW hD) (fun _ h => h))
  obtain ⟨A1, c1, A2, c2, A3, c3, rfl⟩ := SRep.six hx
  obtain ⟨A, c, rfl, -⟩ := hy
  have HD := Lib.hid hD
  clear hx hD H
  go_enter Tryz.func10, Tryz.ntmps10
  go_wp2_with fail
  generalize hW : (World.alloc _ _).alloc _ = W0
  have H2 := Lib.hid (alloc2 hW)
  clear hW
  refine (HV1.out W0 H2.out.1).mono ?_
  rintro e w1 ⟨rfl, hb1⟩
  have HB1 := Lib.hid (H2.out.1.trans (hb1.mono H2.out.1.size))
  have HX := Lib.hid (And.intro ((hb1.block _ (box_lt H2.out.2.2.1)).trans H2.out.2.2.1) ((hb1.block _ (box_lt H2.out.2.2.2)).trans H2.out.2.2.2))
  clear hb1 HV1 H2
  go_wp2_with fail
  refine (specArray_any A 1 c w1).mono ?_
  rintro e w2 ⟨rfl, hb2⟩
  have HB2 := Lib.hid (HB1.out.trans (hb2.mono HB1.out.size))
  replace HX := Lib.hid (And.intro ((hb2.block _ (box_lt HX.out.1)).trans HX.out.1) ((hb2.block _ (box_lt HX.out.2)).trans HX.out.2))
  clear hb2 HB1
  go_wp2_with fail
  refine (HV2.out w2 HB2.out).mono ?_
  rintro e w3 ⟨rfl, hb3⟩
  have HB3 := Lib.hid (HB2.out.trans (hb3.mono HB2.out.size))
  replace HX := Lib.hid (And.intro ((hb3.block _ (box_lt HX.out.1)).trans HX.out.1) ((hb3.block _ (box_lt HX.out.2)).trans HX.out.2))
  clear hb3 HB2 HV2
  go_wp2_with fail
  obtain ⟨Aq, cq, he, -, -, hr⟩ := HY.out w3 HB3.out
  obtain ⟨b, o, hA, hbD, hrow⟩ := hr (by simp)
  rw [hA] at he
  obtain ⟨rfl, -, rfl⟩ := Value.slice.inj he
  obtain ⟨cs1, hl1, hg1, hv1⟩ := hrow.get (i := 0) (toVL_get (x := y) rfl)
  have HC1 := Lib.hid (fun W (hW : Below w3.heap.size w3 W) => HC.out W (HB3.out.trans (hW.mono HB3.out.size)) cs1 (VRep.keep (Same.of_below hW (fun b hb => Nat.lt_of_lt_of_le (HD.out b hb) HB3.out.size)) (fun _ h => h) _ _ hv1))
  simp only [Nat.zero_mul, Nat.add_zero] at hg1
  obtain ⟨B1, d1, B2, d2, B3, d3, rfl⟩ := SRep.six hv1
  have s0 : w3.cell? ⟨b, o, none⟩ = _ := hg1 0 _ rfl
  have s1 := hg1 1 _ rfl
  have s2 := hg1 2 _ rfl
  have s3 := hg1 3 _ rfl
  have s4 := hg1 4 _ rfl
  have s5 := hg1 5 _ rfl
  have HS := Lib.hid (And.intro (Nat.lt_of_lt_of_le (HD.out b hbD) HB3.out.size) (And.intro s0 (And.intro s1 (And.intro s2 (And.intro s3 (And.intro s4 s5))))))
  clear he hr hA hbD hrow hl1 hg1 hv1 HC HY HD s0 s1 s2 s3 s4 s5
  refine wp_region_RG 8 (by kernel_rfl) (by kernel_rfl) (Below w3.heap.size w3) (fun _ i u W => CallF ridxName #[.int .i64 x.kind, .int .i64 x.half, .string x.text, .slice A1 x.list.length c1, .slice A2 x.keys.length c2, .slice A3 x.vals.length c3] (.slice (some ⟨b, o, none⟩) 1 c) ⟨b, o, none⟩ #[.int .i64 y.kind, .int .i64 y.half, .string y.text, .slice B1 y.list.length d1, .slice B2 y.keys.length d2, .slice B3 y.vals.length d3] j how w3.heap.size i u W) (by simp [AllSteps, frameOf, Act.put, upd]) ((Below.refl _ _).drew) ⟨?s0, ?s1, ?s2, ?s3, ?s4, ?s5, ?s6, ?s7, trivial⟩ ?e
  case s0 =>
    intro xs d W hd hdeps hG hF K hK
    clear hdeps
    simp only [frameOf, List.take_succ_cons, List.take_zero, Act.put, List.setIfInBounds_toArray, List.set_cons_zero, List.set_cons_succ, Nat.zero_add, Nat.reduceAdd]
    go_simp
    exact hK _ _ _ (by simp only [frameOf, List.take_succ_cons, List.take_zero, Act.put, List.setIfInBounds_toArray, List.set_cons_zero, List.set_cons_succ, Nat.zero_add, Nat.reduceAdd]) hG (fun j u _ _ h => h) rfl
  case s1 =>
    intro xs d W hd hdeps hG hF K hK
    clear hdeps
    have hb := (hG.block _ (box_lt HX.out.1)).trans HX.out.1
    have b0 := box_cell hb 0
    have b1 := box_cell hb 1
    have b2 := box_cell hb 2
    have b3 := box_cell hb 3
    have b4 := box_cell hb 4
    have b5 := box_cell hb 5
    simp at b0 b1 b2 b3 b4 b5
    clear hb
    simp only [frameOf, List.take_succ_cons, List.take_zero, Act.put, List.setIfInBounds_toArray, List.set_cons_zero, List.set_cons_succ, Nat.zero_add, Nat.reduceAdd]
    go_simp
    exact hK _ _ _ (by simp only [frameOf, List.take_succ_cons, List.take_zero, Act.put, List.setIfInBounds_toArray, List.set_cons_zero, List.set_cons_succ, Nat.zero_add, Nat.reduceAdd]) hG (fun j u _ _ h => h) rfl
  case s2 =>
    intro xs d W hd hdeps hG hF K hK
    clear hdeps
    simp only [frameOf, List.take_succ_cons, List.take_zero, Act.put, List.setIfInBounds_toArray, List.set_cons_zero, List.set_cons_succ, Nat.zero_add, Nat.reduceAdd]
    go_simp
    exact hK _ _ _ (by simp only [frameOf, List.take_succ_cons, List.take_zero, Act.put, List.setIfInBounds_toArray, List.set_cons_zero, List.set_cons_succ, Nat.zero_add, Nat.reduceAdd]) hG (fun j u _ _ h => h) rfl
  case s3 =>
    intro xs d W hd hdeps hG hF K hK
    simp [Region.binds] at hdeps
    have f2 : xs 2 = _ := hF 2 hdeps
    simp only [frameOf, List.take_succ_cons, List.take_zero, Act.put, List.setIfInBounds_toArray, List.set_cons_zero, List.set_cons_succ, Nat.zero_add, Nat.reduceAdd]
    simp only [f2]
    go_simp
    exact hK _ _ _ (by simp only [frameOf, List.take_succ_cons, List.take_zero, Act.put, List.setIfInBounds_toArray, List.set_cons_zero, List.set_cons_succ, Nat.zero_add, Nat.reduceAdd, f2]) hG (fun j u _ _ h => h) rfl
  case s4 =>
    intro xs d W hd hdeps hG hF K hK
    simp [Region.binds] at hdeps
    have f3 : xs 3 = _ := hF 3 hdeps
    have t0 := (hG.cell (p := ⟨b, o, none⟩) HS.out.1).trans HS.out.2.1
    have t1 := (hG.cell (p := ⟨b, o + 1, none⟩) HS.out.1).trans HS.out.2.2.1
    have t2 := (hG.cell (p := ⟨b, o + 2, none⟩) HS.out.1).trans HS.out.2.2.2.1
    have t3 := (hG.cell (p := ⟨b, o + 3, none⟩) HS.out.1).trans HS.out.2.2.2.2.1
    have t4 := (hG.cell (p := ⟨b, o + 4, none⟩) HS.out.1).trans HS.out.2.2.2.2.2.1
    have t5 := (hG.cell (p := ⟨b, o + 5, none⟩) HS.out.1).trans HS.out.2.2.2.2.2.2
    simp only [frameOf, List.take_succ_cons, List.take_zero, Act.put, List.setIfInBounds_toArray, List.set_cons_zero, List.set_cons_succ, Nat.zero_add, Nat.reduceAdd]
    simp only [f3]
    go_simp
    exact hK _ _ _ (by simp only [frameOf, List.take_succ_cons, List.take_zero, Act.put, List.setIfInBounds_toArray, List.set_cons_zero, List.set_cons_succ, Nat.zero_add, Nat.reduceAdd, f3]) hG (fun j u _ _ h => h) rfl
  case s5 =>
    intro xs d W hd hdeps hG hF K hK
    simp [Region.binds] at hdeps
    have f0 : xs 0 = _ := hF 0 hdeps.1
    have f1 : xs 1 = _ := hF 1 hdeps.2.1
    have f4 : xs 4 = _ := hF 4 hdeps.2.2
    have HG2 := Lib.hid (And.intro hG hK)
    clear hG hK hF
    simp only [frameOf, List.take_succ_cons, List.take_zero, Act.put, List.setIfInBounds_toArray, List.set_cons_zero, List.set_cons_succ, Nat.zero_add, Nat.reduceAdd]
    simp only [f0, f1, f4]
    go_simp
    refine (HC1.out W HG2.out.1).mono ?_
    rintro e w4 ⟨cs, rfl, hr, hb4⟩
    obtain ⟨hG, hK⟩ := HG2.out
    exact hK _ _ _ (by simp only [frameOf, List.take_succ_cons, List.take_zero, Act.put, List.setIfInBounds_toArray, List.set_cons_zero, List.set_cons_succ, Nat.zero_add, Nat.reduceAdd, f0, f1, f4]) (hG.trans (hb4.mono hG.size)) (fun j u _ _ h => h.keep hb4) ⟨cs, rfl, VRep.keep (fun _ _ => rfl) (fun b hb => ⟨Nat.le_trans hG.size hb.1, hb.2⟩) _ _ hr⟩
  case s6 =>
    intro xs d W hd hdeps hG hF K hK
    simp [Region.binds] at hdeps
    have h5 := CallF.five (hF 5 hdeps)
    have f5 := h5.choose_spec.1
    have hr := h5.choose_spec.2
    generalize h5.choose = cs at f5 hr
    clear h5
    simp only [frameOf, List.take_succ_cons, List.take_zero, Act.put, List.setIfInBounds_toArray, List.set_cons_zero, List.set_cons_succ, Nat.zero_add, Nat.reduceAdd]
    simp only [f5]
    go_simp
    exact hK _ _ _ (by simp only [frameOf, List.take_succ_cons, List.take_zero, Act.put, List.setIfInBounds_toArray, List.set_cons_zero, List.set_cons_succ, Nat.zero_add, Nat.reduceAdd, f5]) hG (fun j u _ _ h => h) ⟨cs, rfl, hr⟩
  case s7 =>
    intro xs d W hd hdeps hG hF K hK
    simp [Region.binds] at hdeps
    have h5 := CallF.five (hF 5 hdeps)
    have f5 := h5.choose_spec.1
    have hr := h5.choose_spec.2
    generalize h5.choose = cs at f5 hr
    clear h5
    simp only [frameOf, List.take_succ_cons, List.take_zero, Act.put, List.setIfInBounds_toArray, List.set_cons_zero, List.set_cons_succ, Nat.zero_add, Nat.reduceAdd]
    simp only [f5]
    go_simp
    exact hK _ _ _ (by simp only [frameOf, List.take_succ_cons, List.take_zero, Act.put, List.setIfInBounds_toArray, List.set_cons_zero, List.set_cons_succ, Nat.zero_add, Nat.reduceAdd, f5]) hG (fun j u _ _ h => h) rfl
  case e =>
  intro xs w4 hG hF
  have h6 := CallF.six (hF 6 (by omega))
  have f6 := h6.choose_spec.1
  have hr := h6.choose_spec.2
  generalize h6.choose = cs at f6 hr
  clear h6
  have f7 : xs 7 = _ := hF 7 (by omega)
  obtain ⟨E1, e1, E2, e2, E3, e3, rfl⟩ := SRep.six hr
  have HR := Lib.hid (And.intro hr hG)
  have hbx := (hG.block _ (box_lt HX.out.2)).trans HX.out.2
  have r0 : w4.cell? ⟨w.heap.size + 1, 0, none⟩ = _ := box_cell hbx 0
  have r1 : w4.cell? ⟨w.heap.size + 1, 1, none⟩ = _ := box_cell hbx 1
  have r2 : w4.cell? ⟨w.heap.size + 1, 2, none⟩ = _ := box_cell hbx 2
  have r3 : w4.cell? ⟨w.heap.size + 1, 3, none⟩ = _ := box_cell hbx 3
  have r4 : w4.cell? ⟨w.heap.size + 1, 4, none⟩ = _ := box_cell hbx 4
  have r5 : w4.cell? ⟨w.heap.size + 1, 5, none⟩ = _ := box_cell hbx 5
  have fz := box_frozen hbx
  have hlt := box_lt hbx
  have hlt3 := box_lt HX.out.2
  clear hr hbx HC1 hG hF HS
  simp only [frameOf, List.take_succ_cons, List.take_zero, List.drop_succ_cons, List.drop_zero, Act.put, List.setIfInBounds_toArray, List.set_cons_zero, List.set_cons_succ, Nat.zero_add, Nat.reduceAdd, f6, f7]
  clear f6 f7
  go_wp2_with fail
  refine bodyPost_ret (v := .tuple #[.agg #[.int .i64 j.kind, .int .i64 j.half, .string j.text, .slice E1 j.list.length e1, .slice E2 j.keys.length e2, .slice E3 j.vals.length e3], .int .i64 how]) (by simp [results, Tryz.results10, go_sem, r0, r1, r2, r3, r4, r5]) rfl ?_
  refine spec_put (r := w.heap.size + 1) (n := w3.heap.size) (by omega) HB3.out.size HR.out.1 (by simp [World.setCell]) (fun b hb => by iterate 6 rw [heap_setCell_other _ _ _ _ hb]) ?_
  repeat (refine Below.setCell ?_ (by simp) _)
  exact HB3.out.trans (HR.out.2.mono HB3.out.size)

end Go.Proofs.YtfhppajnnbbcjaaGreatDoor
end

section
namespace Go.Proofs.YtfhppajnnbbcjaaGreatDoor
open Go.RowKit

@[go_sem] theorem te_nil (x : TypeId) (w : World) : (Instr.typeAssert .nilIface x 95 true).run Tryz.prog w = .ok (.tuple #[.nilIface, .bool false]) w := by kernel_rfl
@[go_sem] theorem te_4 (x : TypeId) (v : Value) (w : World) : (Instr.typeAssert (.iface 4 v) x 95 true).run Tryz.prog w = .ok (.tuple #[.nilIface, .bool false]) w := run_typeAssert_lacksB Tryz.underlying95 (by kernel_rfl) (by kernel_rfl) v x w
@[go_sem] theorem te_3 (x : TypeId) (v : Value) (w : World) : (Instr.typeAssert (.iface 3 v) x 95 true).run Tryz.prog w = .ok (.tuple #[.nilIface, .bool false]) w := run_typeAssert_lacksB Tryz.underlying95 (by kernel_rfl) (by kernel_rfl) v x w
@[go_sem] theorem te_87 (x : TypeId) (v : Value) (w : World) : (Instr.typeAssert (.iface 87 v) x 95 true).run Tryz.prog w = .ok (.tuple #[.nilIface, .bool false]) w := run_typeAssert_lacksB Tryz.underlying95 (by kernel_rfl) (by kernel_rfl) v x w
@[go_sem] theorem te_9 (x : TypeId) (v : Value) (w : World) : (Instr.typeAssert (.iface 9 v) x 95 true).run Tryz.prog w = .ok (.tuple #[.nilIface, .bool false]) w := run_typeAssert_lacksB Tryz.underlying95 (by kernel_rfl) (by kernel_rfl) v x w
@[go_sem] theorem te_88 (x : TypeId) (v : Value) (w : World) : (Instr.typeAssert (.iface 88 v) x 95 true).run Tryz.prog w = .ok (.tuple #[.nilIface, .bool false]) w := run_typeAssert_lacksB Tryz.underlying95 (by kernel_rfl) (by kernel_rfl) v x w
@[go_sem] theorem te_91 (x : TypeId) (v : Value) (w : World) : (Instr.typeAssert (.iface 91 v) x 95 true).run Tryz.prog w = .ok (.tuple #[.nilIface, .bool false]) w := run_typeAssert_lacksB Tryz.underlying95 (by kernel_rfl) (by kernel_rfl) v x w
@[go_sem] theorem te_159 (x : TypeId) (v : Value) (w : World) : (Instr.typeAssert (.iface 159 v) x 95 true).run Tryz.prog w = .ok (.tuple #[.iface 159 v, .bool true]) w := run_typeAssert_hasB Tryz.underlying95 (by kernel_rfl) v x w
@[go_sem] theorem te_162 (x : TypeId) (v : Value) (w : World) : (Instr.typeAssert (.iface 162 v) x 95 true).run Tryz.prog w = .ok (.tuple #[.iface 162 v, .bool true]) w := run_typeAssert_hasB Tryz.underlying95 (by kernel_rfl) v x w
@[go_sem] theorem te_205 (x : TypeId) (v : Value) (w : World) : (Instr.typeAssert (.iface 205 v) x 95 true).run Tryz.prog w = .ok (.tuple #[.iface 205 v, .bool true]) w := run_typeAssert_hasB Tryz.underlying95 (by kernel_rfl) v x w
@[go_sem] theorem te_211 (x : TypeId) (v : Value) (w : World) : (Instr.typeAssert (.iface 211 v) x 95 true).run Tryz.prog w = .ok (.tuple #[.iface 211 v, .bool true]) w := run_typeAssert_hasB Tryz.underlying95 (by kernel_rfl) v x w

end Go.Proofs.YtfhppajnnbbcjaaGreatDoor
end

section
namespace Go.Proofs.YtfhppajnnbbcjaaGreatDoor
open Go.RowKit

theorem clampIndex_any (i m : Int) (w : World) (h0 : 0 ≤ i) : Calls Tryz.prog 239 #[.int .i64 i, .int .i64 (-1), .int .i64 m] w fun e w' => e = .returned (.int .i64 (if i < m then i else m)) ∧ w' = w := by
  have h1 : ¬ i < 0 := by omega
  have h2 : ¬ i < -1 := by omega
  by_cases h3 : i < m
  · rw [if_pos h3]
    go_enter Tryz.func239, Tryz.ntmps239
    go_wp2_with fail
    go_ret
    exact ⟨rfl, rfl⟩
  · rw [if_neg h3]
    go_enter Tryz.func239, Tryz.ntmps239
    go_wp2_with fail
    go_ret
    exact ⟨rfl, rfl⟩

theorem toInt_any (n : Int) (w : World) : Calls Tryz.prog 199 #[.iface 3 (.int .i64 n)] w fun e w' => e = .returned (.tuple #[.int .i64 n, .bool true]) ∧ w' = w := by
  go_enter Tryz.func199, Tryz.ntmps199
  go_wp2_with fail
  go_ret2
  exact ⟨rfl, rfl⟩

theorem index_any (l : List J) (D : Nat → Prop) (S : Value) (i : Int) (w : World) (h0 : 0 ≤ i) (hS : SlAt D l.length S (fun b o => ARow w D b l o)) :
    Calls Tryz.prog 200 #[S, .int .i64 i] w fun e w' => ∃ v, e = .returned v ∧ ARep w D ((l[i.toNat]?).getD .null) v ∧ w' = w := by
  obtain ⟨A, c, rfl, hc, hm, hr⟩ := hS
  have HC := Lib.hid (clampIndex_any i l.length w h0)
  obtain ⟨k, rfl⟩ : ∃ k : Nat, i = k := ⟨i.toNat, by omega⟩
  by_cases hk : k < l.length
  · obtain ⟨b, o, rfl, hb, hrow⟩ := hr (by omega)
    obtain ⟨x, hx⟩ : ∃ x, l[k]? = some x := ⟨_, List.getElem?_eq_getElem hk⟩
    obtain ⟨y, hy, hay⟩ := hrow.get hx
    have hk' : (k : Int) < l.length := by omega
    rw [if_pos hk'] at HC
    have HA := Lib.hid (show ARep w D ((l[(k : Int).toNat]?).getD .null) y by simpa [hx] using hay)
    clear hay hrow hr hx
    go_enter Tryz.func200, Tryz.ntmps200
    go_wp2_with fail
    refine HC.out.mono ?_
    rintro e w1 ⟨rfl, rfl⟩
    go_wp2_with fail
    go_ret
    exact ⟨_, rfl, HA.out, rfl⟩
  · have hk' : ¬ (k : Int) < l.length := by omega
    rw [if_neg hk'] at HC
    have HA := Lib.hid (show ARep w D ((l[(k : Int).toNat]?).getD .null) .nilIface by
      have : l[k]? = none := List.getElem?_eq_none (by omega)
      simp [this, ARep])
    clear hr
    go_enter Tryz.func200, Tryz.ntmps200
    go_wp2_with fail
    refine HC.out.mono ?_
    rintro e w1 ⟨rfl, rfl⟩
    go_wp2_with fail
    go_ret
    exact ⟨_, rfl, HA.out, rfl⟩

end Go.Proofs.YtfhppajnnbbcjaaGreatDoor
end

section
namespace Go.Proofs.YtfhppajnnbbcjaaGreatDoor
open Go.RowKit

/-- what stands at a key of an object -/
def lookJ : List ByteArray → List J → ByteArray → J
  | k :: ks, v :: vs, s => if k = s then v else lookJ ks vs s
  | _, _, _ => .null

theorem lookJ_hit : ∀ {ks : List ByteArray} {vs : List J} {s : ByteArray} {x : J} {i : Nat}, (∀ j, j < i → ks[j]? ≠ some s) → ks[i]? = some s → vs[i]? = some x → lookJ ks vs s = x
  | [], _, _, _, _, _, h, _ => by simp at h
  | _ :: _, [], _, _, _, _, _, h => by simp at h
  | k :: ks, v :: vs, s, x, 0, _, h, h' => by
    simp only [List.getElem?_cons_zero, Option.some.injEq] at h h'
    simp [lookJ, h, h']
  | k :: ks, v :: vs, s, x, i + 1, hb, h, h' => by
    have h0 := hb 0 (by omega)
    simp only [List.getElem?_cons_zero, ne_eq, Option.some.injEq] at h0
    simp only [List.getElem?_cons_succ] at h h'
    rw [lookJ, if_neg h0]
    exact lookJ_hit (fun j hj => by simpa using hb (j + 1) (by omega)) h h'

theorem lookJ_miss : ∀ {ks : List ByteArray} {vs : List J} {s : ByteArray}, s ∉ ks → lookJ ks vs s = .null
  | [], vs, _, _ => by cases vs <;> rfl
  | _ :: _, [], _, _ => rfl
  | k :: ks, v :: vs, s, h => by
    simp only [List.mem_cons, not_or] at h
    rw [lookJ, if_neg (fun e => h.1 e.symm)]
    exact lookJ_miss h.2

/-- a key of a straight path -/
def Key (k : J) : Prop := match k with
  | .str s => s.size ≤ 1048576
  | .num h => h % 2 = 0 ∧ 0 ≤ h
  | _ => False

/-- what stands at a key -/
def stepJ (x k : J) : Option J := match x, k with
  | .null, _ => some .null
  | .arr l, .num h => some ((l[(h / 2).toNat]?).getD .null)
  | .obj ks vs, .str s => some (lookJ ks vs s)
  | _, _ => none

def box3 (x : J) : Prop := match x with
  | .null => True
  | .arr _ => True
  | .obj _ _ => True
  | _ => False

def StepPost (D : Nat → Prop) (x k : J) (w : World) (e : Ending) (w' : World) : Prop := match stepJ x k with
  | some y => ∃ v, e = .returned v ∧ ARep w D y v ∧ w' = w
  | none => ∃ T v, e = .returned (.iface T v) ∧ (T = 205 ∨ T = 211) ∧ Below w.heap.size w w'

set_option maxRecDepth 100000 in
theorem index2_null (k : J) (D : Nat → Prop) (kv : Value) (w : World) (hk : Key k) (hkv : ARep w D k kv) : Calls Tryz.prog 151 #[.nilIface, .nilIface, kv] w (StepPost D .null k w) := by
  cases k with
  | str s =>
    rw [show kv = _ from hkv]
    go_enter Tryz.func151, Tryz.ntmps151
    go_wp2_with fail
    go_ret
    exact ⟨_, rfl, rfl, rfl⟩
  | num h =>
    have hkv' : kv = .iface 3 (.int .i64 (h / 2)) := by rw [show kv = numV h from hkv]; unfold numV; rw [if_pos hk.1]
    rw [hkv']
    have HT := Lib.hid (toInt_any (h / 2) w)
    go_enter Tryz.func151, Tryz.ntmps151
    go_wp2_with fail
    refine HT.out.mono ?_
    rintro e w1 ⟨rfl, rfl⟩
    go_wp2_with fail
    go_ret
    exact ⟨_, rfl, rfl, rfl⟩
  | _ => exact hk.elim

set_option maxRecDepth 100000 in
theorem index2_arr (l : List J) (k : J) (D : Nat → Prop) (xv kv : Value) (w : World) (hk : Key k) (hxv : ARep w D (.arr l) xv) (hkv : ARep w D k kv) : Calls Tryz.prog 151 #[.nilIface, xv, kv] w (StepPost D (.arr l) k w) := by
  obtain ⟨S, rfl, hS⟩ := hxv
  cases k with
  | str s =>
    rw [show kv = _ from hkv]
    clear hS
    go_enter Tryz.func151, Tryz.ntmps151
    go_wp2_with fail
    go_ret
    exact ⟨205, _, rfl, .inl rfl, (Below.refl _ _).alloc (Nat.le_refl _) _⟩
  | num h =>
    have hkv' : kv = .iface 3 (.int .i64 (h / 2)) := by rw [show kv = numV h from hkv]; unfold numV; rw [if_pos hk.1]
    rw [hkv']
    have HT := Lib.hid (toInt_any (h / 2) w)
    have HI := Lib.hid (index_any l D S (h / 2) w (by have := hk.2; omega) hS)
    clear hS hk hkv hkv'
    go_enter Tryz.func151, Tryz.ntmps151
    go_wp2_with fail
    refine HT.out.mono ?_
    rintro e w1 ⟨rfl, rfl⟩
    go_wp2_with fail
    refine HI.out.mono ?_
    rintro e w2 ⟨v, rfl, hv, rfl⟩
    have HV := Lib.hid hv
    clear hv
    go_wp2_with fail
    go_ret
    exact ⟨_, rfl, HV.out, rfl⟩
  | _ => exact hk.elim

set_option maxRecDepth 100000 in
theorem index2_obj (ks : List ByteArray) (vs : List J) (k : J) (D : Nat → Prop) (xv kv : Value) (w : World) (wx : (J.obj ks vs).WF) (hk : Key k) (hxv : ARep w D (.obj ks vs) xv) (hkv : ARep w D k kv) : Calls Tryz.prog 151 #[.nilIface, xv, kv] w (StepPost D (.obj ks vs) k w) := by
  obtain ⟨r, xs, rfl, hr, hm, hl, ha⟩ := hxv
  simp only [J.WF] at wx
  cases k with
  | str s =>
    rw [show kv = _ from hkv]
    have key : ∃ v, (Instr.lookup 91 (.map (some r)) (.string s) false).run Tryz.prog w = .ok v w ∧ ARep w D (lookJ ks vs s) v := by
      by_cases hs : s ∈ ks
      · obtain ⟨i, hi, he⟩ := List.getElem_of_mem hs
        have hki : ks[i]? = some s := by rw [List.getElem?_eq_getElem hi, he]
        obtain ⟨x, hx⟩ : ∃ x, vs[i]? = some x := ⟨_, List.getElem?_eq_getElem (by omega)⟩
        obtain ⟨y, hy, hay⟩ := ha.get hx
        exact ⟨y, (hm.hit wx.2.2.2.1 hki hy hk).1, by rw [lookJ_hit (not_before wx.2.2.2.1 hki) hki hx]; exact hay⟩
      · exact ⟨.nilIface, (hm.miss hs hk).1, by rw [lookJ_miss hs]; rfl⟩
    obtain ⟨v, hrun, hv⟩ := key
    have HV := Lib.hid hv
    clear hv hm ha hl wx
    go_enter Tryz.func151, Tryz.ntmps151
    go_wp2_with fail
    go_ret
    exact ⟨_, rfl, HV.out, rfl⟩
  | num h =>
    have hkv' : kv = .iface 3 (.int .i64 (h / 2)) := by rw [show kv = numV h from hkv]; unfold numV; rw [if_pos hk.1]
    rw [hkv']
    have HT := Lib.hid (toInt_any (h / 2) w)
    clear hm ha hl wx hk hkv hkv'
    go_enter Tryz.func151, Tryz.ntmps151
    go_wp2_with fail
    refine HT.out.mono ?_
    rintro e w1 ⟨rfl, rfl⟩
    go_wp2_with fail
    go_ret
    exact ⟨211, _, rfl, .inr rfl, (Below.refl _ _).alloc (Nat.le_refl _) _⟩
  | _ => exact hk.elim

end Go.Proofs.YtfhppajnnbbcjaaGreatDoor
end

section
namespace Go.Proofs.YtfhppajnnbbcjaaGreatDoor
open Go.RowKit

abbrev noVal : Array Value := #[.int .i64 0, .int .i64 0, .string ⟨#[]⟩, .slice none 0 0, .slice none 0 0, .slice none 0 0]

/-- the list built up to k -/
def LfRel (l : List J) (w wr : World) (k : Nat) : Prop :=
  Below w.heap.size w wr ∧ wr.heap[w.heap.size]? = some (.cells noVal 26 (0, 0)) ∧ ∃ v, wr.heap[w.heap.size + 1]? = some (.cells #[.int .i64 5, .int .i64 0, .string ⟨#[]⟩, v, .slice none 0 0, .slice none 0 0] 26 (0, 0)) ∧
    VGrow wr (w.heap.size + 2) (fun b => w.heap.size + 2 ≤ b) v (l.take k)

set_option maxRecDepth 100000 in
theorem listFromGo_of (l : List J) (hel : ∀ x ∈ l, FromGoOK x) (D : Nat → Prop) (u : Value) (w : World) (wl : WFL l) (hn : l.length ≤ 1048576) (hD : ∀ b, D b → All w b) (hu : SlAt D l.length u (fun b o => ARow w D b l o)) :
    Calls Tryz.prog 129 #[u] w (FromGoPost (.arr l) w) := by
  obtain ⟨A1, c1, rfl, hc1, hm1, hr1⟩ := hu
  unfold maxLen at hm1
  obtain ⟨i26, hi, hz0, hz1, hz2⟩ := info_parts Tryz.info26
  have HI := Lib.hid hi
  have HZ0 := Lib.hid hz0
  have HZ1 := Lib.hid hz1
  have HZ2 := Lib.hid hz2
  clear hi hz0 hz1 hz2
  go_enter Tryz.func129, Tryz.ntmps129
  go_wp2_with fail
  go_loopw [12] (fun i wr => ∃ k : Nat, k ≤ l.length ∧ i = .int .i64 k ∧ Hid (LfRel l w wr k)) (fun i _ => l.length - (intOf i).toNat)
  case atStart =>
    refine ⟨0, Nat.zero_le _, rfl, ((Below.refl _ _).alloc (Nat.le_refl _) _).alloc (by simp) _, ?_, .slice none 0 0, ?_, VGrow.none_ _ _ _⟩
    · rw [Below.heap_alloc _ _ _ (by simp)]; exact heap_alloc_new w _
    · exact heap_alloc_new1 _ _ _
  case round =>
    obtain ⟨k, hk, rfl, hR⟩ := hrel
    by_cases ha : k < l.length
    · obtain ⟨hb, hres, v, hout, hgr⟩ := hR.out
      clear hR
      obtain ⟨b1, o1, rfl, hlt1, hs1⟩ := hr1 (by omega)
      have hx : l[k]? = some l[k] := List.getElem?_eq_getElem ha
      obtain ⟨y, hy, hay⟩ := (ARow.keep (Same.of_below hb hD) (fun _ h => h) _ _ _ hlt1 hs1).get hx
      have HC := Lib.hid (hel l[k] (List.getElem_mem _) D y wr (WFL_iff.1 wl _ (List.getElem_mem _)) (fun b hb' => Nat.lt_of_lt_of_le (hD b hb') hb.size) hay)
      have HB := Lib.hid hb
      have HG := Lib.hid hgr
      have HR := Lib.hid hres
      have HO := Lib.hid hout
      clear hs1 hr1 hb hay hel hgr hres hout
      go_wp2_with fail
      refine HC.out.mono ?_
      rintro e w1 ⟨cs, rfl, hcs, hb1⟩
      obtain ⟨A2, c2, A3, c3, A4, c4, rfl⟩ := SRep.six hcs
      have hout1 := (hb1.block _ (box_lt HO.out)).trans HO.out
      have hsz1 := box_lt hout1
      have p3 : w1.cell? ⟨w.heap.size + 1, 3, none⟩ = some v := box_cell hout1 3
      have f3 := box_frozen hout1 3
      obtain ⟨xs, hown, hch⟩ := HG.out.below hb1
      rw [List.length_take, Nat.min_eq_left hk] at hown
      have hown3 := (hown.alloc (.cells #[.int .i64 l[k].kind, .int .i64 l[k].half, .string l[k].text, .slice A2 l[k].list.length c2, .slice A3 l[k].keys.length c3, .slice A4 l[k].vals.length c4] 26)).alloc (.cells #[.int .i64 l[k].kind, .int .i64 l[k].half, .string l[k].text, .slice A2 l[k].list.length c2, .slice A3 l[k].keys.length c3, .slice A4 l[k].vals.length c4] 26)
      have HOWN := Lib.hid hown3
      have HCH := Lib.hid hch
      have HCS := Lib.hid hcs
      have HB1 := Lib.hid hb1
      have HX := Lib.hid hx
      clear hown3 hown HC hch hcs hb1 hx
      go_wp2_with (at_builtin; refine wpList_append_own_at _ rfl (.tmp 25) (.tmp 27) 23 rfl (w.heap.size + 2) 26 i26 _ 6 104 Tryz.underlying23 HI.out HZ0.out HZ1.out HZ2.out rfl (by decide) v k xs rfl HOWN.out ⟨w1.heap.size + 1, 0, none⟩ 1 1 [.int .i64 l[k].kind, .int .i64 l[k].half, .string l[k].text, .slice A2 l[k].list.length c2, .slice A3 l[k].keys.length c3, .slice A4 l[k].vals.length c4] rfl rfl ?c1 ?c2 ?c3 ?c4 ?c5 ?_)
      case c1 =>
        intro j u hj
        rw [Addr.add_lit, Nat.zero_add, box_cell (heap_alloc_new1 _ _ _)]
        simpa using hj
      case c2 => intro u hu; simp at hu; rcases hu with rfl | rfl | rfl | rfl | rfl | rfl <;> rfl
      case c3 => unfold maxLen; omega
      case c4 => omega
      case c5 => simp; omega
      intro v' w4 hown4 hg4 _ hat4
      have hlt : ∀ g, v.ownBlock = some g → w.heap.size + 2 ≤ g := fun g hg => (HOWN.out.lt g hg).1
      have hout4 : w4.heap[w.heap.size + 1]? = _ := (hg4.block _ (by simp; omega) (fun e => by have := hlt _ e.symm; omega)).trans ((Below.heap_alloc _ _ _ (by simp; omega)).trans ((Below.heap_alloc _ _ _ (by omega)).trans hout1))
      have HN : Hid (∀ A c, v' = .slice A (k + 1) c → LfRel l w (w4.setCell ⟨w.heap.size + 1, 3, none⟩ (.slice A (k + 1) c)) (k + 1)) := by
        intro A c hv'
        have hs4 := hg4.size
        have hs1 := HB1.out.size
        simp only [World.size_alloc] at hs4
        have hbw : Below w.heap.size w w4 := (((HB.out.trans (HB1.out.mono HB.out.size)).alloc (by omega) _).alloc (by simp; omega) _).grown hg4 (by simp; omega) (fun g hg => by have := hlt g hg; omega)
        refine ⟨hbw.setCell (by simp) _, ?_, v', ?_, ?_⟩
        · rw [heap_setCell_other _ _ _ _ (by simp)]
          exact (hg4.block _ (by simp; omega) (fun e => by have := hlt _ e.symm; omega)).trans ((Below.heap_alloc _ _ _ (by simp; omega)).trans ((Below.heap_alloc _ _ _ (by omega)).trans ((HB1.out.block _ (box_lt HR.out)).trans HR.out)))
        · rw [heap_setCell_same _ _ _ _ _ _ hout4, hv']
          rfl
        · rw [take_snoc' HX.out]
          have hst := VGrow.step (D0 := fun b => w.heap.size + 2 ≤ b) (wB := (w1.alloc (.cells #[.int .i64 l[k].kind, .int .i64 l[k].half, .string l[k].text, .slice A2 l[k].list.length c2, .slice A3 l[k].keys.length c3, .slice A4 l[k].vals.length c4] 26)).alloc (.cells #[.int .i64 l[k].kind, .int .i64 l[k].half, .string l[k].text, .slice A2 l[k].list.length c2, .slice A3 l[k].keys.length c3, .slice A4 l[k].vals.length c4] 26)) (v' := v') (w' := w4) HCH.out
            (VRep.keep (fun _ _ => rfl) (fun b hb => ⟨by have := hb.1; have := box_lt HO.out; omega, hb.2, fun e => by have := (HG.out.own_lt b e.symm).2; have := hb.1; omega⟩) _ _ HCS.out) rfl
            (fun b hb => (Below.heap_alloc _ _ _ (by simp; omega)).trans (Below.heap_alloc _ _ _ hb)) (by simp; omega) (by rw [List.length_take, Nat.min_eq_left hk]; exact hown4) hg4 (by rw [World.size_alloc, World.size_alloc]; exact hat4)
          refine hst.keep (fun b hb hd => heap_setCell_other _ _ _ _ ?_) (by simp [World.setCell])
          show b ≠ w.heap.size + 1
          rcases hd with h | h <;> omega
      obtain ⟨A, c, hv'⟩ : ∃ A c, v' = .slice A (k + 1) c := by
        rcases hown4.2 with ⟨rfl, hn⟩ | ⟨g, cap, cur, hv, -⟩
        · omega
        · exact ⟨_, _, hv⟩
      have HN' := Lib.hid (HN A c hv')
      subst hv'
      have q3 : w4.cell? ⟨w.heap.size + 1, 3, none⟩ = some v := box_cell hout4 3
      have r3 := box_frozen hout4 3
      clear HN hown4 hg4 hat4 hlt hout4 hout1 p3 f3
      go_wp2_with fail
      go_roundw
      case rel => exact ⟨k + 1, by omega, by go_num, HN'⟩
      case measure => simp [intOf]; omega
    · have hk' : k = l.length := by omega
      subst hk'
      obtain ⟨hb, hres, v, hout, hgr⟩ := hR.out
      rw [List.take_length] at hgr
      obtain ⟨A, c, rfl⟩ := hgr.form
      have q0 : wr.cell? ⟨w.heap.size + 1, 0, none⟩ = _ := box_cell hout 0
      have q1 : wr.cell? ⟨w.heap.size + 1, 1, none⟩ = _ := box_cell hout 1
      have q2 : wr.cell? ⟨w.heap.size + 1, 2, none⟩ = _ := box_cell hout 2
      have q3 : wr.cell? ⟨w.heap.size + 1, 3, none⟩ = _ := box_cell hout 3
      have q4 : wr.cell? ⟨w.heap.size + 1, 4, none⟩ = _ := box_cell hout 4
      have q5 : wr.cell? ⟨w.heap.size + 1, 5, none⟩ = _ := box_cell hout 5
      have r0 : wr.cell? ⟨w.heap.size, 0, none⟩ = _ := box_cell hres 0
      have r1 : wr.cell? ⟨w.heap.size, 1, none⟩ = _ := box_cell hres 1
      have r2 : wr.cell? ⟨w.heap.size, 2, none⟩ = _ := box_cell hres 2
      have r3 : wr.cell? ⟨w.heap.size, 3, none⟩ = _ := box_cell hres 3
      have r4 : wr.cell? ⟨w.heap.size, 4, none⟩ = _ := box_cell hres 4
      have r5 : wr.cell? ⟨w.heap.size, 5, none⟩ = _ := box_cell hres 5
      have fz := box_frozen hres
      have HB := Lib.hid hb
      have HG := Lib.hid hgr
      have hsz := box_lt hout
      clear hR hb hgr hres hout hr1 hel
      go_wp2_with fail
      refine bodyPost_ret (v := .tuple #[.agg #[.int .i64 5, .int .i64 0, .string noText, .slice A l.length c, .slice none 0 0, .slice none 0 0], .bool true]) (by simp [results, Tryz.results129, go_sem, r0, r1, r2, r3, r4, r5]; rfl) rfl ?_
      have hbel : Below w.heap.size w ((((((wr.setCell ⟨w.heap.size, 0, none⟩ (.int .i64 5)).setCell ⟨w.heap.size, 1, none⟩ (.int .i64 0)).setCell ⟨w.heap.size, 2, none⟩ (.string ⟨#[]⟩)).setCell ⟨w.heap.size, 3, none⟩ (.slice A l.length c)).setCell ⟨w.heap.size, 4, none⟩ (.slice none 0 0)).setCell ⟨w.heap.size, 5, none⟩ (.slice none 0 0)) := by
        repeat (refine Below.setCell ?_ (by simp) _)
        exact HB.out
      refine ⟨_, rfl, ⟨_, _, _, rfl, ?_, emp _ _, emp _ _⟩, hbel⟩
      rw [toVL_length]
      refine (HG.out.slat (D := fun b => w.heap.size + 2 ≤ b ∧ b < wr.heap.size) (fun b h1 h2 => ⟨h1, h2⟩) (fun b h1 h2 => ⟨h1, h2⟩)).mono (fun b hb' => ⟨by omega, by have := hb'.2; simp [World.setCell]; omega⟩) fun b o hb' hr => VRow.keep (fun k hk => ?_) (fun b hb' => ⟨by omega, by have := hb'.2; simp [World.setCell]; omega⟩) _ _ _ hb' hr
      have : k ≠ w.heap.size := by have := hk.1; omega
      iterate 6 rw [heap_setCell_other _ _ _ _ this]

end Go.Proofs.YtfhppajnnbbcjaaGreatDoor
end
