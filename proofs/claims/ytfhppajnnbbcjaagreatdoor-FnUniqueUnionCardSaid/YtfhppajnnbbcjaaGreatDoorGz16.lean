/- Walks: impl.GetPath.
   Walks: impl.GetPath, whole.
   Walks: the impl functions of two JSON values, over their doors.
   Walks: gojq.funcUnique, ZzUnique, at an array.
   Walks: impl.Unique, at an array.
   Walks: impl.BSearch, at an array.
   Walks: the laws' told and array.
   Walks: the laws' told, at an answer that is fine. -/
import Derived.Test.YtfhppajnnbbcjaaGreatDoorGz15
import Derived.Test.YtfhppajnnbbcjaaGreatDoorGz3
import Derived.Test.YtfhppajnnbbcjaaGreatDoorGz8
import Derived.Test.YtfhppajnnbbcjaaGreatDoorGz11
import Derived.Test.YtfhppajnnbbcjaaGreatDoorGz5
import Derived.Test.YtfhppajnnbbcjaaGreatDoorGz10

section
namespace Go.Proofs.YtfhppajnnbbcjaaGreatDoor
open Go.RowKit

def GPPost (x : J) (ps : List J) (w : World) (e : Ending) (w' : World) : Prop := match getp x ps with
  | some y => ResOK y w e w'
  | none => ResErr w e w'

theorem getp_WF : ∀ {ps : List J} {x y : J}, getp x ps = some y → x.WF → y.WF
  | [], x, y, h, wx => by simp only [getp, Option.some.injEq] at h; subst h; exact wx
  | k :: ps, x, y, h, wx => by
    rw [getp] at h
    split at h
    · cases hs : stepJ x k with
      | none => rw [hs] at h; simp at h
      | some z =>
        rw [hs] at h
        exact getp_WF (show getp z ps = some y from h) (stepJ_WF hs wx)
    · simp at h

theorem getp_append : ∀ (ps qs : List J) (x : J), getp x (ps ++ qs) = (getp x ps).bind fun y => getp y qs
  | [], _, _ => rfl
  | k :: ps, qs, x => by
    rw [List.cons_append, getp, getp]
    split
    · cases hs : stepJ x k with
      | none => rfl
      | some z => exact getp_append ps qs z
    · rfl

end Go.Proofs.YtfhppajnnbbcjaaGreatDoor
end

section
namespace Go.Proofs.YtfhppajnnbbcjaaGreatDoor
open Go.RowKit

abbrev zRes : Array Value := #[.int .i64 0, .int .i64 0, .string ⟨#[]⟩, .slice none 0 0, .slice none 0 0, .slice none 0 0, .int .i64 0]

set_option maxHeartbeats 1000000 in
set_option maxRecDepth 100000 in
theorem GetPath_any (x : J) (ps : List J) (D : Nat → Prop) (cx cp : List Value) (w : World) (wx : x.WF) (wp : (J.arr ps).WF) (hps : ∀ k ∈ ps, Key k) (hD : ∀ b, D b → All w b) (hx : SRep w D x cx) (hp : SRep w D (.arr ps) cp) :
    Calls Tryz.prog 20 #[.agg cx.toArray, .agg cp.toArray] w (GPPost x ps w) := by
  have hb0 : Below w.heap.size w (((w.alloc (.cells cx.toArray 26)).alloc (.cells cp.toArray 26)).alloc (.cells zRes 34)) := (((Below.refl _ _).alloc (Nat.le_refl _) _).alloc (by simp) _).alloc (by simp; omega) _
  have hsz0 : (((w.alloc (.cells cx.toArray 26)).alloc (.cells cp.toArray 26)).alloc (.cells zRes 34)).heap.size = w.heap.size + 3 := by simp
  have HC1 := Lib.hid (toGo_all x D cx _ wx (fun b hb => Nat.lt_of_lt_of_le (hD b hb) hb0.size) (VRep.keep (Same.of_below hb0 hD) (fun _ h => h) _ _ hx))
  have HC2 : Hid (∀ W, Below w.heap.size w W → Calls Tryz.prog 42 #[.agg cp.toArray] W (ToGoPost (.arr ps) W)) := fun W hb => toGo_all (.arr ps) D cp W wp (fun b hb' => Nat.lt_of_lt_of_le (hD b hb') hb.size) (VRep.keep (Same.of_below hb hD) (fun _ h => h) _ _ hp)
  obtain ⟨A1, c1, A2, c2, A3, c3, rfl⟩ := SRep.six hx
  obtain ⟨B1, d1, B2, d2, B3, d3, rfl⟩ := SRep.six hp
  have hbx1 := heap_alloc_new1 w (.cells [Value.int .i64 x.kind, .int .i64 x.half, .string x.text, .slice A1 x.list.length c1, .slice A2 x.keys.length c2, .slice A3 x.vals.length c3].toArray 26) (.cells [Value.int .i64 (J.arr ps).kind, .int .i64 (J.arr ps).half, .string (J.arr ps).text, .slice B1 (J.arr ps).list.length d1, .slice B2 (J.arr ps).keys.length d2, .slice B3 (J.arr ps).vals.length d3].toArray 26)
  have hbx2 : (((w.alloc (.cells [Value.int .i64 x.kind, .int .i64 x.half, .string x.text, .slice A1 x.list.length c1, .slice A2 x.keys.length c2, .slice A3 x.vals.length c3].toArray 26)).alloc (.cells [Value.int .i64 (J.arr ps).kind, .int .i64 (J.arr ps).half, .string (J.arr ps).text, .slice B1 (J.arr ps).list.length d1, .slice B2 (J.arr ps).keys.length d2, .slice B3 (J.arr ps).vals.length d3].toArray 26)).alloc (.cells zRes 34)).heap[w.heap.size + 1]? = some (.cells [Value.int .i64 (J.arr ps).kind, .int .i64 (J.arr ps).half, .string (J.arr ps).text, .slice B1 (J.arr ps).list.length d1, .slice B2 (J.arr ps).keys.length d2, .slice B3 (J.arr ps).vals.length d3].toArray 26 (0, 0)) := (Below.heap_alloc _ _ _ (by simp)).trans hbx1
  have hbx3 : (((w.alloc (.cells [Value.int .i64 x.kind, .int .i64 x.half, .string x.text, .slice A1 x.list.length c1, .slice A2 x.keys.length c2, .slice A3 x.vals.length c3].toArray 26)).alloc (.cells [Value.int .i64 (J.arr ps).kind, .int .i64 (J.arr ps).half, .string (J.arr ps).text, .slice B1 (J.arr ps).list.length d1, .slice B2 (J.arr ps).keys.length d2, .slice B3 (J.arr ps).vals.length d3].toArray 26)).alloc (.cells zRes 34)).heap[w.heap.size + 2]? = some (.cells zRes 34 (0, 0)) := by
    have := heap_alloc_new ((w.alloc (.cells [Value.int .i64 x.kind, .int .i64 x.half, .string x.text, .slice A1 x.list.length c1, .slice A2 x.keys.length c2, .slice A3 x.vals.length c3].toArray 26)).alloc (.cells [Value.int .i64 (J.arr ps).kind, .int .i64 (J.arr ps).half, .string (J.arr ps).text, .slice B1 (J.arr ps).list.length d1, .slice B2 (J.arr ps).keys.length d2, .slice B3 (J.arr ps).vals.length d3].toArray 26)) (.cells zRes 34)
    rwa [World.size_alloc, World.size_alloc] at this
  have HB := Lib.hid (And.intro hb0 (And.intro hsz0 (And.intro hbx2 hbx3)))
  have HW := Lib.hid (And.intro wx (And.intro wp (And.intro hps hD)))
  clear hx hp hb0 hsz0 wx wp hps hD hbx1 hbx2 hbx3
  go_enter Tryz.func20, Tryz.ntmps20
  go_wp2_with fail
  refine HC1.out.mono ?_
  clear HC1
  rintro e w1 ⟨v1, rfl, hv1, hb1⟩
  obtain ⟨W0, hA, hs0, hbp, hbr, hv1, hb1⟩ : ∃ W0 : World, Below w.heap.size w W0 ∧ W0.heap.size = w.heap.size + 3 ∧ W0.heap[w.heap.size + 1]? = some (.cells [Value.int .i64 (J.arr ps).kind, .int .i64 (J.arr ps).half, .string (J.arr ps).text, .slice B1 (J.arr ps).list.length d1, .slice B2 (J.arr ps).keys.length d2, .slice B3 (J.arr ps).vals.length d3].toArray 26 (0, 0)) ∧ W0.heap[w.heap.size + 2]? = some (.cells zRes 34 (0, 0)) ∧
    ARep w1 (Fresh W0 w1) x v1 ∧ Below W0.heap.size W0 w1 := ⟨_, HB.out.1, HB.out.2.1, HB.out.2.2.1, HB.out.2.2.2, hv1, hb1⟩
  clear HB
  have hsz1 := hb1.size
  have hbp1 := (hb1.block _ (by omega)).trans hbp
  have hbr1 := (hb1.block _ (by omega)).trans hbr
  have hA1 : Below w.heap.size w w1 := hA.trans (hb1.mono (by omega))
  have q0 : w1.cell? ⟨w.heap.size + 1, 0, none⟩ = _ := box_cell hbp1 0
  have q1 : w1.cell? ⟨w.heap.size + 1, 1, none⟩ = _ := box_cell hbp1 1
  have q2 : w1.cell? ⟨w.heap.size + 1, 2, none⟩ = _ := box_cell hbp1 2
  have q3 : w1.cell? ⟨w.heap.size + 1, 3, none⟩ = _ := box_cell hbp1 3
  have q4 : w1.cell? ⟨w.heap.size + 1, 4, none⟩ = _ := box_cell hbp1 4
  have q5 : w1.cell? ⟨w.heap.size + 1, 5, none⟩ = _ := box_cell hbp1 5
  have HC := Lib.hid (HC2.out w1 hA1)
  have HV := Lib.hid (And.intro hv1 (And.intro hs0 (And.intro hsz1 (And.intro hbr1 hA1))))
  clear HC2 hv1 hb1 hA hs0 hbp hbr hsz1 hbp1 hbr1 hA1
  go_wp2_with fail
  refine HC.out.mono ?_
  clear HC
  rintro e w2 ⟨v2, rfl, hv2, hb2⟩
  obtain ⟨S, rfl, hS⟩ := hv2
  have hsz2 := hb2.size
  obtain ⟨hv1, hs0, hsz1, hbr1, hA1⟩ := HV.out
  have hv1' : ARep w2 (fun b => w.heap.size + 3 ≤ b ∧ b < w2.heap.size) x v1 := ARep.keep (fun b hb => hb2.block b hb.2) (fun b hb => ⟨by have := hb.1; omega, Nat.lt_of_lt_of_le hb.2 hsz2⟩) _ _ hv1
  have hS' : SlAt (fun b => w.heap.size + 3 ≤ b ∧ b < w2.heap.size) ps.length S (fun b o => ARow w2 (fun b => w.heap.size + 3 ≤ b ∧ b < w2.heap.size) b ps o) :=
    hS.mono (fun b hb => ⟨by have := hb.1; omega, hb.2⟩) fun b o hb hr => ARow.keep (fun _ _ => rfl) (fun b hb => ⟨by have := hb.1; omega, hb.2⟩) _ _ _ hb hr
  have HG := Lib.hid (zzGetPath_any x ps _ v1 S w2 HW.out.1 HW.out.2.2.1 HW.out.2.1.1 hv1' hS')
  have HD := Lib.hid (And.intro (hA1.trans (hb2.mono (by omega))) (And.intro ((hb2.block _ (by omega)).trans hbr1) (show w.heap.size + 3 ≤ w2.heap.size by omega)))
  clear hv1' hS' hS hv1 hs0 hsz1 hbr1 hA1 HV hb2 hsz2 q0 q1 q2 q3 q4 q5
  go_wp2_with fail
  refine HG.out.mono ?_
  clear HG
  intro e w3 hpost
  unfold GetpPost at hpost
  cases hg : getp x ps with
  | some y =>
    rw [hg] at hpost
    obtain ⟨v, rfl, hv, rfl⟩ := hpost
    have HR := Lib.hid (result_val y _ v w3 (getp_WF hg HW.out.1) (fun b hb => hb.2) hv)
    have HY := Lib.hid hg
    clear hv hg
    go_wp2_with fail
    refine HR.out.mono ?_
    clear HR
    rintro e w4 ⟨E1, e1, E2, e2, E3, e3, rfl, hr4, hb4⟩
    have hbr4 := (hb4.block _ (box_lt HD.out.2.1)).trans HD.out.2.1
    have r0 : w4.cell? ⟨w.heap.size + 2, 0, none⟩ = _ := box_cell hbr4 0
    have r1 : w4.cell? ⟨w.heap.size + 2, 1, none⟩ = _ := box_cell hbr4 1
    have r2 : w4.cell? ⟨w.heap.size + 2, 2, none⟩ = _ := box_cell hbr4 2
    have r3 : w4.cell? ⟨w.heap.size + 2, 3, none⟩ = _ := box_cell hbr4 3
    have r4 : w4.cell? ⟨w.heap.size + 2, 4, none⟩ = _ := box_cell hbr4 4
    have r5 : w4.cell? ⟨w.heap.size + 2, 5, none⟩ = _ := box_cell hbr4 5
    have r6 : w4.cell? ⟨w.heap.size + 2, 6, none⟩ = _ := box_cell hbr4 6
    have fz := box_frozen hbr4
    have HF := Lib.hid (And.intro hr4 hb4)
    clear hr4 hb4 hbr4
    go_wp2_with fail
    refine bodyPost_ret (v := .agg #[.int .i64 y.kind, .int .i64 y.half, .string y.text, .slice E1 y.list.length e1, .slice E2 y.keys.length e2, .slice E3 y.vals.length e3, .int .i64 0]) (by simp [results, Tryz.results20, go_sem, r0, r1, r2, r3, r4, r5, r6]) rfl ?_
    unfold GPPost
    rw [HY.out]
    refine ⟨E1, e1, E2, e2, E3, e3, rfl, ?_, ?_⟩
    · refine VRep.keep (D := Fresh w3 w4) (fun b hb => ?_) (fun b hb => ⟨by have := hb.1; have := HD.out.2.2; omega, by have := hb.2; simp [World.setCell]; omega⟩) _ _ HF.out.1
      have hne : b ≠ w.heap.size + 2 := by have := hb.1; have := HD.out.2.2; omega
      iterate 7 rw [heap_setCell_other _ _ _ _ hne]
    · repeat (refine Below.setCell ?_ (by simp; omega) _)
      exact HD.out.1.trans (HF.out.2.mono (by have := HD.out.2.2; omega))
  | none =>
    rw [hg] at hpost
    obtain ⟨T, v, rfl, hT, hb3⟩ := hpost
    have hTe : ∀ (x : TypeId) (W : World), (Instr.typeAssert (.iface T v) x 95 true).run Tryz.prog W = .ok (.tuple #[.iface T v, .bool true]) W := by
      rcases hT with rfl | rfl
      · exact fun x W => te_159 x v W
      · exact fun x W => te_162 x v W
    have HR := Lib.hid (result_err T v w3 hTe)
    have HY := Lib.hid (And.intro hg hb3)
    clear hTe hT hg hb3
    go_wp2_with fail
    refine HR.out.mono ?_
    clear HR
    rintro e w4 ⟨rfl, hb4⟩
    have hbr4 := (hb4.block _ (Nat.lt_of_lt_of_le (box_lt HD.out.2.1) HY.out.2.size)).trans ((HY.out.2.block _ (box_lt HD.out.2.1)).trans HD.out.2.1)
    have r0 : w4.cell? ⟨w.heap.size + 2, 0, none⟩ = _ := box_cell hbr4 0
    have r1 : w4.cell? ⟨w.heap.size + 2, 1, none⟩ = _ := box_cell hbr4 1
    have r2 : w4.cell? ⟨w.heap.size + 2, 2, none⟩ = _ := box_cell hbr4 2
    have r3 : w4.cell? ⟨w.heap.size + 2, 3, none⟩ = _ := box_cell hbr4 3
    have r4 : w4.cell? ⟨w.heap.size + 2, 4, none⟩ = _ := box_cell hbr4 4
    have r5 : w4.cell? ⟨w.heap.size + 2, 5, none⟩ = _ := box_cell hbr4 5
    have r6 : w4.cell? ⟨w.heap.size + 2, 6, none⟩ = _ := box_cell hbr4 6
    have fz := box_frozen hbr4
    have HF := Lib.hid hb4
    clear hb4 hbr4
    go_wp2_with fail
    refine bodyPost_ret (v := .agg #[.int .i64 0, .int .i64 0, .string ⟨#[]⟩, .slice none 0 0, .slice none 0 0, .slice none 0 0, .int .i64 1]) (by simp [results, Tryz.results20, go_sem, r0, r1, r2, r3, r4, r5, r6]) rfl ?_
    unfold GPPost
    rw [HY.out.1]
    refine ⟨rfl, ?_⟩
    repeat (refine Below.setCell ?_ (by simp; omega) _)
    have := HD.out.2.2
    have := HY.out.2.size
    exact (HD.out.1.trans (HY.out.2.mono (by omega))).trans (HF.out.mono (by omega))

end Go.Proofs.YtfhppajnnbbcjaaGreatDoor
end

section
namespace Go.Proofs.YtfhppajnnbbcjaaGreatDoor
open Go.RowKit

/-- what a door answers: a JSON value, or an error -/
def ZPost (Rj : J → Prop) (Re : Prop) (D : Nat → Prop) (W : World) (e : Ending) (W' : World) : Prop :=
  (∃ v j, e = .returned v ∧ j.WF ∧ Rj j ∧ ARep W' (fun b => D b ∨ (W.heap.size ≤ b ∧ b < W'.heap.size)) j v ∧ Below W.heap.size W W') ∨
  ∃ T v, e = .returned (.iface T v) ∧ (T = 159 ∨ T = 162 ∨ T = 205 ∨ T = 211) ∧ Re ∧ Below W.heap.size W W'
def ZHyp (Z : FuncId) (x y : J) (Rj : J → Prop) (Re : Prop) : Prop := ∀ (D : Nat → Prop) (v u : Value) (W : World), (∀ b, D b → All W b) → ARep W D x v → ARep W D y u → Calls Tryz.prog Z #[v, u] W (ZPost Rj Re D W)
def DPost (Rj : J → Prop) (Re : Prop) (w : World) (e : Ending) (w' : World) : Prop := (∃ j, Rj j ∧ ResOK j w e w') ∨ (Re ∧ ResErr w e w')

set_option maxHeartbeats 1000000 in
set_option maxRecDepth 100000 in
theorem door_IndexOf (x y : J) (Rj : J → Prop) (Re : Prop) (D : Nat → Prop) (cx cp : List Value) (w : World) (wx : x.WF) (wp : y.WF) (hz : ZHyp 44 x y Rj Re) (hD : ∀ b, D b → All w b) (hx : SRep w D x cx) (hp : SRep w D y cp) :
    Calls Tryz.prog 12 #[.agg cx.toArray, .agg cp.toArray] w (DPost Rj Re w) := by
  have hb0 : Below w.heap.size w (((w.alloc (.cells cx.toArray 26)).alloc (.cells cp.toArray 26)).alloc (.cells zRes 34)) := (((Below.refl _ _).alloc (Nat.le_refl _) _).alloc (by simp) _).alloc (by simp; omega) _
  have hsz0 : (((w.alloc (.cells cx.toArray 26)).alloc (.cells cp.toArray 26)).alloc (.cells zRes 34)).heap.size = w.heap.size + 3 := by simp
  have HC1 := Lib.hid (toGo_all x D cx _ wx (fun b hb => Nat.lt_of_lt_of_le (hD b hb) hb0.size) (VRep.keep (Same.of_below hb0 hD) (fun _ h => h) _ _ hx))
  have HC2 : Hid (∀ W, Below w.heap.size w W → Calls Tryz.prog 42 #[.agg cp.toArray] W (ToGoPost y W)) := fun W hb => toGo_all y D cp W wp (fun b hb' => Nat.lt_of_lt_of_le (hD b hb') hb.size) (VRep.keep (Same.of_below hb hD) (fun _ h => h) _ _ hp)
  obtain ⟨A1, c1, A2, c2, A3, c3, rfl⟩ := SRep.six hx
  obtain ⟨B1, d1, B2, d2, B3, d3, rfl⟩ := SRep.six hp
  have hbx1 := heap_alloc_new1 w (.cells [Value.int .i64 x.kind, .int .i64 x.half, .string x.text, .slice A1 x.list.length c1, .slice A2 x.keys.length c2, .slice A3 x.vals.length c3].toArray 26) (.cells [Value.int .i64 y.kind, .int .i64 y.half, .string y.text, .slice B1 y.list.length d1, .slice B2 y.keys.length d2, .slice B3 y.vals.length d3].toArray 26)
  have hbx2 : (((w.alloc (.cells [Value.int .i64 x.kind, .int .i64 x.half, .string x.text, .slice A1 x.list.length c1, .slice A2 x.keys.length c2, .slice A3 x.vals.length c3].toArray 26)).alloc (.cells [Value.int .i64 y.kind, .int .i64 y.half, .string y.text, .slice B1 y.list.length d1, .slice B2 y.keys.length d2, .slice B3 y.vals.length d3].toArray 26)).alloc (.cells zRes 34)).heap[w.heap.size + 1]? = some (.cells [Value.int .i64 y.kind, .int .i64 y.half, .string y.text, .slice B1 y.list.length d1, .slice B2 y.keys.length d2, .slice B3 y.vals.length d3].toArray 26 (0, 0)) := (Below.heap_alloc _ _ _ (by simp)).trans hbx1
  have hbx3 : (((w.alloc (.cells [Value.int .i64 x.kind, .int .i64 x.half, .string x.text, .slice A1 x.list.length c1, .slice A2 x.keys.length c2, .slice A3 x.vals.length c3].toArray 26)).alloc (.cells [Value.int .i64 y.kind, .int .i64 y.half, .string y.text, .slice B1 y.list.length d1, .slice B2 y.keys.length d2, .slice B3 y.vals.length d3].toArray 26)).alloc (.cells zRes 34)).heap[w.heap.size + 2]? = some (.cells zRes 34 (0, 0)) := by
    have := heap_alloc_new ((w.alloc (.cells [Value.int .i64 x.kind, .int .i64 x.half, .string x.text, .slice A1 x.list.length c1, .slice A2 x.keys.length c2, .slice A3 x.vals.length c3].toArray 26)).alloc (.cells [Value.int .i64 y.kind, .int .i64 y.half, .string y.text, .slice B1 y.list.length d1, .slice B2 y.keys.length d2, .slice B3 y.vals.length d3].toArray 26)) (.cells zRes 34)
    rwa [World.size_alloc, World.size_alloc] at this
  have HB := Lib.hid (And.intro hb0 (And.intro hsz0 (And.intro hbx2 hbx3)))
  have HW := Lib.hid (And.intro wx (And.intro wp (And.intro hz hD)))
  clear hx hp hb0 hsz0 wx wp hz hD hbx1 hbx2 hbx3
  go_enter Tryz.func12, Tryz.ntmps12
  go_wp2_with fail
  refine HC1.out.mono ?_
  clear HC1
  rintro e w1 ⟨v1, rfl, hv1, hb1⟩
  obtain ⟨W0, hA, hs0, hbp, hbr, hv1, hb1⟩ : ∃ W0 : World, Below w.heap.size w W0 ∧ W0.heap.size = w.heap.size + 3 ∧ W0.heap[w.heap.size + 1]? = some (.cells [Value.int .i64 y.kind, .int .i64 y.half, .string y.text, .slice B1 y.list.length d1, .slice B2 y.keys.length d2, .slice B3 y.vals.length d3].toArray 26 (0, 0)) ∧ W0.heap[w.heap.size + 2]? = some (.cells zRes 34 (0, 0)) ∧
    ARep w1 (Fresh W0 w1) x v1 ∧ Below W0.heap.size W0 w1 := ⟨_, HB.out.1, HB.out.2.1, HB.out.2.2.1, HB.out.2.2.2, hv1, hb1⟩
  clear HB
  have hsz1 := hb1.size
  have hbp1 := (hb1.block _ (by omega)).trans hbp
  have hbr1 := (hb1.block _ (by omega)).trans hbr
  have hA1 : Below w.heap.size w w1 := hA.trans (hb1.mono (by omega))
  have q0 : w1.cell? ⟨w.heap.size + 1, 0, none⟩ = _ := box_cell hbp1 0
  have q1 : w1.cell? ⟨w.heap.size + 1, 1, none⟩ = _ := box_cell hbp1 1
  have q2 : w1.cell? ⟨w.heap.size + 1, 2, none⟩ = _ := box_cell hbp1 2
  have q3 : w1.cell? ⟨w.heap.size + 1, 3, none⟩ = _ := box_cell hbp1 3
  have q4 : w1.cell? ⟨w.heap.size + 1, 4, none⟩ = _ := box_cell hbp1 4
  have q5 : w1.cell? ⟨w.heap.size + 1, 5, none⟩ = _ := box_cell hbp1 5
  have HC := Lib.hid (HC2.out w1 hA1)
  have HV := Lib.hid (And.intro hv1 (And.intro hs0 (And.intro hsz1 (And.intro hbr1 hA1))))
  clear HC2 hv1 hb1 hA hs0 hbp hbr hsz1 hbp1 hbr1 hA1
  go_wp2_with fail
  refine HC.out.mono ?_
  clear HC
  rintro e w2 ⟨v2, rfl, hv2, hb2⟩
  have hsz2 := hb2.size
  obtain ⟨hv1, hs0, hsz1, hbr1, hA1⟩ := HV.out
  have hv1' : ARep w2 (fun b => w.heap.size + 3 ≤ b ∧ b < w2.heap.size) x v1 := ARep.keep (fun b hb => hb2.block b hb.2) (fun b hb => ⟨by have := hb.1; omega, Nat.lt_of_lt_of_le hb.2 hsz2⟩) _ _ hv1
  have hS' : ARep w2 (fun b => w.heap.size + 3 ≤ b ∧ b < w2.heap.size) y v2 := ARep.keep (fun _ _ => rfl) (fun b hb => ⟨by have := hb.1; omega, hb.2⟩) _ _ hv2
  have HG := Lib.hid (HW.out.2.2.1 (fun b => w.heap.size + 3 ≤ b ∧ b < w2.heap.size) v1 v2 w2 (fun b hb => hb.2) hv1' hS')
  have HD := Lib.hid (And.intro (hA1.trans (hb2.mono (by omega))) (And.intro ((hb2.block _ (by omega)).trans hbr1) (show w.heap.size + 3 ≤ w2.heap.size by omega)))
  clear hv1' hS' hv2 hv1 hs0 hsz1 hbr1 hA1 HV hb2 hsz2 q0 q1 q2 q3 q4 q5
  go_wp2_with fail
  refine HG.out.mono ?_
  clear HG
  intro e w3 hpost
  rcases hpost with ⟨v, y, rfl, wj, hR, hv, hb3⟩ | ⟨T, v, rfl, hT, hR, hb3⟩
  · have hv' : ARep w3 (fun b => w.heap.size + 3 ≤ b ∧ b < w3.heap.size) y v := ARep.keep (fun _ _ => rfl) (fun b hb => by
      rcases hb with hb | hb
      · exact ⟨hb.1, Nat.lt_of_lt_of_le hb.2 hb3.size⟩
      · exact ⟨Nat.le_trans HD.out.2.2 hb.1, hb.2⟩) _ _ hv
    have hD3 := And.intro (HD.out.1.trans (hb3.mono (by have := HD.out.2.2; omega))) (And.intro ((hb3.block _ (box_lt HD.out.2.1)).trans HD.out.2.1) (Nat.le_trans HD.out.2.2 hb3.size))
    replace HD := Lib.hid hD3
    have HR := Lib.hid (result_val y _ v w3 wj (fun b hb => hb.2) hv')
    have HY := Lib.hid hR
    clear hv hv' hD3 hb3 wj hR
    go_wp2_with fail
    refine HR.out.mono ?_
    clear HR
    rintro e w4 ⟨E1, e1, E2, e2, E3, e3, rfl, hr4, hb4⟩
    have hbr4 := (hb4.block _ (box_lt HD.out.2.1)).trans HD.out.2.1
    have r0 : w4.cell? ⟨w.heap.size + 2, 0, none⟩ = _ := box_cell hbr4 0
    have r1 : w4.cell? ⟨w.heap.size + 2, 1, none⟩ = _ := box_cell hbr4 1
    have r2 : w4.cell? ⟨w.heap.size + 2, 2, none⟩ = _ := box_cell hbr4 2
    have r3 : w4.cell? ⟨w.heap.size + 2, 3, none⟩ = _ := box_cell hbr4 3
    have r4 : w4.cell? ⟨w.heap.size + 2, 4, none⟩ = _ := box_cell hbr4 4
    have r5 : w4.cell? ⟨w.heap.size + 2, 5, none⟩ = _ := box_cell hbr4 5
    have r6 : w4.cell? ⟨w.heap.size + 2, 6, none⟩ = _ := box_cell hbr4 6
    have fz := box_frozen hbr4
    have HF := Lib.hid (And.intro hr4 hb4)
    clear hr4 hb4 hbr4
    go_wp2_with fail
    refine bodyPost_ret (v := .agg #[.int .i64 y.kind, .int .i64 y.half, .string y.text, .slice E1 y.list.length e1, .slice E2 y.keys.length e2, .slice E3 y.vals.length e3, .int .i64 0]) (by simp [results, Tryz.results12, go_sem, r0, r1, r2, r3, r4, r5, r6]) rfl ?_
    refine .inl ⟨y, HY.out, ?_⟩
    refine ⟨E1, e1, E2, e2, E3, e3, rfl, ?_, ?_⟩
    · refine VRep.keep (D := Fresh w3 w4) (fun b hb => ?_) (fun b hb => ⟨by have := hb.1; have := HD.out.2.2; omega, by have := hb.2; simp [World.setCell]; omega⟩) _ _ HF.out.1
      have hne : b ≠ w.heap.size + 2 := by have := hb.1; have := HD.out.2.2; omega
      iterate 7 rw [heap_setCell_other _ _ _ _ hne]
    · repeat (refine Below.setCell ?_ (by simp; omega) _)
      exact HD.out.1.trans (HF.out.2.mono (by have := HD.out.2.2; omega))
  · have hTe : ∀ (x : TypeId) (W : World), (Instr.typeAssert (.iface T v) x 95 true).run Tryz.prog W = .ok (.tuple #[.iface T v, .bool true]) W := by
      rcases hT with rfl | rfl | rfl | rfl
      · exact fun x W => te_159 x v W
      · exact fun x W => te_162 x v W
      · exact fun x W => te_205 x v W
      · exact fun x W => te_211 x v W
    have HR := Lib.hid (result_err T v w3 hTe)
    have HY := Lib.hid (And.intro hR hb3)
    clear hTe hT hR hb3
    go_wp2_with fail
    refine HR.out.mono ?_
    clear HR
    rintro e w4 ⟨rfl, hb4⟩
    have hbr4 := (hb4.block _ (Nat.lt_of_lt_of_le (box_lt HD.out.2.1) HY.out.2.size)).trans ((HY.out.2.block _ (box_lt HD.out.2.1)).trans HD.out.2.1)
    have r0 : w4.cell? ⟨w.heap.size + 2, 0, none⟩ = _ := box_cell hbr4 0
    have r1 : w4.cell? ⟨w.heap.size + 2, 1, none⟩ = _ := box_cell hbr4 1
    have r2 : w4.cell? ⟨w.heap.size + 2, 2, none⟩ = _ := box_cell hbr4 2
    have r3 : w4.cell? ⟨w.heap.size + 2, 3, none⟩ = _ := box_cell hbr4 3
    have r4 : w4.cell? ⟨w.heap.size + 2, 4, none⟩ = _ := box_cell hbr4 4
    have r5 : w4.cell? ⟨w.heap.size + 2, 5, none⟩ = _ := box_cell hbr4 5
    have r6 : w4.cell? ⟨w.heap.size + 2, 6, none⟩ = _ := box_cell hbr4 6
    have fz := box_frozen hbr4
    have HF := Lib.hid hb4
    clear hb4 hbr4
    go_wp2_with fail
    refine bodyPost_ret (v := .agg #[.int .i64 0, .int .i64 0, .string ⟨#[]⟩, .slice none 0 0, .slice none 0 0, .slice none 0 0, .int .i64 1]) (by simp [results, Tryz.results12, go_sem, r0, r1, r2, r3, r4, r5, r6]) rfl ?_
    refine .inr ⟨HY.out.1, rfl, ?_⟩
    repeat (refine Below.setCell ?_ (by simp; omega) _)
    have := HD.out.2.2
    have := HY.out.2.size
    exact (HD.out.1.trans (HY.out.2.mono (by omega))).trans (HF.out.mono (by omega))

set_option maxHeartbeats 1000000 in
set_option maxRecDepth 100000 in
theorem door_RIndexOf (x y : J) (Rj : J → Prop) (Re : Prop) (D : Nat → Prop) (cx cp : List Value) (w : World) (wx : x.WF) (wp : y.WF) (hz : ZHyp 45 x y Rj Re) (hD : ∀ b, D b → All w b) (hx : SRep w D x cx) (hp : SRep w D y cp) :
    Calls Tryz.prog 13 #[.agg cx.toArray, .agg cp.toArray] w (DPost Rj Re w) := by
  have hb0 : Below w.heap.size w (((w.alloc (.cells cx.toArray 26)).alloc (.cells cp.toArray 26)).alloc (.cells zRes 34)) := (((Below.refl _ _).alloc (Nat.le_refl _) _).alloc (by simp) _).alloc (by simp; omega) _
  have hsz0 : (((w.alloc (.cells cx.toArray 26)).alloc (.cells cp.toArray 26)).alloc (.cells zRes 34)).heap.size = w.heap.size + 3 := by simp
  have HC1 := Lib.hid (toGo_all x D cx _ wx (fun b hb => Nat.lt_of_lt_of_le (hD b hb) hb0.size) (VRep.keep (Same.of_below hb0 hD) (fun _ h => h) _ _ hx))
  have HC2 : Hid (∀ W, Below w.heap.size w W → Calls Tryz.prog 42 #[.agg cp.toArray] W (ToGoPost y W)) := fun W hb => toGo_all y D cp W wp (fun b hb' => Nat.lt_of_lt_of_le (hD b hb') hb.size) (VRep.keep (Same.of_below hb hD) (fun _ h => h) _ _ hp)
  obtain ⟨A1, c1, A2, c2, A3, c3, rfl⟩ := SRep.six hx
  obtain ⟨B1, d1, B2, d2, B3, d3, rfl⟩ := SRep.six hp
  have hbx1 := heap_alloc_new1 w (.cells [Value.int .i64 x.kind, .int .i64 x.half, .string x.text, .slice A1 x.list.length c1, .slice A2 x.keys.length c2, .slice A3 x.vals.length c3].toArray 26) (.cells [Value.int .i64 y.kind, .int .i64 y.half, .string y.text, .slice B1 y.list.length d1, .slice B2 y.keys.length d2, .slice B3 y.vals.length d3].toArray 26)
  have hbx2 : (((w.alloc (.cells [Value.int .i64 x.kind, .int .i64 x.half, .string x.text, .slice A1 x.list.length c1, .slice A2 x.keys.length c2, .slice A3 x.vals.length c3].toArray 26)).alloc (.cells [Value.int .i64 y.kind, .int .i64 y.half, .string y.text, .slice B1 y.list.length d1, .slice B2 y.keys.length d2, .slice B3 y.vals.length d3].toArray 26)).alloc (.cells zRes 34)).heap[w.heap.size + 1]? = some (.cells [Value.int .i64 y.kind, .int .i64 y.half, .string y.text, .slice B1 y.list.length d1, .slice B2 y.keys.length d2, .slice B3 y.vals.length d3].toArray 26 (0, 0)) := (Below.heap_alloc _ _ _ (by simp)).trans hbx1
  have hbx3 : (((w.alloc (.cells [Value.int .i64 x.kind, .int .i64 x.half, .string x.text, .slice A1 x.list.length c1, .slice A2 x.keys.length c2, .slice A3 x.vals.length c3].toArray 26)).alloc (.cells [Value.int .i64 y.kind, .int .i64 y.half, .string y.text, .slice B1 y.list.length d1, .slice B2 y.keys.length d2, .slice B3 y.vals.length d3].toArray 26)).alloc (.cells zRes 34)).heap[w.heap.size + 2]? = some (.cells zRes 34 (0, 0)) := by
    have := heap_alloc_new ((w.alloc (.cells [Value.int .i64 x.kind, .int .i64 x.half, .string x.text, .slice A1 x.list.length c1, .slice A2 x.keys.length c2, .slice A3 x.vals.length c3].toArray 26)).alloc (.cells [Value.int .i64 y.kind, .int .i64 y.half, .string y.text, .slice B1 y.list.length d1, .slice B2 y.keys.length d2, .slice B3 y.vals.length d3].toArray 26)) (.cells zRes 34)
    rwa [World.size_alloc, World.size_alloc] at this
  have HB := Lib.hid (And.intro hb0 (And.intro hsz0 (And.intro hbx2 hbx3)))
  have HW := Lib.hid (And.intro wx (And.intro wp (And.intro hz hD)))
  clear hx hp hb0 hsz0 wx wp hz hD hbx1 hbx2 hbx3
  go_enter Tryz.func13, Tryz.ntmps13
  go_wp2_with fail
  refine HC1.out.mono ?_
  clear HC1
  rintro e w1 ⟨v1, rfl, hv1, hb1⟩
  obtain ⟨W0, hA, hs0, hbp, hbr, hv1, hb1⟩ : ∃ W0 : World, Below w.heap.size w W0 ∧ W0.heap.size = w.heap.size + 3 ∧ W0.heap[w.heap.size + 1]? = some (.cells [Value.int .i64 y.kind, .int .i64 y.half, .string y.text, .slice B1 y.list.length d1, .slice B2 y.keys.length d2, .slice B3 y.vals.length d3].toArray 26 (0, 0)) ∧ W0.heap[w.heap.size + 2]? = some (.cells zRes 34 (0, 0)) ∧
    ARep w1 (Fresh W0 w1) x v1 ∧ Below W0.heap.size W0 w1 := ⟨_, HB.out.1, HB.out.2.1, HB.out.2.2.1, HB.out.2.2.2, hv1, hb1⟩
  clear HB
  have hsz1 := hb1.size
  have hbp1 := (hb1.block _ (by omega)).trans hbp
  have hbr1 := (hb1.block _ (by omega)).trans hbr
  have hA1 : Below w.heap.size w w1 := hA.trans (hb1.mono (by omega))
  have q0 : w1.cell? ⟨w.heap.size + 1, 0, none⟩ = _ := box_cell hbp1 0
  have q1 : w1.cell? ⟨w.heap.size + 1, 1, none⟩ = _ := box_cell hbp1 1
  have q2 : w1.cell? ⟨w.heap.size + 1, 2, none⟩ = _ := box_cell hbp1 2
  have q3 : w1.cell? ⟨w.heap.size + 1, 3, none⟩ = _ := box_cell hbp1 3
  have q4 : w1.cell? ⟨w.heap.size + 1, 4, none⟩ = _ := box_cell hbp1 4
  have q5 : w1.cell? ⟨w.heap.size + 1, 5, none⟩ = _ := box_cell hbp1 5
  have HC := Lib.hid (HC2.out w1 hA1)
  have HV := Lib.hid (And.intro hv1 (And.intro hs0 (And.intro hsz1 (And.intro hbr1 hA1))))
  clear HC2 hv1 hb1 hA hs0 hbp hbr hsz1 hbp1 hbr1 hA1
  go_wp2_with fail
  refine HC.out.mono ?_
  clear HC
  rintro e w2 ⟨v2, rfl, hv2, hb2⟩
  have hsz2 := hb2.size
  obtain ⟨hv1, hs0, hsz1, hbr1, hA1⟩ := HV.out
  have hv1' : ARep w2 (fun b => w.heap.size + 3 ≤ b ∧ b < w2.heap.size) x v1 := ARep.keep (fun b hb => hb2.block b hb.2) (fun b hb => ⟨by have := hb.1; omega, Nat.lt_of_lt_of_le hb.2 hsz2⟩) _ _ hv1
  have hS' : ARep w2 (fun b => w.heap.size + 3 ≤ b ∧ b < w2.heap.size) y v2 := ARep.keep (fun _ _ => rfl) (fun b hb => ⟨by have := hb.1; omega, hb.2⟩) _ _ hv2
  have HG := Lib.hid (HW.out.2.2.1 (fun b => w.heap.size + 3 ≤ b ∧ b < w2.heap.size) v1 v2 w2 (fun b hb => hb.2) hv1' hS')
  have HD := Lib.hid (And.intro (hA1.trans (hb2.mono (by omega))) (And.intro ((hb2.block _ (by omega)).trans hbr1) (show w.heap.size + 3 ≤ w2.heap.size by omega)))
  clear hv1' hS' hv2 hv1 hs0 hsz1 hbr1 hA1 HV hb2 hsz2 q0 q1 q2 q3 q4 q5
  go_wp2_with fail
  refine HG.out.mono ?_
  clear HG
  intro e w3 hpost
  rcases hpost with ⟨v, y, rfl, wj, hR, hv, hb3⟩ | ⟨T, v, rfl, hT, hR, hb3⟩
  · have hv' : ARep w3 (fun b => w.heap.size + 3 ≤ b ∧ b < w3.heap.size) y v := ARep.keep (fun _ _ => rfl) (fun b hb => by
      rcases hb with hb | hb
      · exact ⟨hb.1, Nat.lt_of_lt_of_le hb.2 hb3.size⟩
      · exact ⟨Nat.le_trans HD.out.2.2 hb.1, hb.2⟩) _ _ hv
    have hD3 := And.intro (HD.out.1.trans (hb3.mono (by have := HD.out.2.2; omega))) (And.intro ((hb3.block _ (box_lt HD.out.2.1)).trans HD.out.2.1) (Nat.le_trans HD.out.2.2 hb3.size))
    replace HD := Lib.hid hD3
    have HR := Lib.hid (result_val y _ v w3 wj (fun b hb => hb.2) hv')
    have HY := Lib.hid hR
    clear hv hv' hD3 hb3 wj hR
    go_wp2_with fail
    refine HR.out.mono ?_
    clear HR
    rintro e w4 ⟨E1, e1, E2, e2, E3, e3, rfl, hr4, hb4⟩
    have hbr4 := (hb4.block _ (box_lt HD.out.2.1)).trans HD.out.2.1
    have r0 : w4.cell? ⟨w.heap.size + 2, 0, none⟩ = _ := box_cell hbr4 0
    have r1 : w4.cell? ⟨w.heap.size + 2, 1, none⟩ = _ := box_cell hbr4 1
    have r2 : w4.cell? ⟨w.heap.size + 2, 2, none⟩ = _ := box_cell hbr4 2
    have r3 : w4.cell? ⟨w.heap.size + 2, 3, none⟩ = _ := box_cell hbr4 3
    have r4 : w4.cell? ⟨w.heap.size + 2, 4, none⟩ = _ := box_cell hbr4 4
    have r5 : w4.cell? ⟨w.heap.size + 2, 5, none⟩ = _ := box_cell hbr4 5
    have r6 : w4.cell? ⟨w.heap.size + 2, 6, none⟩ = _ := box_cell hbr4 6
    have fz := box_frozen hbr4
    have HF := Lib.hid (And.intro hr4 hb4)
    clear hr4 hb4 hbr4
    go_wp2_with fail
    refine bodyPost_ret (v := .agg #[.int .i64 y.kind, .int .i64 y.half, .string y.text, .slice E1 y.list.length e1, .slice E2 y.keys.length e2, .slice E3 y.vals.length e3, .int .i64 0]) (by simp [results, Tryz.results13, go_sem, r0, r1, r2, r3, r4, r5, r6]) rfl ?_
    refine .inl ⟨y, HY.out, ?_⟩
    refine ⟨E1, e1, E2, e2, E3, e3, rfl, ?_, ?_⟩
    · refine VRep.keep (D := Fresh w3 w4) (fun b hb => ?_) (fun b hb => ⟨by have := hb.1; have := HD.out.2.2; omega, by have := hb.2; simp [World.setCell]; omega⟩) _ _ HF.out.1
      have hne : b ≠ w.heap.size + 2 := by have := hb.1; have := HD.out.2.2; omega
      iterate 7 rw [heap_setCell_other _ _ _ _ hne]
    · repeat (refine Below.setCell ?_ (by simp; omega) _)
      exact HD.out.1.trans (HF.out.2.mono (by have := HD.out.2.2; omega))
  · have hTe : ∀ (x : TypeId) (W : World), (Instr.typeAssert (.iface T v) x 95 true).run Tryz.prog W = .ok (.tuple #[.iface T v, .bool true]) W := by
      rcases hT with rfl | rfl | rfl | rfl
      · exact fun x W => te_159 x v W
      · exact fun x W => te_162 x v W
      · exact fun x W => te_205 x v W
      · exact fun x W => te_211 x v W
    have HR := Lib.hid (result_err T v w3 hTe)
    have HY := Lib.hid (And.intro hR hb3)
    clear hTe hT hR hb3
    go_wp2_with fail
    refine HR.out.mono ?_
    clear HR
    rintro e w4 ⟨rfl, hb4⟩
    have hbr4 := (hb4.block _ (Nat.lt_of_lt_of_le (box_lt HD.out.2.1) HY.out.2.size)).trans ((HY.out.2.block _ (box_lt HD.out.2.1)).trans HD.out.2.1)
    have r0 : w4.cell? ⟨w.heap.size + 2, 0, none⟩ = _ := box_cell hbr4 0
    have r1 : w4.cell? ⟨w.heap.size + 2, 1, none⟩ = _ := box_cell hbr4 1
    have r2 : w4.cell? ⟨w.heap.size + 2, 2, none⟩ = _ := box_cell hbr4 2
    have r3 : w4.cell? ⟨w.heap.size + 2, 3, none⟩ = _ := box_cell hbr4 3
    have r4 : w4.cell? ⟨w.heap.size + 2, 4, none⟩ = _ := box_cell hbr4 4
    have r5 : w4.cell? ⟨w.heap.size + 2, 5, none⟩ = _ := box_cell hbr4 5
    have r6 : w4.cell? ⟨w.heap.size + 2, 6, none⟩ = _ := box_cell hbr4 6
    have fz := box_frozen hbr4
    have HF := Lib.hid hb4
    clear hb4 hbr4
    go_wp2_with fail
    refine bodyPost_ret (v := .agg #[.int .i64 0, .int .i64 0, .string ⟨#[]⟩, .slice none 0 0, .slice none 0 0, .slice none 0 0, .int .i64 1]) (by simp [results, Tryz.results13, go_sem, r0, r1, r2, r3, r4, r5, r6]) rfl ?_
    refine .inr ⟨HY.out.1, rfl, ?_⟩
    repeat (refine Below.setCell ?_ (by simp; omega) _)
    have := HD.out.2.2
    have := HY.out.2.size
    exact (HD.out.1.trans (HY.out.2.mono (by omega))).trans (HF.out.mono (by omega))

end Go.Proofs.YtfhppajnnbbcjaaGreatDoor
end

section
namespace Go.Proofs.YtfhppajnnbbcjaaGreatDoor
open Go.RowKit

set_option maxRecDepth 100000 in
theorem gUnique_any (l : List J) (D : Nat → Prop) (S : Value) (w : World) (wl : WFL l) (hn : l.length ≤ 1048576) (hD : ∀ b, D b → All w b) (hS : SlAt D l.length S (fun b o => ARow w D b l o)) : Calls Tryz.prog 99 #[.iface 88 S] w (UBPost l D w) := by
  have HC := Lib.hid (fun nm => uniqueBy_any nm l D S w wl hn hD hS)
  clear wl hn hD hS
  go_enter Tryz.func99, Tryz.ntmps99
  go_wp2_with fail
  refine (HC.out _).mono ?_
  clear HC
  rintro e w1 ⟨v, u, rfl, hu, hv, hb⟩
  have HV := Lib.hid (And.intro hu (And.intro hv hb))
  clear hu hv hb
  go_wp2_with fail
  go_ret
  exact ⟨_, u, rfl, HV.out⟩

set_option maxRecDepth 100000 in
theorem zzUnique_any (l : List J) (D : Nat → Prop) (S : Value) (w : World) (wl : WFL l) (hn : l.length ≤ 1048576) (hD : ∀ b, D b → All w b) (hS : SlAt D l.length S (fun b o => ARow w D b l o)) : Calls Tryz.prog 54 #[.iface 88 S] w (UBPost l D w) := by
  have HC := Lib.hid (gUnique_any l D S w wl hn hD hS)
  clear wl hn hD hS
  go_enter Tryz.func54, Tryz.ntmps54
  go_wp2_with fail
  refine HC.out.mono ?_
  clear HC
  rintro e w1 ⟨v, u, rfl, hu, hv, hb⟩
  have HV := Lib.hid (And.intro hu (And.intro hv hb))
  clear hu hv hb
  go_wp2_with fail
  go_ret
  exact ⟨_, u, rfl, HV.out⟩

/-- the hypothesis of a door of one value -/
def ZHyp1 (Z : FuncId) (x : J) (Rj : J → Prop) (Re : Prop) : Prop := ∀ (D : Nat → Prop) (v : Value) (W : World), (∀ b, D b → All W b) → ARep W D x v → Calls Tryz.prog Z #[v] W (ZPost Rj Re D W)

/-- what Unique answers -/
def RUniq (l : List J) (j : J) : Prop := ∃ u, j = .arr u ∧ Uniq l u ∧ (J.arr u).WF

theorem uniq_wf {l u : List J} (h : Uniq l u) (hn : u.length ≤ l.length) (hl : (J.arr l).WF) : (J.arr u).WF :=
  ⟨Nat.le_trans hn hl.1, WFL_iff.2 fun x hx => WFL_iff.1 hl.2 x ((h.mem x).1 hx)⟩

theorem unique_hyp (l : List J) (wl : (J.arr l).WF) : ZHyp1 54 (.arr l) (RUniq l) False := by
  intro D v W hD hv
  obtain ⟨S, rfl, hS⟩ := hv
  refine (zzUnique_any l D S W wl.2 wl.1 hD hS).mono ?_
  rintro e w' ⟨v, u, rfl, hu, hv, hb⟩
  exact .inl ⟨v, .arr u, rfl, uniq_wf hu.1 hu.2 wl, ⟨u, rfl, hu.1, uniq_wf hu.1 hu.2 wl⟩, hv, hb⟩
end Go.Proofs.YtfhppajnnbbcjaaGreatDoor
end

section
namespace Go.Proofs.YtfhppajnnbbcjaaGreatDoor
open Go.RowKit

set_option maxHeartbeats 1000000 in
set_option maxRecDepth 100000 in
theorem door_Unique (x : J) (Rj : J → Prop) (D : Nat → Prop) (cx : List Value) (w : World) (wx : x.WF) (hz : ZHyp1 54 x Rj False) (hD : ∀ b, D b → All w b) (hx : SRep w D x cx) :
    Calls Tryz.prog 22 #[.agg cx.toArray] w (DPost Rj False w) := by
  have hb0 : Below w.heap.size w ((w.alloc (.cells cx.toArray 26)).alloc (.cells zRes 34)) := ((Below.refl _ _).alloc (Nat.le_refl _) _).alloc (by simp) _
  have hsz0 : ((w.alloc (.cells cx.toArray 26)).alloc (.cells zRes 34)).heap.size = w.heap.size + 2 := by simp
  have HC1 := Lib.hid (toGo_all x D cx _ wx (fun b hb => Nat.lt_of_lt_of_le (hD b hb) hb0.size) (VRep.keep (Same.of_below hb0 hD) (fun _ h => h) _ _ hx))
  obtain ⟨A1, c1, A2, c2, A3, c3, rfl⟩ := SRep.six hx
  have hbx := heap_alloc_new1 w (.cells [Value.int .i64 x.kind, .int .i64 x.half, .string x.text, .slice A1 x.list.length c1, .slice A2 x.keys.length c2, .slice A3 x.vals.length c3].toArray 26) (.cells zRes 34)
  have HB := Lib.hid (And.intro hb0 (And.intro hsz0 hbx))
  have HW := Lib.hid (And.intro wx (And.intro hz hD))
  clear hx hb0 hsz0 wx hz hD hbx
  go_enter Tryz.func22, Tryz.ntmps22
  go_wp2_with fail
  refine HC1.out.mono ?_
  clear HC1
  rintro e w1 ⟨v1, rfl, hv1, hb1⟩
  obtain ⟨W0, hA, hs0, hbr, hv1, hb1⟩ : ∃ W0 : World, Below w.heap.size w W0 ∧ W0.heap.size = w.heap.size + 2 ∧ W0.heap[w.heap.size + 1]? = some (.cells zRes 34 (0, 0)) ∧
    ARep w1 (Fresh W0 w1) x v1 ∧ Below W0.heap.size W0 w1 := ⟨_, HB.out.1, HB.out.2.1, HB.out.2.2, hv1, hb1⟩
  clear HB
  have hsz1 := hb1.size
  have HD := Lib.hid (And.intro (hA.trans (hb1.mono (by omega))) (And.intro ((hb1.block _ (by omega)).trans hbr) (show w.heap.size + 2 ≤ w1.heap.size by omega)))
  have HG := Lib.hid (HW.out.2.1 (fun b => w.heap.size + 2 ≤ b ∧ b < w1.heap.size) v1 w1 (fun b hb => hb.2) (ARep.keep (fun _ _ => rfl) (fun b hb => ⟨by have := hb.1; omega, hb.2⟩) _ _ hv1))
  clear hv1 hs0 hsz1 hbr hA hb1
  go_wp2_with fail
  refine HG.out.mono ?_
  clear HG
  intro e w3 hpost
  rcases hpost with ⟨v, y, rfl, wj, hR, hv, hb3⟩ | ⟨T, v, rfl, hT, hR, hb3⟩
  · have hv' : ARep w3 (fun b => w.heap.size + 2 ≤ b ∧ b < w3.heap.size) y v := ARep.keep (fun _ _ => rfl) (fun b hb => by
      rcases hb with hb | hb
      · exact ⟨hb.1, Nat.lt_of_lt_of_le hb.2 hb3.size⟩
      · exact ⟨Nat.le_trans HD.out.2.2 hb.1, hb.2⟩) _ _ hv
    have hD3 := And.intro (HD.out.1.trans (hb3.mono (by have := HD.out.2.2; omega))) (And.intro ((hb3.block _ (box_lt HD.out.2.1)).trans HD.out.2.1) (Nat.le_trans HD.out.2.2 hb3.size))
    replace HD := Lib.hid hD3
    have HR := Lib.hid (result_val y _ v w3 wj (fun b hb => hb.2) hv')
    have HY := Lib.hid hR
    clear hv hv' hD3 hb3 wj hR
    go_wp2_with fail
    refine HR.out.mono ?_
    clear HR
    rintro e w4 ⟨E1, e1, E2, e2, E3, e3, rfl, hr4, hb4⟩
    have hbr4 := (hb4.block _ (box_lt HD.out.2.1)).trans HD.out.2.1
    have r0 : w4.cell? ⟨w.heap.size + 1, 0, none⟩ = _ := box_cell hbr4 0
    have r1 : w4.cell? ⟨w.heap.size + 1, 1, none⟩ = _ := box_cell hbr4 1
    have r2 : w4.cell? ⟨w.heap.size + 1, 2, none⟩ = _ := box_cell hbr4 2
    have r3 : w4.cell? ⟨w.heap.size + 1, 3, none⟩ = _ := box_cell hbr4 3
    have r4 : w4.cell? ⟨w.heap.size + 1, 4, none⟩ = _ := box_cell hbr4 4
    have r5 : w4.cell? ⟨w.heap.size + 1, 5, none⟩ = _ := box_cell hbr4 5
    have r6 : w4.cell? ⟨w.heap.size + 1, 6, none⟩ = _ := box_cell hbr4 6
    have fz := box_frozen hbr4
    have HF := Lib.hid (And.intro hr4 hb4)
    clear hr4 hb4 hbr4
    go_wp2_with fail
    refine bodyPost_ret (v := .agg #[.int .i64 y.kind, .int .i64 y.half, .string y.text, .slice E1 y.list.length e1, .slice E2 y.keys.length e2, .slice E3 y.vals.length e3, .int .i64 0]) (by simp [results, Tryz.results22, go_sem, r0, r1, r2, r3, r4, r5, r6]) rfl ?_
    refine .inl ⟨y, HY.out, ?_⟩
    refine ⟨E1, e1, E2, e2, E3, e3, rfl, ?_, ?_⟩
    · refine VRep.keep (D := Fresh w3 w4) (fun b hb => ?_) (fun b hb => ⟨by have := hb.1; have := HD.out.2.2; omega, by have := hb.2; simp [World.setCell]; omega⟩) _ _ HF.out.1
      have hne : b ≠ w.heap.size + 1 := by have := hb.1; have := HD.out.2.2; omega
      iterate 7 rw [heap_setCell_other _ _ _ _ hne]
    · repeat (refine Below.setCell ?_ (by simp) _)
      exact HD.out.1.trans (HF.out.2.mono (by have := HD.out.2.2; omega))
  · exact hR.elim

theorem Unique_any (l : List J) (D : Nat → Prop) (cx : List Value) (w : World) (wl : (J.arr l).WF) (hD : ∀ b, D b → All w b) (hx : SRep w D (.arr l) cx) : Calls Tryz.prog 22 #[.agg cx.toArray] w (DPost (RUniq l) False w) :=
  door_Unique (.arr l) _ D cx w wl (unique_hyp l wl) hD hx
end Go.Proofs.YtfhppajnnbbcjaaGreatDoor
end

section
namespace Go.Proofs.YtfhppajnnbbcjaaGreatDoor
open Go.RowKit

set_option maxHeartbeats 1000000 in
set_option maxRecDepth 100000 in
theorem door_BSearch (x y : J) (Rj : J → Prop) (Re : Prop) (D : Nat → Prop) (cx cp : List Value) (w : World) (wx : x.WF) (wp : y.WF) (hz : ZHyp 59 x y Rj Re) (hD : ∀ b, D b → All w b) (hx : SRep w D x cx) (hp : SRep w D y cp) :
    Calls Tryz.prog 26 #[.agg cx.toArray, .agg cp.toArray] w (DPost Rj Re w) := by
  have hb0 : Below w.heap.size w (((w.alloc (.cells cx.toArray 26)).alloc (.cells cp.toArray 26)).alloc (.cells zRes 34)) := (((Below.refl _ _).alloc (Nat.le_refl _) _).alloc (by simp) _).alloc (by simp; omega) _
  have hsz0 : (((w.alloc (.cells cx.toArray 26)).alloc (.cells cp.toArray 26)).alloc (.cells zRes 34)).heap.size = w.heap.size + 3 := by simp
  have HC1 := Lib.hid (toGo_all x D cx _ wx (fun b hb => Nat.lt_of_lt_of_le (hD b hb) hb0.size) (VRep.keep (Same.of_below hb0 hD) (fun _ h => h) _ _ hx))
  have HC2 : Hid (∀ W, Below w.heap.size w W → Calls Tryz.prog 42 #[.agg cp.toArray] W (ToGoPost y W)) := fun W hb => toGo_all y D cp W wp (fun b hb' => Nat.lt_of_lt_of_le (hD b hb') hb.size) (VRep.keep (Same.of_below hb hD) (fun _ h => h) _ _ hp)
  obtain ⟨A1, c1, A2, c2, A3, c3, rfl⟩ := SRep.six hx
  obtain ⟨B1, d1, B2, d2, B3, d3, rfl⟩ := SRep.six hp
  have hbx1 := heap_alloc_new1 w (.cells [Value.int .i64 x.kind, .int .i64 x.half, .string x.text, .slice A1 x.list.length c1, .slice A2 x.keys.length c2, .slice A3 x.vals.length c3].toArray 26) (.cells [Value.int .i64 y.kind, .int .i64 y.half, .string y.text, .slice B1 y.list.length d1, .slice B2 y.keys.length d2, .slice B3 y.vals.length d3].toArray 26)
  have hbx2 : (((w.alloc (.cells [Value.int .i64 x.kind, .int .i64 x.half, .string x.text, .slice A1 x.list.length c1, .slice A2 x.keys.length c2, .slice A3 x.vals.length c3].toArray 26)).alloc (.cells [Value.int .i64 y.kind, .int .i64 y.half, .string y.text, .slice B1 y.list.length d1, .slice B2 y.keys.length d2, .slice B3 y.vals.length d3].toArray 26)).alloc (.cells zRes 34)).heap[w.heap.size + 1]? = some (.cells [Value.int .i64 y.kind, .int .i64 y.half, .string y.text, .slice B1 y.list.length d1, .slice B2 y.keys.length d2, .slice B3 y.vals.length d3].toArray 26 (0, 0)) := (Below.heap_alloc _ _ _ (by simp)).trans hbx1
  have hbx3 : (((w.alloc (.cells [Value.int .i64 x.kind, .int .i64 x.half, .string x.text, .slice A1 x.list.length c1, .slice A2 x.keys.length c2, .slice A3 x.vals.length c3].toArray 26)).alloc (.cells [Value.int .i64 y.kind, .int .i64 y.half, .string y.text, .slice B1 y.list.length d1, .slice B2 y.keys.length d2, .slice B3 y.vals.length d3].toArray 26)).alloc (.cells zRes 34)).heap[w.heap.size + 2]? = some (.cells zRes 34 (0, 0)) := by
    have := heap_alloc_new ((w.alloc (.cells [Value.int .i64 x.kind, .int .i64 x.half, .string x.text, .slice A1 x.list.length c1, .slice A2 x.keys.length c2, .slice A3 x.vals.length c3].toArray 26)).alloc (.cells [Value.int .i64 y.kind, .int .i64 y.half, .string y.text, .slice B1 y.list.length d1, .slice B2 y.keys.length d2, .slice B3 y.vals.length d3].toArray 26)) (.cells zRes 34)
    rwa [World.size_alloc, World.size_alloc] at this
  have HB := Lib.hid (And.intro hb0 (And.intro hsz0 (And.intro hbx2 hbx3)))
  have HW := Lib.hid (And.intro wx (And.intro wp (And.intro hz hD)))
  clear hx hp hb0 hsz0 wx wp hz hD hbx1 hbx2 hbx3
  go_enter Tryz.func26, Tryz.ntmps26
  go_wp2_with fail
  refine HC1.out.mono ?_
  clear HC1
  rintro e w1 ⟨v1, rfl, hv1, hb1⟩
  obtain ⟨W0, hA, hs0, hbp, hbr, hv1, hb1⟩ : ∃ W0 : World, Below w.heap.size w W0 ∧ W0.heap.size = w.heap.size + 3 ∧ W0.heap[w.heap.size + 1]? = some (.cells [Value.int .i64 y.kind, .int .i64 y.half, .string y.text, .slice B1 y.list.length d1, .slice B2 y.keys.length d2, .slice B3 y.vals.length d3].toArray 26 (0, 0)) ∧ W0.heap[w.heap.size + 2]? = some (.cells zRes 34 (0, 0)) ∧
    ARep w1 (Fresh W0 w1) x v1 ∧ Below W0.heap.size W0 w1 := ⟨_, HB.out.1, HB.out.2.1, HB.out.2.2.1, HB.out.2.2.2, hv1, hb1⟩
  clear HB
  have hsz1 := hb1.size
  have hbp1 := (hb1.block _ (by omega)).trans hbp
  have hbr1 := (hb1.block _ (by omega)).trans hbr
  have hA1 : Below w.heap.size w w1 := hA.trans (hb1.mono (by omega))
  have q0 : w1.cell? ⟨w.heap.size + 1, 0, none⟩ = _ := box_cell hbp1 0
  have q1 : w1.cell? ⟨w.heap.size + 1, 1, none⟩ = _ := box_cell hbp1 1
  have q2 : w1.cell? ⟨w.heap.size + 1, 2, none⟩ = _ := box_cell hbp1 2
  have q3 : w1.cell? ⟨w.heap.size + 1, 3, none⟩ = _ := box_cell hbp1 3
  have q4 : w1.cell? ⟨w.heap.size + 1, 4, none⟩ = _ := box_cell hbp1 4
  have q5 : w1.cell? ⟨w.heap.size + 1, 5, none⟩ = _ := box_cell hbp1 5
  have HC := Lib.hid (HC2.out w1 hA1)
  have HV := Lib.hid (And.intro hv1 (And.intro hs0 (And.intro hsz1 (And.intro hbr1 hA1))))
  clear HC2 hv1 hb1 hA hs0 hbp hbr hsz1 hbp1 hbr1 hA1
  go_wp2_with fail
  refine HC.out.mono ?_
  clear HC
  rintro e w2 ⟨v2, rfl, hv2, hb2⟩
  have hsz2 := hb2.size
  obtain ⟨hv1, hs0, hsz1, hbr1, hA1⟩ := HV.out
  have hv1' : ARep w2 (fun b => w.heap.size + 3 ≤ b ∧ b < w2.heap.size) x v1 := ARep.keep (fun b hb => hb2.block b hb.2) (fun b hb => ⟨by have := hb.1; omega, Nat.lt_of_lt_of_le hb.2 hsz2⟩) _ _ hv1
  have hS' : ARep w2 (fun b => w.heap.size + 3 ≤ b ∧ b < w2.heap.size) y v2 := ARep.keep (fun _ _ => rfl) (fun b hb => ⟨by have := hb.1; omega, hb.2⟩) _ _ hv2
  have HG := Lib.hid (HW.out.2.2.1 (fun b => w.heap.size + 3 ≤ b ∧ b < w2.heap.size) v1 v2 w2 (fun b hb => hb.2) hv1' hS')
  have HD := Lib.hid (And.intro (hA1.trans (hb2.mono (by omega))) (And.intro ((hb2.block _ (by omega)).trans hbr1) (show w.heap.size + 3 ≤ w2.heap.size by omega)))
  clear hv1' hS' hv2 hv1 hs0 hsz1 hbr1 hA1 HV hb2 hsz2 q0 q1 q2 q3 q4 q5
  go_wp2_with fail
  refine HG.out.mono ?_
  clear HG
  intro e w3 hpost
  rcases hpost with ⟨v, y, rfl, wj, hR, hv, hb3⟩ | ⟨T, v, rfl, hT, hR, hb3⟩
  · have hv' : ARep w3 (fun b => w.heap.size + 3 ≤ b ∧ b < w3.heap.size) y v := ARep.keep (fun _ _ => rfl) (fun b hb => by
      rcases hb with hb | hb
      · exact ⟨hb.1, Nat.lt_of_lt_of_le hb.2 hb3.size⟩
      · exact ⟨Nat.le_trans HD.out.2.2 hb.1, hb.2⟩) _ _ hv
    have hD3 := And.intro (HD.out.1.trans (hb3.mono (by have := HD.out.2.2; omega))) (And.intro ((hb3.block _ (box_lt HD.out.2.1)).trans HD.out.2.1) (Nat.le_trans HD.out.2.2 hb3.size))
    replace HD := Lib.hid hD3
    have HR := Lib.hid (result_val y _ v w3 wj (fun b hb => hb.2) hv')
    have HY := Lib.hid hR
    clear hv hv' hD3 hb3 wj hR
    go_wp2_with fail
    refine HR.out.mono ?_
    clear HR
    rintro e w4 ⟨E1, e1, E2, e2, E3, e3, rfl, hr4, hb4⟩
    have hbr4 := (hb4.block _ (box_lt HD.out.2.1)).trans HD.out.2.1
    have r0 : w4.cell? ⟨w.heap.size + 2, 0, none⟩ = _ := box_cell hbr4 0
    have r1 : w4.cell? ⟨w.heap.size + 2, 1, none⟩ = _ := box_cell hbr4 1
    have r2 : w4.cell? ⟨w.heap.size + 2, 2, none⟩ = _ := box_cell hbr4 2
    have r3 : w4.cell? ⟨w.heap.size + 2, 3, none⟩ = _ := box_cell hbr4 3
    have r4 : w4.cell? ⟨w.heap.size + 2, 4, none⟩ = _ := box_cell hbr4 4
    have r5 : w4.cell? ⟨w.heap.size + 2, 5, none⟩ = _ := box_cell hbr4 5
    have r6 : w4.cell? ⟨w.heap.size + 2, 6, none⟩ = _ := box_cell hbr4 6
    have fz := box_frozen hbr4
    have HF := Lib.hid (And.intro hr4 hb4)
    clear hr4 hb4 hbr4
    go_wp2_with fail
    refine bodyPost_ret (v := .agg #[.int .i64 y.kind, .int .i64 y.half, .string y.text, .slice E1 y.list.length e1, .slice E2 y.keys.length e2, .slice E3 y.vals.length e3, .int .i64 0]) (by simp [results, Tryz.results26, go_sem, r0, r1, r2, r3, r4, r5, r6]) rfl ?_
    refine .inl ⟨y, HY.out, ?_⟩
    refine ⟨E1, e1, E2, e2, E3, e3, rfl, ?_, ?_⟩
    · refine VRep.keep (D := Fresh w3 w4) (fun b hb => ?_) (fun b hb => ⟨by have := hb.1; have := HD.out.2.2; omega, by have := hb.2; simp [World.setCell]; omega⟩) _ _ HF.out.1
      have hne : b ≠ w.heap.size + 2 := by have := hb.1; have := HD.out.2.2; omega
      iterate 7 rw [heap_setCell_other _ _ _ _ hne]
    · repeat (refine Below.setCell ?_ (by simp; omega) _)
      exact HD.out.1.trans (HF.out.2.mono (by have := HD.out.2.2; omega))
  · have hTe : ∀ (x : TypeId) (W : World), (Instr.typeAssert (.iface T v) x 95 true).run Tryz.prog W = .ok (.tuple #[.iface T v, .bool true]) W := by
      rcases hT with rfl | rfl | rfl | rfl
      · exact fun x W => te_159 x v W
      · exact fun x W => te_162 x v W
      · exact fun x W => te_205 x v W
      · exact fun x W => te_211 x v W
    have HR := Lib.hid (result_err T v w3 hTe)
    have HY := Lib.hid (And.intro hR hb3)
    clear hTe hT hR hb3
    go_wp2_with fail
    refine HR.out.mono ?_
    clear HR
    rintro e w4 ⟨rfl, hb4⟩
    have hbr4 := (hb4.block _ (Nat.lt_of_lt_of_le (box_lt HD.out.2.1) HY.out.2.size)).trans ((HY.out.2.block _ (box_lt HD.out.2.1)).trans HD.out.2.1)
    have r0 : w4.cell? ⟨w.heap.size + 2, 0, none⟩ = _ := box_cell hbr4 0
    have r1 : w4.cell? ⟨w.heap.size + 2, 1, none⟩ = _ := box_cell hbr4 1
    have r2 : w4.cell? ⟨w.heap.size + 2, 2, none⟩ = _ := box_cell hbr4 2
    have r3 : w4.cell? ⟨w.heap.size + 2, 3, none⟩ = _ := box_cell hbr4 3
    have r4 : w4.cell? ⟨w.heap.size + 2, 4, none⟩ = _ := box_cell hbr4 4
    have r5 : w4.cell? ⟨w.heap.size + 2, 5, none⟩ = _ := box_cell hbr4 5
    have r6 : w4.cell? ⟨w.heap.size + 2, 6, none⟩ = _ := box_cell hbr4 6
    have fz := box_frozen hbr4
    have HF := Lib.hid hb4
    clear hb4 hbr4
    go_wp2_with fail
    refine bodyPost_ret (v := .agg #[.int .i64 0, .int .i64 0, .string ⟨#[]⟩, .slice none 0 0, .slice none 0 0, .slice none 0 0, .int .i64 1]) (by simp [results, Tryz.results26, go_sem, r0, r1, r2, r3, r4, r5, r6]) rfl ?_
    refine .inr ⟨HY.out.1, rfl, ?_⟩
    repeat (refine Below.setCell ?_ (by simp; omega) _)
    have := HD.out.2.2
    have := HY.out.2.size
    exact (HD.out.1.trans (HY.out.2.mono (by omega))).trans (HF.out.mono (by omega))

set_option maxRecDepth 100000 in
theorem zzBSearch_any (l : List J) (y : J) (D : Nat → Prop) (S u : Value) (w : World) (wl : WFL l) (wy : y.WF) (hn : l.length ≤ 1048576) (hD : ∀ b, D b → All w b) (hS : SlAt D l.length S (fun b o => ARow w D b l o)) (hu : ARep w D y u) :
    Calls Tryz.prog 59 #[.iface 88 S, u] w (BsPost l y w) := by
  have HC := Lib.hid (gBsearch_any l y D S u w wl wy hn hD hS hu)
  clear wl wy hn hD hS hu
  go_enter Tryz.func59, Tryz.ntmps59
  go_wp2_with fail
  refine HC.out.mono ?_
  clear HC
  rintro e w1 ⟨i, hi, rfl, hb⟩
  have HV := Lib.hid (And.intro hi hb)
  clear hi hb
  go_wp2_with fail
  go_ret
  exact ⟨i, HV.out.1, rfl, HV.out.2⟩

def RBs (l : List J) (y : J) (j : J) : Prop := ∃ i, BsAt l y i ∧ j = .num (2 * bsAns l y i)

theorem bsAns_bd {l : List J} {y : J} {i : Nat} (h : BsAt l y i) (hn : l.length ≤ 1048576) : -1048577 ≤ bsAns l y i ∧ bsAns l y i ≤ 1048576 := by
  have := h.1
  unfold bsAns
  split <;> omega

theorem bsearch_hyp (l : List J) (y : J) (wl : (J.arr l).WF) (wy : y.WF) : ZHyp 59 (.arr l) y (RBs l y) False := by
  intro D v u W hD hv hu
  obtain ⟨S, rfl, hS⟩ := hv
  refine (zzBSearch_any l y D S u W wl.2 wy wl.1 hD hS hu).mono ?_
  rintro e w' ⟨i, hi, rfl, hb⟩
  have hbd := bsAns_bd hi wl.1
  refine .inl ⟨_, .num (2 * bsAns l y i), rfl, ?_, ⟨i, hi, rfl⟩, ?_, hb⟩
  · simp only [J.WF]; omega
  · show _ = numV _
    unfold numV
    rw [if_pos (by omega), show 2 * bsAns l y i / 2 = bsAns l y i by omega]

theorem BSearch_any (l : List J) (y : J) (D : Nat → Prop) (cx cy : List Value) (w : World) (wl : (J.arr l).WF) (wy : y.WF) (hD : ∀ b, D b → All w b) (hx : SRep w D (.arr l) cx) (hy : SRep w D y cy) :
    Calls Tryz.prog 26 #[.agg cx.toArray, .agg cy.toArray] w (DPost (RBs l y) False w) :=
  door_BSearch (.arr l) y _ _ D cx cy w wl wy (bsearch_hyp l y wl wy) hD hx hy
end Go.Proofs.YtfhppajnnbbcjaaGreatDoor
end

section
namespace Go.Proofs.YtfhppajnnbbcjaaGreatDoor
open Go.RowKit

theorem told_raises (r0 r1 r2 r3 r4 r5 : Value) (x : Array Value) (n : Int) (w : World) (hx : x.size = 6) :
    Calls Tryz.prog 11 #[.agg #[r0, r1, r2, r3, r4, r5, .int .i64 n], .agg x, .int .i64 1] w fun e w' => e = .returned (.bool (n == 1)) ∧ Below w.heap.size w w' := by
  obtain ⟨x0, x1, x2, x3, x4, x5, hx'⟩ : ∃ x0 x1 x2 x3 x4 x5, x.toList = [x0, x1, x2, x3, x4, x5] := six_of (by simpa using hx)
  have : x = #[x0, x1, x2, x3, x4, x5] := by rw [← Array.toArray_toList (xs := x), hx']
  subst this
  clear hx hx'
  go_enter Tryz.func11, Tryz.ntmps11
  go_wp2_with fail
  go_ret
  exact ⟨rfl, ((Below.refl _ _).alloc (Nat.le_refl _) _).alloc (by simp) _⟩

def ArrPost (l : List V) (D : Nat → Prop) (S : Value) (w : World) (e : Ending) (w' : World) : Prop := e = .returned (.agg #[.int .i64 5, .int .i64 0, .string noText, S, .slice none 0 0, .slice none 0 0]) ∧
  VRep w' D (.mk 5 0 noText l [] []) [.int .i64 5, .int .i64 0, .string noText, S, .slice none 0 0, .slice none 0 0] ∧ Below w.heap.size w w'

set_option maxRecDepth 100000 in
theorem array_any (l : List V) (D : Nat → Prop) (S : Value) (w : World) (hS : SlAt D l.length S (fun b o => VRow w D b l o)) (hD : ∀ b, D b → All w b) :
    Calls Tryz.prog 17 #[S] w (ArrPost l D S w) := by
  have KEY : Hid (∀ w' : World, Below w.heap.size w w' → ArrPost l D S w (.returned (.agg #[.int .i64 5, .int .i64 0, .string noText, S, .slice none 0 0, .slice none 0 0])) w') := fun w' hb =>
    ⟨rfl, ⟨_, _, _, rfl, hS.mono (fun _ h => h) fun b o hb' hr => VRow.keep (Same.of_below hb hD) (fun _ h => h) _ _ _ hb' hr, emp _ _, emp _ _⟩, hb⟩
  obtain ⟨A, c, rfl, -⟩ := hS
  go_enter Tryz.func17, Tryz.ntmps17
  go_wp2_with fail
  refine bodyPost_ret (v := .agg #[.int .i64 5, .int .i64 0, .string noText, .slice A l.length c, .slice none 0 0, .slice none 0 0]) (by simp [results, Tryz.results17, go_sem]; rfl) rfl ?_
  refine KEY.out _ ?_
  repeat (refine Below.setCell ?_ (by simp) _)
  exact (Below.refl _ _).alloc (Nat.le_refl _) _

end Go.Proofs.YtfhppajnnbbcjaaGreatDoor
end

section
namespace Go.Proofs.YtfhppajnnbbcjaaGreatDoor
open Go.RowKit

def ToldPost (w : World) (b : Bool) (e : Ending) (w' : World) : Prop := e = .returned (.bool b) ∧ Below w.heap.size w w'

set_option maxRecDepth 100000 in
theorem told_fine (a m : J) (D : Nat → Prop) (A1 A2 A3 : Option Addr) (c1 c2 c3 : Nat) (cm : List Value) (w : World) (wa : a.WF) (wm : m.WF) (hD : ∀ b, D b → All w b)
    (ha : SRep w D a [.int .i64 a.kind, .int .i64 a.half, .string a.text, .slice A1 a.list.length c1, .slice A2 a.keys.length c2, .slice A3 a.vals.length c3]) (hm : SRep w D m cm) :
    Calls Tryz.prog 11 #[.agg #[.int .i64 a.kind, .int .i64 a.half, .string a.text, .slice A1 a.list.length c1, .slice A2 a.keys.length c2, .slice A3 a.vals.length c3, .int .i64 0], .agg cm.toArray, .int .i64 0] w (ToldPost w (cmpJ a m == 0)) := by
  obtain ⟨B1, d1, B2, d2, B3, d3, rfl⟩ := SRep.six hm
  have hb : Below w.heap.size w ((w.alloc (.cells #[.int .i64 a.kind, .int .i64 a.half, .string a.text, .slice A1 a.list.length c1, .slice A2 a.keys.length c2, .slice A3 a.vals.length c3, .int .i64 0] 34)).alloc (.cells #[.int .i64 m.kind, .int .i64 m.half, .string m.text, .slice B1 m.list.length d1, .slice B2 m.keys.length d2, .slice B3 m.vals.length d3] 26)) :=
    ((Below.refl _ _).alloc (Nat.le_refl _) _).alloc (by simp) _
  have HC := Lib.hid (same_any a m D _ _ _ wa wm (fun b hb' => Nat.lt_of_lt_of_le (hD b hb') hb.size) (VRep.keep (Same.of_below hb hD) (fun _ h => h) _ _ ha) (VRep.keep (Same.of_below hb hD) (fun _ h => h) _ _ hm))
  have HB := Lib.hid hb
  clear hb ha hm hD
  obtain ⟨ok, hok⟩ : ∃ ok, (cmpJ a m == 0) = ok := ⟨_, rfl⟩
  rw [hok] at HC ⊢
  clear hok
  go_enter Tryz.func11, Tryz.ntmps11
  go_wp2_with fail
  refine HC.out.mono ?_
  clear HC
  rintro e w1 ⟨rfl, hb1⟩
  have HN : Hid (Below w.heap.size w w1) := HB.out.trans (hb1.mono HB.out.size)
  clear hb1
  go_wp2_with fail
  go_ret
  exact ⟨rfl, HN.out⟩

end Go.Proofs.YtfhppajnnbbcjaaGreatDoor
end
