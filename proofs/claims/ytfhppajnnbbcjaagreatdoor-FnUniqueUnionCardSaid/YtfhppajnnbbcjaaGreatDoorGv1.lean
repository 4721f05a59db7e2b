/- Walks: gojq.funcOpSub's closure of two arrays.
   Walks: gojq.binopTypeSwitch of two arrays, gojq.funcOpSub, ZzOpSub.
   Walks: impl.OpSub, at two arrays.
   Walks: the laws' listedC and joined. -/
import Derived.Test.YtfhppajnnbbcjaaGreatDoorGz11
import Derived.Test.YtfhppajnnbbcjaaGreatDoorGz14
import Derived.WalkMore
import Derived.Test.YtfhppajnnbbcjaaGreatDoorGz16
import Derived.Test.YtfhppajnnbbcjaaGreatDoorGz8
import Derived.BigQuiet
import Derived.Deep.QuietTactic

section
namespace Go.Proofs.YtfhppajnnbbcjaaGreatDoor
open Go.RowKit

/-- the elements of a that b has not -/
def hasJ (b : List J) (x : J) : Bool := b.any fun y => cmpJ x y == 0
def subL (a b : List J) : List J := a.filter fun x => !hasJ b x

theorem mem_subL {a b : List J} {x : J} : x ∈ subL a b ↔ x ∈ a ∧ x ∉ b := by
  unfold subL
  rw [List.mem_filter]
  have : (!hasJ b x) = true ↔ x ∉ b := by
    unfold hasJ
    rw [Bool.not_eq_true', List.any_eq_false]
    constructor
    · intro h hx
      exact absurd (by simp [cmpJ_self]) (h x hx)
    · intro h y hy hc
      have := cmpJ_eq _ _ (by simpa using hc)
      exact h (this ▸ hy)
  rw [this]

theorem subL_length (a b : List J) : (subL a b).length ≤ a.length := List.length_filter_le _ _
theorem subL_snoc {a b : List J} {k : Nat} {x : J} (h : a[k]? = some x) : subL (a.take (k + 1)) b = if hasJ b x = true then subL (a.take k) b else subL (a.take k) b ++ [x] := by
  unfold subL
  obtain ⟨hk, rfl⟩ := List.getElem?_eq_some_iff.1 h
  rw [List.take_succ_eq_append_getElem hk, List.filter_append]
  cases hh : hasJ b a[k] <;> simp [hh]

theorem hasJ_take {b : List J} {x : J} {j : Nat} {y : J} (h : b[j]? = some y) : hasJ (b.take (j + 1)) x = (hasJ (b.take j) x || (cmpJ x y == 0)) := by
  unfold hasJ
  obtain ⟨hk, rfl⟩ := List.getElem?_eq_some_iff.1 h
  rw [List.take_succ_eq_append_getElem hk, List.any_append]
  simp
theorem hasJ_found {b : List J} {x : J} {j : Nat} {y : J} (h : b[j]? = some y) (hc : cmpJ x y = 0) : hasJ b x = true := List.any_eq_true.2 ⟨y, List.mem_of_getElem? h, by simpa using hc⟩

def SubPost (a b : List J) (D : Nat → Prop) (w : World) (e : Ending) (w' : World) : Prop := ∃ v, e = .returned v ∧ ARep w' (fun b => D b ∨ (w.heap.size ≤ b ∧ b < w'.heap.size)) (.arr (subL a b)) v ∧ Below w.heap.size w w'

def SubRel (l : List J) (D : Nat → Prop) (w : World) (v : Value) (wr : World) : Prop := Below w.heap.size w wr ∧ GG EA wr w.heap.size D v l

theorem SubRel.grow {l : List J} {D : Nat → Prop} {w : World} {v : Value} {wr : World} {xv : Value} {x : J} {v' : Value} {w2 : World} (h : SubRel l D w v wr) (hg : GG EA w2 w.heap.size D v' (l ++ [x])) (hgb : (wr.alloc (.cells #[xv] 20)).grownBy w2 v.ownBlock) : SubRel (l ++ [x]) D w v' w2 := by
  have hs := h.1.size
  exact ⟨(h.1.alloc hs _).grown hgb (by simp; omega) (fun g hg' => (h.2.own_lt g hg').1), hg⟩

set_option maxRecDepth 100000 in
set_option maxHeartbeats 2000000 in
theorem subArr_any (a b : List J) (D : Nat → Prop) (S T : Value) (w : World) (wa : WFL a) (wb : WFL b) (la : a.length ≤ 1048576) (lb : b.length ≤ 1048576) (hD : ∀ b, D b → All w b) (hS : SlAt D a.length S (fun b o => ARow w D b a o)) (hT : SlAt D b.length T (fun b' o => ARow w D b' b o)) :
    Calls Tryz.prog 160 #[S, T] w (SubPost a b D w) := by
  obtain ⟨A1, c1, rfl, hc1, hm1, hr1⟩ := hS
  obtain ⟨A2, c2, rfl, hc2, hm2, hr2⟩ := hT
  unfold maxLen at hm1 hm2
  obtain ⟨cur, hcur, hmk⟩ : ∃ c : Array Value, c.size = a.length ∧ (Instr.makeSlice 88 (.int .i64 0) (.int .i64 (a.length : Int))).run Tryz.prog w = .ok (.slice (some ⟨w.heap.size, 0, none⟩) 0 a.length) (w.alloc (.cells c 20)) := by
    obtain ⟨i, hi, hz, hs, hb⟩ := info_parts Tryz.info20
    exact ⟨_, by rw [hs]; simp [madeCells], run_make_rowN 88 20 i .nilIface Tryz.underlying88 hi hz .i64 .i64 0 a.length (Nat.zero_le _) (by rw [hb]; omega) (by omega) w⟩
  have HX := Lib.hid (And.intro hr1 (And.intro hr2 (And.intro wa (And.intro wb (And.intro hD hcur)))))
  clear hr1 hr2 wa wb hD hcur
  go_enter Tryz.func160, Tryz.ntmps160
  go_wp2_with fail
  go_step3
  go_wp2_with fail
  go_step3
  go_wp2_with fail
  go_loopw [5, 15] (fun v i wr => ∃ (k : Nat) (v0 : Value), v0 = v ∧ k ≤ a.length ∧ i = .int .i64 k ∧ Hid (SubRel (subL (a.take k) b) D w v0 wr)) (fun _ i _ => a.length - (intOf i).toNat)
  case atStart =>
    refine ⟨0, _, rfl, Nat.zero_le _, rfl, (Below.refl _ _).alloc (Nat.le_refl _) _, ?_⟩
    exact ⟨[], ⟨rfl, .inr ⟨w.heap.size, a.length, cur, rfl, Nat.le_refl _, heap_alloc_new w _, Nat.zero_le _, by unfold maxLen; omega, by simpa [EA] using HX.out.2.2.2.2.2, by simp [subL]⟩⟩, rfl⟩
  case round =>
    obtain ⟨k, v, rfl, hk, rfl, hR⟩ := hrel
    by_cases ha : k < a.length
    · obtain ⟨b1, o1, rfl, hb1, hrow1⟩ := HX.out.1 (by omega)
      have hbw := hR.out.1
      have hs : Same D w wr := Same.of_below hbw HX.out.2.2.2.2.1
      obtain ⟨x, hx⟩ : ∃ x, a[k]? = some x := ⟨_, List.getElem?_eq_getElem ha⟩
      obtain ⟨xv, hcell, hxv⟩ := hrow1.get hx
      have hcell' := (hbw.cell (p := ⟨b1, o1 + k, none⟩) (HX.out.2.2.2.2.1 _ hb1)).trans hcell
      have HK := Lib.hid (And.intro hx (And.intro hxv (WFL_iff.1 HX.out.2.2.1 x (List.mem_of_getElem? hx))))
      clear hbw hs hx hxv hcell hrow1 hb1
      go_wp2_with fail
      clear hcell'
      go_loopw [21] (fun i wr2 => ∃ j : Nat, j ≤ b.length ∧ i = .int .i64 j ∧ Hid (hasJ (b.take j) x = false) ∧ Hid (SubRel (subL (a.take k) b) D w v wr2)) (fun i _ => b.length - (intOf i).toNat)
      case atStart => exact ⟨0, Nat.zero_le _, rfl, rfl, hR⟩
      case round =>
        obtain ⟨j, hj, rfl, hN, hR2⟩ := hrel
        clear hR
        by_cases hb : j < b.length
        · obtain ⟨b2, o2, rfl, hb2, hrow2⟩ := HX.out.2.1 (by omega)
          have hbw := hR2.out.1
          have hs : Same D w wr := Same.of_below hbw HX.out.2.2.2.2.1
          obtain ⟨y, hy⟩ : ∃ y, b[j]? = some y := ⟨_, List.getElem?_eq_getElem hb⟩
          obtain ⟨yv, hcell, hyv⟩ := hrow2.get hy
          have hcell' := (hbw.cell (p := ⟨b2, o2 + j, none⟩) (HX.out.2.2.2.2.1 _ hb2)).trans hcell
          have HC := Lib.hid (compare_any x y D xv yv wr HK.out.2.2 (WFL_iff.1 HX.out.2.2.2.1 y (List.mem_of_getElem? hy)) (fun b hb => Nat.lt_of_lt_of_le (HX.out.2.2.2.2.1 b hb) hbw.size) (ARep.keep hs (fun _ h => h) _ _ HK.out.2.1) (ARep.keep hs (fun _ h => h) _ _ hyv))
          obtain ⟨nn, hnn⟩ : ∃ nn, cmpJ x y = nn := ⟨_, rfl⟩
          rw [hnn] at HC
          have HY := Lib.hid (And.intro hy hnn)
          clear hbw hs hy hyv hcell hrow2 hb2 hnn
          go_wp2_with fail
          refine HC.out.mono ?_
          rintro e w1 ⟨rfl, hb1⟩
          have HK2 := Lib.hid (show SubRel (subL (a.take k) b) D w v w1 from ⟨hR2.out.1.trans (hb1.mono hR2.out.1.size), GG.below hR2.out.2 hb1⟩)
          clear hb1 HC hR2 hcell'
          by_cases hz : nn = 0
          · have HF := Lib.hid (show SubRel (subL (a.take (k + 1)) b) D w v w1 by
              rw [subL_snoc HK.out.1, if_pos (hasJ_found HY.out.1 (HY.out.2.trans hz))]; exact HK2.out)
            have e1 : (nn == 0) = true := by simp [hz]
            clear hz
            go_wp2_with fail
            go_roundw
            case rel => exact ⟨k + 1, v, rfl, by omega, by go_num, HF⟩
            case measure => simp [intOf]; omega
          · have HF := Lib.hid (show hasJ (b.take (j + 1)) x = false by
              rw [hasJ_take HY.out.1, hN.out, HY.out.2]; simpa using hz)
            have e1 : (nn == 0) = false := by simp [hz]
            clear hz
            go_wp2_with fail
            go_roundw
            case rel => exact ⟨j + 1, by omega, by go_num, HF, HK2⟩
            case measure => simp [intOf]; omega
        · have hjb : j = b.length := by omega
          have HNF := Lib.hid (show hasJ b x = false by have := hN.out; rwa [hjb, List.take_length] at this)
          have hlen : (subL (a.take k) b).length ≤ k := Nat.le_trans (subL_length _ _) (List.length_take_le _ _)
          have hrep : ARep wr (But D wr v) x xv := ARep.keep (Same.of_below hR2.out.1 HX.out.2.2.2.2.1) (fun b hb => ⟨hb, Nat.lt_of_lt_of_le (HX.out.2.2.2.2.1 b hb) hR2.out.1.size, fun e => by have := (hR2.out.2.own_lt b e.symm).1; have := HX.out.2.2.2.2.1 b hb; omega⟩) _ _ HK.out.2.1
          have hgg := GG.below hR2.out.2 (w' := wr.alloc (.cells #[xv] 20)) ((Below.refl _ _).alloc (Nat.le_refl _) _)
          have hlit := lit_one (E := EA) (heap_alloc_new wr (.cells #[xv] 20)) (D := But D (wr.alloc (.cells #[xv] 20)) v) (x := x) ⟨xv, rfl, ARep.keep (fun b hb => Below.heap_alloc wr _ b hb.2.1) (fun b hb => ⟨hb.1, by have := hb.2.1; simp; omega, hb.2.2⟩) _ _ hrep⟩
          have HG := Lib.hid (And.intro hgg (And.intro hlit hlen))
          have hsh := ARep.shape HK.out.2.1
          have hsz := hR2.out.1.size
          clear hrep hgg hlit hlen hjb hN
          rcases hsh with rfl | ⟨vt, vu, rfl⟩
          all_goals
            go_wp2_with (at_builtin; refine wpList_append_G rfl (.tmp 30) (.tmp 32) 88 rfl EA Tryz.under88 w.heap.size D (subL (a.take k) b) [x] v _ rfl rfl HG.out.1 HG.out.2.1 ?c1 ?c2 ?c3 ?_)
            case c1 => have := HG.out.2.2; simp [maxLen]; omega
            case c2 => have := HG.out.2.2; simp [EA]; omega
            case c3 => simp; omega
            intro v' w3 hg hgb _
            have HF := Lib.hid (show SubRel (subL (a.take (k + 1)) b) D w v' w3 by
              rw [subL_snoc HK.out.1, if_neg (by rw [HNF.out]; exact Bool.false_ne_true)]; exact hR2.out.grow hg hgb)
            clear hg hgb HG hR2
            go_wp2_with fail
            go_roundw
            case rel => exact ⟨k + 1, v', rfl, by omega, by go_num, HF⟩
            case measure => simp [intOf]; omega
    · have hka : k = a.length := by omega
      have HE := Lib.hid (show SubRel (subL a b) D w v wr by have := hR.out; rwa [hka, List.take_length] at this)
      clear hR hka
      go_wp2_with fail
      go_ret
      exact ⟨_, rfl, HE.out.2.arep (fun b h1 _ => .inl h1) (fun b h1 h2 => .inr ⟨h1, h2⟩), HE.out.1⟩
end Go.Proofs.YtfhppajnnbbcjaaGreatDoor
end

section
namespace Go.Proofs.YtfhppajnnbbcjaaGreatDoor
open Go.RowKit

abbrev subArgs (v u : Value) : Array Value := #[v, u, .func (.func 155) #[] #[], .func (.func 157) #[] #[], .func (.func 158) #[] #[], .func (.func 159) #[] #[], .func (.func 160) #[] #[], .func (.func 161) #[] #[], .func (.func 162) #[] #[]]

set_option maxRecDepth 100000 in
set_option maxHeartbeats 4000000 in
theorem sw136_arrs (S T : Value) (P : Value → World → Prop) (w : World) (h : Calls Tryz.prog 160 #[S, T] w (fun e w' => ∃ v, e = .returned v ∧ P v w')) : Calls Tryz.prog 136 (subArgs (.iface 88 S) (.iface 88 T)) w (fun e w' => ∃ v, e = .returned v ∧ P v w') := by
  have H := Lib.hid h
  clear h
  go_enter Tryz.func136, Tryz.ntmps136
  go_wp2_with (go_at_call 160; refine H.out.mono ?_; rintro e w' ⟨v, rfl, hp⟩)
  go_ret
  exact ⟨_, rfl, hp⟩

theorem opSub_arrs (S T : Value) (P : Value → World → Prop) (w : World) (h : Calls Tryz.prog 160 #[S, T] w (fun e w' => ∃ v, e = .returned v ∧ P v w')) : Calls Tryz.prog 101 #[.nilIface, .iface 88 S, .iface 88 T] w (fun e w' => ∃ v, e = .returned v ∧ P v w') := by
  have H := Lib.hid (sw136_arrs S T P w h)
  clear h
  go_enter Tryz.func101, Tryz.ntmps101
  go_wp2_with (go_at_call 136; refine H.out.mono ?_; rintro e w' ⟨v, rfl, hp⟩)
  go_ret
  exact ⟨_, rfl, hp⟩

theorem zzSub_arrs (S T : Value) (P : Value → World → Prop) (w : World) (h : Calls Tryz.prog 160 #[S, T] w (fun e w' => ∃ v, e = .returned v ∧ P v w')) : Calls Tryz.prog 60 #[.iface 88 S, .iface 88 T] w (fun e w' => ∃ v, e = .returned v ∧ P v w') := by
  have H := Lib.hid (opSub_arrs S T P w h)
  clear h
  go_enter Tryz.func60, Tryz.ntmps60
  go_wp2_with (go_at_call 101; refine H.out.mono ?_; rintro e w' ⟨v, rfl, hp⟩)
  go_ret
  exact ⟨_, rfl, hp⟩
end Go.Proofs.YtfhppajnnbbcjaaGreatDoor
end

section
namespace Go.Proofs.YtfhppajnnbbcjaaGreatDoor
open Go.RowKit

set_option maxHeartbeats 1000000 in
set_option maxRecDepth 100000 in
theorem door_OpSub (x y : J) (Rj : J → Prop) (Re : Prop) (D : Nat → Prop) (cx cp : List Value) (w : World) (wx : x.WF) (wp : y.WF) (hz : ZHyp 60 x y Rj Re) (hD : ∀ b, D b → All w b) (hx : SRep w D x cx) (hp : SRep w D y cp) :
    Calls Tryz.prog 29 #[.agg cx.toArray, .agg cp.toArray] w (DPost Rj Re w) := by
  have hb0 : Below w.heap.size w (((w.alloc (.cells cx.toArray 26)).alloc (.cells cp.toArray 26)).alloc (.cells zRes 34)) := (((Below.refl _ _).alloc (Nat.le_refl _) _).alloc (by simp) _).alloc (by simp; omega) _
  have hsz0 : (((w.alloc (.cells cx.toArray 26)).alloc (.cells cp.toArray 26)).alloc (.cells zRes 34)).heap.size = w.heap.size + 3 := by simp
  have HC1 := Lib.hid (toGo_all x D cx _ wx (fun b hb => Nat.lt_of_lt_of_le (hD b hb) hb0.size) (VRep.keep (Same.of_below hb0 hD) (fun _ h => h) _ _ hx))
  have HC2 : Hid (∀ W, Below w.heap.size w W → Calls Tryz.prog 42 #[.agg cp.toArray] W (ToGoPost y W)) := fun W hb => toGo_all y D cp W wp (fun b hb' => Nat.lt_of_lt_of_le (hD b hb') hb.size) (VRep.keep (Same.of_below hb hD) (fun _ h => h) _ _ hp)
  obtain ⟨A1, c1, A2, c2, A3, c3, rfl⟩ := SRep.six hx
  obtain ⟨B1, d1, B2, d2, B3, d3, rfl⟩ := SRep.six hp
  have hbx1 := heap_alloc_new1 w (.cells [Value.int .i64 x.kind, .int .i64 x.half, .string x.text, .slice A1 x.list.length c1, .slice A2 x.keys.length c2, .slice A3 x.vals.length c3].toArray 26) (.cells [Value.int .i64 y.kind, .int .i64 y.half, .string y.text, .slice B1 y.list.length d1, .slice B2 y.keys.length d2, .slice B3 y.vals.length d3].toArray 26)
  have hbx2 : (((w.alloc (.cells [Value.int .i64 x.kind, .int .i64 x.half, .string x.text, .slice A1 x.list.length c1, .slice A2 x.keys.length c2, .slice A3 x.vals.length c3].toArray 26)).alloc (.cells [Value.int .i64 y.kind, .int .i64 y.half, .string y.text, .slice B1 y.list.length d1, .slice B2 y.keys.length d2, .slice B3 y.vals.length d3].toArray 26)).alloc (.cells zRes 34)).heap[w.heap.size + 1]? = some (.cells [Value.int .i64 y.kind, .int .i64 y.half, .string y.text, .slice B1 y.list.length d1, .slice B2 y.keys.length d2, .slice B3 y.vals.length d3].toArray 26 (0, 0)) := (Below.heap_alloc _ _ _ (by simp)).trans hbx1
  have hbx3 : (((w.alloc (.cells [Value.int .i64 x.kind, .int .i64 x.half, .string x.text, .slice A1 x.list.length c1, .slice A2 x.keys.length c2, .slice A3 x.vals.length c3].toArray 26)).alloc (.cells [Value.int .i64 y.kind, .int .i64 y.half, .string y.text, .slice B1 y.list.length d1, .slice B2 y.keys.length d2, .slice B3 y.vals.length d3].toArray 26)).alloc (.cells zRes 34)).heap[w.heap.size + 2]? = some (.cells zRes 34 (0, 0)) := by
    have := heap_alloc_new ((w.alloc (.cells [Value.int .i64 x.kind, .int .i64 x.half, .string x.text, .slice A1 x.list.length c1, .slice A2 x.keys.length c2, .slice A3 x.vals.length c3].toArray 26)).alloc (.cells [Value.int .i64 y.kind, .int .i64 y.half, .string y.text, .slice B1 y.list.length d1, .slice B2 y.keys.length d2, .slice B3 y.vals.length d3].toArray 26)) (.cells zRes 34)
    rwa [World.size_alloc, World.size_alloc] at this
  have HB := Lib.hid (And.intro hb0 (And.intro hsz0 (And.intro hbx2 hbx3)))
  have HW := Lib.hid (And.intro wx (And.intro wp (And.intro hz hD)))
  clear hx hp hb0 hsz0 wx wp hz hD hbx1 hbx2 hbx3
  go_enter Tryz.func29, Tryz.ntmps29
  go_wp2_with fail
  refine HC1.out.mono ?_
  clear HC1
  rintro e w1 ⟨v1, rfl, hv1, hb1⟩
  obtain ⟨W0, hA, hs0, hbp, hbr, hv1, hb1⟩ : ∃ W0 : World, Below w.heap.size w W0 ∧ W0.heap.size = w.heap.size + 3 ∧ W0.heap[w.heap.size + 1]? = some (.cells [Value.int .i64 y.kind, .int .i64 y.half, .string y.text, .slice B1 y.list.length d1, .slice B2 y.keys.length d2, .slice B3 y.vals.length d3].toArray 26 (0, 0)) ∧ W0.heap[w.heap.size + 2]? = some (.cells zRes 34 (0, 0)) ∧
    ARep w1 (Fresh W0 w1) x v1 ∧ Below W0.heap.size W0 w1 := ⟨_, HB.out.1, HB.out.2.1, HB.out.2.2.1, HB.out.2.2.2, hv1, hb1⟩
  clear HB
  have hsz1 := hb1.size
  have hbp1 := (hb1.block _ (by omega)).trans hbp
  have hbr1 := (hb1.block _ (by omega)).trans hbr
  have hA1 : Below w.heap.size w w1 := hA.trans (hb1.mono (by omega))
  have q0 : w1.cell? ⟨w.heap.size + 1, 0, none⟩ = _ := box_cell hbp1 0
  have q1 : w1.cell? ⟨w.heap.size + 1, 1, none⟩ = _ := box_cell hbp1 1
  have q2 : w1.cell? ⟨w.heap.size + 1, 2, none⟩ = _ := box_cell hbp1 2
  have q3 : w1.cell? ⟨w.heap.size + 1, 3, none⟩ = _ := box_cell hbp1 3
  have q4 : w1.cell? ⟨w.heap.size + 1, 4, none⟩ = _ := box_cell hbp1 4
  have q5 : w1.cell? ⟨w.heap.size + 1, 5, none⟩ = _ := box_cell hbp1 5
  have HC := Lib.hid (HC2.out w1 hA1)
  have HV := Lib.hid (And.intro hv1 (And.intro hs0 (And.intro hsz1 (And.intro hbr1 hA1))))
  clear HC2 hv1 hb1 hA hs0 hbp hbr hsz1 hbp1 hbr1 hA1
  go_wp2_with fail
  refine HC.out.mono ?_
  clear HC
  rintro e w2 ⟨v2, rfl, hv2, hb2⟩
  have hsz2 := hb2.size
  obtain ⟨hv1, hs0, hsz1, hbr1, hA1⟩ := HV.out
  have hv1' : ARep w2 (fun b => w.heap.size + 3 ≤ b ∧ b < w2.heap.size) x v1 := ARep.keep (fun b hb => hb2.block b hb.2) (fun b hb => ⟨by have := hb.1; omega, Nat.lt_of_lt_of_le hb.2 hsz2⟩) _ _ hv1
  have hS' : ARep w2 (fun b => w.heap.size + 3 ≤ b ∧ b < w2.heap.size) y v2 := ARep.keep (fun _ _ => rfl) (fun b hb => ⟨by have := hb.1; omega, hb.2⟩) _ _ hv2
  have HG := Lib.hid (HW.out.2.2.1 (fun b => w.heap.size + 3 ≤ b ∧ b < w2.heap.size) v1 v2 w2 (fun b hb => hb.2) hv1' hS')
  have HD := Lib.hid (And.intro (hA1.trans (hb2.mono (by omega))) (And.intro ((hb2.block _ (by omega)).trans hbr1) (show w.heap.size + 3 ≤ w2.heap.size by omega)))
  clear hv1' hS' hv2 hv1 hs0 hsz1 hbr1 hA1 HV hb2 hsz2 q0 q1 q2 q3 q4 q5
  go_wp2_with fail
  refine HG.out.mono ?_
  clear HG
  intro e w3 hpost
  rcases hpost with ⟨v, y, rfl, wj, hR, hv, hb3⟩ | ⟨T, v, rfl, hT, hR, hb3⟩
  · have hv' : ARep w3 (fun b => w.heap.size + 3 ≤ b ∧ b < w3.heap.size) y v := ARep.keep (fun _ _ => rfl) (fun b hb => by
      rcases hb with hb | hb
      · exact ⟨hb.1, Nat.lt_of_lt_of_le hb.2 hb3.size⟩
      · exact ⟨Nat.le_trans HD.out.2.2 hb.1, hb.2⟩) _ _ hv
    have hD3 := And.intro (HD.out.1.trans (hb3.mono (by have := HD.out.2.2; omega))) (And.intro ((hb3.block _ (box_lt HD.out.2.1)).trans HD.out.2.1) (Nat.le_trans HD.out.2.2 hb3.size))
    replace HD := Lib.hid hD3
    have HR := Lib.hid (result_val y _ v w3 wj (fun b hb => hb.2) hv')
    have HY := Lib.hid hR
    clear hv hv' hD3 hb3 wj hR
    go_wp2_with fail
    refine HR.out.mono ?_
    clear HR
    rintro e w4 ⟨E1, e1, E2, e2, E3, e3, rfl, hr4, hb4⟩
    have hbr4 := (hb4.block _ (box_lt HD.out.2.1)).trans HD.out.2.1
    have r0 : w4.cell? ⟨w.heap.size + 2, 0, none⟩ = _ := box_cell hbr4 0
    have r1 : w4.cell? ⟨w.heap.size + 2, 1, none⟩ = _ := box_cell hbr4 1
    have r2 : w4.cell? ⟨w.heap.size + 2, 2, none⟩ = _ := box_cell hbr4 2
    have r3 : w4.cell? ⟨w.heap.size + 2, 3, none⟩ = _ := box_cell hbr4 3
    have r4 : w4.cell? ⟨w.heap.size + 2, 4, none⟩ = _ := box_cell hbr4 4
    have r5 : w4.cell? ⟨w.heap.size + 2, 5, none⟩ = _ := box_cell hbr4 5
    have r6 : w4.cell? ⟨w.heap.size + 2, 6, none⟩ = _ := box_cell hbr4 6
    have fz := box_frozen hbr4
    have HF := Lib.hid (And.intro hr4 hb4)
    clear hr4 hb4 hbr4
    go_wp2_with fail
    refine bodyPost_ret (v := .agg #[.int .i64 y.kind, .int .i64 y.half, .string y.text, .slice E1 y.list.length e1, .slice E2 y.keys.length e2, .slice E3 y.vals.length e3, .int .i64 0]) (by simp [results, Tryz.results29, go_sem, r0, r1, r2, r3, r4, r5, r6]) rfl ?_
    refine .inl ⟨y, HY.out, ?_⟩
    refine ⟨E1, e1, E2, e2, E3, e3, rfl, ?_, ?_⟩
    · refine VRep.keep (D := Fresh w3 w4) (fun b hb => ?_) (fun b hb => ⟨by have := hb.1; have := HD.out.2.2; omega, by have := hb.2; simp [World.setCell]; omega⟩) _ _ HF.out.1
      have hne : b ≠ w.heap.size + 2 := by have := hb.1; have := HD.out.2.2; omega
      iterate 7 rw [heap_setCell_other _ _ _ _ hne]
    · repeat (refine Below.setCell ?_ (by simp; omega) _)
      exact HD.out.1.trans (HF.out.2.mono (by have := HD.out.2.2; omega))
  · have hTe : ∀ (x : TypeId) (W : World), (Instr.typeAssert (.iface T v) x 95 true).run Tryz.prog W = .ok (.tuple #[.iface T v, .bool true]) W := by
      rcases hT with rfl | rfl | rfl | rfl
      · exact fun x W => te_159 x v W
      · exact fun x W => te_162 x v W
      · exact fun x W => te_205 x v W
      · exact fun x W => te_211 x v W
    have HR := Lib.hid (result_err T v w3 hTe)
    have HY := Lib.hid (And.intro hR hb3)
    clear hTe hT hR hb3
    go_wp2_with fail
    refine HR.out.mono ?_
    clear HR
    rintro e w4 ⟨rfl, hb4⟩
    have hbr4 := (hb4.block _ (Nat.lt_of_lt_of_le (box_lt HD.out.2.1) HY.out.2.size)).trans ((HY.out.2.block _ (box_lt HD.out.2.1)).trans HD.out.2.1)
    have r0 : w4.cell? ⟨w.heap.size + 2, 0, none⟩ = _ := box_cell hbr4 0
    have r1 : w4.cell? ⟨w.heap.size + 2, 1, none⟩ = _ := box_cell hbr4 1
    have r2 : w4.cell? ⟨w.heap.size + 2, 2, none⟩ = _ := box_cell hbr4 2
    have r3 : w4.cell? ⟨w.heap.size + 2, 3, none⟩ = _ := box_cell hbr4 3
    have r4 : w4.cell? ⟨w.heap.size + 2, 4, none⟩ = _ := box_cell hbr4 4
    have r5 : w4.cell? ⟨w.heap.size + 2, 5, none⟩ = _ := box_cell hbr4 5
    have r6 : w4.cell? ⟨w.heap.size + 2, 6, none⟩ = _ := box_cell hbr4 6
    have fz := box_frozen hbr4
    have HF := Lib.hid hb4
    clear hb4 hbr4
    go_wp2_with fail
    refine bodyPost_ret (v := .agg #[.int .i64 0, .int .i64 0, .string ⟨#[]⟩, .slice none 0 0, .slice none 0 0, .slice none 0 0, .int .i64 1]) (by simp [results, Tryz.results29, go_sem, r0, r1, r2, r3, r4, r5, r6]) rfl ?_
    refine .inr ⟨HY.out.1, rfl, ?_⟩
    repeat (refine Below.setCell ?_ (by simp; omega) _)
    have := HD.out.2.2
    have := HY.out.2.size
    exact (HD.out.1.trans (HY.out.2.mono (by omega))).trans (HF.out.mono (by omega))


theorem WFL_subL {a b : List J} (h : WFL a) : WFL (subL a b) := WFL_iff.2 fun x hx => WFL_iff.1 h x (mem_subL.1 hx).1

def RSub (a b : List J) (j : J) : Prop := j = .arr (subL a b)

theorem opsub_hyp (a b : List J) (wa : (J.arr a).WF) (wb : (J.arr b).WF) : ZHyp 60 (.arr a) (.arr b) (RSub a b) False := by
  intro D v u W hD hv hu
  obtain ⟨S, rfl, hS⟩ := hv
  obtain ⟨T, rfl, hT⟩ := hu
  refine (zzSub_arrs S T (fun v w' => ARep w' (fun b => D b ∨ (W.heap.size ≤ b ∧ b < w'.heap.size)) (.arr (subL a b)) v ∧ Below W.heap.size W w') W ((subArr_any a b D S T W wa.2 wb.2 wa.1 wb.1 hD hS hT).mono ?_)).mono ?_
  · rintro e w' ⟨v, rfl, h⟩; exact ⟨v, rfl, h⟩
  · rintro e w' ⟨v, rfl, h1, h2⟩
    exact .inl ⟨v, .arr (subL a b), rfl, ⟨Nat.le_trans (subL_length _ _) wa.1, WFL_subL wa.2⟩, rfl, h1, h2⟩

theorem OpSub_any (a b : List J) (D : Nat → Prop) (cx cy : List Value) (w : World) (wa : (J.arr a).WF) (wb : (J.arr b).WF) (hD : ∀ b, D b → All w b) (hx : SRep w D (.arr a) cx) (hy : SRep w D (.arr b) cy) :
    Calls Tryz.prog 29 #[.agg cx.toArray, .agg cy.toArray] w (DPost (RSub a b) False w) :=
  door_OpSub (.arr a) (.arr b) _ _ D cx cy w wa wb (opsub_hyp a b wa wb) hD hx hy
end Go.Proofs.YtfhppajnnbbcjaaGreatDoor
end

section
namespace Go.Proofs.YtfhppajnnbbcjaaGreatDoor
open Go.RowKit

set_option maxRecDepth 100000 in
theorem listedC_any (A1 A2 A3 : Option Addr) (n1 c1 c2 c3 : Nat) (w : World) :
    Calls Tryz.prog 27 #[.agg #[.int .i64 5, .int .i64 0, .string noText, .slice A1 n1 c1, .slice A2 0 c2, .slice A3 0 c3, .int .i64 0]] w fun e w' => e = .returned (.tuple #[.slice A1 n1 c1, .bool true]) ∧ Below w.heap.size w w' := by
  go_enter Tryz.func27, Tryz.ntmps27
  go_wp2_with fail
  go_quiet (fail)
  go_wp2_with fail
  refine bodyPost_ret (v := .tuple #[.slice A1 n1 c1, .bool true]) (by simp [results, Tryz.results27, go_sem]) rfl ?_
  exact ⟨rfl, below_drewN ((Below.refl _ _).alloc (Nat.le_refl _) _) _⟩

def JoinPost (a b : List J) (D : Nat → Prop) (w : World) (e : Ending) (w' : World) : Prop := ∃ v, e = .returned v ∧ Sl EJ w' (fun b => D b ∨ (w.heap.size ≤ b ∧ b < w'.heap.size)) (a ++ b) v ∧ Below w.heap.size w w'

theorem sl_loose {w w' : World} {base : Nat} {D : Nat → Prop} {l l0 : List J} {v u : Value} (hu : Sl EJ w D l u) (hb : Below w.heap.size w w') (hD : ∀ b, D b → All w b) (hG : GG EJ w' base D v l0) (hbs : w.heap.size ≤ base) :
    SlAt (fun _ => True) l.length u (fun b o => Row EJ w' (But D w' v) b l o) :=
  hu.mono (fun _ _ => trivial) fun b o hb0 hr => Row.keep (fun b hb' => hb.block b (hD b hb')) (fun b hb' => ⟨hb', Nat.lt_of_lt_of_le (hD b hb') hb.size, fun e => by have := (hG.own_lt b e.symm).1; have := hD b hb'; unfold All at this; omega⟩) _ _ _ hb0 hr

set_option maxRecDepth 100000 in
theorem joined_any (a b : List J) (D : Nat → Prop) (S T : Value) (w : World) (la : a.length ≤ 1048576) (lb : b.length ≤ 1048576) (hD : ∀ b, D b → All w b) (hS : Sl EJ w D a S) (hT : Sl EJ w D b T) :
    Calls Tryz.prog 28 #[S, T] w (JoinPost a b D w) := by
  have hb0 : Below w.heap.size w (w.alloc (.cells #[] 26)) := (Below.refl _ _).alloc (Nat.le_refl _) _
  have hg0 : GG EJ (w.alloc (.cells #[] 26)) w.heap.size D (.slice (some ⟨w.heap.size, 0, none⟩) 0 0) [] := GG.lit (l := []) (cs := []) (Nat.le_refl _) (heap_alloc_new w _) (Nat.zero_le _) rfl
  have HG := Lib.hid (And.intro hb0 (And.intro hg0 (sl_loose hS hb0 hD hg0 (Nat.le_refl _))))
  have HX := Lib.hid (And.intro hT hD)
  clear hb0 hg0 hS hT hD
  go_enter Tryz.func28, Tryz.ntmps28
  go_wp2_with (at_builtin; refine wpList_append_G rfl (.tmp 5) (.tmp 6) 23 rfl EJ Tryz.under23 w.heap.size D [] a _ _ rfl rfl HG.out.2.1 HG.out.2.2 ?c1 ?c2 ?c3 ?_)
  case c1 => simp [maxLen]; omega
  case c2 => simp [EJ]; omega
  case c3 => simp
  intro v w1 hg hgb _
  have hb1 : Below w.heap.size w w1 := HG.out.1.grown hgb (by simp) (fun g h => (HG.out.2.1.own_lt g h).1)
  have HG2 := Lib.hid (And.intro hb1 (And.intro hg (sl_loose HX.out.1 hb1 HX.out.2 hg (Nat.le_refl _))))
  clear hb1 hg hgb HG
  go_wp2_with (at_builtin; refine wpList_append_G rfl (.tmp 7) (.tmp 8) 23 rfl EJ Tryz.under23 w.heap.size D a b _ _ rfl rfl HG2.out.2.1 HG2.out.2.2 ?d1 ?d2 ?d3 ?_)
  case d1 => simp [maxLen]; omega
  case d2 => simp [EJ]; omega
  case d3 => exact HG2.out.1.size
  intro v2 w2 hg hgb _
  have HF := Lib.hid (And.intro (HG2.out.1.grown hgb HG2.out.1.size (fun g h => (HG2.out.2.1.own_lt g h).1)) hg)
  clear hg hgb HG2
  go_wp2_with fail
  go_ret
  exact ⟨_, rfl, HF.out.2.sl (fun b h1 _ => .inl h1) (fun b h1 h2 => .inr ⟨h1, h2⟩), HF.out.1⟩
end Go.Proofs.YtfhppajnnbbcjaaGreatDoor
end
