/- Walks: gojq.sortItems, of an array by itself.
   A region that draws its order, its operations one at a time: the world's relation may depend on which are done; slices of elements of type any. -/
import Derived.Test.YtfhppajnnbbcjaaGreatDoorGz13
import Derived.Test.YtfhppajnnbbcjaaGreatDoorGz7
import Derived.Test.YtfhppajnnbbcjaaGreatDoorGz6
import Derived.Test.YtfhppajnnbbcjaaGreatDoorGz3

section
namespace Go.Proofs.YtfhppajnnbbcjaaGreatDoor
open Go.RowKit

theorem Tryz.info225 : (Tryz.prog.info? 225).map (fun i => (i.zero, i.size, i.bytes)) = some (some (.pointer none), 1, 8) := by kernel_rfl
theorem make_items (n : Nat) (hn : n ≤ 1099511627776) (w : World) : ∃ c : Array Value, c.size = n ∧ (Instr.makeSlice 222 (.int .i64 (n : Int)) (.int .i64 (n : Int))).run Tryz.prog w = .ok (.slice (some ⟨w.heap.size, 0, none⟩) n n) (w.alloc (.cells c 225)) := by
  obtain ⟨i, hi, hz, hs, hb⟩ := info_parts Tryz.info225
  exact ⟨_, by rw [hs]; simp [madeCells], run_make_rowN 222 225 i (.pointer none) Tryz.underlying222 hi hz .i64 .i64 n n (Nat.le_refl _) (by rw [hb]; omega) (by omega) w⟩

abbrev elJ (l : List J) (i : Nat) : J := l.getD i .null

/-- sorted: what sortItems hands back -/
structure SIOut (l : List J) (D : Nat → Prop) (w : World) (blk c : Nat) (f P : Nat → Nat) (w' : World) : Prop where
  sh : Sh id f 0 l.length
  sd : Sd (elJ l) f 0 l.length
  dom : ∀ x, x < l.length → f x < l.length
  cells : ∀ x, x < l.length → w'.cell? ⟨blk, x, none⟩ = some (toPtr (P (f x)))
  items : ∀ i, i < l.length → ∃ v, w'.heap[P i]? = some (.cells #[v, v] 227 (0, 0)) ∧ ARep w' D (elJ l i) v
  lo : w.heap.size ≤ blk
  lt : blk < w'.heap.size
  below : Below w.heap.size w w'

def SIPost (l : List J) (D : Nat → Prop) (w : World) (e : Ending) (w' : World) : Prop := ∃ blk c f P, e = .returned (.tuple #[.slice (some ⟨blk, 0, none⟩) l.length c, .nilIface]) ∧ SIOut l D w blk c f P w'

/-- the row filled up to k -/
structure SIRel (l : List J) (D : Nat → Prop) (w wr : World) (k : Nat) (P : Nat → Nat) (cs : Array Value) : Prop where
  below : Below w.heap.size w wr
  size : w.heap.size + 2 ≤ wr.heap.size
  box : wr.heap[w.heap.size + 1]? = some (.cells #[.slice (some ⟨w.heap.size, 0, none⟩) l.length l.length] 222 (0, 0))
  row : wr.heap[w.heap.size]? = some (.cells cs 225 (0, 0))
  len : cs.size = l.length
  ptr : ∀ i, i < k → cs[i]? = some (toPtr (P i))
  lo : ∀ i, i < k → w.heap.size + 2 ≤ P i ∧ P i < wr.heap.size
  item : ∀ i, i < k → ∃ v, wr.heap[P i]? = some (.cells #[v, v] 227 (0, 0)) ∧ ARep wr D (elJ l i) v

theorem SIRel.step {l : List J} {D : Nat → Prop} {w wr W : World} {k : Nat} {P : Nat → Nat} {cs : Array Value} (h : SIRel l D w wr k P cs) (hD : ∀ b, D b → All w b) (hk : k < l.length) (hb : Below wr.heap.size wr W) {g : Nat} (hg : wr.heap.size ≤ g) {v : Value}
    (hh : W.heap[g]? = some (.cells #[v, v] 227 (0, 0))) (hv : ARep wr D (elJ l k) v) : SIRel l D w (W.setCell ⟨w.heap.size, k, none⟩ (toPtr g)) (k + 1) (fun i => if i = k then g else P i) (cs.setIfInBounds k (toPtr g)) := by
  have hne : ∀ b, b ≠ w.heap.size → (W.setCell ⟨w.heap.size, k, none⟩ (toPtr g)).heap[b]? = W.heap[b]? := fun b hb => heap_setCell_other _ _ _ _ hb
  have hs : (W.setCell ⟨w.heap.size, k, none⟩ (toPtr g)).heap.size = W.heap.size := by simp [World.setCell]
  have hz := h.size
  have hz2 := hb.size
  have hk2 : ∀ {x : J} {u : Value}, ARep wr D x u → ARep (W.setCell ⟨w.heap.size, k, none⟩ (toPtr g)) D x u := fun hu => ARep.keep (fun b hb' => by
    have := hD b hb'
    rw [hne b (Nat.ne_of_lt this)]
    exact hb.block b (Nat.lt_of_lt_of_le this h.below.size)) (fun _ h => h) _ _ hu
  refine ⟨(h.below.trans (hb.mono h.below.size)).setCell (Nat.le_refl _) _, by omega, ?_, heap_setCell_same _ _ _ _ _ _ ((hb.block _ (box_lt h.row)).trans h.row), by simpa using h.len, fun i hi => ?_, fun i hi => ?_, fun i hi => ?_⟩
  · rw [hne _ (by omega)]; exact (hb.block _ (box_lt h.box)).trans h.box
  · rw [Array.getElem?_setIfInBounds]
    by_cases e : i = k
    · subst e
      rw [if_pos rfl, if_pos (by have := h.len; omega), if_pos rfl]
    · rw [if_neg (Ne.symm e), if_neg e]; exact h.ptr i (by omega)
  · rw [hs]
    by_cases e : i = k
    · rw [if_pos e]; exact ⟨by omega, box_lt hh⟩
    · rw [if_neg e]; have := h.lo i (by omega); exact ⟨this.1, by omega⟩
  · by_cases e : i = k
    · subst e
      exact ⟨v, by rw [if_pos rfl, hne _ (by omega)]; exact hh, hk2 hv⟩
    · obtain ⟨u, h1, h2⟩ := h.item i (by omega)
      have h3 := h.lo i (by omega)
      exact ⟨u, by rw [if_neg e, hne _ (by omega)]; exact (hb.block _ h3.2).trans h1, hk2 h2⟩

theorem SIRel.items {l : List J} {D : Nat → Prop} {w wr : World} {P : Nat → Nat} {cs : Array Value} (h : SIRel l D w wr l.length P cs) (hD : ∀ b, D b → All w b) (wl : WFL l) : Items w.heap.size wr.heap.size w.heap.size (w.heap.size + 1) l.length P (elJ l) wr where
  lo := Nat.le_refl _
  hblk := box_lt h.row
  hbx := box_lt h.box
  bxne := by omega
  box := ⟨_, h.box⟩
  at_ := fun i hi => by have := h.lo i hi; exact ⟨this.2, by omega⟩
  item := fun i hi => by
    obtain ⟨v, h1, h2⟩ := h.item i hi
    exact ⟨v, v, h1, ARep.keep (fun _ _ => rfl) (fun b hb => ⟨Nat.lt_of_lt_of_le (hD b hb) h.below.size, Nat.ne_of_lt (hD b hb)⟩) _ _ h2⟩
  wf := fun i hi => by
    unfold elJ
    rw [List.getD_eq_getElem?_getD, List.getElem?_eq_getElem hi]
    exact WFL_iff.1 wl _ (List.getElem_mem _)

theorem SIRel.start {l : List J} {D : Nat → Prop} {w wr : World} {P : Nat → Nat} {cs : Array Value} (h : SIRel l D w wr l.length P cs) : ItSt w.heap.size wr.heap.size w.heap.size l.length P w wr id wr where
  below := h.below
  size := Nat.le_refl _
  same := fun _ _ _ => rfl
  dom := fun _ h => h
  row := ⟨cs, h.row, h.len, h.ptr⟩

theorem SIRel.out {l : List J} {D : Nat → Prop} {w wr w' : World} {P : Nat → Nat} {cs : Array Value} (h : SIRel l D w wr l.length P cs) (hD : ∀ b, D b → All w b) {f : Nat → Nat} (h1 : Sh id f 0 l.length) (h2 : Sd (elJ l) f 0 l.length) (h3 : ItSt w.heap.size wr.heap.size w.heap.size l.length P w wr f w') :
    SIOut l D w w.heap.size l.length f P w' where
  sh := h1
  sd := h2
  dom := h3.dom
  cells := fun x hx => h3.cell hx
  items := fun i hi => by
    obtain ⟨v, g1, g2⟩ := h.item i hi
    have g3 := h.lo i hi
    exact ⟨v, (h3.same _ g3.2 (by omega)).trans g1, ARep.keep (fun b hb => h3.same b (Nat.lt_of_lt_of_le (hD b hb) h.below.size) (Nat.ne_of_lt (hD b hb))) (fun _ h => h) _ _ g2⟩
  lo := Nat.le_refl _
  lt := Nat.lt_of_lt_of_le (box_lt h.row) h3.size
  below := h3.below

/-- what the values of 'items[i] = &sortItem{v, xs[i]}' are good for -/
def SIF (n k : Nat) (B N0 : Nat) (S : Value) (p : Addr) (v : Value) : Nat → Value → World → Prop
  | 0, u, _ => u = .slice (some ⟨B, 0, none⟩) n n
  | 1, u, _ => u = .int .i64 k
  | 2, u, _ => u = v
  | 3, u, _ => u = S
  | 4, u, _ => u = .int .i64 k
  | 5, u, _ => u = .pointer (some p)
  | 6, u, _ => u = v
  | 7, u, _ => u = .agg #[v, v]
  | 8, u, W => ∃ g, u = toPtr g ∧ W.heap[g]? = some (.cells #[v, v] 227 (0, 0)) ∧ N0 ≤ g
  | 9, u, _ => u = .pointer (some ⟨B, k, none⟩)
  | _, _, _ => True

theorem SIF.keep {n k B N0 : Nat} {S : Value} {p : Addr} {v : Value} {i : Nat} {u : Value} {W W' : World} (h : SIF n k B N0 S p v i u W) (hb : Below W.heap.size W W') : SIF n k B N0 S p v i u W' := by
  match i, h with
  | 0, h => exact h
  | 1, h => exact h
  | 2, h => exact h
  | 3, h => exact h
  | 4, h => exact h
  | 5, h => exact h
  | 6, h => exact h
  | 7, h => exact h
  | 8, ⟨g, h1, h2, h3⟩ => exact ⟨g, h1, (hb.block _ (box_lt h2)).trans h2, h3⟩
  | 9, h => exact h
  | m + 10, _ => trivial
theorem SIF.eight {n k B N0 : Nat} {S : Value} {p : Addr} {v : Value} {u : Value} {W : World} (h : SIF n k B N0 S p v 8 u W) : ∃ g, u = toPtr g ∧ W.heap[g]? = some (.cells #[v, v] 227 (0, 0)) ∧ N0 ≤ g := h

set_option maxRecDepth 100000 in
set_option maxHeartbeats 2000000 in
theorem sortItems_any (nm : ByteArray) (l : List J) (D : Nat → Prop) (S : Value) (w : World) (wl : WFL l) (hn : l.length ≤ 1048576) (hD : ∀ b, D b → All w b) (hS : SlAt D l.length S (fun b o => ARow w D b l o)) :
    Calls Tryz.prog 204 #[.string nm, .iface 88 S, .iface 88 S] w (SIPost l D w) := by
  obtain ⟨A, c, rfl, hc, hm, hr⟩ := hS
  unfold maxLen at hm
  obtain ⟨cs0, hcs0, hmk⟩ := make_items l.length (by omega) w
  have HX := Lib.hid (And.intro hr (And.intro wl (And.intro hD hcs0)))
  have hne : ((l.length : Int) != (l.length : Int)) = false := by simp
  clear hr wl hD hcs0
  go_enter Tryz.func204, Tryz.ntmps204
  go_wp2_with fail
  go_loopw [66] (fun i wr => ∃ (k : Nat) (P : Nat → Nat) (cs : Array Value), k ≤ l.length ∧ i = .int .i64 k ∧ Hid (SIRel l D w wr k P cs)) (fun i _ => l.length - (intOf i).toNat)
  case atStart => 
    refine ⟨0, fun _ => 0, cs0, Nat.zero_le _, rfl, ?_⟩
    refine ⟨((Below.refl _ _).alloc (Nat.le_refl _) _).alloc (by simp) _, by simp, heap_alloc_new1 w _ _, ?_, HX.out.2.2.2, fun i hi => absurd hi (by omega), fun i hi => absurd hi (by omega), fun i hi => absurd hi (by omega)⟩
    exact (Below.heap_alloc _ _ _ (by simp)).trans (heap_alloc_new w _)
  case round =>
    obtain ⟨k, P, cs, hk, rfl, hR⟩ := hrel
    by_cases ha : k < l.length
    · obtain ⟨b1, o1, rfl, hb1, hrow⟩ := HX.out.1 (by omega)
      have hRR := hR.out
      obtain ⟨v, hcell, hv⟩ := ARow.get (i := k) (ARow.keep (Same.of_below hRR.below HX.out.2.2.1) (fun _ h => h) _ _ _ hb1 hrow) (show l[k]? = some (elJ l k) by unfold elJ; rw [List.getD_eq_getElem?_getD, List.getElem?_eq_getElem ha]; rfl)
      have HR := Lib.hid hRR
      have HC := Lib.hid (And.intro (Nat.lt_of_lt_of_le (HX.out.2.2.1 _ hb1) hRR.below.size) hcell)
      have HV := Lib.hid hv
      clear hRR hR hb1 hrow hv
      rcases ARep.shape HV.out with rfl | ⟨vt, vu, rfl⟩
      · go_wp2_with fail
        clear hcell
        refine wp_region_RG 10 (by kernel_rfl) (by kernel_rfl) (Below wr.heap.size wr) (fun _ i u W => SIF l.length k w.heap.size wr.heap.size (.slice (some ⟨b1, o1, none⟩) l.length c) ⟨b1, o1 + k, none⟩ .nilIface i u W) (by simp [AllSteps, frameOf, Act.put, upd]) ((Below.refl _ _).drew) ⟨?s0, ?s1, ?s2, ?s3, ?s4, ?s5, ?s6, ?s7, ?s8, ?s9, trivial⟩ ?e
        case s0 =>
          intro xs d W hd hdeps hG hF K hK
          clear hdeps
          have b0 := (hG.cell (p := ⟨w.heap.size + 1, 0, none⟩) (box_lt HR.out.box)).trans (box_cell HR.out.box 0)
          simp at b0
          simp only [frameOf, List.take_succ_cons, List.take_zero, Act.put, List.setIfInBounds_toArray, List.set_cons_zero, List.set_cons_succ, Nat.zero_add, Nat.reduceAdd]
          go_simp
          exact hK _ _ _ (by simp only [frameOf, List.take_succ_cons, List.take_zero, Act.put, List.setIfInBounds_toArray, List.set_cons_zero, List.set_cons_succ, Nat.zero_add, Nat.reduceAdd]) hG (fun j u _ _ h => h) rfl
        case s1 =>
          intro xs d W hd hdeps hG hF K hK
          clear hdeps
          simp only [frameOf, List.take_succ_cons, List.take_zero, Act.put, List.setIfInBounds_toArray, List.set_cons_zero, List.set_cons_succ, Nat.zero_add, Nat.reduceAdd]
          go_simp
          exact hK _ _ _ (by simp only [frameOf, List.take_succ_cons, List.take_zero, Act.put, List.setIfInBounds_toArray, List.set_cons_zero, List.set_cons_succ, Nat.zero_add, Nat.reduceAdd]) hG (fun j u _ _ h => h) rfl
        case s2 =>
          intro xs d W hd hdeps hG hF K hK
          clear hdeps
          simp only [frameOf, List.take_succ_cons, List.take_zero, Act.put, List.setIfInBounds_toArray, List.set_cons_zero, List.set_cons_succ, Nat.zero_add, Nat.reduceAdd]
          go_simp
          exact hK _ _ _ (by simp only [frameOf, List.take_succ_cons, List.take_zero, Act.put, List.setIfInBounds_toArray, List.set_cons_zero, List.set_cons_succ, Nat.zero_add, Nat.reduceAdd]) hG (fun j u _ _ h => h) rfl
        case s3 =>
          intro xs d W hd hdeps hG hF K hK
          clear hdeps
          simp only [frameOf, List.take_succ_cons, List.take_zero, Act.put, List.setIfInBounds_toArray, List.set_cons_zero, List.set_cons_succ, Nat.zero_add, Nat.reduceAdd]
          go_simp
          exact hK _ _ _ (by simp only [frameOf, List.take_succ_cons, List.take_zero, Act.put, List.setIfInBounds_toArray, List.set_cons_zero, List.set_cons_succ, Nat.zero_add, Nat.reduceAdd]) hG (fun j u _ _ h => h) rfl
        case s4 =>
          intro xs d W hd hdeps hG hF K hK
          clear hdeps
          simp only [frameOf, List.take_succ_cons, List.take_zero, Act.put, List.setIfInBounds_toArray, List.set_cons_zero, List.set_cons_succ, Nat.zero_add, Nat.reduceAdd]
          go_simp
          exact hK _ _ _ (by simp only [frameOf, List.take_succ_cons, List.take_zero, Act.put, List.setIfInBounds_toArray, List.set_cons_zero, List.set_cons_succ, Nat.zero_add, Nat.reduceAdd]) hG (fun j u _ _ h => h) rfl
        case s5 =>
          intro xs d W hd hdeps hG hF K hK
          simp [Region.binds] at hdeps
          have f3 : xs 3 = _ := hF 3 hdeps.1
          have f4 : xs 4 = _ := hF 4 hdeps.2
          simp only [frameOf, List.take_succ_cons, List.take_zero, Act.put, List.setIfInBounds_toArray, List.set_cons_zero, List.set_cons_succ, Nat.zero_add, Nat.reduceAdd]
          simp only [f3, f4]
          go_simp
          exact hK _ _ _ (by simp only [frameOf, List.take_succ_cons, List.take_zero, Act.put, List.setIfInBounds_toArray, List.set_cons_zero, List.set_cons_succ, Nat.zero_add, Nat.reduceAdd, f3, f4]) hG (fun j u _ _ h => h) rfl
        case s6 =>
          intro xs d W hd hdeps hG hF K hK
          simp [Region.binds] at hdeps
          have f5 : xs 5 = _ := hF 5 hdeps
          have b0 := (hG.cell (p := ⟨b1, o1 + k, none⟩) HC.out.1).trans HC.out.2
          simp only [frameOf, List.take_succ_cons, List.take_zero, Act.put, List.setIfInBounds_toArray, List.set_cons_zero, List.set_cons_succ, Nat.zero_add, Nat.reduceAdd]
          simp only [f5]
          go_simp
          exact hK _ _ _ (by simp only [frameOf, List.take_succ_cons, List.take_zero, Act.put, List.setIfInBounds_toArray, List.set_cons_zero, List.set_cons_succ, Nat.zero_add, Nat.reduceAdd, f5]) hG (fun j u _ _ h => h) rfl
        case s7 =>
          intro xs d W hd hdeps hG hF K hK
          simp [Region.binds] at hdeps
          have f2 : xs 2 = _ := hF 2 hdeps.1
          have f6 : xs 6 = _ := hF 6 hdeps.2
          simp only [frameOf, List.take_succ_cons, List.take_zero, Act.put, List.setIfInBounds_toArray, List.set_cons_zero, List.set_cons_succ, Nat.zero_add, Nat.reduceAdd]
          simp only [f2, f6]
          go_simp
          exact hK _ _ _ (by simp only [frameOf, List.take_succ_cons, List.take_zero, Act.put, List.setIfInBounds_toArray, List.set_cons_zero, List.set_cons_succ, Nat.zero_add, Nat.reduceAdd, f2, f6]) hG (fun j u _ _ h => h) rfl
        case s8 =>
          intro xs d W hd hdeps hG hF K hK
          simp [Region.binds] at hdeps
          have f7 : xs 7 = _ := hF 7 hdeps
          simp only [frameOf, List.take_succ_cons, List.take_zero, Act.put, List.setIfInBounds_toArray, List.set_cons_zero, List.set_cons_succ, Nat.zero_add, Nat.reduceAdd]
          simp only [f7]
          go_simp
          exact hK _ _ _ (by simp only [frameOf, List.take_succ_cons, List.take_zero, Act.put, List.setIfInBounds_toArray, List.set_cons_zero, List.set_cons_succ, Nat.zero_add, Nat.reduceAdd, f7]) (hG.alloc hG.size _) (fun j u _ _ h => h.keep ((Below.refl _ _).alloc (Nat.le_refl _) _)) ⟨_, rfl, heap_alloc_new W _, hG.size⟩
        case s9 =>
          intro xs d W hd hdeps hG hF K hK
          simp [Region.binds] at hdeps
          have f0 : xs 0 = _ := hF 0 hdeps.1
          have f1 : xs 1 = _ := hF 1 hdeps.2.1
          simp only [frameOf, List.take_succ_cons, List.take_zero, Act.put, List.setIfInBounds_toArray, List.set_cons_zero, List.set_cons_succ, Nat.zero_add, Nat.reduceAdd]
          simp only [f0, f1]
          go_simp
          exact hK _ _ _ (by simp only [frameOf, List.take_succ_cons, List.take_zero, Act.put, List.setIfInBounds_toArray, List.set_cons_zero, List.set_cons_succ, Nat.zero_add, Nat.reduceAdd, f0, f1]) hG (fun j u _ _ h => h) rfl
        case e =>
        intro xs W hG hF
        have f9 : xs 9 = _ := hF 9 (by omega)
        have h8 := SIF.eight (hF 8 (by omega))
        have f8 := h8.choose_spec.1
        have hg := h8.choose_spec.2
        generalize h8.choose = g at f8 hg
        clear h8
        have hst := HR.out.step HX.out.2.2.1 ha hG hg.2 hg.1 HV.out
        have HST := Lib.hid hst
        have hrow := (hG.block _ (box_lt HR.out.row)).trans HR.out.row
        have fz := box_frozen hrow
        have hkc : k < cs.size := by have := HR.out.len; omega
        have cl : W.cell? ⟨w.heap.size, k, none⟩ = some cs[k] := by rw [box_cell hrow]; exact Array.getElem?_eq_getElem _
        clear hst hrow hG hF hg HR HC HV
        simp only [frameOf, List.take_succ_cons, List.take_zero, List.drop_succ_cons, List.drop_zero, Act.put, List.setIfInBounds_toArray, List.set_cons_zero, List.set_cons_succ, Nat.zero_add, Nat.reduceAdd, f8, f9]
        clear f8 f9
        go_wp2_with fail
        go_roundw
        case rel => exact ⟨k + 1, _, _, by omega, by go_num, HST⟩
        case measure => simp [intOf]; omega
      · go_wp2_with fail
        clear hcell
        refine wp_region_RG 10 (by kernel_rfl) (by kernel_rfl) (Below wr.heap.size wr) (fun _ i u W => SIF l.length k w.heap.size wr.heap.size (.slice (some ⟨b1, o1, none⟩) l.length c) ⟨b1, o1 + k, none⟩ (.iface vt vu) i u W) (by simp [AllSteps, frameOf, Act.put, upd]) ((Below.refl _ _).drew) ⟨?s0, ?s1, ?s2, ?s3, ?s4, ?s5, ?s6, ?s7, ?s8, ?s9, trivial⟩ ?e
        case s0 =>
          intro xs d W hd hdeps hG hF K hK
          clear hdeps
          have b0 := (hG.cell (p := ⟨w.heap.size + 1, 0, none⟩) (box_lt HR.out.box)).trans (box_cell HR.out.box 0)
          simp at b0
          simp only [frameOf, List.take_succ_cons, List.take_zero, Act.put, List.setIfInBounds_toArray, List.set_cons_zero, List.set_cons_succ, Nat.zero_add, Nat.reduceAdd]
          go_simp
          exact hK _ _ _ (by simp only [frameOf, List.take_succ_cons, List.take_zero, Act.put, List.setIfInBounds_toArray, List.set_cons_zero, List.set_cons_succ, Nat.zero_add, Nat.reduceAdd]) hG (fun j u _ _ h => h) rfl
        case s1 =>
          intro xs d W hd hdeps hG hF K hK
          clear hdeps
          simp only [frameOf, List.take_succ_cons, List.take_zero, Act.put, List.setIfInBounds_toArray, List.set_cons_zero, List.set_cons_succ, Nat.zero_add, Nat.reduceAdd]
          go_simp
          exact hK _ _ _ (by simp only [frameOf, List.take_succ_cons, List.take_zero, Act.put, List.setIfInBounds_toArray, List.set_cons_zero, List.set_cons_succ, Nat.zero_add, Nat.reduceAdd]) hG (fun j u _ _ h => h) rfl
        case s2 =>
          intro xs d W hd hdeps hG hF K hK
          clear hdeps
          simp only [frameOf, List.take_succ_cons, List.take_zero, Act.put, List.setIfInBounds_toArray, List.set_cons_zero, List.set_cons_succ, Nat.zero_add, Nat.reduceAdd]
          go_simp
          exact hK _ _ _ (by simp only [frameOf, List.take_succ_cons, List.take_zero, Act.put, List.setIfInBounds_toArray, List.set_cons_zero, List.set_cons_succ, Nat.zero_add, Nat.reduceAdd]) hG (fun j u _ _ h => h) rfl
        case s3 =>
          intro xs d W hd hdeps hG hF K hK
          clear hdeps
          simp only [frameOf, List.take_succ_cons, List.take_zero, Act.put, List.setIfInBounds_toArray, List.set_cons_zero, List.set_cons_succ, Nat.zero_add, Nat.reduceAdd]
          go_simp
          exact hK _ _ _ (by simp only [frameOf, List.take_succ_cons, List.take_zero, Act.put, List.setIfInBounds_toArray, List.set_cons_zero, List.set_cons_succ, Nat.zero_add, Nat.reduceAdd]) hG (fun j u _ _ h => h) rfl
        case s4 =>
          intro xs d W hd hdeps hG hF K hK
          clear hdeps
          simp only [frameOf, List.take_succ_cons, List.take_zero, Act.put, List.setIfInBounds_toArray, List.set_cons_zero, List.set_cons_succ, Nat.zero_add, Nat.reduceAdd]
          go_simp
          exact hK _ _ _ (by simp only [frameOf, List.take_succ_cons, List.take_zero, Act.put, List.setIfInBounds_toArray, List.set_cons_zero, List.set_cons_succ, Nat.zero_add, Nat.reduceAdd]) hG (fun j u _ _ h => h) rfl
        case s5 =>
          intro xs d W hd hdeps hG hF K hK
          simp [Region.binds] at hdeps
          have f3 : xs 3 = _ := hF 3 hdeps.1
          have f4 : xs 4 = _ := hF 4 hdeps.2
          simp only [frameOf, List.take_succ_cons, List.take_zero, Act.put, List.setIfInBounds_toArray, List.set_cons_zero, List.set_cons_succ, Nat.zero_add, Nat.reduceAdd]
          simp only [f3, f4]
          go_simp
          exact hK _ _ _ (by simp only [frameOf, List.take_succ_cons, List.take_zero, Act.put, List.setIfInBounds_toArray, List.set_cons_zero, List.set_cons_succ, Nat.zero_add, Nat.reduceAdd, f3, f4]) hG (fun j u _ _ h => h) rfl
        case s6 =>
          intro xs d W hd hdeps hG hF K hK
          simp [Region.binds] at hdeps
          have f5 : xs 5 = _ := hF 5 hdeps
          have b0 := (hG.cell (p := ⟨b1, o1 + k, none⟩) HC.out.1).trans HC.out.2
          simp only [frameOf, List.take_succ_cons, List.take_zero, Act.put, List.setIfInBounds_toArray, List.set_cons_zero, List.set_cons_succ, Nat.zero_add, Nat.reduceAdd]
          simp only [f5]
          go_simp
          exact hK _ _ _ (by simp only [frameOf, List.take_succ_cons, List.take_zero, Act.put, List.setIfInBounds_toArray, List.set_cons_zero, List.set_cons_succ, Nat.zero_add, Nat.reduceAdd, f5]) hG (fun j u _ _ h => h) rfl
        case s7 =>
          intro xs d W hd hdeps hG hF K hK
          simp [Region.binds] at hdeps
          have f2 : xs 2 = _ := hF 2 hdeps.1
          have f6 : xs 6 = _ := hF 6 hdeps.2
          simp only [frameOf, List.take_succ_cons, List.take_zero, Act.put, List.setIfInBounds_toArray, List.set_cons_zero, List.set_cons_succ, Nat.zero_add, Nat.reduceAdd]
          simp only [f2, f6]
          go_simp
          exact hK _ _ _ (by simp only [frameOf, List.take_succ_cons, List.take_zero, Act.put, List.setIfInBounds_toArray, List.set_cons_zero, List.set_cons_succ, Nat.zero_add, Nat.reduceAdd, f2, f6]) hG (fun j u _ _ h => h) rfl
        case s8 =>
          intro xs d W hd hdeps hG hF K hK
          simp [Region.binds] at hdeps
          have f7 : xs 7 = _ := hF 7 hdeps
          simp only [frameOf, List.take_succ_cons, List.take_zero, Act.put, List.setIfInBounds_toArray, List.set_cons_zero, List.set_cons_succ, Nat.zero_add, Nat.reduceAdd]
          simp only [f7]
          go_simp
          exact hK _ _ _ (by simp only [frameOf, List.take_succ_cons, List.take_zero, Act.put, List.setIfInBounds_toArray, List.set_cons_zero, List.set_cons_succ, Nat.zero_add, Nat.reduceAdd, f7]) (hG.alloc hG.size _) (fun j u _ _ h => h.keep ((Below.refl _ _).alloc (Nat.le_refl _) _)) ⟨_, rfl, heap_alloc_new W _, hG.size⟩
        case s9 =>
          intro xs d W hd hdeps hG hF K hK
          simp [Region.binds] at hdeps
          have f0 : xs 0 = _ := hF 0 hdeps.1
          have f1 : xs 1 = _ := hF 1 hdeps.2.1
          simp only [frameOf, List.take_succ_cons, List.take_zero, Act.put, List.setIfInBounds_toArray, List.set_cons_zero, List.set_cons_succ, Nat.zero_add, Nat.reduceAdd]
          simp only [f0, f1]
          go_simp
          exact hK _ _ _ (by simp only [frameOf, List.take_succ_cons, List.take_zero, Act.put, List.setIfInBounds_toArray, List.set_cons_zero, List.set_cons_succ, Nat.zero_add, Nat.reduceAdd, f0, f1]) hG (fun j u _ _ h => h) rfl
        case e =>
        intro xs W hG hF
        have f9 : xs 9 = _ := hF 9 (by omega)
        have h8 := SIF.eight (hF 8 (by omega))
        have f8 := h8.choose_spec.1
        have hg := h8.choose_spec.2
        generalize h8.choose = g at f8 hg
        clear h8
        have hst := HR.out.step HX.out.2.2.1 ha hG hg.2 hg.1 HV.out
        have HST := Lib.hid hst
        have hrow := (hG.block _ (box_lt HR.out.row)).trans HR.out.row
        have fz := box_frozen hrow
        have hkc : k < cs.size := by have := HR.out.len; omega
        have cl : W.cell? ⟨w.heap.size, k, none⟩ = some cs[k] := by rw [box_cell hrow]; exact Array.getElem?_eq_getElem _
        clear hst hrow hG hF hg HR HC HV
        simp only [frameOf, List.take_succ_cons, List.take_zero, List.drop_succ_cons, List.drop_zero, Act.put, List.setIfInBounds_toArray, List.set_cons_zero, List.set_cons_succ, Nat.zero_add, Nat.reduceAdd, f8, f9]
        clear f8 f9
        go_wp2_with fail
        go_roundw
        case rel => exact ⟨k + 1, _, _, by omega, by go_num, HST⟩
        case measure => simp [intOf]; omega
    · have hk' : k = l.length := by omega
      subst hk'
      have HS := Lib.hid (sortItemsRow_any (w := w) (hR.out.items HX.out.2.2.1 HX.out.2.1) l.length (by omega) hR.out.start)
      have c0 : wr.cell? ⟨w.heap.size + 1, 0, none⟩ = _ := box_cell hR.out.box 0
      go_wp2_with fail
      refine HS.out.mono ?_
      rintro e w1 ⟨rfl, f, h1, h2, h3⟩
      have HO := Lib.hid (hR.out.out HX.out.2.2.1 h1 h2 h3)
      have c1 : w1.cell? ⟨w.heap.size + 1, 0, none⟩ = _ := box_cell ((h3.same _ (box_lt hR.out.box) (by omega)).trans hR.out.box) 0
      clear HS c0 h1 h2 h3
      go_wp2_with fail
      go_ret2
      exact ⟨_, _, _, _, rfl, HO.out⟩
end Go.Proofs.YtfhppajnnbbcjaaGreatDoor
end

section
namespace Go.Proofs.YtfhppajnnbbcjaaGreatDoor
open Go.RowKit

theorem upd_off {xs : Nat → Value} {i j : Nat} {v : Value} (h : j ≠ i) : upd xs i v j = xs j := by simp [upd, h]

def StepRGD (P : Program) (Q : Exit → Act → World → Prop) (l : List Oper) (frame : (Nat → Value) → Act) (G : (Nat → Prop) → World → Prop) (F : (Nat → Prop) → Nat → Value → World → Prop) (i : Nat) (o : Oper) : Prop :=
  ∀ (xs : Nat → Value) (d : Nat → Prop) (w : World), ¬ d i → (∀ e ∈ o.after.toList, Region.binds .any e = true → d e.on) → G d w → (∀ j, d j → F d j (xs j) w) → ∀ K : Act → World → Prop,
    (∀ a' v w', a' = (frame xs).put o.dst v → G (fun j => d j ∨ j = i) w' → (∀ j u, j ≠ i → d j → F d j u w → F (fun j => d j ∨ j = i) j u w') → F (fun j => d j ∨ j = i) i v w' → K a' w') →
    if Region.wanted o (yielded l.toArray (frame xs).tmps) = true then o.wp P (frame xs) w K Q else K ((frame xs).put o.dst undef) w

theorem wp_region_RGD {P : Program} {Q : Exit → Act → World → Prop} {id : Nat} {a : Act} {w : World} {l : List Oper} (n : Nat) (hm : P.follows .mixedOrders = true) (hB : tailB .any l.toArray n = true) (G : (Nat → Prop) → World → Prop) (F : (Nat → Prop) → Nat → Value → World → Prop)
    (hcomm : AllSteps (fun i o => ∀ xs v, (frameOf a 0 (l.take n) xs).put o.dst v = frameOf a 0 (l.take n) (upd xs i v)) 0 (l.take n)) (hG : G (fun _ => False) w.drew)
    (hstep : AllSteps (StepRGD P Q l (frameOf a 0 (l.take n)) G F) 0 (l.take n))
    (hend : ∀ xs w, G (fun j => j < n) w → (∀ j, j < n → F (fun j => j < n) j (xs j) w) → wpList P l.toArray Q (l.drop n) (frameOf a 0 (l.take n) xs) w) : (Code.region id l.toArray true).wp P Q a w := by
  have key : ∀ (k : Nat) (m : List Oper), AllSteps (fun i o => ∀ xs v, (frameOf a 0 (l.take n) xs).put o.dst v = frameOf a 0 (l.take n) (upd xs i v)) k m → AllSteps (StepRGD P Q l (frameOf a 0 (l.take n)) G F) k m →
      AllSteps (StepOK P Q l fun d a' w' => ∃ xs, a' = frameOf a 0 (l.take n) xs ∧ G d w' ∧ ∀ j, d j → F d j (xs j) w') k m := by
    intro k m
    induction m generalizing k with
    | nil => intro _ _; trivial
    | cons o m ih =>
      intro h1 h2
      refine ⟨?_, ih (k + 1) h1.2 h2.2⟩
      rintro d a' w' hd hdeps ⟨xs, rfl, hg, hF⟩ K hK
      refine h2.1 xs d w' hd hdeps hg hF K fun a2 v w2 ha2 hg2 hk hv => hK _ _ ⟨upd xs k v, ha2.trans (h1.1 xs v), hg2, fun j hj => ?_⟩
      by_cases e : j = k
      · subst e
        have : upd xs j v j = v := by simp [upd]
        rw [this]
        exact hv
      · have : upd xs k v j = xs j := by simp [upd, e]
        rw [this]
        exact hk j _ e (hj.resolve_right e) (hF j (hj.resolve_right e))
  obtain ⟨xs0, ha⟩ := frameOf_self a (l.take n) 0
  refine wp_region_rg n hm hB _ ⟨xs0, ha, hG, fun j hj => hj.elim⟩ (key 0 _ hcomm hstep) ?_
  rintro a' w' ⟨xs, rfl, hg, hF⟩
  exact hend xs w' hg hF

/-- the same, where the relation may speak of the values, too: a variable that the region itself assigns is read within it -/
def StepRGE (P : Program) (Q : Exit → Act → World → Prop) (l : List Oper) (frame : (Nat → Value) → Act) (G : (Nat → Prop) → (Nat → Value) → World → Prop) (F : (Nat → Prop) → Nat → Value → World → Prop) (i : Nat) (o : Oper) : Prop :=
  ∀ (xs : Nat → Value) (d : Nat → Prop) (w : World), ¬ d i → (∀ e ∈ o.after.toList, Region.binds .any e = true → d e.on) → G d xs w → (∀ j, d j → F d j (xs j) w) → ∀ K : Act → World → Prop,
    (∀ a' v w', a' = (frame xs).put o.dst v → G (fun j => d j ∨ j = i) (upd xs i v) w' → (∀ j u, j ≠ i → d j → F d j u w → F (fun j => d j ∨ j = i) j u w') → F (fun j => d j ∨ j = i) i v w' → K a' w') →
    if Region.wanted o (yielded l.toArray (frame xs).tmps) = true then o.wp P (frame xs) w K Q else K ((frame xs).put o.dst undef) w

theorem wp_region_RGE {P : Program} {Q : Exit → Act → World → Prop} {id : Nat} {a : Act} {w : World} {l : List Oper} (n : Nat) (hm : P.follows .mixedOrders = true) (hB : tailB .any l.toArray n = true) (G : (Nat → Prop) → (Nat → Value) → World → Prop) (F : (Nat → Prop) → Nat → Value → World → Prop)
    (hcomm : AllSteps (fun i o => ∀ xs v, (frameOf a 0 (l.take n) xs).put o.dst v = frameOf a 0 (l.take n) (upd xs i v)) 0 (l.take n)) (hG : ∀ xs, a = frameOf a 0 (l.take n) xs → G (fun _ => False) xs w.drew)
    (hstep : AllSteps (StepRGE P Q l (frameOf a 0 (l.take n)) G F) 0 (l.take n))
    (hend : ∀ xs w, G (fun j => j < n) xs w → (∀ j, j < n → F (fun j => j < n) j (xs j) w) → wpList P l.toArray Q (l.drop n) (frameOf a 0 (l.take n) xs) w) : (Code.region id l.toArray true).wp P Q a w := by
  have key : ∀ (k : Nat) (m : List Oper), AllSteps (fun i o => ∀ xs v, (frameOf a 0 (l.take n) xs).put o.dst v = frameOf a 0 (l.take n) (upd xs i v)) k m → AllSteps (StepRGE P Q l (frameOf a 0 (l.take n)) G F) k m →
      AllSteps (StepOK P Q l fun d a' w' => ∃ xs, a' = frameOf a 0 (l.take n) xs ∧ G d xs w' ∧ ∀ j, d j → F d j (xs j) w') k m := by
    intro k m
    induction m generalizing k with
    | nil => intro _ _; trivial
    | cons o m ih =>
      intro h1 h2
      refine ⟨?_, ih (k + 1) h1.2 h2.2⟩
      rintro d a' w' hd hdeps ⟨xs, rfl, hg, hF⟩ K hK
      refine h2.1 xs d w' hd hdeps hg hF K fun a2 v w2 ha2 hg2 hk hv => hK _ _ ⟨upd xs k v, ha2.trans (h1.1 xs v), hg2, fun j hj => ?_⟩
      by_cases e : j = k
      · subst e
        have : upd xs j v j = v := by simp [upd]
        rw [this]
        exact hv
      · have : upd xs k v j = xs j := by simp [upd, e]
        rw [this]
        exact hk j _ e (hj.resolve_right e) (hF j (hj.resolve_right e))
  obtain ⟨xs0, ha⟩ := frameOf_self a (l.take n) 0
  refine wp_region_rg n hm hB _ ⟨xs0, ha, hG xs0 ha, fun j hj => hj.elim⟩ (key 0 _ hcomm hstep) ?_
  rintro a' w' ⟨xs, rfl, hg, hF⟩
  exact hend xs w' hg hF

/-- an element of type any -/
def EA : El J where
  ty := 20
  size := 1
  bytes := 16
  zero := _
  info := Tryz.info20
  zsize := rfl
  pos := by decide
  rep := fun w D x cs => ∃ v, cs = [v] ∧ ARep w D x v
  len := fun ⟨_, h, _⟩ => by rw [h]; rfl
  one := fun ⟨v, h, hv⟩ u hu => by
    rw [h] at hu
    simp at hu
    subst hu
    exact hv.one
  keep := fun hs hD ⟨v, h, hv⟩ => ⟨v, h, ARep.keep hs hD _ _ hv⟩

theorem Tryz.under88 : Tryz.prog.underlying 88 = some (.slice EA.ty) := Tryz.underlying88

theorem row_EA {w : World} {D : Nat → Prop} {b : Nat} : ∀ {l : List J} {o : Nat}, Row EA w D b l o ↔ ARow w D b l o
  | [], _ => Iff.rfl
  | x :: l, o => by
    constructor
    · rintro ⟨⟨cs, hc, v, rfl, hv⟩, hr⟩
      exact ⟨⟨v, by simpa using hc 0 v rfl, hv⟩, row_EA.1 hr⟩
    · rintro ⟨⟨v, hc, hv⟩, hr⟩
      exact ⟨⟨[v], fun i u hi => by
        cases i with
        | zero => simp at hi; subst hi; simpa using hc
        | succ i => simp at hi, v, rfl, hv⟩, row_EA.2 hr⟩

theorem GG.arep {w : World} {base : Nat} {D0 D : Nat → Prop} {v : Value} {l : List J} (h : GG EA w base D0 v l) (h1 : ∀ b, D0 b → b < w.heap.size → D b) (h2 : ∀ b, base ≤ b → b < w.heap.size → D b) : ARep w D (.arr l) (.iface 88 v) :=
  ⟨v, rfl, (h.sl h1 h2).mono (fun _ h => h) fun _ _ _ hr => row_EA.1 hr⟩
end Go.Proofs.YtfhppajnnbbcjaaGreatDoor
end
