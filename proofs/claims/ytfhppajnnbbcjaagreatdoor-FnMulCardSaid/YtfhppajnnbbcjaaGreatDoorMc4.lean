/- Walks: spec.merged. -/
import Derived.Test.YtfhppajnnbbcjaaGreatDoorMc3
namespace Go.Proofs.YtfhppajnnbbcjaaGreatDoor
open Go.RowKit

theorem with_any (ks : List ByteArray) (vs : List J) (k : ByteArray) (v : J) (D : Nat → Prop) (cm cv : List Value) (w : World) (hl : ks.length = vs.length) (hn : ks.length ≤ 4194304) (hD : ∀ b, D b → All w b) (hm : SRep w D (.obj ks vs) cm) (hv : SRep w D v cv) :
    Calls Tryz.prog 91 #[.agg cm.toArray, .string k, .agg cv.toArray] w (ValD (.obj (insK k ks) (insV k v ks vs)) D w) := by
  cases h : isAt k ks with
  | true => exact with_true ks vs k v D cm cv w hl hn h hD hm hv
  | false => exact with_false ks vs k v D cm cv w hl hn h hD hm hv

theorem set6 {W W4 : World} {g : Nat} {c0 c1 c2 c3 c4 c5 : Value} {t : TypeId} (hh : W.heap[g]? = some (.cells #[c0, c1, c2, c3, c4, c5] t (0, 0))) {v0 v1 v2 v3 v4 v5 : Value}
    (h : ((((((W.setCell ⟨g, 0, none⟩ v0).setCell ⟨g, 1, none⟩ v1).setCell ⟨g, 2, none⟩ v2).setCell ⟨g, 3, none⟩ v3).setCell ⟨g, 4, none⟩ v4).setCell ⟨g, 5, none⟩ v5) = W4) :
    W4.heap[g]? = some (.cells #[v0, v1, v2, v3, v4, v5] t (0, 0)) ∧ (∀ b, b ≠ g → W4.heap[b]? = W.heap[b]?) ∧ W4.heap.size = W.heap.size ∧ (∀ (n : Nat) (X : World), n ≤ g → Below n X W → Below n X W4) := by
  subst h
  refine ⟨?_, fun b hb => ?_, by simp [World.setCell], fun n X hn hb => ?_⟩
  · rw [heap_setCell_same _ _ _ _ _ _ (heap_setCell_same _ _ _ _ _ _ (heap_setCell_same _ _ _ _ _ _ (heap_setCell_same _ _ _ _ _ _ (heap_setCell_same _ _ _ _ _ _ (heap_setCell_same _ _ _ _ _ _ hh)))))]
    rfl
  · iterate 6 rw [heap_setCell_other _ _ _ _ hb]
  · iterate 6 refine Below.setCell ?_ hn _
    exact hb

/-- the blocks of the outset and those that the call has made behind its boxes -/
abbrev Dm (D : Nat → Prop) (B : Nat) (W : World) : Nat → Prop := fun b => D b ∨ (B + 3 ≤ b ∧ b < W.heap.size)

/-- the loop: k keys are put in -/
structure MrRel (ks : List ByteArray) (mv : List J) (ka : List ByteArray) (va : List J) (D : Nat → Prop) (cb : List Value) (w wr : World) (k : Nat) : Prop where
  below : Below w.heap.size w wr
  size : w.heap.size + 3 ≤ wr.heap.size
  bb : wr.heap[w.heap.size + 1]? = some (.cells cb.toArray 26 (0, 0))
  br : wr.heap[w.heap.size + 1 + 1]? = some (.cells zsix.toArray 26 (0, 0))
  ba : ∃ ca : List Value, wr.heap[w.heap.size]? = some (.cells ca.toArray 26 (0, 0)) ∧ SRep wr (Dm D w.heap.size wr) (.obj (insKs (ks.take k) ka) (insVs (ks.take k) (mv.take k) ka va)) ca

/-- what the values of the drawn row are good for -/
def MrF (ca : List Value) (s : ByteArray) (xv : J) (D : Nat → Prop) (wr : World) (B k : Nat) (u4 : Value) (p6 : Addr) (cy : List Value) (d : Nat → Prop) (xs : Nat → Value) : Nat → World → Prop
  | 0, _ => xs 0 = .agg ca.toArray
  | 1, _ => xs 1 = .string s
  | 2, _ => ∃ cs : List Value, xs 2 = .agg cs.toArray ∧ SRep wr D xv cs
  | 3, _ => xs 3 = .pointer (some ⟨B + 1, 5, none⟩)
  | 4, _ => xs 4 = u4
  | 5, _ => xs 5 = .int .i64 k
  | 6, _ => xs 6 = .pointer (some p6)
  | 7, _ => xs 7 = .agg cy.toArray
  | 8, W => ∃ g, xs 8 = .pointer (some ⟨g, 0, none⟩) ∧ wr.heap.size ≤ g ∧ g < W.heap.size ∧ (¬ d 10 → W.heap[g]? = some (.cells zsix.toArray 26 (0, 0))) ∧ (d 9 → xs 9 ≠ xs 8)
  | 9, W => ∃ g, xs 9 = .pointer (some ⟨g, 0, none⟩) ∧ wr.heap.size ≤ g ∧ W.heap[g]? = some (.cells zsix.toArray 26 (0, 0)) ∧ (d 8 → xs 8 ≠ xs 9)
  | 10, W => d 2 ∧ d 8 ∧ ∃ (g : Nat) (cs : List Value), xs 8 = .pointer (some ⟨g, 0, none⟩) ∧ xs 2 = .agg cs.toArray ∧ SRep wr D xv cs ∧ W.heap[g]? = some (.cells cs.toArray 26 (0, 0))
  | _, _ => True

theorem MrF.two {ca : List Value} {s : ByteArray} {xv : J} {D : Nat → Prop} {wr : World} {B k : Nat} {u4 : Value} {p6 : Addr} {cy : List Value} {d : Nat → Prop} {xs : Nat → Value} {W : World} (h : MrF ca s xv D wr B k u4 p6 cy d xs 2 W) : ∃ cs : List Value, xs 2 = .agg cs.toArray ∧ SRep wr D xv cs := h
theorem MrF.eight {ca : List Value} {s : ByteArray} {xv : J} {D : Nat → Prop} {wr : World} {B k : Nat} {u4 : Value} {p6 : Addr} {cy : List Value} {d : Nat → Prop} {xs : Nat → Value} {W : World} (h : MrF ca s xv D wr B k u4 p6 cy d xs 8 W) :
    ∃ g, xs 8 = .pointer (some ⟨g, 0, none⟩) ∧ wr.heap.size ≤ g ∧ g < W.heap.size ∧ (¬ d 10 → W.heap[g]? = some (.cells zsix.toArray 26 (0, 0))) ∧ (d 9 → xs 9 ≠ xs 8) := h
theorem MrF.nine {ca : List Value} {s : ByteArray} {xv : J} {D : Nat → Prop} {wr : World} {B k : Nat} {u4 : Value} {p6 : Addr} {cy : List Value} {d : Nat → Prop} {xs : Nat → Value} {W : World} (h : MrF ca s xv D wr B k u4 p6 cy d xs 9 W) :
    ∃ g, xs 9 = .pointer (some ⟨g, 0, none⟩) ∧ wr.heap.size ≤ g ∧ W.heap[g]? = some (.cells zsix.toArray 26 (0, 0)) ∧ (d 8 → xs 8 ≠ xs 9) := h
theorem MrF.ten {ca : List Value} {s : ByteArray} {xv : J} {D : Nat → Prop} {wr : World} {B k : Nat} {u4 : Value} {p6 : Addr} {cy : List Value} {d : Nat → Prop} {xs : Nat → Value} {W : World} (h : MrF ca s xv D wr B k u4 p6 cy d xs 10 W) :
    d 2 ∧ d 8 ∧ ∃ (g : Nat) (cs : List Value), xs 8 = .pointer (some ⟨g, 0, none⟩) ∧ xs 2 = .agg cs.toArray ∧ SRep wr D xv cs ∧ W.heap[g]? = some (.cells cs.toArray 26 (0, 0)) := h

theorem MrF.keep {ca : List Value} {s : ByteArray} {xv : J} {D : Nat → Prop} {wr : World} {B k : Nat} {u4 : Value} {p6 : Addr} {cy : List Value} {d : Nat → Prop} {xs : Nat → Value} {j i : Nat} {v : Value} {W W' : World}
    (h : MrF ca s xv D wr B k u4 p6 cy d xs j W) (hd : ¬ d i) (hji : j ≠ i) (h8 : 8 ≠ i) (h9 : 9 ≠ i) (_ : 10 ≠ i) (hb : Below W.heap.size W W') : MrF ca s xv D wr B k u4 p6 cy (fun j => d j ∨ j = i) (upd xs i v) j W' := by
  match j, hji, h with
  | 0, hji, h => show upd xs i v 0 = _; rw [upd_no hji]; exact h
  | 1, hji, h => show upd xs i v 1 = _; rw [upd_no hji]; exact h
  | 2, hji, h => obtain ⟨cs, e, hr⟩ := h.two; exact ⟨cs, by rw [upd_no hji]; exact e, hr⟩
  | 3, hji, h => show upd xs i v 3 = _; rw [upd_no hji]; exact h
  | 4, hji, h => show upd xs i v 4 = _; rw [upd_no hji]; exact h
  | 5, hji, h => show upd xs i v 5 = _; rw [upd_no hji]; exact h
  | 6, hji, h => show upd xs i v 6 = _; rw [upd_no hji]; exact h
  | 7, hji, h => show upd xs i v 7 = _; rw [upd_no hji]; exact h
  | 8, hji, h =>
    obtain ⟨g, e, hg, hlt, hz, hne⟩ := h.eight
    exact ⟨g, by rw [upd_no hji]; exact e, hg, Nat.lt_of_lt_of_le hlt hb.size, fun hn => (hb.block g hlt).trans (hz fun h => hn (.inl h)), fun hd9 => by rw [upd_no h9, upd_no h8]; exact hne (hd9.resolve_right h9)⟩
  | 9, hji, h =>
    obtain ⟨g, e, hg, hz, hne⟩ := h.nine
    exact ⟨g, by rw [upd_no hji]; exact e, hg, (hb.block g (box_lt hz)).trans hz, fun hd8 => by rw [upd_no h9, upd_no h8]; exact hne (hd8.resolve_right h8)⟩
  | 10, hji, h =>
    obtain ⟨h2, h8', g, cs, e8, e2, hr, hh⟩ := h.ten
    exact ⟨.inl h2, .inl h8', g, cs, by rw [upd_no h8]; exact e8, by rw [upd_no (fun e : 2 = i => hd (by rw [← e]; exact h2))]; exact e2, hr, (hb.block g (box_lt hh)).trans hh⟩
  | n + 11, _, _ => trivial

def MergeOK (b : J) : Prop := ∀ (a : J) (D : Nat → Prop) (ca cb : List Value) (w : World), a.kind = 6 → b.kind = 6 → a.WF → b.WF → (∀ b, D b → All w b) → SRep w D a ca → SRep w D b cb → Calls Tryz.prog 94 #[.agg ca.toArray, .agg cb.toArray] w (ValD (mrg b a) D w)

theorem mrg_same {b a : J} (h : b.kind ≠ 6 ∨ a.kind ≠ 6) : mrg b a = b := by
  cases b with
  | obj ks vs =>
    cases a with
    | obj ka va => exact absurd rfl (h.resolve_left fun h => h rfl)
    | _ => rfl
  | _ => cases a <;> rfl

theorem take_snocA {α : Type} {l : List α} {k : Nat} {x : α} (h : l[k]? = some x) : l.take (k + 1) = l.take k ++ [x] := by
  obtain ⟨hk, rfl⟩ := List.getElem?_eq_some_iff.1 h
  exact List.take_succ_eq_append_getElem hk

theorem notin_take {ks : List ByteArray} (hs : SortedK ks) {k : Nat} {s : ByteArray} (h : ks[k]? = some s) : s ∉ ks.take k := fun hm => by
  obtain ⟨i, hi, he⟩ := List.getElem_of_mem hm
  rw [List.getElem_take] at he
  have hik : i < k := by simp at hi; omega
  exact not_before hs h i hik (by rw [List.getElem?_eq_getElem (by simp at hi; omega), he])

theorem sorted_take {ks : List ByteArray} (hs : SortedK ks) (k : Nat) : SortedK (ks.take k) := hs.sublist (List.take_sublist _ _)

/-- a round's end: the box of a is written -/
theorem MrRel.next {ks : List ByteArray} {mv : List J} {ka : List ByteArray} {va : List J} {D : Nat → Prop} {cb : List Value} {w wr W2 w3 W4 : World} {k : Nat} {s : ByteArray} {z : J} {cs : List Value} {D3 : Nat → Prop}
    (hD : ∀ b, D b → b < w.heap.size) (h : MrRel ks mv ka va D cb w wr k) (hk : ks[k]? = some s) (hz : mv[k]? = some z) (hlk : ks.length = mv.length) (hb2 : Below wr.heap.size wr W2) (h3 : SRep w3 (fun b => D3 b ∨ Fresh W2 w3 b) (.obj (insK s (insKs (ks.take k) ka)) (insV s z (insKs (ks.take k) ka) (insVs (ks.take k) (mv.take k) ka va))) cs)
    (hD3 : ∀ b, D3 b → Dm D w.heap.size W2 b) (hb3 : Below W2.heap.size W2 w3) (hW4 : W4.heap[w.heap.size]? = some (.cells cs.toArray 26 (0, 0))) (ho : ∀ b, b ≠ w.heap.size → W4.heap[b]? = w3.heap[b]?) (hs4 : W4.heap.size = w3.heap.size) (hbl : ∀ (n : Nat) (X : World), n ≤ w.heap.size → Below n X w3 → Below n X W4) :
    MrRel ks mv ka va D cb w W4 (k + 1) := by
  have hsz := h.size
  have hs2 := hb2.size
  have hs3 := hb3.size
  refine ⟨hbl _ _ (Nat.le_refl _) ((h.below.trans (hb2.mono h.below.size)).trans (hb3.mono (by have := h.below.size; omega))), by omega, ?_, ?_, cs, hW4, ?_⟩
  · exact (ho _ (by omega)).trans ((hb3.block _ (by omega)).trans ((hb2.block _ (by omega)).trans h.bb))
  · exact (ho _ (by omega)).trans ((hb3.block _ (by omega)).trans ((hb2.block _ (by omega)).trans h.br))
  · rw [take_snocA hk, take_snocA hz, insKs_snoc, insVs_snoc _ _ _ _ _ _ (by rw [List.length_take, List.length_take, hlk])]
    refine VRep.keep (fun b hb => ho b ?_) (fun b hb => ?_) _ _ h3
    · rcases hb with hb | hb
      · rcases hD3 b hb with h1 | h1
        · have := hD b h1; omega
        · have := h1.1; omega
      · have := hb.1; omega
    · rcases hb with hb | hb
      · rcases hD3 b hb with h1 | h1
        · exact .inl h1
        · exact .inr ⟨h1.1, by have := h1.2; omega⟩
      · exact .inr ⟨by have := hb.1; omega, by have := hb.2; omega⟩

set_option maxRecDepth 100000 in
set_option maxHeartbeats 4000000 in
theorem merged_of (ks : List ByteArray) (vs : List J) (hel : ∀ x ∈ vs, MergeOK x) : MergeOK (.obj ks vs) := by
  intro a D ca cb w ka6 _ wa wb hD ha hb
  obtain ⟨ka, va, rfl⟩ : ∃ ka va, a = .obj ka va := by
    cases a with
    | obj ka va => exact ⟨ka, va, rfl⟩
    | bool b => cases b <;> simp [J.kind] at ka6
    | _ => simp [J.kind] at ka6
  clear ka6
  have hwb : (ks.length = vs.length ∧ ks.length ≤ 1048576 ∧ (∀ s ∈ ks, s.size ≤ 1048576) ∧ SortedK ks ∧ WFL vs) := by simpa only [J.WF] using wb
  have hwa : (ka.length = va.length ∧ ka.length ≤ 1048576 ∧ (∀ s ∈ ka, s.size ≤ 1048576) ∧ SortedK ka ∧ WFL va) := by simpa only [J.WF] using wa
  have hmv : (mrgV vs ks ka va).length = vs.length := mrgV_length hwb.1
  have hres : mrg (.obj ks vs) (.obj ka va) = .obj (insKs ks ka) (insVs ks (mrgV vs ks ka va) ka va) := by simp only [mrg]
  have HE := Lib.hid (And.intro hel (And.intro hwb (And.intro hwa (And.intro hmv hD))))
  have HRES := Lib.hid hres
  have HB := Lib.hid hb
  obtain ⟨L, K, S, rfl, hL, hK, hS⟩ := hb.cells
  obtain ⟨A1, c1, rfl⟩ := hL.form
  obtain ⟨A2, c2, rfl, hc2, hm2, hr2⟩ := hK
  obtain ⟨A3, c3, rfl, hc3, hm3, hr3⟩ := hS
  simp only [J.list, J.keys, J.vals, J.kind, J.half, J.text] at *
  unfold maxLen at hm2 hm3
  have HR2 := Lib.hid hr2
  have HR3 := Lib.hid hr3
  have HA := Lib.hid ha
  obtain ⟨a0, a1, a2, a3, a4, a5, rfl⟩ := six_of (show ca.length = 6 from SRep.len6 ha)
  have hnn : ks.length ≤ 1048576 := hwb.2.1
  clear hL hb ha hel hwa hwb hmv hD hres wa wb hr2 hr3
  go_enter Tryz.func94, Tryz.ntmps94
  go_wp2_with fail
  generalize hW : ((World.alloc _ _).alloc _).alloc _ = W0
  have H3 := alloc3 hW
  clear hW
  have q4 : W0.cell? ⟨w.heap.size + 1, 4, none⟩ = _ := box_cell H3.2.2.2.1 4
  have HM0 : Hid (MrRel ks (mrgV vs ks ka va) ka va D [Value.int .i64 6, .int .i64 0, .string noText, .slice A1 0 c1, .slice A2 ks.length c2, .slice A3 vs.length c3] w W0 0) := ⟨H3.1, by omega, H3.2.2.2.1, H3.2.2.2.2, _, H3.2.2.1, VRep.keep (Same.of_below H3.1 HE.out.2.2.2.2) (fun b hb => .inl hb) _ _ HA.out⟩
  clear H3
  go_wp2_with fail
  clear q4
  go_loopw [12] (fun i wr => ∃ k : Nat, k ≤ ks.length ∧ i = .int .i64 k ∧ Hid (MrRel ks (mrgV vs ks ka va) ka va D [Value.int .i64 6, .int .i64 0, .string noText, .slice A1 0 c1, .slice A2 ks.length c2, .slice A3 vs.length c3] w wr k)) (fun i _ => ks.length - (intOf i).toNat)
  case atStart => exact ⟨0, Nat.zero_le _, rfl, HM0⟩
  case round =>
    clear HM0 W0
    obtain ⟨k, hk, rfl, hR⟩ := hrel
    by_cases hlt : k < ks.length
    · obtain ⟨s, hs⟩ : ∃ s, ks[k]? = some s := ⟨_, List.getElem?_eq_getElem hlt⟩
      obtain ⟨v, hv⟩ : ∃ v, vs[k]? = some v := ⟨_, List.getElem?_eq_getElem (by have := HE.out.2.1.1; omega)⟩
      obtain ⟨xv, hxv⟩ : ∃ xv, (lookV s ka va).getD .null = xv := ⟨_, rfl⟩
      have hz := mrgV_get (ka := ka) (va := va) hv hs
      rw [hxv] at hz
      have hwv : v.WF := WFL_iff.1 HE.out.2.1.2.2.2.2 v (List.mem_of_getElem? hv)
      have hwx : xv.WF := by
        rw [← hxv]
        cases e : lookV s ka va with
        | none => trivial
        | some x => exact WFL_iff.1 HE.out.2.2.1.2.2.2.2 x (lookV_mem e).2
      have hD := HE.out.2.2.2.2
      have hbw := hR.out.below
      have hsz := hR.out.size
      obtain ⟨ca, hba, hca⟩ := hR.out.ba
      have hlen : (insKs (ks.take k) ka).length = (insVs (ks.take k) ((mrgV vs ks ka va).take k) ka va).length := length_insVs (by rw [List.length_take, List.length_take, HE.out.2.2.2.1, HE.out.2.1.1]) HE.out.2.2.1.1
      have hln : (insKs (ks.take k) ka).length ≤ 4194304 := by have := length_insKs (ks.take k) ka; have := HE.out.2.2.1.2.1; have : (ks.take k).length ≤ k := List.length_take_le _ _; omega
      have hgv : getV s (insKs (ks.take k) ka) (insVs (ks.take k) ((mrgV vs ks ka va).take k) ka va) = xv := by
        unfold getV
        rw [look_insVs (sorted_take HE.out.2.1.2.2.2.1 k) (by rw [List.length_take, List.length_take, HE.out.2.2.2.1, HE.out.2.1.1]) HE.out.2.2.1.1, lookV_none (notin_take HE.out.2.1.2.2.2.1 hs), Option.none_or, hxv]
      have hDm : ∀ b, Dm D w.heap.size wr b → b < wr.heap.size := fun b hb => by
        rcases hb with h | h
        · have := hD b h; omega
        · exact h.2
      have HG := Lib.hid (fun W (hW : Below wr.heap.size wr W) => get_any _ _ s (Dm D w.heap.size wr) ca W hlen (sorted_insKs HE.out.2.2.1.2.2.2.1) hln (fun b hb => Nat.lt_of_lt_of_le (hDm b hb) hW.size) (VRep.keep (Same.of_below hW hDm) (fun _ h => h) _ _ hca))
      rw [hgv] at HG
      have HWI := Lib.hid (fun W (z : J) (cz : List Value) (D3 : Nat → Prop) (hW : Below wr.heap.size wr W) (h3 : ∀ b, Dm D w.heap.size wr b → D3 b) (hD3 : ∀ b, D3 b → All W b) (hz : SRep W D3 z cz) => with_any _ _ s z D3 ca cz W hlen hln hD3 (VRep.keep (Same.of_below hW hDm) h3 _ _ hca) hz)
      obtain ⟨b2, o2, rfl, hb2, hrow2⟩ := HR2.out (by omega)
      have hkey := (hbw.cell (p := ⟨b2, o2 + k, none⟩) (hD b2 hb2)).trans (hrow2 k s hs)
      obtain ⟨b3, o3, rfl, hb3, hrow3⟩ := HR3.out (by have := HE.out.2.1.1; omega)
      obtain ⟨cy, hl6, hcy, hvy⟩ := (VRow.keep (Same.of_below hbw hD) (fun _ h => h) _ _ _ hb3 hrow3).get (toVL_get hv)
      have HVM := Lib.hid (List.mem_of_getElem? hv)
      have HV := Lib.hid (And.intro hvy (And.intro hwv hwx))
      obtain ⟨Y1, y1, Y2, y2, Y3, y3, rfl⟩ := SRep.six hvy
      have HP := Lib.hid (fun W (hW : Below wr.heap.size wr W) (j : Nat) (u : Value) (hj : [Value.int .i64 v.kind, .int .i64 v.half, .string v.text, .slice Y1 v.list.length y1, .slice Y2 v.keys.length y2, .slice Y3 v.vals.length y3][j]? = some u) => (hW.cell (p := ⟨b3, o3 + k * 6 + j, none⟩) (Nat.lt_of_lt_of_le (hD b3 hb3) hbw.size)).trans (hcy j u hj))
      obtain ⟨f0, f1, f2, f3, f4, f5, rfl⟩ := six_of (show ca.length = 6 from SRep.len6 hca)
      have HX := Lib.hid (And.intro hs (And.intro hz (And.intro hba hDm)))
      have hvl : k < vs.length := by have := HE.out.2.1.1; omega
      clear hs hv hxv hz hwv hwx hD hbw hca hlen hln hgv hDm hb2 hrow2 hb3 hrow3 hl6 hcy hvy hba HR2 HR3 HA
      go_wp2_with fail
      clear hkey
      refine wp_region_RGX 11 (by kernel_rfl) (by kernel_rfl) (Below wr.heap.size wr) (MrF [f0, f1, f2, f3, f4, f5] s xv (Dm D w.heap.size wr) wr w.heap.size k (.slice (some ⟨b3, o3, none⟩) vs.length c3) ⟨b3, o3 + k * 6, none⟩ [Value.int .i64 v.kind, .int .i64 v.half, .string v.text, .slice Y1 v.list.length y1, .slice Y2 v.keys.length y2, .slice Y3 v.vals.length y3]) (by simp [AllSteps, frameOf, Act.put, upd]) ((Below.refl _ _).drew) ⟨?s0, ?s1, ?s2, ?s3, ?s4, ?s5, ?s6, ?s7, ?s8, ?s9, ?s10, trivial⟩ ?e
      case s0 =>
        intro xs d W hd hdeps hG hF K hK
        clear hdeps
        have hb := (hG.block _ (box_lt HX.out.2.2.1)).trans HX.out.2.2.1
        have g0 := box_cell hb 0
        have g1 := box_cell hb 1
        have g2 := box_cell hb 2
        have g3 := box_cell hb 3
        have g4 := box_cell hb 4
        have g5 := box_cell hb 5
        simp at g0 g1 g2 g3 g4 g5
        clear hb
        simp only [frameOf, List.take_succ_cons, List.take_zero, Act.put, List.setIfInBounds_toArray, List.set_cons_zero, List.set_cons_succ, Nat.zero_add, Nat.reduceAdd]
        go_simp
        exact hK _ _ _ (by simp only [frameOf, List.take_succ_cons, List.take_zero, Act.put, List.setIfInBounds_toArray, List.set_cons_zero, List.set_cons_succ, Nat.zero_add, Nat.reduceAdd]) hG (fun j hji _ h => h.keep hd hji (by decide) (by decide) (by decide) (Below.refl _ _)) upd_at
      case s1 =>
        intro xs d W hd hdeps hG hF K hK
        clear hdeps
        simp only [frameOf, List.take_succ_cons, List.take_zero, Act.put, List.setIfInBounds_toArray, List.set_cons_zero, List.set_cons_succ, Nat.zero_add, Nat.reduceAdd]
        go_simp
        exact hK _ _ _ (by simp only [frameOf, List.take_succ_cons, List.take_zero, Act.put, List.setIfInBounds_toArray, List.set_cons_zero, List.set_cons_succ, Nat.zero_add, Nat.reduceAdd]) hG (fun j hji _ h => h.keep hd hji (by decide) (by decide) (by decide) (Below.refl _ _)) upd_at
      case s2 =>
        intro xs d W hd hdeps hG hF K hK
        simp [Region.binds] at hdeps
        have p0 : xs 0 = _ := hF 0 hdeps.1
        have p1 : xs 1 = _ := hF 1 hdeps.2
        have HG2 := Lib.hid (And.intro hG (And.intro hK hd))
        clear hG hK hF hd
        simp only [frameOf, List.take_succ_cons, List.take_zero, Act.put, List.setIfInBounds_toArray, List.set_cons_zero, List.set_cons_succ, Nat.zero_add, Nat.reduceAdd]
        simp only [p0, p1]
        go_simp
        refine (HG.out W HG2.out.1).mono ?_
        intro e w9 hp
        obtain ⟨cs, he, hcs, hb9⟩ := hp
        subst he
        obtain ⟨hG, hK, hd⟩ := HG2.out
        exact hK _ _ _ (by simp only [frameOf, List.take_succ_cons, List.take_zero, Act.put, List.setIfInBounds_toArray, List.set_cons_zero, List.set_cons_succ, Nat.zero_add, Nat.reduceAdd, p0, p1]) (hG.trans (hb9.mono hG.size)) (fun j hji _ h => h.keep hd hji (by decide) (by decide) (by decide) hb9) ⟨cs, upd_at, VRep.keep (fun b hb => (hG.block b (HX.out.2.2.2 b hb)).symm) (fun _ h => h) _ _ hcs⟩
      case s3 =>
        intro xs d W hd hdeps hG hF K hK
        clear hdeps
        simp only [frameOf, List.take_succ_cons, List.take_zero, Act.put, List.setIfInBounds_toArray, List.set_cons_zero, List.set_cons_succ, Nat.zero_add, Nat.reduceAdd]
        go_simp
        exact hK _ _ _ (by simp only [frameOf, List.take_succ_cons, List.take_zero, Act.put, List.setIfInBounds_toArray, List.set_cons_zero, List.set_cons_succ, Nat.zero_add, Nat.reduceAdd]) hG (fun j hji _ h => h.keep hd hji (by decide) (by decide) (by decide) (Below.refl _ _)) upd_at
      case s4 =>
        intro xs d W hd hdeps hG hF K hK
        simp [Region.binds] at hdeps
        have p3 : xs 3 = _ := hF 3 hdeps
        have hb := (hG.block _ (box_lt hR.out.bb)).trans hR.out.bb
        have g5 := box_cell hb 5
        simp at g5
        clear hb
        simp only [frameOf, List.take_succ_cons, List.take_zero, Act.put, List.setIfInBounds_toArray, List.set_cons_zero, List.set_cons_succ, Nat.zero_add, Nat.reduceAdd]
        simp only [p3]
        go_simp
        exact hK _ _ _ (by simp only [frameOf, List.take_succ_cons, List.take_zero, Act.put, List.setIfInBounds_toArray, List.set_cons_zero, List.set_cons_succ, Nat.zero_add, Nat.reduceAdd, p3]) hG (fun j hji _ h => h.keep hd hji (by decide) (by decide) (by decide) (Below.refl _ _)) upd_at
      case s5 =>
        intro xs d W hd hdeps hG hF K hK
        clear hdeps
        simp only [frameOf, List.take_succ_cons, List.take_zero, Act.put, List.setIfInBounds_toArray, List.set_cons_zero, List.set_cons_succ, Nat.zero_add, Nat.reduceAdd]
        go_simp
        exact hK _ _ _ (by simp only [frameOf, List.take_succ_cons, List.take_zero, Act.put, List.setIfInBounds_toArray, List.set_cons_zero, List.set_cons_succ, Nat.zero_add, Nat.reduceAdd]) hG (fun j hji _ h => h.keep hd hji (by decide) (by decide) (by decide) (Below.refl _ _)) upd_at
      case s6 =>
        intro xs d W hd hdeps hG hF K hK
        simp [Region.binds] at hdeps
        have p4 : xs 4 = _ := hF 4 hdeps.1
        have p5 : xs 5 = _ := hF 5 hdeps.2
        simp only [frameOf, List.take_succ_cons, List.take_zero, Act.put, List.setIfInBounds_toArray, List.set_cons_zero, List.set_cons_succ, Nat.zero_add, Nat.reduceAdd]
        simp only [p4, p5]
        go_simp
        exact hK _ _ _ (by simp only [frameOf, List.take_succ_cons, List.take_zero, Act.put, List.setIfInBounds_toArray, List.set_cons_zero, List.set_cons_succ, Nat.zero_add, Nat.reduceAdd, p4, p5]) hG (fun j hji _ h => h.keep hd hji (by decide) (by decide) (by decide) (Below.refl _ _)) upd_at
      case s7 =>
        intro xs d W hd hdeps hG hF K hK
        simp [Region.binds] at hdeps
        have p6 : xs 6 = _ := hF 6 hdeps
        have g0 : W.cell? ⟨b3, o3 + k * 6, none⟩ = _ := HP.out W hG 0 _ rfl
        have g1 := HP.out W hG 1 _ rfl
        have g2 := HP.out W hG 2 _ rfl
        have g3 := HP.out W hG 3 _ rfl
        have g4 := HP.out W hG 4 _ rfl
        have g5 := HP.out W hG 5 _ rfl
        simp only [frameOf, List.take_succ_cons, List.take_zero, Act.put, List.setIfInBounds_toArray, List.set_cons_zero, List.set_cons_succ, Nat.zero_add, Nat.reduceAdd]
        simp only [p6]
        go_simp
        exact hK _ (.agg #[Value.int .i64 v.kind, .int .i64 v.half, .string v.text, .slice Y1 v.list.length y1, .slice Y2 v.keys.length y2, .slice Y3 v.vals.length y3]) _ (by simp only [frameOf, List.take_succ_cons, List.take_zero, Act.put, List.setIfInBounds_toArray, List.set_cons_zero, List.set_cons_succ, Nat.zero_add, Nat.reduceAdd, p6]) hG (fun j hji _ h => h.keep hd hji (by decide) (by decide) (by decide) (Below.refl _ _)) upd_at
      case s8 =>
        intro xs d W hd hdeps hG hF K hK
        clear hdeps
        have h9' := fun h => (hF 9 h).nine
        simp only [frameOf, List.take_succ_cons, List.take_zero, Act.put, List.setIfInBounds_toArray, List.set_cons_zero, List.set_cons_succ, Nat.zero_add, Nat.reduceAdd]
        go_simp
        refine hK _ (.pointer (some ⟨W.heap.size, 0, none⟩)) _ (by simp only [frameOf, List.take_succ_cons, List.take_zero, Act.put, List.setIfInBounds_toArray, List.set_cons_zero, List.set_cons_succ, Nat.zero_add, Nat.reduceAdd]) (hG.trans (((Below.refl _ _).alloc (Nat.le_refl _) _).mono hG.size)) (fun j hji hdj h => ?_) ⟨W.heap.size, upd_at, hG.size, by simp, fun _ => heap_alloc_new _ _, fun h9 => ?_⟩
        · match j, hji, h with
          | 0, hji, h => show upd xs 8 _ 0 = _; rw [upd_no hji]; exact h
          | 1, hji, h => show upd xs 8 _ 1 = _; rw [upd_no hji]; exact h
          | 2, hji, h => obtain ⟨cs, e, hr⟩ := h.two; exact ⟨cs, by rw [upd_no hji]; exact e, hr⟩
          | 3, hji, h => show upd xs 8 _ 3 = _; rw [upd_no hji]; exact h
          | 4, hji, h => show upd xs 8 _ 4 = _; rw [upd_no hji]; exact h
          | 5, hji, h => show upd xs 8 _ 5 = _; rw [upd_no hji]; exact h
          | 6, hji, h => show upd xs 8 _ 6 = _; rw [upd_no hji]; exact h
          | 7, hji, h => show upd xs 8 _ 7 = _; rw [upd_no hji]; exact h
          | 8, hji, _ => exact absurd rfl hji
          | 9, hji, h =>
            obtain ⟨g, e, hg, hz, hne⟩ := h.nine
            have hlt := box_lt hz
            exact ⟨g, by rw [upd_no hji]; exact e, hg, (Below.heap_alloc _ _ _ hlt).trans hz, fun _ => by rw [upd_at, upd_no (by decide), e]; intro hc; injection hc with hc; injection hc with hc; injection hc with hc; omega⟩
          | 10, _, h => exact absurd h.ten.2.1 hd
          | n + 11, _, _ => trivial
        · obtain ⟨g, e, hg, hz, -⟩ := h9' (h9.resolve_right (by decide))
          have hlt := box_lt hz
          rw [upd_at, upd_no (by decide), e]
          intro hc; injection hc with hc; injection hc with hc; injection hc with hc; omega
      case s9 =>
        intro xs d W hd hdeps hG hF K hK
        clear hdeps
        have h8' := fun h => (hF 8 h).eight
        simp only [frameOf, List.take_succ_cons, List.take_zero, Act.put, List.setIfInBounds_toArray, List.set_cons_zero, List.set_cons_succ, Nat.zero_add, Nat.reduceAdd]
        go_simp
        refine hK _ (.pointer (some ⟨W.heap.size, 0, none⟩)) _ (by simp only [frameOf, List.take_succ_cons, List.take_zero, Act.put, List.setIfInBounds_toArray, List.set_cons_zero, List.set_cons_succ, Nat.zero_add, Nat.reduceAdd]) (hG.trans (((Below.refl _ _).alloc (Nat.le_refl _) _).mono hG.size)) (fun j hji hdj h => ?_) ⟨W.heap.size, upd_at, hG.size, heap_alloc_new _ _, fun h8 => ?_⟩
        · match j, hji, h with
          | 0, hji, h => show upd xs 9 _ 0 = _; rw [upd_no hji]; exact h
          | 1, hji, h => show upd xs 9 _ 1 = _; rw [upd_no hji]; exact h
          | 2, hji, h => obtain ⟨cs, e, hr⟩ := h.two; exact ⟨cs, by rw [upd_no hji]; exact e, hr⟩
          | 3, hji, h => show upd xs 9 _ 3 = _; rw [upd_no hji]; exact h
          | 4, hji, h => show upd xs 9 _ 4 = _; rw [upd_no hji]; exact h
          | 5, hji, h => show upd xs 9 _ 5 = _; rw [upd_no hji]; exact h
          | 6, hji, h => show upd xs 9 _ 6 = _; rw [upd_no hji]; exact h
          | 7, hji, h => show upd xs 9 _ 7 = _; rw [upd_no hji]; exact h
          | 8, hji, h =>
            obtain ⟨g, e, hg, hlt, hz, hne⟩ := h.eight
            exact ⟨g, by rw [upd_no hji]; exact e, hg, by simp; omega, fun hn => (Below.heap_alloc _ _ _ hlt).trans (hz fun h => hn (.inl h)), fun _ => by rw [upd_at, upd_no (by decide), e]; intro hc; injection hc with hc; injection hc with hc; injection hc with hc; omega⟩
          | 9, hji, _ => exact absurd rfl hji
          | 10, hji, h =>
            obtain ⟨h2, h8, g, cs, e8, e2, hr, hh⟩ := h.ten
            exact ⟨.inl h2, .inl h8, g, cs, by rw [upd_no (by decide)]; exact e8, by rw [upd_no (by decide)]; exact e2, hr, (Below.heap_alloc _ _ _ (box_lt hh)).trans hh⟩
          | n + 11, _, _ => trivial
        · obtain ⟨g, e, hg, hlt, -⟩ := h8' (h8.resolve_right (by decide))
          rw [upd_at, upd_no (by decide), e]
          intro hc; injection hc with hc; injection hc with hc; injection hc with hc; omega
      case s10 =>
        intro xs d W hd hdeps hG hF K hK
        simp [Region.binds] at hdeps
        have h8 := (hF 8 hdeps.1).eight
        have h2 := (hF 2 hdeps.2.1).two
        have hd8 := hdeps.1
        have hd2 := hdeps.2.1
        have e8 := h8.choose_spec.1
        have hg := h8.choose_spec.2.1
        have hlt := h8.choose_spec.2.2.1
        have hz := h8.choose_spec.2.2.2.1 hd
        generalize h8.choose = g at e8 hg hlt hz
        clear h8
        have e2 := h2.choose_spec.1
        have hr := h2.choose_spec.2
        generalize h2.choose = cs at e2 hr
        clear h2
        have h6 := SRep.six hr
        have hcs := h6.choose_spec.choose_spec.choose_spec.choose_spec.choose_spec.choose_spec
        generalize h6.choose_spec.choose_spec.choose_spec.choose_spec.choose_spec.choose = x3 at hcs
        generalize h6.choose_spec.choose_spec.choose_spec.choose_spec.choose = X3 at hcs
        generalize h6.choose_spec.choose_spec.choose_spec.choose = x2 at hcs
        generalize h6.choose_spec.choose_spec.choose = X2 at hcs
        generalize h6.choose_spec.choose = x1 at hcs
        generalize h6.choose = X1 at hcs
        clear h6
        subst hcs
        have z0 : W.cell? ⟨g, 0, none⟩ = _ := box_cell hz 0
        have z1 : W.cell? ⟨g, 1, none⟩ = _ := box_cell hz 1
        have z2 : W.cell? ⟨g, 2, none⟩ = _ := box_cell hz 2
        have z3 : W.cell? ⟨g, 3, none⟩ = _ := box_cell hz 3
        have z4 : W.cell? ⟨g, 4, none⟩ = _ := box_cell hz 4
        have z5 : W.cell? ⟨g, 5, none⟩ = _ := box_cell hz 5
        have fz := box_frozen hz
        simp at z0 z1 z2 z3 z4 z5 fz
        simp only [frameOf, List.take_succ_cons, List.take_zero, Act.put, List.setIfInBounds_toArray, List.set_cons_zero, List.set_cons_succ, Nat.zero_add, Nat.reduceAdd]
        simp only [e8, e2]
        go_simp
        generalize hW1 : World.setCell _ _ _ = W1
        have h6 := set6 hz hW1
        clear hW1
        refine hK _ (.bool true) _ (by simp only [frameOf, List.take_succ_cons, List.take_zero, Act.put, List.setIfInBounds_toArray, List.set_cons_zero, List.set_cons_succ, Nat.zero_add, Nat.reduceAdd, e8, e2]) (h6.2.2.2 _ _ hg hG) (fun j hji hdj h => ?_) ⟨.inl hd2, .inl hd8, g, _, by rw [upd_no (by decide)]; exact e8, by rw [upd_no (by decide)]; exact e2, hr, h6.1⟩
        match j, hji, h with
        | 0, hji, h => show upd xs 10 _ 0 = _; rw [upd_no hji]; exact h
        | 1, hji, h => show upd xs 10 _ 1 = _; rw [upd_no hji]; exact h
        | 2, hji, h => obtain ⟨cs, e, hr⟩ := h.two; exact ⟨cs, by rw [upd_no hji]; exact e, hr⟩
        | 3, hji, h => show upd xs 10 _ 3 = _; rw [upd_no hji]; exact h
        | 4, hji, h => show upd xs 10 _ 4 = _; rw [upd_no hji]; exact h
        | 5, hji, h => show upd xs 10 _ 5 = _; rw [upd_no hji]; exact h
        | 6, hji, h => show upd xs 10 _ 6 = _; rw [upd_no hji]; exact h
        | 7, hji, h => show upd xs 10 _ 7 = _; rw [upd_no hji]; exact h
        | 8, hji, h =>
          obtain ⟨g', e, hg', hlt', hz', hne⟩ := h.eight
          exact ⟨g', by rw [upd_no hji]; exact e, hg', by rw [h6.2.2.1]; exact hlt', fun hn => absurd (.inr rfl) hn, fun h9 => by rw [upd_no (by decide), upd_no (by decide)]; exact hne (h9.resolve_right (by decide))⟩
        | 9, hji, h =>
          obtain ⟨g', e, hg', hz', hne⟩ := h.nine
          exact ⟨g', by rw [upd_no hji]; exact e, hg', (h6.2.1 g' (fun hc => hne hd8 (by rw [e8, e, hc]))).trans hz', fun _ => by rw [upd_no (by decide), upd_no (by decide)]; exact hne hd8⟩
        | 10, hji, _ => exact absurd rfl hji
        | n + 11, _, _ => trivial
      case e =>
        intro xs W hG hF
        obtain ⟨-, -, g7, csx, e8, e2, hx, hh7⟩ := (hF 10 (by omega)).ten
        obtain ⟨g8, e9, hg8, hh8, hne⟩ := (hF 9 (by omega)).nine
        obtain ⟨g7', e8', hg7, -⟩ := (hF 8 (by omega)).eight
        obtain rfl : g7 = g7' := by rw [e8] at e8'; injection e8' with h; injection h with h; injection h with h
        have f7 : xs 7 = _ := hF 7 (by omega)
        have hne78 : g7 ≠ g8 := fun hc => hne (by omega) (by rw [e8, e9, hc])
        have hne87 := hne78.symm
        obtain ⟨X1, x1, X2, x2, X3, x3, rfl⟩ := SRep.six hx
        have p0 : W.cell? ⟨g7, 0, none⟩ = _ := box_cell hh7 0
        have p1 : W.cell? ⟨g7, 1, none⟩ = _ := box_cell hh7 1
        have p2 : W.cell? ⟨g7, 2, none⟩ = _ := box_cell hh7 2
        have p3 : W.cell? ⟨g7, 3, none⟩ = _ := box_cell hh7 3
        have p4 : W.cell? ⟨g7, 4, none⟩ = _ := box_cell hh7 4
        have p5 : W.cell? ⟨g7, 5, none⟩ = _ := box_cell hh7 5
        have z0 : W.cell? ⟨g8, 0, none⟩ = _ := box_cell hh8 0
        have z1 : W.cell? ⟨g8, 1, none⟩ = _ := box_cell hh8 1
        have z2 : W.cell? ⟨g8, 2, none⟩ = _ := box_cell hh8 2
        have z3 : W.cell? ⟨g8, 3, none⟩ = _ := box_cell hh8 3
        have z4 : W.cell? ⟨g8, 4, none⟩ = _ := box_cell hh8 4
        have z5 : W.cell? ⟨g8, 5, none⟩ = _ := box_cell hh8 5
        have fz := box_frozen hh8
        have hB0 := (hG.block _ (box_lt HX.out.2.2.1)).trans HX.out.2.2.1
        have l0 : W.cell? ⟨w.heap.size, 0, none⟩ = _ := box_cell hB0 0
        have l1 : W.cell? ⟨w.heap.size, 1, none⟩ = _ := box_cell hB0 1
        have l2 : W.cell? ⟨w.heap.size, 2, none⟩ = _ := box_cell hB0 2
        have l3 : W.cell? ⟨w.heap.size, 3, none⟩ = _ := box_cell hB0 3
        have l4 : W.cell? ⟨w.heap.size, 4, none⟩ = _ := box_cell hB0 4
        have l5 : W.cell? ⟨w.heap.size, 5, none⟩ = _ := box_cell hB0 5
        have hnB8 : w.heap.size ≠ g8 := by omega
        have hnB8' := hnB8.symm
        have HQ := Lib.hid (And.intro hG (And.intro hx (And.intro hh7 (And.intro hh8 (And.intro hg7 hg8)))))
        clear hx hh7 hh8 hne hB0 hF hG e8' hg7 hg8
        simp only [frameOf, List.take_succ_cons, List.take_zero, List.drop_succ_cons, List.drop_zero, Act.put, List.setIfInBounds_toArray, List.set_cons_zero, List.set_cons_succ, Nat.zero_add, Nat.reduceAdd, e8, e2, e9, f7]
        clear e8 e2 e9 f7
        by_cases hkx : xv.kind = 6
        · by_cases hky : v.kind = 6
          · have e1 : (xv.kind == 6) = true := by simp [hkx]
            have e2 : (v.kind == 6) = true := by simp [hky]
            replace hkx := Lib.hid hkx
            replace hky := Lib.hid hky
            go_wp2_with fail
            generalize hW1 : World.setCell _ _ _ = W1
            have h6 := set6 HQ.out.2.2.2.1 hW1
            have HQ1 := Lib.hid (And.intro (h6.2.2.2 _ _ HQ.out.2.2.2.2.2 HQ.out.1) (And.intro h6.1 (And.intro ((h6.2.1 g7 hne78).trans HQ.out.2.2.1) h6.2.2.1)))
            clear h6 hW1 p0 p1 p2 p3 p4 p5 z0 z1 z2 z3 z4 z5 fz l0 l1 l2 l3 l4 l5
            have hm := HE.out.1 v (by obtain ⟨h1, -⟩ := HV.out; exact HVM.out) xv (Dm D w.heap.size wr) [Value.int .i64 xv.kind, .int .i64 xv.half, .string xv.text, .slice X1 xv.list.length x1, .slice X2 xv.keys.length x2, .slice X3 xv.vals.length x3] [Value.int .i64 v.kind, .int .i64 v.half, .string v.text, .slice Y1 v.list.length y1, .slice Y2 v.keys.length y2, .slice Y3 v.vals.length y3] W1 hkx.out hky.out HV.out.2.2 HV.out.2.1 (fun b hb => Nat.lt_of_lt_of_le (HX.out.2.2.2 b hb) HQ1.out.1.size) (VRep.keep (Same.of_below HQ1.out.1 HX.out.2.2.2) (fun _ h => h) _ _ HQ.out.2.1) (VRep.keep (D := D) (fun b hb => HQ1.out.1.block b (HX.out.2.2.2 b (.inl hb))) (fun b hb => .inl hb) _ _ HV.out.1)
            refine hm.mono ?_
            clear hm
            rintro e w2 ⟨cz, rfl, hcz, hb2⟩
            obtain ⟨j1, n1, j2, n2, j3, n3, rfl⟩ := SRep.six hcz
            have hh8 := (hb2.block _ (box_lt HQ1.out.2.1)).trans HQ1.out.2.1
            have z0 : w2.cell? ⟨g8, 0, none⟩ = _ := box_cell hh8 0
            have z1 : w2.cell? ⟨g8, 1, none⟩ = _ := box_cell hh8 1
            have z2 : w2.cell? ⟨g8, 2, none⟩ = _ := box_cell hh8 2
            have z3 : w2.cell? ⟨g8, 3, none⟩ = _ := box_cell hh8 3
            have z4 : w2.cell? ⟨g8, 4, none⟩ = _ := box_cell hh8 4
            have z5 : w2.cell? ⟨g8, 5, none⟩ = _ := box_cell hh8 5
            have fz := box_frozen hh8
            have hB0 := (hb2.block _ (Nat.lt_of_lt_of_le (box_lt HX.out.2.2.1) HQ1.out.1.size)).trans ((HQ1.out.1.block _ (box_lt HX.out.2.2.1)).trans HX.out.2.2.1)
            have l0 : w2.cell? ⟨w.heap.size, 0, none⟩ = _ := box_cell hB0 0
            have l1 : w2.cell? ⟨w.heap.size, 1, none⟩ = _ := box_cell hB0 1
            have l2 : w2.cell? ⟨w.heap.size, 2, none⟩ = _ := box_cell hB0 2
            have l3 : w2.cell? ⟨w.heap.size, 3, none⟩ = _ := box_cell hB0 3
            have l4 : w2.cell? ⟨w.heap.size, 4, none⟩ = _ := box_cell hB0 4
            have l5 : w2.cell? ⟨w.heap.size, 5, none⟩ = _ := box_cell hB0 5
            have HZ := Lib.hid (And.intro hcz (And.intro hb2 hh8))
            clear hcz hb2 hh8 hB0
            go_wp2_with fail
            generalize hW2 : World.setCell _ _ _ = W2
            have h6 := set6 HZ.out.2.2 hW2
            have HQ2 := Lib.hid (And.intro (h6.2.2.2 _ _ HQ.out.2.2.2.2.2 (HQ1.out.1.trans (HZ.out.2.1.mono HQ1.out.1.size))) h6.2)
            clear h6 hW2 z0 z1 z2 z3 z4 z5 fz l0 l1 l2 l3 l4 l5
            have hlt8 : g8 < W1.heap.size := box_lt HQ1.out.2.1
            have hge8 := HQ.out.2.2.2.2.2
            have hs1 := HQ1.out.1.size
            have hs2 := HZ.out.2.1.size
            have hse := HQ2.out.2.2.1
            have hzz := VRep.keep (w' := W2) (D' := (fun b => Dm D w.heap.size wr b ∨ (W1.heap.size ≤ b ∧ b < w2.heap.size))) (fun b hb => HQ2.out.2.1 b (by
            rcases hb with h | h
            · have := HX.out.2.2.2 b h; omega
            · have := h.1; omega)) (fun b hb => hb) _ _ HZ.out.1
            refine (HWI.out _ _ _ (fun b => Dm D w.heap.size wr b ∨ (W1.heap.size ≤ b ∧ b < w2.heap.size)) HQ2.out.1 (fun _ h => .inl h) (fun b hb => by
            rcases hb with h | h
            · have := HX.out.2.2.2 b h; show b < _; omega
            · have := h.2; show b < _; omega) hzz).mono ?_
            clear hzz
            rintro e w3 ⟨cs3, rfl, hc3, hb3⟩
            obtain ⟨g1, i1, g2, i2, g3, i3, rfl⟩ := SRep.six hc3
            have hB3 := (hb3.block _ (Nat.lt_of_lt_of_le (box_lt HX.out.2.2.1) HQ2.out.1.size)).trans ((HQ2.out.1.block _ (box_lt HX.out.2.2.1)).trans HX.out.2.2.1)
            have t0 : w3.cell? ⟨w.heap.size, 0, none⟩ = _ := box_cell hB3 0
            have t1 : w3.cell? ⟨w.heap.size, 1, none⟩ = _ := box_cell hB3 1
            have t2 : w3.cell? ⟨w.heap.size, 2, none⟩ = _ := box_cell hB3 2
            have t3 : w3.cell? ⟨w.heap.size, 3, none⟩ = _ := box_cell hB3 3
            have t4 : w3.cell? ⟨w.heap.size, 4, none⟩ = _ := box_cell hB3 4
            have t5 : w3.cell? ⟨w.heap.size, 5, none⟩ = _ := box_cell hB3 5
            have fz3 := box_frozen hB3
            have HQ3 := Lib.hid (And.intro hc3 (And.intro hb3 hB3))
            clear hc3 hb3 hB3
            go_wp2_with fail
            generalize hW4 : World.setCell _ _ _ = W4
            have h6 := set6 HQ3.out.2.2 hW4
            have HN := Lib.hid (MrRel.next HE.out.2.2.2.2 hR.out HX.out.1 HX.out.2.1 (by rw [HE.out.2.2.2.1, HE.out.2.1.1]) HQ2.out.1 HQ3.out.1 (fun b hb => by
            have := hR.out.size
            rcases hb with h | h
            · exact h.imp id fun h => ⟨h.1, by have := h.2; omega⟩
            · exact .inr ⟨by have := h.1; omega, by have := h.2; omega⟩) HQ3.out.2.1 h6.1 h6.2.1 h6.2.2.1 h6.2.2.2)
            clear h6 hW4 HQ3 HQ2 HQ hR t0 t1 t2 t3 t4 t5 fz3
            go_roundw
            case rel => exact ⟨k + 1, by omega, by go_num, HN⟩
            case measure => simp [intOf]; omega
          · have e1 : (xv.kind == 6) = true := by simp [hkx]
            have e2 : (v.kind == 6) = false := by simp [hky]
            have hsame := Lib.hid (show v.kind ≠ 6 ∨ xv.kind ≠ 6 from .inl hky)
            clear hkx hky
            go_wp2_with fail
            generalize hW1 : World.setCell _ _ _ = W1
            have h6 := set6 HQ.out.2.2.2.1 hW1
            have HQ2 := Lib.hid (And.intro (h6.2.2.2 _ _ HQ.out.2.2.2.2.2 HQ.out.1) h6.1)
            clear h6 hW1 p0 p1 p2 p3 p4 p5 z0 z1 z2 z3 z4 z5 fz l0 l1 l2 l3 l4 l5
            have hzz : SRep W1 (Dm D w.heap.size wr) (mrg v xv) [Value.int .i64 v.kind, .int .i64 v.half, .string v.text, .slice Y1 v.list.length y1, .slice Y2 v.keys.length y2, .slice Y3 v.vals.length y3] := by
              rw [mrg_same hsame.out]
              exact VRep.keep (D := D) (fun b hb => ((HQ2.out.1.block b (HX.out.2.2.2 b (.inl hb))))) (fun b hb => .inl hb) _ _ HV.out.1
            refine (HWI.out _ _ _ (Dm D w.heap.size wr) HQ2.out.1 (fun _ h => h) (fun b hb => Nat.lt_of_lt_of_le (HX.out.2.2.2 b hb) HQ2.out.1.size) hzz).mono ?_
            clear hzz
            rintro e w3 ⟨cs3, rfl, hc3, hb3⟩
            obtain ⟨g1, i1, g2, i2, g3, i3, rfl⟩ := SRep.six hc3
            have hB3 := (hb3.block _ (Nat.lt_of_lt_of_le (box_lt HX.out.2.2.1) HQ2.out.1.size)).trans ((HQ2.out.1.block _ (box_lt HX.out.2.2.1)).trans HX.out.2.2.1)
            have t0 : w3.cell? ⟨w.heap.size, 0, none⟩ = _ := box_cell hB3 0
            have t1 : w3.cell? ⟨w.heap.size, 1, none⟩ = _ := box_cell hB3 1
            have t2 : w3.cell? ⟨w.heap.size, 2, none⟩ = _ := box_cell hB3 2
            have t3 : w3.cell? ⟨w.heap.size, 3, none⟩ = _ := box_cell hB3 3
            have t4 : w3.cell? ⟨w.heap.size, 4, none⟩ = _ := box_cell hB3 4
            have t5 : w3.cell? ⟨w.heap.size, 5, none⟩ = _ := box_cell hB3 5
            have fz3 := box_frozen hB3
            have HQ3 := Lib.hid (And.intro hc3 (And.intro hb3 hB3))
            clear hc3 hb3 hB3
            go_wp2_with fail
            generalize hW4 : World.setCell _ _ _ = W4
            have h6 := set6 HQ3.out.2.2 hW4
            have HN := Lib.hid (MrRel.next HE.out.2.2.2.2 hR.out HX.out.1 HX.out.2.1 (by rw [HE.out.2.2.2.1, HE.out.2.1.1]) HQ2.out.1 HQ3.out.1 (fun b hb => hb.imp id fun h => ⟨h.1, Nat.lt_of_lt_of_le h.2 HQ2.out.1.size⟩) HQ3.out.2.1 h6.1 h6.2.1 h6.2.2.1 h6.2.2.2)
            clear h6 hW4 HQ3 HQ2 HQ hR t0 t1 t2 t3 t4 t5 fz3
            go_roundw
            case rel => exact ⟨k + 1, by omega, by go_num, HN⟩
            case measure => simp [intOf]; omega
        · have e1 : (xv.kind == 6) = false := by simp [hkx]
          have hsame := Lib.hid (show v.kind ≠ 6 ∨ xv.kind ≠ 6 from .inr hkx)
          clear hkx
          go_wp2_with fail
          generalize hW1 : World.setCell _ _ _ = W1
          have h6 := set6 HQ.out.2.2.2.1 hW1
          have HQ2 := Lib.hid (And.intro (h6.2.2.2 _ _ HQ.out.2.2.2.2.2 HQ.out.1) h6.1)
          clear h6 hW1 p0 p1 p2 p3 p4 p5 z0 z1 z2 z3 z4 z5 fz l0 l1 l2 l3 l4 l5
          have hzz : SRep W1 (Dm D w.heap.size wr) (mrg v xv) [Value.int .i64 v.kind, .int .i64 v.half, .string v.text, .slice Y1 v.list.length y1, .slice Y2 v.keys.length y2, .slice Y3 v.vals.length y3] := by
            rw [mrg_same hsame.out]
            exact VRep.keep (D := D) (fun b hb => ((HQ2.out.1.block b (HX.out.2.2.2 b (.inl hb))))) (fun b hb => .inl hb) _ _ HV.out.1
          refine (HWI.out _ _ _ (Dm D w.heap.size wr) HQ2.out.1 (fun _ h => h) (fun b hb => Nat.lt_of_lt_of_le (HX.out.2.2.2 b hb) HQ2.out.1.size) hzz).mono ?_
          clear hzz
          rintro e w3 ⟨cs3, rfl, hc3, hb3⟩
          obtain ⟨g1, i1, g2, i2, g3, i3, rfl⟩ := SRep.six hc3
          have hB3 := (hb3.block _ (Nat.lt_of_lt_of_le (box_lt HX.out.2.2.1) HQ2.out.1.size)).trans ((HQ2.out.1.block _ (box_lt HX.out.2.2.1)).trans HX.out.2.2.1)
          have t0 : w3.cell? ⟨w.heap.size, 0, none⟩ = _ := box_cell hB3 0
          have t1 : w3.cell? ⟨w.heap.size, 1, none⟩ = _ := box_cell hB3 1
          have t2 : w3.cell? ⟨w.heap.size, 2, none⟩ = _ := box_cell hB3 2
          have t3 : w3.cell? ⟨w.heap.size, 3, none⟩ = _ := box_cell hB3 3
          have t4 : w3.cell? ⟨w.heap.size, 4, none⟩ = _ := box_cell hB3 4
          have t5 : w3.cell? ⟨w.heap.size, 5, none⟩ = _ := box_cell hB3 5
          have fz3 := box_frozen hB3
          have HQ3 := Lib.hid (And.intro hc3 (And.intro hb3 hB3))
          clear hc3 hb3 hB3
          go_wp2_with fail
          generalize hW4 : World.setCell _ _ _ = W4
          have h6 := set6 HQ3.out.2.2 hW4
          have HN := Lib.hid (MrRel.next HE.out.2.2.2.2 hR.out HX.out.1 HX.out.2.1 (by rw [HE.out.2.2.2.1, HE.out.2.1.1]) HQ2.out.1 HQ3.out.1 (fun b hb => hb.imp id fun h => ⟨h.1, Nat.lt_of_lt_of_le h.2 HQ2.out.1.size⟩) HQ3.out.2.1 h6.1 h6.2.1 h6.2.2.1 h6.2.2.2)
          clear h6 hW4 HQ3 HQ2 HQ hR t0 t1 t2 t3 t4 t5 fz3
          go_roundw
          case rel => exact ⟨k + 1, by omega, by go_num, HN⟩
          case measure => simp [intOf]; omega

    · have hkl : k = ks.length := by omega
      have hM := hR.out
      rw [hkl] at hM
      obtain ⟨ca, hba, hca⟩ := hM.ba
      rw [List.take_length, show (mrgV vs ks ka va).take ks.length = mrgV vs ks ka va by rw [HE.out.2.1.1, ← HE.out.2.2.2.1]; exact List.take_length, ← HRES.out] at hca
      obtain ⟨f0, f1, f2, f3, f4, f5, rfl⟩ := six_of (show ca.length = 6 from SRep.len6 hca)
      have hbr := hM.br
      have c0 : wr.cell? ⟨w.heap.size, 0, none⟩ = _ := box_cell hba 0
      have c1' : wr.cell? ⟨w.heap.size, 1, none⟩ = _ := box_cell hba 1
      have c2' : wr.cell? ⟨w.heap.size, 2, none⟩ = _ := box_cell hba 2
      have c3' : wr.cell? ⟨w.heap.size, 3, none⟩ = _ := box_cell hba 3
      have c4 : wr.cell? ⟨w.heap.size, 4, none⟩ = _ := box_cell hba 4
      have c5 : wr.cell? ⟨w.heap.size, 5, none⟩ = _ := box_cell hba 5
      have r0 : wr.cell? ⟨w.heap.size + 1 + 1, 0, none⟩ = _ := box_cell hbr 0
      have r1 : wr.cell? ⟨w.heap.size + 1 + 1, 1, none⟩ = _ := box_cell hbr 1
      have r2 : wr.cell? ⟨w.heap.size + 1 + 1, 2, none⟩ = _ := box_cell hbr 2
      have r3 : wr.cell? ⟨w.heap.size + 1 + 1, 3, none⟩ = _ := box_cell hbr 3
      have r4 : wr.cell? ⟨w.heap.size + 1 + 1, 4, none⟩ = _ := box_cell hbr 4
      have r5 : wr.cell? ⟨w.heap.size + 1 + 1, 5, none⟩ = _ := box_cell hbr 5
      have fz := box_frozen hbr
      obtain ⟨x1, y1, x2, y2, x3, y3, he⟩ := SRep.six hca
      have HF := Lib.hid (And.intro hca (And.intro hM.below hM.size))
      clear hM hca hba hbr hR hkl
      obtain ⟨rfl, rfl, rfl, rfl, rfl, rfl⟩ : _ ∧ _ ∧ _ ∧ _ ∧ _ ∧ _ := by simpa using he
      go_wp2_with fail
      refine bodyPost_ret (v := _) (by simp [results, Tryz.results94, go_sem, r0, r1, r2, r3, r4, r5]; rfl) rfl ?_
      refine ⟨_, rfl, VRep.keep (fun b hb => ?_) (fun b hb => hb.imp id fun h => ⟨by omega, by have := h.2; simp [World.setCell]; omega⟩) _ _ HF.out.1, ?_⟩
      · have hne : b ≠ w.heap.size + 1 + 1 := by
          rcases hb with h | h
          · have := HE.out.2.2.2.2 b h; omega
          · omega
        iterate 6 rw [heap_setCell_other _ _ _ _ hne]
      · iterate 6 refine Below.setCell ?_ (by simp; omega) _
        exact HF.out.2.1

mutual
theorem merged_all : ∀ b : J, MergeOK b
  | .obj ks vs => merged_of ks vs (merged_alls vs)
  | .null => fun _ _ _ _ _ _ h => by simp [J.kind] at h
  | .bool b => fun _ _ _ _ _ _ h => by cases b <;> simp [J.kind] at h
  | .num _ => fun _ _ _ _ _ _ h => by simp [J.kind] at h
  | .str _ => fun _ _ _ _ _ _ h => by simp [J.kind] at h
  | .arr _ => fun _ _ _ _ _ _ h => by simp [J.kind] at h
theorem merged_alls : ∀ l : List J, ∀ x ∈ l, MergeOK x
  | [], _, h => absurd h (by simp)
  | a :: l, x, h => by
    rcases List.mem_cons.1 h with e | h
    · rw [e]; exact merged_all a
    · exact merged_alls l x h
end
end Go.Proofs.YtfhppajnnbbcjaaGreatDoor
