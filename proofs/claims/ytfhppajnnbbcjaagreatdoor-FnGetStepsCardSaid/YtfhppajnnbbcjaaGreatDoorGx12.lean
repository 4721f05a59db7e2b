/- WHAT A LAW IS HANDED: an argument of type impl.Value, or a slice of such, reads as a V (out of the form's reading).
   WHAT A LAW IS HANDED, and the tables of unicode/utf8 out of the row's listed variables: the parts that each row's proof takes. -/
import Derived.Test.YtfhppajnnbbcjaaGreatDoorGx11
import Derived.ProofKit
import Derived.Test.YtfhppajnnbbcjaaGreatDoorRows
import Derived.PinnedBridge
import Derived.Lib.LaidU8T
import Derived.Lay
import Derived.LaidOnce

section
namespace Go.Proofs.YtfhppajnnbbcjaaGreatDoor
open Go.RowKit Go.ChangeShapes Go.WideShapes

section
variable {H : Type}

theorem mem_weightsAll {P : Program} {e : TypeId} : ∀ {l : List (DataW H)} {d : DataW H} {n : Nat}, d ∈ l → n ∈ d.weights P e → n ∈ DataW.weightsAll P e l
  | a :: l, d, n, hd, hn => by
    rw [DataW.weightsAll]
    rcases List.mem_cons.1 hd with rfl | hd
    · exact List.mem_append_left _ hn
    · exact List.mem_append_right _ (mem_weightsAll hd hn)

/-- the weights are within the reach -/
def Within (t : TypeId) (d : DataW H) : Prop := ∀ n ∈ d.weights Tryz.prog t, n ≤ reachBytes

theorem listed {α : Type} {Q : Nat → α → Prop} : ∀ (n : Nat), (∀ i, i < n → ∃ x, Q i x) → ∃ l : List α, l.length = n ∧ ∀ i x, l[i]? = some x → Q i x
  | 0, _ => ⟨[], rfl, fun i x h => by simp at h⟩
  | n + 1, h => by
    obtain ⟨l, hl, hq⟩ := listed n fun i hi => h i (by omega)
    obtain ⟨x, hx⟩ := h n (by omega)
    refine ⟨l ++ [x], by simp [hl], fun i y hy => ?_⟩
    rw [List.getElem?_append] at hy
    split at hy
    · exact hq i y hy
    · rw [List.getElem?_singleton] at hy
      split at hy
      · obtain rfl := Option.some.inj hy
        have : i = n := by omega
        exact this ▸ hx
      · cases hy

theorem VRow.mk {w : World} {D : Nat → Prop} {b : Nat} : ∀ {l : List V} {o : Nat}, (∀ i x, l[i]? = some x → ∃ cs, cs.length = 6 ∧ (∀ j v, cs[j]? = some v → w.cell? ⟨b, o + i * 6 + j, none⟩ = some v) ∧ VRep w D x cs) → VRow w D b l o
  | [], _, _ => trivial
  | x :: l, o, h => by
    refine ⟨by simpa using h 0 x rfl, VRow.mk fun i y hy => ?_⟩
    obtain ⟨cs, h1, h2, h3⟩ := h (i + 1) y (by simpa using hy)
    exact ⟨cs, h1, fun j v hj => by rw [show o + 6 + i * 6 + j = o + (i + 1) * 6 + j by omega]; exact h2 j v hj, h3⟩

variable {enc : TypeId × Value → H} {W : World}

theorem bytes_len (s : ByteArray) : s.size = s.data.toList.length := rfl
theorem small_of {n : Nat} (h : n ≤ reachBytes) : n ≤ 281474976710656 := Nat.le_trans h (by decide)
theorem c26 : Tryz.prog.cellsOf 26 = 6 := by kernel_rfl
theorem c23 : Tryz.prog.cellsOf 23 = 1 := by kernel_rfl
theorem c24 : Tryz.prog.cellsOf 24 = 1 := by kernel_rfl
theorem c22 : Tryz.prog.cellsOf 22 = 1 := by kernel_rfl
theorem c9 : Tryz.prog.cellsOf 9 = 1 := by kernel_rfl
theorem c3 : Tryz.prog.cellsOf 3 = 1 := by kernel_rfl

/-- the cells of an element in a row -/
theorem elem_cells {a : Addr} {n k : Nat} {cs : List Value} (h : W.cells? 0 (a.add k) n = some cs) (hn : 0 < n) : a.block < W.heap.size ∧ (k = 0 → a.spot = none) ∧ cs.length = n ∧ ∀ j v, cs[j]? = some v → W.cell? ⟨a.block, a.off + k + j, none⟩ = some v := by
  obtain ⟨_, hl, hc⟩ := World.cells?_some h
  have h0 := hc 0 hn
  obtain ⟨v0, hv0⟩ : ∃ v, cs[0]? = some v := ⟨_, List.getElem?_eq_getElem (by omega)⟩
  rw [hv0] at h0
  have hb : a.block < W.heap.size := by
    have := World.block_lt_of_cell? _ _ h0
    by_cases hk : k = 0 <;> simpa [Addr.add, hk] using this
  have hs : k = 0 → a.spot = none := fun hk => by
    subst hk
    have := World.cell?_spot h0
    simpa [Addr.add] using this
  refine ⟨hb, hs, hl, fun j v hj => ?_⟩
  have hjl : j < n := by have := (List.getElem?_eq_some_iff.1 hj).1; omega
  have := hc j hjl
  rw [hj] at this
  by_cases hk : k = 0
  · subst hk
    obtain ⟨ab, ao, sp⟩ := a
    obtain rfl : sp = none := hs rfl
    by_cases hj0 : j = 0
    · subst hj0; simpa [Addr.add] using this
    · simpa [Addr.add, hj0] using this
  · by_cases hj0 : j = 0
    · subst hj0; simpa [Addr.add, hk] using this
    · simpa [Addr.add, hk, hj0, Nat.add_assoc] using this

theorem open24 {fuel : Nat} {cs : List Value} {x : DataW H × List MemPlace} (h : DataW.trod enc Tryz.prog W 0 (fun _ => true) true fuel 24 cs = some x) (hw : Within 24 x.1) :
    ∃ (v : Value) (ks : List ByteArray), cs = [v] ∧ SlAt (All W) ks.length v (fun b o => StrRow W b o ks) ∧ ∀ s ∈ ks, s.size ≤ 281474976710656 := by
  rcases DataW.trod_slice Tryz.underlying24 h with ⟨rfl, rfl⟩ | ⟨a, len, cap, elems, rest, n, rfl, rfl, rfl, -, hl, hm, hel, hi, -, -⟩
  · exact ⟨_, [], rfl, ⟨none, 0, rfl, Nat.le_refl _, Nat.zero_le _, fun h => absurd h (by simp)⟩, fun s hs => by cases hs⟩
  · obtain ⟨ks, hks, hq⟩ := listed (Q := fun i (s : ByteArray) => a.block < W.heap.size ∧ (i = 0 → a.spot = none) ∧ W.cell? ⟨a.block, a.off + i, none⟩ = some (.string s) ∧ s.size ≤ 281474976710656) len fun i hil => by
      have h1 := hi i hil
      rw [List.getElem?_eq_getElem (by omega : i < elems.length), c9, Nat.mul_one] at h1
      obtain ⟨cs, hc, ht⟩ := Option.bind_eq_some_iff.1 h1
      obtain ⟨s, rfl, hx, hs⟩ := DataW.trod_string Tryz.underlying9 ht
      obtain ⟨hb, hsp, -, hcell⟩ := elem_cells hc (by omega)
      refine ⟨s, hb, hsp, by simpa using hcell 0 _ rfl, ?_⟩
      have : s.data.toList.length ≤ reachBytes := hw _ (by
        show _ ∈ DataW.weights Tryz.prog 24 (.slice _ _)
        rw [DataW.weights, Tryz.underlying24]
        refine List.mem_cons_of_mem _ (List.mem_append_left _ (mem_weightsAll (d := elems[i].1) (List.mem_map.2 ⟨_, List.getElem_mem _, rfl⟩) ?_))
        rw [hx]
        simp [DataW.weights])
      rw [bytes_len s]
      exact small_of this
    refine ⟨_, ks, rfl, ⟨some a, cap, by rw [hks], by omega, hm, fun h0 => ?_⟩, fun s hs => ?_⟩
    · obtain ⟨x, hx⟩ : ∃ x, ks[0]? = some x := ⟨_, List.getElem?_eq_getElem h0⟩
      obtain ⟨hb, hsp, -⟩ := hq 0 x hx
      refine ⟨a.block, a.off, by obtain ⟨ab, ao, sp⟩ := a; have hsp := hsp rfl; simp only at hsp; subst hsp; rfl, hb, fun i s hs => (hq i s hs).2.2.1⟩
    · obtain ⟨i, hi'⟩ := List.mem_iff_getElem?.1 hs
      exact (hq i s hi').2.2.2

/-- what 'trod' says at an impl.Value, with less fuel -/
def Opens (enc : TypeId × Value → H) (W : World) (n : Nat) : Prop := ∀ (cs : List Value) (x : DataW H × List MemPlace), DataW.trod enc Tryz.prog W 0 (fun _ => true) true n 26 cs = some x → Within 26 x.1 → ∃ v : V, VRep W (All W) v cs ∧ v.Small

theorem open23 {fuel : Nat} (ih : ∀ n, n < fuel → Opens enc W n) {cs : List Value} {x : DataW H × List MemPlace} (h : DataW.trod enc Tryz.prog W 0 (fun _ => true) true fuel 23 cs = some x) (hw : Within 23 x.1) :
    ∃ (v : Value) (l : List V), cs = [v] ∧ SlAt (All W) l.length v (fun b o => VRow W (All W) b l o) ∧ SmallL l := by
  rcases DataW.trod_slice Tryz.underlying23 h with ⟨rfl, rfl⟩ | ⟨a, len, cap, elems, rest, n, rfl, rfl, rfl, -, hl, hm, hel, hi, -, -⟩
  · exact ⟨_, [], rfl, ⟨none, 0, rfl, Nat.le_refl _, Nat.zero_le _, fun h => absurd h (by simp)⟩, trivial⟩
  · obtain ⟨l, hll, hq⟩ := listed (Q := fun i (v : V) => a.block < W.heap.size ∧ (i = 0 → a.spot = none) ∧ (∃ cs, cs.length = 6 ∧ (∀ j u, cs[j]? = some u → W.cell? ⟨a.block, a.off + i * 6 + j, none⟩ = some u) ∧ VRep W (All W) v cs) ∧ v.Small) len fun i hil => by
      have h1 := hi i hil
      rw [List.getElem?_eq_getElem (by omega : i < elems.length), c26] at h1
      obtain ⟨cs, hc, ht⟩ := Option.bind_eq_some_iff.1 h1
      obtain ⟨hb, hsp, hcl, hcell⟩ := elem_cells hc (by omega)
      obtain ⟨v, hv, hs⟩ := ih n (by omega) cs _ ht fun m hm => hw _ (by
        show _ ∈ DataW.weights Tryz.prog 23 (.slice _ _)
        rw [DataW.weights, Tryz.underlying23]
        exact List.mem_cons_of_mem _ (List.mem_append_left _ (mem_weightsAll (d := elems[i].1) (List.mem_map.2 ⟨_, List.getElem_mem _, rfl⟩) hm)))
      exact ⟨v, hb, fun h => hsp (by omega), ⟨cs, hcl, hcell, hv⟩, hs⟩
    refine ⟨_, l, rfl, ⟨some a, cap, by rw [hll], by omega, hm, fun h0 => ?_⟩, SmallL_iff.2 fun v hv => ?_⟩
    · obtain ⟨x, hx⟩ : ∃ x, l[0]? = some x := ⟨_, List.getElem?_eq_getElem h0⟩
      obtain ⟨hb, hsp, -⟩ := hq 0 x hx
      refine ⟨a.block, a.off, by obtain ⟨ab, ao, sp⟩ := a; have hsp := hsp rfl; simp only at hsp; subst hsp; rfl, hb, VRow.mk fun i v hv => (hq i v hv).2.2.1⟩
    · obtain ⟨i, hi'⟩ := List.mem_iff_getElem?.1 hv
      exact (hq i v hi').2.2.2

set_option maxRecDepth 100000 in
theorem open26 : ∀ (fuel : Nat), Opens enc W fuel := by
  intro fuel
  induction fuel using Nat.strongRecOn with
  | ind fuel ih =>
    intro cs x h hw
    obtain ⟨xs, n, rfl, rfl, hcl, hxl, hf⟩ := DataW.trod_struct Tryz.underlying26 h
    rw [c26] at hcl
    have f0 := hf 0 _ rfl
    have f1 := hf 1 _ rfl
    have f2 := hf 2 _ rfl
    have f3 := hf 3 _ rfl
    have f4 := hf 4 _ rfl
    have f5 := hf 5 _ rfl
    match cs, hcl with
    | [k0, k1, k2, k3, k4, k5], _ =>
    match xs, hxl with
    | [y0, y1, y2, y3, y4, y5], _ =>
    simp only [List.getElem?_cons_zero, List.getElem?_cons_succ] at f0 f1 f2 f3 f4 f5
    obtain ⟨z0, e0, -, -⟩ := DataW.trod_int Tryz.underlying22 f0
    obtain ⟨z1, e1, -, -⟩ := DataW.trod_int Tryz.underlying3 f1
    obtain ⟨s, e2, hy2, -⟩ := DataW.trod_string Tryz.underlying9 f2
    have hW : ∀ m, m ∈ y2.1.weights Tryz.prog 9 ∨ m ∈ y3.1.weights Tryz.prog 23 ∨ m ∈ y4.1.weights Tryz.prog 24 ∨ m ∈ y5.1.weights Tryz.prog 23 → m ≤ reachBytes := fun m hm => hw m (by
      show _ ∈ DataW.weights Tryz.prog 26 (.agg _)
      rw [DataW.weights, Tryz.underlying26]
      simp only [List.map_cons, List.map_nil, DataW.weightsEach, List.mem_append, List.append_nil]
      rcases hm with h | h | h | h <;> simp [h])
    obtain ⟨L, l, e3, hL, hsl⟩ := open23 (fun m hm => ih m (by omega)) f3 fun m hm => hW m (.inr (.inl hm))
    obtain ⟨K, ks, e4, hK, hsk⟩ := open24 f4 fun m hm => hW m (.inr (.inr (.inl hm)))
    obtain ⟨S, vs, e5, hS, hss⟩ := open23 (fun m hm => ih m (by omega)) f5 fun m hm => hW m (.inr (.inr (.inr hm)))
    obtain ⟨rfl, -⟩ := List.cons.inj e0
    obtain ⟨rfl, -⟩ := List.cons.inj e1
    obtain ⟨rfl, -⟩ := List.cons.inj e2
    obtain ⟨rfl, -⟩ := List.cons.inj e3
    obtain ⟨rfl, -⟩ := List.cons.inj e4
    obtain ⟨rfl, -⟩ := List.cons.inj e5
    refine ⟨.mk z0 z1 s l ks vs, ⟨_, _, _, rfl, hL, hK, hS⟩, ?_, hsk, hsl, hss⟩
    have := hW s.data.toList.length (.inl (by rw [hy2]; simp [DataW.weights]))
    rw [bytes_len s]
    exact small_of this
end
end Go.Proofs.YtfhppajnnbbcjaaGreatDoor
end

section
namespace Go.Proofs.YtfhppajnnbbcjaaGreatDoor
open Go.RowKit Go.ChangeShapes Go.WideShapes

section
variable {H : Type} {enc : TypeId × Value → H} {W : World}

set_option maxRecDepth 100000 in
theorem open_v {b : Nat} {v : Value} {d : DataW H} {p : List MemPlace} (ho : Value.okWide Tryz.prog W .any b 26 v) (h : DataW.Trod enc Tryz.prog W 0 (fun _ => true) true 26 v d p) (hw : Within 26 d) :
    ∃ (x : V) (cv : List Value), v = .agg cv.toArray ∧ VRep W (All W) x cv ∧ x.Small := by
  obtain ⟨cs, rfl, -⟩ := okWide_struct Tryz.underlying26 ho
  obtain ⟨fuel, hf⟩ := h
  obtain ⟨x, hx, hs⟩ := open26 fuel _ _ hf hw
  exact ⟨x, _, by simp [Value.cells], hx, hs⟩

set_option maxRecDepth 100000 in
theorem open_vs {b : Nat} {v : Value} {d : DataW H} {p : List MemPlace} (ho : Value.okWide Tryz.prog W .any b 23 v) (h : DataW.Trod enc Tryz.prog W 0 (fun _ => true) true 23 v d p) (hw : Within 23 d) :
    ∃ (l : List V), SlAt (All W) l.length v (fun b o => VRow W (All W) b l o) ∧ SmallL l := by
  obtain ⟨fuel, hf⟩ := h
  obtain ⟨u, l, hu, hl, hs⟩ := open23 (fun n _ => open26 n) hf hw
  obtain ⟨a, n, c, rfl⟩ := okWide_slice Tryz.underlying23 ho
  simp only [Value.cells] at hu
  obtain ⟨rfl, -⟩ := List.cons.inj hu
  exact ⟨l, hl, hs⟩

theorem within_two {t u : TypeId} {vt : List TypeId} {d e : DataW H} {gs : List (DataW H)} (h : (DataW.weightsEach Tryz.prog ([t, u] ++ vt) ([d, e] ++ gs)).all (· ≤ reachBytes) = true) : Within t d ∧ Within u e := by
  simp only [List.cons_append, List.nil_append, DataW.weightsEach, List.all_append, Bool.and_eq_true, List.all_eq_true, decide_eq_true_eq] at h
  exact ⟨h.1, h.2.1⟩
theorem within_three {t u s : TypeId} {vt : List TypeId} {d e f : DataW H} {gs : List (DataW H)} (h : (DataW.weightsEach Tryz.prog ([t, u, s] ++ vt) ([d, e, f] ++ gs)).all (· ≤ reachBytes) = true) : Within t d ∧ Within u e ∧ Within s f := by
  simp only [List.cons_append, List.nil_append, DataW.weightsEach, List.all_append, Bool.and_eq_true, List.all_eq_true, decide_eq_true_eq] at h
  exact ⟨h.1, h.2.1, h.2.2.1⟩
end

theorem accept_eq : (Rows.laid_unicode_utf8_acceptRanges : DataW Unit) = Lib.acceptData := by kernel_rfl
theorem xU8 : U8Extra Tryz.prog Tryz.lays163_ren := ⟨by kernel_rfl, by kernel_rfl, by kernel_rfl, by kernel_rfl, by kernel_rfl, by kernel_rfl, by kernel_rfl⟩

theorem u8_of {l : List (String × DataW Unit)} {W : World} (h : laidMet Tryz.prog l W) (h1 : ("unicode/utf8.first", Rows.laid_unicode_utf8_first) ∈ l) (h2 : ("unicode/utf8.acceptRanges", (Rows.laid_unicode_utf8_acceptRanges : DataW Unit)) ∈ l) : U8 W :=
  utf8Tabs_of_readsT (U8Types.of196 Tryz.lays163) xU8 (Pinned.utf8First_eq ▸ Lib.laidMet.reads h h1) (accept_eq ▸ Lib.laidMet.reads h h2)

theorem own : ownKnob Tryz.prog.godebug = none := by kernel_rfl
theorem laidOut : laidOutB Tryz.prog = true := by kernel_rfl
theorem readable26 : Tryz.prog.readableRec 26 = true := by kernel_rfl
theorem readable23 : Tryz.prog.readableRec 23 = true := by kernel_rfl
end Go.Proofs.YtfhppajnnbbcjaaGreatDoor
end
