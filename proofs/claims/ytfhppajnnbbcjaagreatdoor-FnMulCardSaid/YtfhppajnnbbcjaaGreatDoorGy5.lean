/- Walks: spec.Fit, whole; the laws' own size tests.
   Walks: the laws' own size tests; array; fits.
   Walks: the laws' fits.
   WHAT A LAW IS HANDED: an argument of type impl.Value, or a slice of such, reads as a V (out of the form's reading).
   WHAT A LAW IS HANDED, and the tables of unicode/utf8 out of the row's listed variables: the parts that each row's proof takes.
   Walks: spec.ascii, spec.find, spec.Array.
   Walks: spec.Vague (never so at a JSON value), spec.Array.
   Walks: impl.fromGo, the plain kinds.
   Walks: spec.Num, spec.Str, spec.Each. -/
import Derived.Test.YtfhppajnnbbcjaaGreatDoorGy4
import Derived.ProofKit
import Derived.Test.YtfhppajnnbbcjaaGreatDoorRows
import Derived.PinnedBridge
import Derived.Lib.LaidU8T
import Derived.Lay
import Derived.LaidOnce
import Derived.Test.YtfhppajnnbbcjaaGreatDoorGy1
import Derived.Test.YtfhppajnnbbcjaaGreatDoorGy3
import Derived.Test.YtfhppajnnbbcjaaGreatDoorGy2

section
namespace Go.Proofs.YtfhppajnnbbcjaaGreatDoor
open Go.RowKit

mutual
theorem value_all : ∀ v : V, VOK v
  | .mk k h t l ks vs => value_of k h t l ks vs (value_alls l) (value_alls vs)
theorem value_alls : ∀ l : List V, ∀ x ∈ l, VOK x
  | [], _, h => absurd h (by simp)
  | a :: l, x, h => (List.mem_cons.1 h).elim (fun e => e ▸ value_all a) (value_alls l x)
end

def FitPost (v : V) (w : World) (e : Ending) (w' : World) : Prop := ∃ b, e = .returned (.bool b) ∧ (b = true → GoodV v 400 2000) ∧ Below w.heap.size w w'

theorem J.Good.mono {a : J} {n m n' m' : Int} (h : a.Good n m) (hn : n ≤ n') (hm : m ≤ m') : a.Good n' m' := ⟨h.wf, h.ok, Int.le_trans h.parts hn, Int.le_trans h.bytes hm⟩
theorem GoodV.mono {v : V} {n m n' m' : Int} (h : GoodV v n m) (hn : n ≤ n') (hm : m ≤ m') : GoodV v n' m' := by
  obtain ⟨j, hj, hg⟩ := h
  exact ⟨j, hj, hg.mono hn hm⟩

set_option maxRecDepth 100000 in
theorem Fit_any (v : V) (D : Nat → Prop) (cs : List Value) (w : World) (hv : VRep w D v cs) (hD : ∀ b, D b → All w b) (hU : U8 w) (hs : v.Small) : Calls Tryz.prog 31 #[.agg cs.toArray] w (FitPost v w) := by
  have hsm : Same D w ((w.alloc (.cells cs.toArray 26)).alloc (.cells #[.int .i64 0, .int .i64 0, .bool false] 75)) := Same.of_below (((Below.refl _ _).alloc (Nat.le_refl _) _).alloc (by simp) _) hD
  have HC := Lib.hid (value_all v D cs ((w.alloc (.cells cs.toArray 26)).alloc (.cells #[.int .i64 0, .int .i64 0, .bool false] 75)) (w.heap.size + 1) 0 0 0 false (VRep.keep hsm (fun _ h => h) _ _ hv)
    (fun i hi => ⟨by have := hD i hi; simp; omega, by have := hD i hi; simp at this; omega⟩) (by have := hU.size; omega) (heap_alloc_new1 w _ _) (hU.below (((Below.refl _ _).alloc (Nat.le_refl _) _).alloc (by simp) _) hU.size) hs (by omega) (by omega) (by omega) (by omega) (by omega) (by omega))
  obtain ⟨k, h, t, l, ks, vs⟩ := v
  obtain ⟨L, K, S, rfl, h3⟩ := hv
  obtain ⟨A1, c1, rfl, -⟩ := h3.1
  obtain ⟨A2, c2, rfl, -⟩ := h3.2.1
  obtain ⟨A3, c3, rfl, -⟩ := h3.2.2
  clear h3 hsm hU hs hD
  go_enter Tryz.func31, Tryz.ntmps31
  go_wp2_with fail
  refine HC.out.mono ?_
  clear HC
  rintro e w1 ⟨rfl, p', b', bad', h1, hC, hg⟩
  have c2 := box_cell h1 2
  simp at c2
  have HN := Lib.hid (And.intro hC hg)
  clear hC hg h1
  go_wp2_with fail
  go_ret
  refine ⟨_, rfl, fun hb => ?_, ?_⟩
  · have hbad : bad' = false := by simpa using hb
    obtain ⟨-, q2, q3, q4, q5⟩ := HN.out.1 hbad
    exact q5.mono (by omega) (by omega)
  · exact (((Below.refl _ _).alloc (Nat.le_refl _) _).alloc (by simp) _).grown HN.out.2 (by simp; omega) (fun g hg => by have := Option.some.inj hg; omega)

end Go.Proofs.YtfhppajnnbbcjaaGreatDoor
end

section
namespace Go.Proofs.YtfhppajnnbbcjaaGreatDoor
open Go.RowKit

def AnyBool (w : World) (e : Ending) (w' : World) : Prop := ∃ b, e = .returned (.bool b) ∧ w' = w
def BoolBelow (w : World) (e : Ending) (w' : World) : Prop := ∃ b, e = .returned (.bool b) ∧ Below w.heap.size w w'

theorem zzFits2_any (ks : List ByteArray) (D : Nat → Prop) (K : Value) (w : World) (hK : SlAt D ks.length K (fun b o => StrRow w b o ks)) (hs : ∀ s ∈ ks, s.size ≤ 281474976710656) :
    Calls Tryz.prog 30 #[K] w (AnyBool w) := by
  obtain ⟨A, c, rfl, hc, hm, hr⟩ := hK
  have hbd : ks.length ≤ 9223372036854775807 := by unfold maxLen at hm; omega
  have HR := Lib.hid (And.intro hr hs)
  clear hr hs hm hc
  by_cases h0 : (ks.length : Int) > 2147483647
  · go_enter Tryz.func30, Tryz.ntmps30
    go_wp2_with fail
    go_ret
    exact ⟨_, rfl, rfl⟩
  · go_enter Tryz.func30, Tryz.ntmps30
    go_wp2_with fail
    go_loopw [10] (fun i wr => ∃ k : Nat, k ≤ ks.length ∧ i = .int .i64 k ∧ wr = w) (fun i _ => ks.length - (intOf i).toNat)
    case atStart => exact ⟨0, Nat.zero_le _, rfl, rfl⟩
    case round =>
      obtain ⟨k, hk, rfl, rfl⟩ := hrel
      by_cases ha : k < ks.length
      · obtain ⟨b, o, rfl, hb, hrow⟩ := HR.out.1 (by omega)
        obtain ⟨s, hs⟩ : ∃ s, ks[k]? = some s := ⟨_, List.getElem?_eq_getElem ha⟩
        have hc := hrow k s hs
        have hsz := HR.out.2 s (List.mem_of_getElem? hs)
        clear hrow hs
        by_cases hb : (s.size : Int) > 2147483647
        · go_wp2_with fail
          go_ret
          exact ⟨_, rfl, rfl⟩
        · go_wp2_with fail
          go_roundw
          case rel => exact ⟨k + 1, by omega, by go_num, by trivial⟩
          case measure => simp [intOf]; omega
      · have hk' : k = ks.length := by omega
        subst hk'
        go_wp2_with fail
        go_ret
        exact ⟨_, rfl, rfl⟩

set_option maxRecDepth 100000 in
theorem zzFits1_any (v : V) (D : Nat → Prop) (cs : List Value) (w : World) (hv : VRep w D v cs) (hD : ∀ b, D b → All w b) (hs : v.Small) :
    Calls Tryz.prog 8 #[.agg cs.toArray] w (BoolBelow w) := by
  obtain ⟨k, h, t, l, ks, vs⟩ := v
  obtain ⟨L, K, S, rfl, h1, h2, h3⟩ := hv
  simp only [V.Small] at hs
  have hK : SlAt D ks.length K (fun b o => StrRow (w.alloc (.cells #[.int .i64 k, .int .i64 h, .string t, L, K, S] 26)) b o ks) := h2.mono (fun _ h => h) fun b o hb hr => hr.keep (Same.of_below ((Below.refl _ _).alloc (Nat.le_refl _) _) hD) hb
  have HZ := Lib.hid (zzFits2_any ks D K _ hK hs.2.1)
  have hb1 : Below w.heap.size w (w.alloc (.cells #[.int .i64 k, .int .i64 h, .string t, L, K, S] 26)) := (Below.refl _ _).alloc (Nat.le_refl _) _
  have HB := Lib.hid hb1
  clear hK hb1
  obtain ⟨A1, c1, rfl, -⟩ := h1
  obtain ⟨A2, c2, rfl, -⟩ := h2
  obtain ⟨A3, c3, rfl, -⟩ := h3
  by_cases t1 : (t.size : Int) > 2147483647
  · go_enter Tryz.func8, Tryz.ntmps8
    go_wp2_with fail
    go_ret
    exact ⟨_, rfl, HB.out⟩
  by_cases t2 : (l.length : Int) > 2147483647
  · go_enter Tryz.func8, Tryz.ntmps8
    go_wp2_with fail
    go_ret
    exact ⟨_, rfl, HB.out⟩
  by_cases t3 : (vs.length : Int) > 2147483647
  all_goals
    go_enter Tryz.func8, Tryz.ntmps8
    go_wp2_with fail
    refine HZ.out.mono ?_
    rintro e w1 ⟨b, rfl, rfl⟩
    cases b
    · go_wp2_with fail
      go_ret
      exact ⟨_, rfl, HB.out⟩
    · go_wp2_with fail
      go_ret
      exact ⟨_, rfl, HB.out⟩

end Go.Proofs.YtfhppajnnbbcjaaGreatDoor
end

section
namespace Go.Proofs.YtfhppajnnbbcjaaGreatDoor
open Go.RowKit

def FitsPost (l : List V) (w : World) (e : Ending) (w' : World) : Prop := ∃ b, e = .returned (.bool b) ∧ (b = true → ∀ v ∈ l, GoodV v 400 2000) ∧ Below w.heap.size w w'

theorem fits_any (l : List V) (D : Nat → Prop) (S : Value) (w : World) (hS : SlAt D l.length S (fun b o => VRow w D b l o)) (hD : ∀ b, D b → All w b) (hU : U8 w) (hs : SmallL l) : Calls Tryz.prog 9 #[S] w (FitsPost l w) := by
  obtain ⟨A, c, rfl, hc, hm, hr⟩ := hS
  have hbd : l.length ≤ 9223372036854775807 := by unfold maxLen at hm; omega
  have HX := Lib.hid (And.intro hr (And.intro hU hs))
  clear hr hU hs hm hc
  go_enter Tryz.func9, Tryz.ntmps9
  go_wp2_with fail
  go_loopw [7] (fun i wr => ∃ k : Nat, k ≤ l.length ∧ i = .int .i64 k ∧ Hid (Below w.heap.size w wr ∧ ∀ v ∈ l.take k, GoodV v 400 2000)) (fun i _ => l.length - (intOf i).toNat)
  case atStart => exact ⟨0, Nat.zero_le _, rfl, Below.refl _ _, by simp⟩
  case round =>
    obtain ⟨k, hk, rfl, hR⟩ := hrel
    by_cases ha : k < l.length
    · obtain ⟨b, o, rfl, hb, hrow⟩ := HX.out.1 (by omega)
      obtain ⟨x, hx⟩ : ∃ x, l[k]? = some x := ⟨_, List.getElem?_eq_getElem ha⟩
      have hB := hR.out.1
      obtain ⟨cs, h6, hcell, hxr⟩ := (VRow.keep (Same.of_below hB hD) (fun _ h => h) _ _ _ hb hrow).get hx
      have hxw : VRep (wr.alloc (.cells cs.toArray 26)) D x cs := VRep.keep (Same.of_below ((Below.refl _ _).alloc (Nat.le_refl _) _) (fun b hb => Nat.lt_of_lt_of_le (hD b hb) hB.size)) (fun _ h => h) _ _ hxr
      have HF := Lib.hid (Fit_any x D cs (wr.alloc (.cells cs.toArray 26)) hxw (fun b hb => by have := hD b hb; have := hB.size; simp; omega) ((HX.out.2.1.below hB HX.out.2.1.size).below ((Below.refl _ _).alloc (Nat.le_refl _) _) (by have := HX.out.2.1.size; have := hB.size; omega)) (SmallL_iff.1 HX.out.2.2 x (List.mem_of_getElem? hx)))
      obtain ⟨xk, xh, xt, xl, xks, xvs⟩ := x
      obtain ⟨XL, XK, XS, rfl, hx3⟩ := hxr
      have p0 : wr.cell? ⟨b, o + k * 6, none⟩ = _ := hcell 0 _ rfl
      have p1 := hcell 1 _ rfl
      have p2 := hcell 2 _ rfl
      have p3 := hcell 3 _ rfl
      have p4 := hcell 4 _ rfl
      have p5 := hcell 5 _ rfl
      obtain ⟨Y1, d1, rfl, -⟩ := hx3.1
      obtain ⟨Y2, d2, rfl, -⟩ := hx3.2.1
      obtain ⟨Y3, d3, rfl, -⟩ := hx3.2.2
      have HG := Lib.hid (And.intro hR.out (And.intro hx ha))
      clear hcell hx3 hx hrow hR hxw hB h6
      go_wp2_with fail
      refine HF.out.mono ?_
      clear HF
      rintro e w1 ⟨ok, rfl, hok, hb1⟩
      have hbw : Below w.heap.size w w1 := (HG.out.1.1.alloc HG.out.1.1.size _).trans (hb1.mono (by have := HG.out.1.1.size; simp; omega))
      have HN := Lib.hid (And.intro hok hbw)
      clear hok hb1 hbw
      cases ok
      · go_wp2_with fail
        go_ret
        exact ⟨_, rfl, (fun h => nomatch h), HN.out.2⟩
      · have HN' := Lib.hid (show Below w.heap.size w w1 ∧ ∀ v ∈ l.take (k + 1), GoodV v 400 2000 from ⟨HN.out.2, fun v hv => by
          rw [take_snocG HG.out.2.1] at hv
          rcases List.mem_append.1 hv with h | h
          · exact HG.out.1.2 v h
          · simp at h; subst h; exact HN.out.1 rfl⟩)
        clear HN
        go_wp2_with fail
        go_roundw
        case rel => exact ⟨k + 1, by have := HG.out.2.2; omega, by go_num, HN'⟩
        case measure => have := HG.out.2.2; simp [intOf]; omega
    · have hk' : k = l.length := by omega
      subst hk'
      go_wp2_with fail
      go_ret
      refine ⟨_, rfl, fun _ => ?_, hR.out.1⟩
      have := hR.out.2
      rwa [List.take_length] at this

end Go.Proofs.YtfhppajnnbbcjaaGreatDoor
end

section
namespace Go.Proofs.YtfhppajnnbbcjaaGreatDoor
open Go.RowKit Go.ChangeShapes Go.WideShapes

section
variable {H : Type}

theorem mem_weightsAll {P : Program} {e : TypeId} : ∀ {l : List (DataW H)} {d : DataW H} {n : Nat}, d ∈ l → n ∈ d.weights P e → n ∈ DataW.weightsAll P e l
  | a :: l, d, n, hd, hn => by
    rw [DataW.weightsAll]
    rcases List.mem_cons.1 hd with rfl | hd
    · exact List.mem_append_left _ hn
    · exact List.mem_append_right _ (mem_weightsAll hd hn)

/-- the weights are within the reach -/
def Within (t : TypeId) (d : DataW H) : Prop := ∀ n ∈ d.weights Tryz.prog t, n ≤ reachBytes

theorem listed {α : Type} {Q : Nat → α → Prop} : ∀ (n : Nat), (∀ i, i < n → ∃ x, Q i x) → ∃ l : List α, l.length = n ∧ ∀ i x, l[i]? = some x → Q i x
  | 0, _ => ⟨[], rfl, fun i x h => by simp at h⟩
  | n + 1, h => by
    obtain ⟨l, hl, hq⟩ := listed n fun i hi => h i (by omega)
    obtain ⟨x, hx⟩ := h n (by omega)
    refine ⟨l ++ [x], by simp [hl], fun i y hy => ?_⟩
    rw [List.getElem?_append] at hy
    split at hy
    · exact hq i y hy
    · rw [List.getElem?_singleton] at hy
      split at hy
      · obtain rfl := Option.some.inj hy
        have : i = n := by omega
        exact this ▸ hx
      · cases hy

theorem VRow.mk {w : World} {D : Nat → Prop} {b : Nat} : ∀ {l : List V} {o : Nat}, (∀ i x, l[i]? = some x → ∃ cs, cs.length = 6 ∧ (∀ j v, cs[j]? = some v → w.cell? ⟨b, o + i * 6 + j, none⟩ = some v) ∧ VRep w D x cs) → VRow w D b l o
  | [], _, _ => trivial
  | x :: l, o, h => by
    refine ⟨by simpa using h 0 x rfl, VRow.mk fun i y hy => ?_⟩
    obtain ⟨cs, h1, h2, h3⟩ := h (i + 1) y (by simpa using hy)
    exact ⟨cs, h1, fun j v hj => by rw [show o + 6 + i * 6 + j = o + (i + 1) * 6 + j by omega]; exact h2 j v hj, h3⟩

variable {enc : TypeId × Value → H} {W : World}

theorem bytes_len (s : ByteArray) : s.size = s.data.toList.length := rfl
theorem small_of {n : Nat} (h : n ≤ reachBytes) : n ≤ 281474976710656 := Nat.le_trans h (by decide)
theorem c26 : Tryz.prog.cellsOf 26 = 6 := by kernel_rfl
theorem c23 : Tryz.prog.cellsOf 23 = 1 := by kernel_rfl
theorem c24 : Tryz.prog.cellsOf 24 = 1 := by kernel_rfl
theorem c22 : Tryz.prog.cellsOf 22 = 1 := by kernel_rfl
theorem c9 : Tryz.prog.cellsOf 9 = 1 := by kernel_rfl
theorem c3 : Tryz.prog.cellsOf 3 = 1 := by kernel_rfl

/-- the cells of an element in a row -/
theorem elem_cells {a : Addr} {n k : Nat} {cs : List Value} (h : W.cells? 0 (a.add k) n = some cs) (hn : 0 < n) : a.block < W.heap.size ∧ (k = 0 → a.spot = none) ∧ cs.length = n ∧ ∀ j v, cs[j]? = some v → W.cell? ⟨a.block, a.off + k + j, none⟩ = some v := by
  obtain ⟨_, hl, hc⟩ := World.cells?_some h
  have h0 := hc 0 hn
  obtain ⟨v0, hv0⟩ : ∃ v, cs[0]? = some v := ⟨_, List.getElem?_eq_getElem (by omega)⟩
  rw [hv0] at h0
  have hb : a.block < W.heap.size := by
    have := World.block_lt_of_cell? _ _ h0
    by_cases hk : k = 0 <;> simpa [Addr.add, hk] using this
  have hs : k = 0 → a.spot = none := fun hk => by
    subst hk
    have := World.cell?_spot h0
    simpa [Addr.add] using this
  refine ⟨hb, hs, hl, fun j v hj => ?_⟩
  have hjl : j < n := by have := (List.getElem?_eq_some_iff.1 hj).1; omega
  have := hc j hjl
  rw [hj] at this
  by_cases hk : k = 0
  · subst hk
    obtain ⟨ab, ao, sp⟩ := a
    obtain rfl : sp = none := hs rfl
    by_cases hj0 : j = 0
    · subst hj0; simpa [Addr.add] using this
    · simpa [Addr.add, hj0] using this
  · by_cases hj0 : j = 0
    · subst hj0; simpa [Addr.add, hk] using this
    · simpa [Addr.add, hk, hj0, Nat.add_assoc] using this

theorem open24 {fuel : Nat} {cs : List Value} {x : DataW H × List MemPlace} (h : DataW.trod enc Tryz.prog W 0 (fun _ => true) true fuel 24 cs = some x) (hw : Within 24 x.1) :
    ∃ (v : Value) (ks : List ByteArray), cs = [v] ∧ SlAt (All W) ks.length v (fun b o => StrRow W b o ks) ∧ ∀ s ∈ ks, s.size ≤ 281474976710656 := by
  rcases DataW.trod_slice Tryz.underlying24 h with ⟨rfl, rfl⟩ | ⟨a, len, cap, elems, rest, n, rfl, rfl, rfl, -, hl, hm, hel, hi, -, -⟩
  · exact ⟨_, [], rfl, ⟨none, 0, rfl, Nat.le_refl _, Nat.zero_le _, fun h => absurd h (by simp)⟩, fun s hs => by cases hs⟩
  · obtain ⟨ks, hks, hq⟩ := listed (Q := fun i (s : ByteArray) => a.block < W.heap.size ∧ (i = 0 → a.spot = none) ∧ W.cell? ⟨a.block, a.off + i, none⟩ = some (.string s) ∧ s.size ≤ 281474976710656) len fun i hil => by
      have h1 := hi i hil
      rw [List.getElem?_eq_getElem (by omega : i < elems.length), c9, Nat.mul_one] at h1
      obtain ⟨cs, hc, ht⟩ := Option.bind_eq_some_iff.1 h1
      obtain ⟨s, rfl, hx, hs⟩ := DataW.trod_string Tryz.underlying9 ht
      obtain ⟨hb, hsp, -, hcell⟩ := elem_cells hc (by omega)
      refine ⟨s, hb, hsp, by simpa using hcell 0 _ rfl, ?_⟩
      have : s.data.toList.length ≤ reachBytes := hw _ (by
        show _ ∈ DataW.weights Tryz.prog 24 (.slice _ _)
        rw [DataW.weights, Tryz.underlying24]
        refine List.mem_cons_of_mem _ (List.mem_append_left _ (mem_weightsAll (d := elems[i].1) (List.mem_map.2 ⟨_, List.getElem_mem _, rfl⟩) ?_))
        rw [hx]
        simp [DataW.weights])
      rw [bytes_len s]
      exact small_of this
    refine ⟨_, ks, rfl, ⟨some a, cap, by rw [hks], by omega, hm, fun h0 => ?_⟩, fun s hs => ?_⟩
    · obtain ⟨x, hx⟩ : ∃ x, ks[0]? = some x := ⟨_, List.getElem?_eq_getElem h0⟩
      obtain ⟨hb, hsp, -⟩ := hq 0 x hx
      refine ⟨a.block, a.off, by obtain ⟨ab, ao, sp⟩ := a; have hsp := hsp rfl; simp only at hsp; subst hsp; rfl, hb, fun i s hs => (hq i s hs).2.2.1⟩
    · obtain ⟨i, hi'⟩ := List.mem_iff_getElem?.1 hs
      exact (hq i s hi').2.2.2

/-- what 'trod' says at an impl.Value, with less fuel -/
def Opens (enc : TypeId × Value → H) (W : World) (n : Nat) : Prop := ∀ (cs : List Value) (x : DataW H × List MemPlace), DataW.trod enc Tryz.prog W 0 (fun _ => true) true n 26 cs = some x → Within 26 x.1 → ∃ v : V, VRep W (All W) v cs ∧ v.Small

theorem open23 {fuel : Nat} (ih : ∀ n, n < fuel → Opens enc W n) {cs : List Value} {x : DataW H × List MemPlace} (h : DataW.trod enc Tryz.prog W 0 (fun _ => true) true fuel 23 cs = some x) (hw : Within 23 x.1) :
    ∃ (v : Value) (l : List V), cs = [v] ∧ SlAt (All W) l.length v (fun b o => VRow W (All W) b l o) ∧ SmallL l := by
  rcases DataW.trod_slice Tryz.underlying23 h with ⟨rfl, rfl⟩ | ⟨a, len, cap, elems, rest, n, rfl, rfl, rfl, -, hl, hm, hel, hi, -, -⟩
  · exact ⟨_, [], rfl, ⟨none, 0, rfl, Nat.le_refl _, Nat.zero_le _, fun h => absurd h (by simp)⟩, trivial⟩
  · obtain ⟨l, hll, hq⟩ := listed (Q := fun i (v : V) => a.block < W.heap.size ∧ (i = 0 → a.spot = none) ∧ (∃ cs, cs.length = 6 ∧ (∀ j u, cs[j]? = some u → W.cell? ⟨a.block, a.off + i * 6 + j, none⟩ = some u) ∧ VRep W (All W) v cs) ∧ v.Small) len fun i hil => by
      have h1 := hi i hil
      rw [List.getElem?_eq_getElem (by omega : i < elems.length), c26] at h1
      obtain ⟨cs, hc, ht⟩ := Option.bind_eq_some_iff.1 h1
      obtain ⟨hb, hsp, hcl, hcell⟩ := elem_cells hc (by omega)
      obtain ⟨v, hv, hs⟩ := ih n (by omega) cs _ ht fun m hm => hw _ (by
        show _ ∈ DataW.weights Tryz.prog 23 (.slice _ _)
        rw [DataW.weights, Tryz.underlying23]
        exact List.mem_cons_of_mem _ (List.mem_append_left _ (mem_weightsAll (d := elems[i].1) (List.mem_map.2 ⟨_, List.getElem_mem _, rfl⟩) hm)))
      exact ⟨v, hb, fun h => hsp (by omega), ⟨cs, hcl, hcell, hv⟩, hs⟩
    refine ⟨_, l, rfl, ⟨some a, cap, by rw [hll], by omega, hm, fun h0 => ?_⟩, SmallL_iff.2 fun v hv => ?_⟩
    · obtain ⟨x, hx⟩ : ∃ x, l[0]? = some x := ⟨_, List.getElem?_eq_getElem h0⟩
      obtain ⟨hb, hsp, -⟩ := hq 0 x hx
      refine ⟨a.block, a.off, by obtain ⟨ab, ao, sp⟩ := a; have hsp := hsp rfl; simp only at hsp; subst hsp; rfl, hb, VRow.mk fun i v hv => (hq i v hv).2.2.1⟩
    · obtain ⟨i, hi'⟩ := List.mem_iff_getElem?.1 hv
      exact (hq i v hi').2.2.2

set_option maxRecDepth 100000 in
theorem open26 : ∀ (fuel : Nat), Opens enc W fuel := by
  intro fuel
  induction fuel using Nat.strongRecOn with
  | ind fuel ih =>
    intro cs x h hw
    obtain ⟨xs, n, rfl, rfl, hcl, hxl, hf⟩ := DataW.trod_struct Tryz.underlying26 h
    rw [c26] at hcl
    have f0 := hf 0 _ rfl
    have f1 := hf 1 _ rfl
    have f2 := hf 2 _ rfl
    have f3 := hf 3 _ rfl
    have f4 := hf 4 _ rfl
    have f5 := hf 5 _ rfl
    match cs, hcl with
    | [k0, k1, k2, k3, k4, k5], _ =>
    match xs, hxl with
    | [y0, y1, y2, y3, y4, y5], _ =>
    simp only [List.getElem?_cons_zero, List.getElem?_cons_succ] at f0 f1 f2 f3 f4 f5
    obtain ⟨z0, e0, -, -⟩ := DataW.trod_int Tryz.underlying22 f0
    obtain ⟨z1, e1, -, -⟩ := DataW.trod_int Tryz.underlying3 f1
    obtain ⟨s, e2, hy2, -⟩ := DataW.trod_string Tryz.underlying9 f2
    have hW : ∀ m, m ∈ y2.1.weights Tryz.prog 9 ∨ m ∈ y3.1.weights Tryz.prog 23 ∨ m ∈ y4.1.weights Tryz.prog 24 ∨ m ∈ y5.1.weights Tryz.prog 23 → m ≤ reachBytes := fun m hm => hw m (by
      show _ ∈ DataW.weights Tryz.prog 26 (.agg _)
      rw [DataW.weights, Tryz.underlying26]
      simp only [List.map_cons, List.map_nil, DataW.weightsEach, List.mem_append, List.append_nil]
      rcases hm with h | h | h | h <;> simp [h])
    obtain ⟨L, l, e3, hL, hsl⟩ := open23 (fun m hm => ih m (by omega)) f3 fun m hm => hW m (.inr (.inl hm))
    obtain ⟨K, ks, e4, hK, hsk⟩ := open24 f4 fun m hm => hW m (.inr (.inr (.inl hm)))
    obtain ⟨S, vs, e5, hS, hss⟩ := open23 (fun m hm => ih m (by omega)) f5 fun m hm => hW m (.inr (.inr (.inr hm)))
    obtain ⟨rfl, -⟩ := List.cons.inj e0
    obtain ⟨rfl, -⟩ := List.cons.inj e1
    obtain ⟨rfl, -⟩ := List.cons.inj e2
    obtain ⟨rfl, -⟩ := List.cons.inj e3
    obtain ⟨rfl, -⟩ := List.cons.inj e4
    obtain ⟨rfl, -⟩ := List.cons.inj e5
    refine ⟨.mk z0 z1 s l ks vs, ⟨_, _, _, rfl, hL, hK, hS⟩, ?_, hsk, hsl, hss⟩
    have := hW s.data.toList.length (.inl (by rw [hy2]; simp [DataW.weights]))
    rw [bytes_len s]
    exact small_of this
end
end Go.Proofs.YtfhppajnnbbcjaaGreatDoor
end

section
namespace Go.Proofs.YtfhppajnnbbcjaaGreatDoor
open Go.RowKit Go.ChangeShapes Go.WideShapes

section
variable {H : Type} {enc : TypeId × Value → H} {W : World}

set_option maxRecDepth 100000 in
theorem open_v {b : Nat} {v : Value} {d : DataW H} {p : List MemPlace} (ho : Value.okWide Tryz.prog W .any b 26 v) (h : DataW.Trod enc Tryz.prog W 0 (fun _ => true) true 26 v d p) (hw : Within 26 d) :
    ∃ (x : V) (cv : List Value), v = .agg cv.toArray ∧ VRep W (All W) x cv ∧ x.Small := by
  obtain ⟨cs, rfl, -⟩ := okWide_struct Tryz.underlying26 ho
  obtain ⟨fuel, hf⟩ := h
  obtain ⟨x, hx, hs⟩ := open26 fuel _ _ hf hw
  exact ⟨x, _, by simp [Value.cells], hx, hs⟩

set_option maxRecDepth 100000 in
theorem open_vs {b : Nat} {v : Value} {d : DataW H} {p : List MemPlace} (ho : Value.okWide Tryz.prog W .any b 23 v) (h : DataW.Trod enc Tryz.prog W 0 (fun _ => true) true 23 v d p) (hw : Within 23 d) :
    ∃ (l : List V), SlAt (All W) l.length v (fun b o => VRow W (All W) b l o) ∧ SmallL l := by
  obtain ⟨fuel, hf⟩ := h
  obtain ⟨u, l, hu, hl, hs⟩ := open23 (fun n _ => open26 n) hf hw
  obtain ⟨a, n, c, rfl⟩ := okWide_slice Tryz.underlying23 ho
  simp only [Value.cells] at hu
  obtain ⟨rfl, -⟩ := List.cons.inj hu
  exact ⟨l, hl, hs⟩

theorem within_two {t u : TypeId} {vt : List TypeId} {d e : DataW H} {gs : List (DataW H)} (h : (DataW.weightsEach Tryz.prog ([t, u] ++ vt) ([d, e] ++ gs)).all (· ≤ reachBytes) = true) : Within t d ∧ Within u e := by
  simp only [List.cons_append, List.nil_append, DataW.weightsEach, List.all_append, Bool.and_eq_true, List.all_eq_true, decide_eq_true_eq] at h
  exact ⟨h.1, h.2.1⟩
theorem within_three {t u s : TypeId} {vt : List TypeId} {d e f : DataW H} {gs : List (DataW H)} (h : (DataW.weightsEach Tryz.prog ([t, u, s] ++ vt) ([d, e, f] ++ gs)).all (· ≤ reachBytes) = true) : Within t d ∧ Within u e ∧ Within s f := by
  simp only [List.cons_append, List.nil_append, DataW.weightsEach, List.all_append, Bool.and_eq_true, List.all_eq_true, decide_eq_true_eq] at h
  exact ⟨h.1, h.2.1, h.2.2.1⟩
end

theorem accept_eq : (Rows.laid_unicode_utf8_acceptRanges : DataW Unit) = Lib.acceptData := by kernel_rfl
theorem xU8 : U8Extra Tryz.prog Tryz.lays163_ren := ⟨by kernel_rfl, by kernel_rfl, by kernel_rfl, by kernel_rfl, by kernel_rfl, by kernel_rfl, by kernel_rfl⟩

theorem u8_of {l : List (String × DataW Unit)} {W : World} (h : laidMet Tryz.prog l W) (h1 : ("unicode/utf8.first", Rows.laid_unicode_utf8_first) ∈ l) (h2 : ("unicode/utf8.acceptRanges", (Rows.laid_unicode_utf8_acceptRanges : DataW Unit)) ∈ l) : U8 W :=
  utf8Tabs_of_readsT (U8Types.of196 Tryz.lays163) xU8 (Pinned.utf8First_eq ▸ Lib.laidMet.reads h h1) (accept_eq ▸ Lib.laidMet.reads h h2)

theorem own : ownKnob Tryz.prog.godebug = none := by kernel_rfl
theorem laidOut : laidOutB Tryz.prog = true := by kernel_rfl
theorem readable26 : Tryz.prog.readableRec 26 = true := by kernel_rfl
theorem readable23 : Tryz.prog.readableRec 23 = true := by kernel_rfl
end Go.Proofs.YtfhppajnnbbcjaaGreatDoor
end

section
namespace Go.Proofs.YtfhppajnnbbcjaaGreatDoor
open Go.RowKit

/-- the string has bytes below 128 alone -/
def asc (s : ByteArray) : Bool := s.data.toList.all fun b => decide (b.toNat < 128)

set_option maxRecDepth 100000 in
theorem ascii_any (s : ByteArray) (w : World) (hs : s.size ≤ 1048576) : Calls Tryz.prog 122 #[.string s] w fun e w' => e = .returned (.bool (asc s)) ∧ w' = w := by
  go_enter Tryz.func122, Tryz.ntmps122
  go_wp2_with fail
  go_loopw [3] (fun i wr => ∃ k : Nat, k ≤ s.size ∧ i = .int .i64 k ∧ wr = w ∧ Hid (∀ j (h : j < s.size), j < k → (s[j]'h).toNat < 128)) (fun i _ => s.size - (intOf i).toNat)
  case atStart => exact ⟨0, Nat.zero_le _, rfl, rfl, fun j h hj => absurd hj (by omega)⟩
  case round =>
    obtain ⟨k, hk, rfl, rfl, hR⟩ := hrel
    by_cases ha : k < s.size
    · by_cases hb : (s[k]'ha).toNat < 128
      · go_wp2_with fail
        go_roundw
        case rel =>
          refine ⟨k + 1, by omega, by go_num, trivial, fun j h hj => ?_⟩
          rcases Nat.lt_succ_iff_lt_or_eq.1 hj with h1 | rfl
          · exact hR.out j h h1
          · exact hb
        case measure => simp [intOf]; omega
      · go_wp2_with fail
        go_ret
        have hA : asc s = false := by
          rw [Bool.eq_false_iff]
          intro h
          have := List.all_eq_true.1 h (s[k]'ha) (by rw [← Array.mem_def]; exact Array.getElem_mem _)
          simp at this
          exact hb this
        rw [hA]
        exact ⟨rfl, rfl⟩
    · go_wp2_with fail
      go_ret
      have hA : asc s = true := by
        refine List.all_eq_true.2 fun b hb => ?_
        obtain ⟨j, hj, rfl⟩ := List.getElem_of_mem hb
        have hj' : j < s.size := by simpa using hj
        have := hR.out j hj' (by omega)
        rw [decide_eq_true_eq, Array.getElem_toList]
        exact this
      rw [hA]
      exact ⟨rfl, rfl⟩

/-- the text t stands in s at i -/
def At (s t : ByteArray) (i : Nat) : Prop := i + t.size ≤ s.size ∧ s.extract i (i + t.size) = t

set_option maxRecDepth 100000 in
theorem find_any (s t : ByteArray) (k0 : Nat) (w : World) (hs : s.size ≤ 1048576) (ht : t.size ≤ 1048576) (hk : k0 ≤ 1048577) : Calls Tryz.prog 123 #[.string s, .string t, .int .i64 k0] w fun e w' =>
    (∃ n : Int, e = .returned (.int .i64 n) ∧ ((n = -1 ∧ ∀ i, k0 ≤ i → ¬ At s t i) ∨ ∃ i : Nat, n = i ∧ k0 ≤ i ∧ At s t i ∧ ∀ j, k0 ≤ j → j < i → ¬ At s t j)) ∧ w' = w := by
  go_enter Tryz.func123, Tryz.ntmps123
  go_wp2_with fail
  go_loopw [7] (fun i wr => ∃ k : Nat, k ≤ 1048577 ∧ i = .int .i64 k ∧ wr = w ∧ Hid (k0 ≤ k ∧ ∀ j, k0 ≤ j → j < k → ¬ At s t j)) (fun i _ => 1048577 - (intOf i).toNat)
  case atStart => exact ⟨k0, hk, rfl, rfl, Nat.le_refl _, fun j h1 h2 => absurd h2 (by omega)⟩
  case round =>
    obtain ⟨k, hk', rfl, rfl, hR⟩ := hrel
    by_cases ha : k + t.size ≤ s.size
    · have hsl : (Instr.slice 9 (.string s) (some (.int .i64 (k : Int))) (some (.int .i64 ((k : Int) + (t.size : Int)))) none).run Tryz.prog wr = .ok (.string (s.extract k (k + t.size))) wr := by
        have := run_slice_string (P := Tryz.prog) wr 9 s .i64 .i64 (k : Int) ((k : Int) + (t.size : Int)) Tryz.underlying9 (by omega) (by omega) (by omega)
        rwa [show ((k : Int)).toNat = k by omega, show ((k : Int) + (t.size : Int)).toNat = k + t.size by omega] at this
      obtain ⟨x, hx⟩ : ∃ x, s.extract k (k + t.size) = x := ⟨_, rfl⟩
      rw [hx] at hsl
      by_cases hxt : x = t
      · have HA := Lib.hid (And.intro ha (hx.trans hxt))
        subst hxt
        clear hx
        go_wp2_with fail
        go_ret
        exact ⟨⟨_, rfl, .inr ⟨k, rfl, hR.out.1, HA.out, hR.out.2⟩⟩, rfl⟩
      · have HA := Lib.hid (fun h : At s t k => hxt (hx.symm.trans h.2))
        have hE : (x.toList == t.toList) = false := by
          rw [beq_eq_false_iff_ne]
          intro h
          rw [toList_data, toList_data] at h
          exact hxt (bytes_ext h)
        clear hx hxt
        go_wp2_with fail
        go_roundw
        case rel =>
          refine ⟨k + 1, by omega, by go_num, trivial, by have := hR.out.1; omega, fun j h1 h2 => ?_⟩
          rcases Nat.lt_succ_iff_lt_or_eq.1 h2 with h3 | rfl
          · exact hR.out.2 j h1 h3
          · exact HA.out
        case measure => simp [intOf]; omega
    · go_wp2_with fail
      go_ret
      refine ⟨⟨_, rfl, .inl ⟨rfl, fun i h1 h2 => ?_⟩⟩, rfl⟩
      by_cases h3 : i < k
      · exact hR.out.2 i h1 h3 h2
      · exact ha (by have := h2.1; omega)
end Go.Proofs.YtfhppajnnbbcjaaGreatDoor
end

section
namespace Go.Proofs.YtfhppajnnbbcjaaGreatDoor
open Go.RowKit

def VagueOK (j : J) : Prop := ∀ (D : Nat → Prop) (ca : List Value) (w : World), (∀ b, D b → All w b) → SRep w D j ca →
  Calls Tryz.prog 36 #[.agg ca.toArray] w fun e w' => e = .returned (.bool false) ∧ Below w.heap.size w w'

/-- behind the call's own box nothing has turned -/
def VRel (w w0 wr : World) : Prop := Below w.heap.size w wr ∧ w.heap.size < wr.heap.size ∧ wr.heap[w.heap.size]? = w0.heap[w.heap.size]?

theorem VRel.step {w w0 wr w1 : World} {o : Obj} (h : VRel w w0 wr) (hb : Below (wr.alloc o).heap.size (wr.alloc o) w1) : VRel w w0 w1 := by
  have h1 : Below wr.heap.size wr w1 := ((Below.refl wr.heap.size wr).alloc (Nat.le_refl _) o).trans (hb.mono (by simp))
  exact ⟨h.1.trans (h1.mono h.1.size), Nat.lt_of_lt_of_le h.2.1 h1.size, (h1.block _ h.2.1).trans h.2.2⟩

set_option maxRecDepth 100000 in
set_option maxHeartbeats 1000000 in
theorem vague_of (j : J) (h1 : ∀ x ∈ j.list, VagueOK x) (h2 : ∀ x ∈ j.vals, VagueOK x) : VagueOK j := by
  intro D ca w hD hj
  obtain ⟨L, K, S, rfl, hL, hK, hS⟩ := hj.cells
  obtain ⟨A1, c1, rfl, hc1, hm1, hr1⟩ := hL
  obtain ⟨A2, c2, rfl, hc2, hm2, hr2⟩ := hS
  unfold maxLen at hm1 hm2
  have hkb := kind_bd j
  have hnew := heap_alloc_new w (.cells #[Value.int .i64 j.kind, .int .i64 j.half, .string j.text, .slice A1 j.list.length c1, K, .slice A2 j.vals.length c2] 26)
  have hbox := Lib.hid hnew
  have hk7 : (j.kind == 7) = false := by simp; omega
  have HD := Lib.hid (And.intro hD (And.intro hr1 (And.intro hr2 (And.intro h1 h2))))
  clear hnew hD hr1 hr2 h1 h2 hj hK hkb
  obtain ⟨w0, hw⟩ : ∃ w0, w0 = w.alloc (.cells #[Value.int .i64 j.kind, .int .i64 j.half, .string j.text, .slice A1 j.list.length c1, K, .slice A2 j.vals.length c2] 26) := ⟨_, rfl⟩
  have hw0 : Hid (VRel w w0 w0) := hw ▸ ⟨(Below.refl _ _).alloc (Nat.le_refl _) _, by simp, rfl⟩
  go_enter Tryz.func36, Tryz.ntmps36
  go_wp2_with fail
  rw [← hw] at hbox ⊢
  go_loopw [10] (fun i wr => ∃ k : Nat, k ≤ j.list.length ∧ i = .int .i64 k ∧ Hid (VRel w w0 wr)) (fun i _ => j.list.length - (intOf i).toNat)
  case atStart => exact ⟨0, Nat.zero_le _, rfl, hw0⟩
  case round =>
    obtain ⟨k, hk, rfl, hR⟩ := hrel
    by_cases ha : k < j.list.length
    · obtain ⟨hD, hr1, hr2, h1, h2⟩ := HD.out
      obtain ⟨hb, hsz, hbk⟩ := hR.out
      obtain ⟨b1, o1, rfl, hlt1, hs1⟩ := hr1 (by omega)
      have hx : j.list[k]? = some j.list[k] := List.getElem?_eq_getElem ha
      obtain ⟨cs1, hl1, hg1, hv1⟩ := (VRow.keep (Same.of_below hb hD) (fun _ h => h) _ _ _ hlt1 hs1).get (toVL_get hx)
      have hD' : ∀ b, D b → b < wr.heap.size := fun b hb' => Nat.lt_of_lt_of_le (hD b hb') hb.size
      have HC := Lib.hid (fun W (hW : Below wr.heap.size wr W) => h1 _ (List.getElem_mem ha) D cs1 W (fun b hb => Nat.lt_of_lt_of_le (hD' b hb) hW.size) (VRep.keep (Same.of_below hW hD') (fun _ h => h) _ _ hv1))
      obtain ⟨B1, d1, B2, d2, B3, d3, rfl⟩ := SRep.six hv1
      have p0 : wr.cell? ⟨b1, o1 + k * 6, none⟩ = _ := hg1 0 _ rfl
      have p1 := hg1 1 _ rfl
      have p2 := hg1 2 _ rfl
      have p3 := hg1 3 _ rfl
      have p4 := hg1 4 _ rfl
      have p5 := hg1 5 _ rfl
      clear hD hr1 hr2 h1 h2 hb hsz hbk hs1 hx hg1 hv1 hD' hlt1
      go_wp2_with fail
      refine (HC.out _ ((Below.refl _ _).alloc (Nat.le_refl _) _)).mono ?_
      rintro e w1 ⟨rfl, hb1⟩
      have HN : Hid (VRel w w0 w1) := hR.out.step hb1
      clear hR HC p0 p1 p2 p3 p4 p5 hb1
      go_wp2_with fail
      go_roundw
      case rel => exact ⟨k + 1, by omega, by go_num, HN⟩
      case measure => simp [intOf]; omega
    · have hbb := hR.out.2.2.trans hbox.out
      have q5 : wr.cell? ⟨w.heap.size, 5, none⟩ = _ := box_cell hbb 5
      clear hbb hw0
      go_wp2_with fail
      clear q5
      go_loopw [20] (fun i wr => ∃ k : Nat, k ≤ j.vals.length ∧ i = .int .i64 k ∧ Hid (VRel w w0 wr)) (fun i _ => j.vals.length - (intOf i).toNat)
      case atStart => exact ⟨0, Nat.zero_le _, rfl, hR⟩
      case round =>
        obtain ⟨k, hk, rfl, hR⟩ := hrel
        by_cases ha : k < j.vals.length
        · obtain ⟨hD, hr1, hr2, h1, h2⟩ := HD.out
          obtain ⟨hb, hsz, hbk⟩ := hR.out
          obtain ⟨b1, o1, rfl, hlt1, hs1⟩ := hr2 (by omega)
          have hx : j.vals[k]? = some j.vals[k] := List.getElem?_eq_getElem ha
          obtain ⟨cs1, hl1, hg1, hv1⟩ := (VRow.keep (Same.of_below hb hD) (fun _ h => h) _ _ _ hlt1 hs1).get (toVL_get hx)
          have hD' : ∀ b, D b → b < wr.heap.size := fun b hb' => Nat.lt_of_lt_of_le (hD b hb') hb.size
          have HC := Lib.hid (fun W (hW : Below wr.heap.size wr W) => h2 _ (List.getElem_mem ha) D cs1 W (fun b hb => Nat.lt_of_lt_of_le (hD' b hb) hW.size) (VRep.keep (Same.of_below hW hD') (fun _ h => h) _ _ hv1))
          obtain ⟨B1, d1, B2, d2, B3, d3, rfl⟩ := SRep.six hv1
          have p0 : wr.cell? ⟨b1, o1 + k * 6, none⟩ = _ := hg1 0 _ rfl
          have p1 := hg1 1 _ rfl
          have p2 := hg1 2 _ rfl
          have p3 := hg1 3 _ rfl
          have p4 := hg1 4 _ rfl
          have p5 := hg1 5 _ rfl
          clear hD hr1 hr2 h1 h2 hb hsz hbk hs1 hx hg1 hv1 hD' hlt1
          go_wp2_with fail
          refine (HC.out _ ((Below.refl _ _).alloc (Nat.le_refl _) _)).mono ?_
          rintro e w1 ⟨rfl, hb1⟩
          have HN : Hid (VRel w w0 w1) := hR.out.step hb1
          clear hR HC p0 p1 p2 p3 p4 p5 hb1
          go_wp2_with fail
          go_roundw
          case rel => exact ⟨k + 1, by omega, by go_num, HN⟩
          case measure => simp [intOf]; omega
        · have hbb := hR.out.2.2.trans hbox.out
          have q0 : wr.cell? ⟨w.heap.size, 0, none⟩ = _ := box_cell hbb 0
          clear hbb
          go_wp2_with fail
          go_ret
          exact ⟨rfl, hR.out.1⟩

mutual
theorem vague : ∀ j : J, VagueOK j
  | .arr l => vague_of _ (vagueL l) (by intro x h; cases h)
  | .obj ks vs => vague_of _ (by intro x h; cases h) (vagueL vs)
  | .null => vague_of _ (by intro x h; cases h) (by intro x h; cases h)
  | .bool _ => vague_of _ (by intro x h; cases h) (by intro x h; cases h)
  | .num _ => vague_of _ (by intro x h; cases h) (by intro x h; cases h)
  | .str _ => vague_of _ (by intro x h; cases h) (by intro x h; cases h)
theorem vagueL : ∀ l : List J, ∀ x ∈ l, VagueOK x
  | [], x, h => by cases h
  | a :: l, x, h => by
    have ha := vague a
    have hl := vagueL l
    rcases List.mem_cons.1 h with rfl | h
    · exact ha
    · exact hl x h
end

set_option maxRecDepth 100000 in
theorem specArray_any (A : Option Addr) (n c : Nat) (w : World) : Calls Tryz.prog 37 #[.slice A n c] w fun e w' => e = .returned (.agg #[.int .i64 5, .int .i64 0, .string noText, .slice A n c, .slice none 0 0, .slice none 0 0]) ∧ Below w.heap.size w w' := by
  go_enter Tryz.func37, Tryz.ntmps37
  go_wp2_with fail
  refine bodyPost_ret (v := .agg #[.int .i64 5, .int .i64 0, .string noText, .slice A n c, .slice none 0 0, .slice none 0 0]) (by simp [results, Tryz.results37, go_sem]; rfl) rfl ?_
  exact ⟨rfl, (Below.refl _ _).alloc (Nat.le_refl _) _⟩
end Go.Proofs.YtfhppajnnbbcjaaGreatDoor
end

section
namespace Go.Proofs.YtfhppajnnbbcjaaGreatDoor
open Go.RowKit

def FromGoPost (j : J) (w : World) (e : Ending) (w' : World) : Prop :=
  ∃ cs, e = .returned (.tuple #[.agg cs.toArray, .bool true]) ∧ SRep w' (Fresh w w') j cs ∧ Below w.heap.size w w'

def FromGoOK (j : J) : Prop := ∀ (D : Nat → Prop) (v : Value) (w : World), j.WF → (∀ b, D b → All w b) → ARep w D j v → Calls Tryz.prog 87 #[v] w (FromGoPost j w)

theorem emp (D : Nat → Prop) (R : Nat → Nat → Prop) : SlAt D 0 (.slice none 0 0) R := ⟨_, _, rfl, Nat.le_refl _, by unfold maxLen; omega, fun h => absurd h (by omega)⟩

theorem fromGo_null : FromGoOK .null := by
  intro D v w wj hD hv
  rw [show v = _ from hv]
  go_enter Tryz.func87, Tryz.ntmps87
  go_wp2_with fail
  refine bodyPost_ret (v := .tuple #[.agg #[.int .i64 0, .int .i64 0, .string noText, .slice none 0 0, .slice none 0 0, .slice none 0 0], .bool true]) (by simp [results, Tryz.results87, go_sem]; rfl) rfl ?_
  exact ⟨_, rfl, ⟨_, _, _, rfl, emp _ _, emp _ _, emp _ _⟩, (Below.refl _ _).alloc (Nat.le_refl _) _⟩

set_option maxRecDepth 100000 in
theorem fromGo_bool (b : Bool) : FromGoOK (.bool b) := by
  intro D v w wj hD hv
  rw [show v = _ from hv]
  cases b
  all_goals
    go_enter Tryz.func87, Tryz.ntmps87
    go_wp2_with fail
  · refine bodyPost_ret (v := .tuple #[.agg #[.int .i64 1, .int .i64 0, .string noText, .slice none 0 0, .slice none 0 0, .slice none 0 0], .bool true]) (by simp [results, Tryz.results87, go_sem]; rfl) rfl ?_
    exact ⟨_, rfl, ⟨_, _, _, rfl, emp _ _, emp _ _, emp _ _⟩, (Below.refl _ _).alloc (Nat.le_refl _) _⟩
  · refine bodyPost_ret (v := .tuple #[.agg #[.int .i64 2, .int .i64 0, .string noText, .slice none 0 0, .slice none 0 0, .slice none 0 0], .bool true]) (by simp [results, Tryz.results87, go_sem]; rfl) rfl ?_
    exact ⟨_, rfl, ⟨_, _, _, rfl, emp _ _, emp _ _, emp _ _⟩, (Below.refl _ _).alloc (Nat.le_refl _) _⟩

set_option maxRecDepth 100000 in
theorem fromGo_str (s : ByteArray) : FromGoOK (.str s) := by
  intro D v w wj hD hv
  rw [show v = _ from hv]
  go_enter Tryz.func87, Tryz.ntmps87
  go_wp2_with fail
  refine bodyPost_ret (v := .tuple #[.agg #[.int .i64 4, .int .i64 0, .string s, .slice none 0 0, .slice none 0 0, .slice none 0 0], .bool true]) (by simp [results, Tryz.results87, go_sem]) rfl ?_
  exact ⟨_, rfl, ⟨_, _, _, rfl, emp _ _, emp _ _, emp _ _⟩, (Below.refl _ _).alloc (Nat.le_refl _) _⟩

set_option maxRecDepth 100000 in
theorem fromGo_int (n : Int) (w : World) (lo : -9007199254740992 ≤ n) (hi : n ≤ 9007199254740992) : Calls Tryz.prog 87 #[.iface 3 (.int .i64 n)] w (FromGoPost (.num (2 * n)) w) := by
  go_enter Tryz.func87, Tryz.ntmps87
  go_wp2_with fail
  refine bodyPost_ret (v := .tuple #[.agg #[.int .i64 3, .int .i64 (2 * n), .string noText, .slice none 0 0, .slice none 0 0, .slice none 0 0], .bool true]) (by simp [results, Tryz.results87, go_sem]; exact ⟨rfl, by omega⟩) rfl ?_
  exact ⟨_, rfl, ⟨_, _, _, rfl, emp _ _, emp _ _, emp _ _⟩, (Below.refl _ _).alloc (Nat.le_refl _) _⟩

/-- what the model's Trunc does, of a datum -/
def truncOf (way : Ieee.Toward) (x : Nat) : Ieee.Datum → Sem Value
  | .nan s t => if FloatKind.f64.format.quiet t = t then pure (.float .f64 x) else do
      let kept ← choose (.extern "math.Floor,Ceil,Trunc,RoundToEven.signallingNaN kept" 2)
      pure (.float .f64 (if kept == 1 then x else FloatKind.f64.encode (.nan s (FloatKind.f64.format.quiet t))))
  | d => pure (.float .f64 (FloatKind.f64.encode (d.integral way)))

theorem toIntegral_eq (name : String) (way : Ieee.Toward) (x : Nat) : Extern.MathFloor.toIntegral name way #[.float .f64 x] = truncOf way x (FloatKind.f64.decode x) := rfl

/-- math.Trunc at a double that is an integer -/
theorem trunc_whole (n : Int) (h0 : n ≠ 0) (h : n.natAbs < 2 ^ 53) (w : World) : Calls Tryz.prog 176 #[.float .f64 (fl n 0)] w fun e w' => e = .returned (.float .f64 (fl n 0)) ∧ w = w' := by
  have hx : ∀ W, (callFunc 209 #[.float .f64 (fl n 0)]).run Tryz.prog W = .ok (.value (.float .f64 (fl n 0))) W := fun W => by
    rw [run_callFunc_extern Tryz.func209 (by kernel_rfl) (by kernel_rfl) (by kernel_rfl) (e := Extern.MathFloor.toIntegral "math.archTrunc" .zero) (by kernel_rfl)]
    rw [toIntegral_eq]
    have hr : FloatKind.f64.decode (fl n 0) = .number (n < 0) (sig n.natAbs) (0 + n.natAbs.log2 - 52) := fl_read h0 h (by omega) (by omega)
    have hw := fl_whole h0 h .zero
    rw [show Ieee.double.read (fl n 0) = _ from hr] at hw
    rw [hr]
    show ((pure (Value.float .f64 (FloatKind.f64.encode (Ieee.Datum.integral .zero _))) : Sem Value).run Tryz.prog W).andThen _ = _
    rw [hw]
    rfl
  go_enter Tryz.func176, Tryz.ntmps176
  go_wp2_with fail
  go_ret
  exact ⟨rfl, rfl⟩

set_option exponentiation.threshold 4000 in
theorem fl_orders {n : Int} (h : n.natAbs < 2 ^ 53) : (Ieee.double.order (fl n 0) 14109777632551763968 = some .gt) ∧ (Ieee.double.order (fl n 0) 4886405595696988160 = some .lt) := by
  have c1 : Ieee.double.read 14109777632551763968 = .number true (2 ^ 52) 10 := by decide
  have c2 : Ieee.double.read 4886405595696988160 = .number false (2 ^ 52) 10 := by decide
  obtain ⟨s, K, p, hr, hp, hv⟩ := fl_data (n := n) (by omega) (e := 0) (by omega) (by omega)
  unfold Ieee.Format.order
  rw [hr, c1, c2, order_at (-1074) hp (by omega), order_at (-1074) hp (by omega), show p - -1074 = p + 1074 by omega, hv]
  have e0 : ((0 : Int) + 1074).toNat = 1074 := rfl
  have e1 : Ieee.signed true (2 ^ 52) ((10 : Int) - -1074).toNat = -4611686018427387904 * 2 ^ 1074 := by
    unfold Ieee.signed
    rw [Nat.shiftLeft_eq, show ((10 : Int) - -1074).toNat = 10 + 1074 from rfl, Nat.pow_add, ← Nat.mul_assoc]
    simp only [if_true]
    rw [Int.natCast_mul, ← Int.neg_mul]
    rfl
  have e2 : Ieee.signed false (2 ^ 52) ((10 : Int) - -1074).toNat = 4611686018427387904 * 2 ^ 1074 := by
    unfold Ieee.signed
    rw [Nat.shiftLeft_eq, show ((10 : Int) - -1074).toNat = 10 + 1074 from rfl, Nat.pow_add, ← Nat.mul_assoc]
    simp only [Bool.false_eq_true, if_false]
    rw [Int.natCast_mul]
    rfl
  rw [e0, e1, e2, compare_scale, compare_scale]
  exact ⟨congrArg some (Int.compare_eq_gt.2 (by omega)), congrArg some (Int.compare_eq_lt.2 (by omega))⟩

set_option maxRecDepth 100000 in
/-- impl.half at a double that is an integer -/
theorem half_any (n : Int) (h0 : n ≠ 0) (h : n.natAbs < 2 ^ 53) (w : World) : Calls Tryz.prog 128 #[.float .f64 (fl n 0)] w fun e w' =>
    e = .returned (.tuple #[.agg #[.int .i64 3, .int .i64 n, .string noText, .slice none 0 0, .slice none 0 0, .slice none 0 0], .bool true]) ∧ Below w.heap.size w w' := by
  have hT := trunc_whole n h0 h
  have HT := Lib.hid hT
  have o1 : (FloatKind.f64.format.order (fl n 0) (fl n 0)) = some .eq := order_self h0 h (by omega) (by omega)
  have o2 : (FloatKind.f64.format.order (fl n 0) 14109777632551763968) = some .gt := (fl_orders h).1
  have o3 : (FloatKind.f64.format.order (fl n 0) 4886405595696988160) = some .lt := (fl_orders h).2
  have b1 : (binOp .neq 87 (.float .f64 (fl n 0)) (.float .f64 (fl n 0))) = pure (.bool false) := by rw [binOp_float_cmp_neq, o1]; rfl
  have hcv : ∀ W, (convert 87 3 (.float .f64 (fl n 0))).run Tryz.prog W = .ok (.int .i64 n) W := fun W => by
    have ht : (FloatKind.f64.decode (fl n 0)).toInt .zero = some n := fl_toInt h0 h .zero
    have e1 : IntKind.i64.min = -9223372036854775808 := rfl
    have e2 : IntKind.i64.max = 9223372036854775807 := rfl
    have hfi : Conv.floatToInt .f64 (fl n 0) .i64 = pure (.int .i64 n) := by
      unfold Conv.floatToInt
      rw [ht]
      simp only []
      rw [if_pos (by rw [e1, e2]; omega)]
    simp [convert, run_underlying Tryz.underlying3, run_underlying Tryz.underlying87, hfi]
  clear hT h0 h
  go_enter Tryz.func128, Tryz.ntmps128
  go_wp2_with (go_at_call 176; refine (HT.out _).mono ?_; rintro e w' ⟨rfl, rfl⟩)
  refine bodyPost_ret (v := .tuple #[.agg #[.int .i64 3, .int .i64 n, .string noText, .slice none 0 0, .slice none 0 0, .slice none 0 0], .bool true]) (by simp [results, Tryz.results128, go_sem]; rfl) rfl ?_
  exact ⟨rfl, (Below.refl _ _).alloc (Nat.le_refl _) _⟩

set_option maxRecDepth 100000 in
theorem fromGo_float (n : Int) (w : World) (h0 : n ≠ 0) (h : n.natAbs < 2 ^ 53) : Calls Tryz.prog 87 #[.iface 87 (.float .f64 (fl n (-1)))] w (FromGoPost (.num n) w) := by
  have hmul : ∀ W, (binOp .mul 87 (.float .f64 4611686018427387904) (.float .f64 (fl n (-1)))).run Tryz.prog W = .ok (.float .f64 (fl n 0)) W := fun W => by
    have := fl_two_mul h0 h
    simp only [binOp, Op.floatArith]
    simp [FloatKind.format, this]
  have HH := Lib.hid (half_any n h0 h)
  clear h0 h
  go_enter Tryz.func87, Tryz.ntmps87
  go_wp2_with fail
  refine (HH.out _).mono ?_
  rintro e w1 ⟨rfl, hb1⟩
  have hbox := box_new hb1 (by simp)
  have hsz := box_lt hbox
  have hbb := Lib.hid (((Below.refl w.heap.size w).alloc (Nat.le_refl _) _).trans (hb1.mono (by simp)))
  have f0 := box_frozen hbox
  have c00 : w1.cell? ⟨w.heap.size, 0, none⟩ = _ := box_cell hbox 0
  have c01 : w1.cell? ⟨w.heap.size, 1, none⟩ = _ := box_cell hbox 1
  have c02 : w1.cell? ⟨w.heap.size, 2, none⟩ = _ := box_cell hbox 2
  have c03 : w1.cell? ⟨w.heap.size, 3, none⟩ = _ := box_cell hbox 3
  have c04 : w1.cell? ⟨w.heap.size, 4, none⟩ = _ := box_cell hbox 4
  have c05 : w1.cell? ⟨w.heap.size, 5, none⟩ = _ := box_cell hbox 5
  clear hbox hb1
  go_wp2_with fail
  refine bodyPost_ret (v := .tuple #[.agg #[.int .i64 3, .int .i64 n, .string noText, .slice none 0 0, .slice none 0 0, .slice none 0 0], .bool true]) (by simp [results, Tryz.results87, go_sem, c00, c01, c02, c03, c04, c05]) rfl ?_
  refine ⟨_, rfl, ⟨_, _, _, rfl, emp _ _, emp _ _, emp _ _⟩, ?_⟩
  repeat (refine Below.setCell ?_ (by simp) _)
  exact hbb.out

theorem fromGo_num (h : Int) : FromGoOK (.num h) := by
  intro D v w wj hD hv
  rw [show v = _ from hv]
  simp only [J.WF] at wj
  unfold numV
  by_cases he : h % 2 = 0
  · rw [if_pos he]
    have := fromGo_int (h / 2) w (by omega) (by omega)
    rwa [show 2 * (h / 2) = h by omega] at this
  · rw [if_neg he]
    exact fromGo_float h w (by omega) (by omega)

end Go.Proofs.YtfhppajnnbbcjaaGreatDoor
end

section
namespace Go.Proofs.YtfhppajnnbbcjaaGreatDoor
open Go.RowKit

def NumPost (i : Int) (w : World) (e : Ending) (w' : World) : Prop := e = .returned (.agg #[.int .i64 3, .int .i64 (2 * i), .string noText, .slice none 0 0, .slice none 0 0, .slice none 0 0]) ∧ Below w.heap.size w w'
def StrPost (s : ByteArray) (w : World) (e : Ending) (w' : World) : Prop := e = .returned (.agg #[.int .i64 4, .int .i64 0, .string s, .slice none 0 0, .slice none 0 0, .slice none 0 0]) ∧ Below w.heap.size w w'

set_option maxRecDepth 100000 in
theorem Num_any (i : Int) (w : World) (h0 : -4611686018427387904 ≤ i) (h1 : i ≤ 4611686018427387903) : Calls Tryz.prog 25 #[.int .i64 i] w (NumPost i w) := by
  have hw : IntKind.i64.wrap (2 * i) = 2 * i := by rw [IntKind.wrap_i64]; omega
  go_enter Tryz.func25, Tryz.ntmps25
  go_wp2_with fail
  refine bodyPost_ret (v := .agg #[.int .i64 3, .int .i64 (2 * i), .string noText, .slice none 0 0, .slice none 0 0, .slice none 0 0]) (by simp [results, Tryz.results25, go_sem]; rfl) rfl ?_
  refine ⟨rfl, ?_⟩
  repeat (refine Below.setCell ?_ (by simp) _)
  exact (Below.refl _ _).alloc (Nat.le_refl _) _

set_option maxRecDepth 100000 in
theorem Str_any (s : ByteArray) (w : World) : Calls Tryz.prog 34 #[.string s] w (StrPost s w) := by
  go_enter Tryz.func34, Tryz.ntmps34
  go_wp2_with fail
  refine bodyPost_ret (v := .agg #[.int .i64 4, .int .i64 0, .string s, .slice none 0 0, .slice none 0 0, .slice none 0 0]) (by simp [results, Tryz.results34, go_sem]) rfl ?_
  refine ⟨rfl, ?_⟩
  repeat (refine Below.setCell ?_ (by simp) _)
  exact (Below.refl _ _).alloc (Nat.le_refl _) _

end Go.Proofs.YtfhppajnnbbcjaaGreatDoor
end
