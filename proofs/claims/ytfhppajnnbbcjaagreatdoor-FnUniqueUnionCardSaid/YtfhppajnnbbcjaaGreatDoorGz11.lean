/- Walks: gojq.keys: the keys of a map, sorted.
   Walks: gojq.funcKeys at a map: the sorted keys, as a slice of any.
   Walks: gojq.binopTypeSwitch at Compare's callbacks: which of them is called, with what.
   Walks: gojq.Compare at arrays.
   Walks: gojq.Compare at objects.
   gojq.Compare answers as the reference's order does, at all JSON values.
   Walks: sort.Search; the closure that funcBsearch hands to it.
   Walks: gojq.funcBsearch. -/
import Derived.Test.YtfhppajnnbbcjaaGreatDoorGz10
import Derived.Test.YtfhppajnnbbcjaaGreatDoorGz9
import Derived.Sort.KeysCollected
import Derived.Sort.OwnSorted
import Derived.Maps.RangeWalk
import Derived.Maps.OwnSet
import Derived.Test.YtfhppajnnbbcjaaGreatDoorGz1
import Derived.Test.YtfhppajnnbbcjaaGreatDoorGz2
import Derived.Shelf.Abstract
import Derived.Test.YtfhppajnnbbcjaaGreatDoorGz4
import Derived.Test.YtfhppajnnbbcjaaGreatDoorGz3

section
namespace Go.Proofs.YtfhppajnnbbcjaaGreatDoor
open Go.RowKit Go.Maps Go.Sort

theorem keyed9 : Keyed Tryz.prog 9 := string_keyed Tryz.underlying9

theorem size_mapD {ks : List ByteArray} {xs : List Value} (hl : ks.length = xs.length) : Maps.size (mapD ks xs) = ks.length := by
  show (entriesOf ks xs).length = _
  simp [entriesOf]
  omega

/-- what make([]string, n) does -/
theorem make_str (n : Nat) (hn : n ≤ 1048576) (w : World) : ∃ c : Array Value, c.size = n ∧ (Instr.makeSlice 24 (.int .i64 (n : Int)) (.int .i64 (n : Int))).run Tryz.prog w = .ok (.slice (some ⟨w.heap.size, 0, none⟩) n n) (w.alloc (.cells c 9)) := by
  obtain ⟨i, hi, hz, hs, hb⟩ := info_parts Tryz.info9
  exact ⟨_, by rw [hs]; simp [madeCells], run_make_rowN 24 9 i (.string ⟨#[]⟩) Tryz.underlying24 hi hz .i64 .i64 n n (Nat.le_refl _) (by rw [hb]; omega) (by omega) w⟩

/-- sort.Strings -/
theorem sortStr_any (blk cap : Nat) (ss : List (List UInt8)) (w : World) (hH : Holds encStr w blk 0 ss.toArray) (hblk : blk < w.heap.size) (hsz : ss.length < 4611686018427387904) :
    Calls Tryz.prog 255 #[.slice (some ⟨blk, 0, none⟩) ss.length cap] w fun e w' =>
      e = .returned (.tuple #[]) ∧ ∃ n os, w' = grow (putRow encStr (Sort.ahead w n) blk 0 (ss.mergeSort fun x y => decide (x ≤ y)).toArray) os := by
  have H := Lib.hid (AnyM.slices_Sort_string Tryz.sort212 blk 0 cap ss w hH hblk hsz)
  clear hH hblk hsz
  go_enter Tryz.func255, Tryz.ntmps255
  go_wp2_with (go_at_call 212; refine H.out.mono ?_; rintro e w' ⟨rfl, n, os, rfl⟩)
  refine bodyPost_end (v := .tuple #[]) (by simp [results, Tryz.results255, go_sem]) rfl ?_
  exact ⟨rfl, _, _, rfl⟩

theorem take_set_succ {α : Type} {l : List α} {k : Nat} {x : α} (h : k < l.length) : (l.set k x).take (k + 1) = l.take k ++ [x] := by
  rw [List.take_add_one, List.take_set_of_le (Nat.le_refl k), List.getElem?_set_self h]
  rfl

/-- the row that is being filled -/
def Filled (w : World) (B n : Nat) (ss : List (List UInt8)) : Prop := ∃ cur : Array Value, w.heap[B]? = some (.cells cur 9 (0, 0)) ∧ cur.size = n ∧ cur.toList.take ss.length = ss.map encStr

set_option maxRecDepth 100000 in
set_option maxHeartbeats 1000000 in
theorem gkeys_any (r n : Nat) (ks : List ByteArray) (xs : List Value) (w : World) (hm : MapIs w r n ks xs) (hl : ks.length = xs.length) (hs : ks.Pairwise (fun a b => cmpB a b < 0)) (hn : ks.length ≤ 1048576) :
    Calls Tryz.prog 218 #[.map (some r)] w fun e w' => e = .returned (.slice (some ⟨w.heap.size, 0, none⟩) ks.length ks.length) ∧ StrRow w' w.heap.size 0 ks ∧ w.heap.size < w'.heap.size ∧ Below w.heap.size w w' := by
  obtain ⟨cur0, hc0, hmk⟩ := make_str ks.length hn w
  have hbl := World.ownsMap.lt hm
  have e1 : (w.alloc (.cells cur0 9)).heap.size = w.heap.size + 1 := by simp
  have hsz := size_mapD hl
  have hown := Lib.hid hm
  have HSS := Lib.hid hs
  have hnew := heap_alloc_new w (.cells cur0 9)
  have hC0 := Lib.hid (And.intro hc0 hnew)
  have HL := Lib.hid hl
  clear hc0 hnew hm hs hl
  go_enter Tryz.func218, Tryz.ntmps218
  go_wp2_with (first | (at_len; refine wpList_len_own _ rfl _ 91 rfl 9 20 Tryz.underlying91 Rh r n (mapD ks xs) rfl hown.out ?_; rw [hsz]) | (at_range; refine wpList_range_own _ rfl _ 91 rfl 9 20 keyed9 Tryz.underlying91 Rh r n (mapD ks xs) rfl (World.ownsMap.alloc hown.out _) ?_; intro w0 hrg0 hg0 hs0))
  rw [e1] at hrg0 hs0 ⊢
  go_frame

  go_loopw [4] (fun i wr => ∃ (left : Lit → Bool) (cnt : Nat) (ss : List (List UInt8)), i = .int .i64 ss.length ∧ wr.ranges Tryz.prog 9 Rh r (w.heap.size + 1) n (mapD ks xs) left cnt ∧ ss.length + cnt ≤ ks.length ∧
      Filled wr w.heap.size ks.length ss ∧ Collected (mapD ks xs) left ss ∧ Below w.heap.size w wr)
    (fun _ wr => wr.rangeLeft r (w.heap.size + 1))
  case atStart =>
    refine ⟨_, _, [], rfl, hrg0, by simp [hsz], ⟨cur0, (hg0.block _ (by simp) (by simp)).trans hC0.out.2, hC0.out.1, rfl⟩, Collected.start _, ((Below.refl _ _).alloc (Nat.le_refl _) _).grown hg0 (by simp) (fun j hj => by cases hj)⟩
  case round =>
    obtain ⟨left, cnt, ss, rfl, hrg, hcs, hF, hC, hnx⟩ := hrel
    go_wp2_with (at_next; refine wpList_next_ranges _ rfl _ rfl 9 keyed9 Rh encStr id (fun key kl hk => by obtain ⟨x, hx, _⟩ := Maps.keyOf_str Tryz.underlying9 hk; exact ⟨x, hx⟩) (fun v y hv => ⟨v, rfl⟩) r (w.heap.size + 1) n _ _ _ rfl hrg ?_ ?_)
    · intro hc0 hl0
      have hperm := hC.perm hown.out keyed9 Tryz.underlying9 hl0
      rw [strKeys_mapD HL.out] at hperm
      have hle : ss.length = ks.length := by rw [hperm.length_eq]; simp
      have hts : ss.mergeSort (fun x y => decide (x ≤ y)) = ks.map fun k => k.data.toList := (Go.mergeSort_of_perm hperm).trans (sorted_keys HSS.out)
      obtain ⟨cur, hb, hc, ht⟩ := hF
      have hc1 := sortStr_any w.heap.size ks.length ss wr (holds_of_block hb ht) (box_lt hb) (by omega)
      rw [hle] at hc1
      have H1 := Lib.hid hc1
      have HB := Lib.hid (And.intro hb (And.intro hc (And.intro hts hle)))
      clear hc1 hb hc ht hts hle hperm hC hrg hcs
      go_wp2_with (go_at_call 255; refine H1.out.mono ?_; rintro e w' ⟨rfl, nn, os, rfl⟩)
      go_ret
      obtain ⟨hb, hc, hts, hle⟩ := HB.out
      have hrow := ownsRow_sorted (n := nn) (os := os) (ts := ss.mergeSort (fun x y => decide (x ≤ y))) (by simp) (Nat.le_refl _) hb (by omega : ss.length ≤ ks.length) (by unfold maxLen; omega) (by simpa using hc)
      have hg := grownBy_sorted (w := wr) (g := w.heap.size) (n := nn) (os := os) (ss.mergeSort (fun x y => decide (x ≤ y))).toArray
      rw [hts] at hrow hg ⊢
      refine ⟨rfl, fun i s hi => ?_, Nat.lt_of_lt_of_le (box_lt hb) hg.size, hnx.grown hg hnx.size (fun j hj => by cases hj; exact Nat.le_refl _)⟩
      have := hrow.cellAt i (by have := (List.getElem?_eq_some_iff.1 hi).1; omega)
      rw [Nat.zero_add, this, List.map_map, List.getElem?_map, hi]
      rfl
    · intro x c kl yd yp w2 cnt2 hkey hlk hv hat hrg2 hlt hg2 hs2 hen
      obtain ⟨x', ex, rfl, -⟩ := Maps.keyOf_str Tryz.underlying9 hkey
      obtain rfl : x = x' := encStr_inj ex
      obtain ⟨cur, hb, hc, ht⟩ := hF
      have hb2 : w2.heap[w.heap.size]? = some (.cells cur 9 (0, 0)) := (hg2.block _ (box_lt hb) (by simp)).trans hb
      have fr := box_frozen hb2 ss.length
      have cl := box_cell hb2 ss.length
      have hlt2 : ss.length < ks.length := by omega
      obtain ⟨cv, hcv⟩ : ∃ cv, cur[ss.length]? = some cv := ⟨_, Array.getElem?_eq_getElem (by omega)⟩
      rw [hcv] at cl
      clear hcv
      have hC' := hC.step hlk hat
      have hb' := hnx.grown hg2 hnx.size (fun j hj => by cases hj; exact Nat.le_succ _)
      have HH := Lib.hid (And.intro hb2 (And.intro hc (And.intro ht (And.intro hC' (And.intro hb' (And.intro hrg2 (And.intro hlt hrg)))))))
      clear hs2 hb2 hc ht hC' hb' hC hnx hrg hat hlk hkey hv hg2 hb ex
      go_wp2_with fail
      obtain ⟨hb2, hc, ht, hC', hb', hrg2, hlt, hrg⟩ := HH.out
      have hg3 : w2.grownBy (w2.setCell ⟨w.heap.size, ss.length, none⟩ (encStr x)) (some w.heap.size) := ⟨rfl, rfl, rfl, by simp, fun k _ hk => heap_setCell_other w2 ⟨w.heap.size, ss.length, none⟩ k _ (fun e => hk (by simp [e]))⟩
      have hrg3 := hrg2.kept hg3 (fun e => by have := Option.some.inj e; omega) (fun e => by have := Option.some.inj e; omega)
      go_roundw
      case rel =>
        refine ⟨_, cnt2, ss ++ [x], by simp, hrg3, by simp; omega, ⟨cur.setIfInBounds ss.length (encStr x), heap_setCell_same w2 _ _ cur 9 _ hb2, by simpa using hc, ?_⟩, hC', hb'.grown hg3 hb'.size (fun j hj => by cases hj; exact Nat.le_refl _)⟩
        rw [Array.toList_setIfInBounds, List.length_append, List.length_singleton, List.map_append, List.map_singleton, ← ht, take_set_succ (by simp [hc]; omega)]
      case measure => rw [hrg3.left_eq, hrg.left_eq]; exact hlt
end Go.Proofs.YtfhppajnnbbcjaaGreatDoor
end

section
namespace Go.Proofs.YtfhppajnnbbcjaaGreatDoor
open Go.RowKit Go.Maps Go.Sort

/-- the row of keys is filled up to k; the keys' own row lies behind it -/
def KRel (ks : List ByteArray) (w wr : World) (k : Nat) : Prop :=
  Below w.heap.size w wr ∧ StrRow wr (w.heap.size + 1) 0 ks ∧ w.heap.size + 1 < wr.heap.size ∧ ∃ cur, wr.heap[w.heap.size]? = some (.cells cur 20 (0, 0)) ∧ cur.size = ks.length ∧
    ∀ i s, i < k → ks[i]? = some s → cur[i]? = some (.iface 9 (.string s))

def GKeysPost (ks : List ByteArray) (w : World) (e : Ending) (w' : World) : Prop :=
  ∃ S, e = .returned (.iface 88 S) ∧ SlAt (fun b => w.heap.size ≤ b ∧ b < w'.heap.size) ks.length S (fun b o => ARow w' (fun b => w.heap.size ≤ b ∧ b < w'.heap.size) b (ks.map J.str) o) ∧ Below w.heap.size w w'

set_option maxRecDepth 100000 in
set_option maxHeartbeats 1000000 in
theorem funcKeys_any (r n : Nat) (ks : List ByteArray) (xs : List Value) (w : World) (hm : MapIs w r n ks xs) (hl : ks.length = xs.length) (hs : ks.Pairwise (fun a b => cmpB a b < 0)) (hn : ks.length ≤ 1048576) :
    Calls Tryz.prog 188 #[.iface 91 (.map (some r))] w (GKeysPost ks w) := by
  obtain ⟨cur0, hc0, hmk⟩ := make_any ks.length hn w
  have hrl := World.ownsMap.lt hm
  have hb0 : Below w.heap.size w (w.alloc (.cells cur0 20)) := (Below.refl _ _).alloc (Nat.le_refl _) _
  have hm1 : MapIs (w.alloc (.cells cur0 20)) r n ks xs := World.ownsMap.alloc hm _
  have HK := Lib.hid (gkeys_any r n ks xs _ hm1 hl hs hn)
  have hsz := size_mapD hl
  have hown := Lib.hid hm
  have hnew := Lib.hid (heap_alloc_new w (.cells cur0 20))
  have hb0 := Lib.hid hb0
  clear hm hm1 hl hs
  go_enter Tryz.func188, Tryz.ntmps188
  go_wp2_with (first
    | (at_len; refine wpList_len_own _ rfl _ 91 rfl 9 20 Tryz.underlying91 Rh r n (mapD ks xs) rfl hown.out ?_; rw [hsz])
    | (go_at_call 218; refine HK.out.mono ?_; rintro e w1 ⟨rfl, hst, hlt, hb⟩))
  rw [World.size_alloc] at hst hlt hb
  have HR : Hid (KRel ks w w1 0) := ⟨hb0.out.trans (hb.mono (Nat.le_succ _)), hst, hlt, cur0, (hb.block _ (Nat.lt_succ_self _)).trans hnew.out, hc0, fun i s hi => absurd hi (by omega)⟩
  clear hst hb hlt HK hc0
  go_wp2_with fail
  go_loopw [44] (fun i wr => ∃ k : Nat, k ≤ ks.length ∧ i = .int .i64 k ∧ Hid (KRel ks w wr k)) (fun i _ => ks.length - (intOf i).toNat)
  case atStart => exact ⟨0, Nat.zero_le _, rfl, HR⟩
  case round =>
    obtain ⟨k, hk, rfl, hR⟩ := hrel
    clear HR
    by_cases ha : k < ks.length
    · obtain ⟨hb, hst, hlt, cur, hcur, hcs, hels⟩ := hR.out
      have hx : ks[k]? = some ks[k] := List.getElem?_eq_getElem ha
      have p1 := hst k _ hx
      rw [Nat.zero_add] at p1
      have hcell : wr.cell? ⟨w.heap.size, k, none⟩ = some (cur[k]'(by omega)) := by
        rw [cell_of_row _ _ _ _ _ _ hcur]
        exact Array.getElem?_eq_getElem _
      have hfz : wr.frozen? ⟨w.heap.size, k, none⟩ = false := by simp [World.frozen?, hcur]
      have HN : Hid (KRel ks w (wr.setCell ⟨w.heap.size, k, none⟩ (.iface 9 (.string ks[k]))) (k + 1)) := by
        refine ⟨hb.setCell (Nat.le_refl _) _, fun i s hi => ?_, by simpa [World.setCell] using hlt, cur.setIfInBounds k _, heap_setCell_same _ _ _ _ _ _ hcur, by simp [hcs], fun i x hi hix => ?_⟩
        · rw [World.cell?_of_block (heap_setCell_other wr ⟨w.heap.size, k, none⟩ (w.heap.size + 1) _ (by simp))]
          exact hst i s hi
        · rcases Nat.lt_succ_iff_lt_or_eq.1 hi with hlt' | rfl
          · rw [Array.getElem?_setIfInBounds_ne (by omega)]
            exact hels i x hlt' hix
          · rw [hx] at hix
            obtain rfl := Option.some.inj hix
            rw [Array.getElem?_setIfInBounds_self_of_lt (by omega)]
      clear hb hst hlt hcur hels hR hx hnew hb0
      go_wp2_with fail
      go_roundw
      case rel => exact ⟨k + 1, by omega, by go_num, HN⟩
      case measure => simp [intOf]; omega
    · have hk' : k = ks.length := by omega
      have HR' : Hid (KRel ks w wr ks.length) := hk' ▸ hR
      clear hR hnew hb0
      subst hk'
      go_wp2_with fail
      go_ret
      obtain ⟨hb, hst, hlt, cur, hcur, hcs, hels⟩ := HR'.out
      refine ⟨_, rfl, ⟨_, _, rfl, Nat.le_refl _, by unfold maxLen; omega, fun hn => ⟨w.heap.size, 0, rfl, ⟨Nat.le_refl _, by omega⟩, ARow.mk fun i x hi => ?_⟩⟩, hb⟩
      rw [List.getElem?_map] at hi
      obtain ⟨s, hs, rfl⟩ := Option.map_eq_some_iff.1 hi
      refine ⟨_, ?_, rfl⟩
      rw [cell_of_row _ _ _ _ _ _ hcur, Nat.zero_add]
      exact hels i s (List.getElem?_eq_some_iff.1 hs).1 hs
end Go.Proofs.YtfhppajnnbbcjaaGreatDoor
end

section
namespace Go.Proofs.YtfhppajnnbbcjaaGreatDoor
open Go.RowKit

/-- a Go value's outer shape, with the class that the order goes by -/
inductive Shp : Value → Nat → Prop
  | nil : Shp .nilIface 0
  | bool (b : Bool) : Shp (.iface 4 (.bool b)) 1
  | int (i : Int) : Shp (.iface 3 (.int .i64 i)) 3
  | fl (b : Nat) : Shp (.iface 87 (.float .f64 b)) 3
  | str (s : ByteArray) : Shp (.iface 9 (.string s)) 4
  | arr (S : Value) : Shp (.iface 88 S) 5
  | map (m : Value) : Shp (.iface 91 m) 6

/-- the callback that a pair of values is handed to -/
inductive Cb : Value → Value → FuncId → Value → Value → Prop
  | ints (i j : Int) : Cb (.iface 3 (.int .i64 i)) (.iface 3 (.int .i64 j)) 181 (.int .i64 i) (.int .i64 j)
  | intFl (i : Int) (b : Nat) : Cb (.iface 3 (.int .i64 i)) (.iface 87 (.float .f64 b)) 182 (.float .f64 (fl i 0)) (.float .f64 b)
  | flInt (i : Int) (b : Nat) : Cb (.iface 87 (.float .f64 b)) (.iface 3 (.int .i64 i)) 182 (.float .f64 b) (.float .f64 (fl i 0))
  | flFl (a b : Nat) : Cb (.iface 87 (.float .f64 a)) (.iface 87 (.float .f64 b)) 182 (.float .f64 a) (.float .f64 b)
  | strs (a b : ByteArray) : Cb (.iface 9 (.string a)) (.iface 9 (.string b)) 185 (.string a) (.string b)
  | arrs (a b : Value) : Cb (.iface 88 a) (.iface 88 b) 186 a b
  | maps (a b : Value) : Cb (.iface 91 a) (.iface 91 b) 187 a b
  | other {a b : Value} {k n : Nat} (ha : Shp a k) (hb : Shp b n) (h : k ≠ n ∨ k < 3) : Cb a b 189 a b

theorem conv_fl (i : Int) (W : World) : (convert 3 87 (.int .i64 i)).run Tryz.prog W = .ok (.float .f64 (fl i 0)) W := by
  simp [convert, run_underlying Tryz.underlying3, run_underlying Tryz.underlying87, Conv.intToFloat]; rfl

/-- what a comparison answers -/
def CmpP (P : Int → World → Prop) (e : Ending) (w' : World) : Prop := ∃ n, e = .returned (.int .i64 n) ∧ P n w'

abbrev swArgs (v u : Value) : Array Value := #[v, u, .func (.func 181) #[] #[], .func (.func 182) #[] #[], .func (.func 184) #[] #[], .func (.func 185) #[] #[], .func (.func 186) #[] #[], .func (.func 187) #[] #[], .func (.func 189) #[] #[]]

set_option maxRecDepth 100000 in
set_option maxHeartbeats 4000000 in
theorem sw_any {v u : Value} {f : FuncId} {a b : Value} (hcb : Cb v u f a b) (P : Int → World → Prop) (w : World) (h : Calls Tryz.prog f #[a, b] w (CmpP P)) : Calls Tryz.prog 180 (swArgs v u) w (CmpP P) := by
  have H := Lib.hid h
  have hconv := conv_fl
  clear h
  cases hcb with
  | ints i j =>
    go_enter Tryz.func180, Tryz.ntmps180
    go_wp2_with (go_at_call 181; refine H.out.mono ?_; rintro e w' ⟨n, rfl, hp⟩)
    go_ret
    exact ⟨_, rfl, hp⟩
  | intFl i b =>
    go_enter Tryz.func180, Tryz.ntmps180
    go_wp2_with (go_at_call 182; refine H.out.mono ?_; rintro e w' ⟨n, rfl, hp⟩)
    go_ret
    exact ⟨_, rfl, hp⟩
  | flInt i b =>
    go_enter Tryz.func180, Tryz.ntmps180
    go_wp2_with (go_at_call 182; refine H.out.mono ?_; rintro e w' ⟨n, rfl, hp⟩)
    go_ret
    exact ⟨_, rfl, hp⟩
  | flFl a b =>
    go_enter Tryz.func180, Tryz.ntmps180
    go_wp2_with (go_at_call 182; refine H.out.mono ?_; rintro e w' ⟨n, rfl, hp⟩)
    go_ret
    exact ⟨_, rfl, hp⟩
  | strs a b =>
    go_enter Tryz.func180, Tryz.ntmps180
    go_wp2_with (go_at_call 185; refine H.out.mono ?_; rintro e w' ⟨n, rfl, hp⟩)
    go_ret
    exact ⟨_, rfl, hp⟩
  | arrs a b =>
    go_enter Tryz.func180, Tryz.ntmps180
    go_wp2_with (go_at_call 186; refine H.out.mono ?_; rintro e w' ⟨n, rfl, hp⟩)
    go_ret
    exact ⟨_, rfl, hp⟩
  | maps a b =>
    go_enter Tryz.func180, Tryz.ntmps180
    go_wp2_with (go_at_call 187; refine H.out.mono ?_; rintro e w' ⟨n, rfl, hp⟩)
    go_ret
    exact ⟨_, rfl, hp⟩
  | other ha hb h =>
    cases ha <;> cases hb
    all_goals first
      | (exact absurd h (by decide))
      | (go_enter Tryz.func180, Tryz.ntmps180
         go_wp2_with (go_at_call 189; refine H.out.mono ?_; rintro e w' ⟨n, rfl, hp⟩)
         go_ret
         exact ⟨_, rfl, hp⟩)

/-- gojq.Compare, one step -/
theorem cmp_step {v u : Value} {f : FuncId} {a b : Value} (hcb : Cb v u f a b) (P : Int → World → Prop) (w : World) (h : Calls Tryz.prog f #[a, b] w (CmpP P)) : Calls Tryz.prog 133 #[v, u] w (CmpP P) := by
  have H := Lib.hid (sw_any hcb P w h)
  clear h hcb
  go_enter Tryz.func133, Tryz.ntmps133
  go_wp2_with (go_at_call 180; refine H.out.mono ?_; rintro e w' ⟨n, rfl, hp⟩)
  go_ret
  exact ⟨_, rfl, hp⟩
end Go.Proofs.YtfhppajnnbbcjaaGreatDoor
end

section
namespace Go.Proofs.YtfhppajnnbbcjaaGreatDoor
open Go.RowKit

theorem sgn_sgn (n : Int) : sgn (sgn n) = sgn n := by
  have h := sgn_bd n
  rcases (by omega : sgn n = -1 ∨ sgn n = 0 ∨ sgn n = 1) with h | h | h <;> rw [h] <;> rfl
theorem sgn_cmpB (a b : ByteArray) : sgn (cmpB a b) = cmpB a b := by unfold cmpB; split <;> (try split) <;> rfl
theorem sgn_cmpJ (x y : J) : sgn (cmpJ x y) = cmpJ x y := by
  by_cases h : x.kind = y.kind
  · rw [cmpJ_same h]
    split
    · exact sgn_sgn _
    · split
      · exact sgn_cmpB _ _
      · split
        · exact sgn_sgn _
        · split
          · split <;> exact sgn_sgn _
          · rfl
  · rw [cmpJ_kind h]; exact sgn_sgn _

/-- gojq.Compare answers as the reference's order does -/
def GCmp (x : J) : Prop := ∀ (y : J) (D : Nat → Prop) (v u : Value) (w : World), x.WF → y.WF → (∀ b, D b → All w b) → ARep w D x v → ARep w D y u →
  Calls Tryz.prog 133 #[v, u] w (CmpP fun n w' => n = cmpJ x y ∧ Below w.heap.size w w')

set_option maxRecDepth 100000 in
theorem cmpArr_of (a b : List J) (hel : ∀ x ∈ a, GCmp x) (D : Nat → Prop) (u v : Value) (w : World) (wa : WFL a) (wb : WFL b) (hB : ∀ b, D b → All w b) (hu : SlAt D a.length u (fun b o => ARow w D b a o)) (hv : SlAt D b.length v (fun b' o => ARow w D b' b o)) :
    Calls Tryz.prog 186 #[u, v] w (CmpP fun n w' => n = sgn (cmpL a b) ∧ Below w.heap.size w w') := by
  obtain ⟨A1, c1, rfl, hc1, hm1, hr1⟩ := hu
  obtain ⟨A2, c2, rfl, hc2, hm2, hr2⟩ := hv
  unfold maxLen at hm1 hm2
  go_enter Tryz.func186, Tryz.ntmps186
  go_wp2_with fail
  go_loopw [12] (fun i wr => ∃ k : Nat, k ≤ a.length ∧ k ≤ b.length ∧ i = .int .i64 k ∧ Hid (cmpL a b = cmpL (a.drop k) (b.drop k)) ∧ Below w.heap.size w wr) (fun i _ => a.length - (intOf i).toNat)
  case atStart => exact ⟨0, Nat.zero_le _, Nat.zero_le _, rfl, rfl, Below.refl _ _⟩
  case round =>
    obtain ⟨k, hk1, hk2, rfl, he, hb⟩ := hrel
    have hsame := Same.of_below hb hB
    have hsz := hb.size
    by_cases ha : k < a.length
    · by_cases hb' : k < b.length
      · obtain ⟨b1, o1, rfl, hlt1, hs1⟩ := hr1 (by omega)
        obtain ⟨b2, o2, rfl, hlt2, hs2⟩ := hr2 (by omega)
        have hx : a[k]? = some a[k] := List.getElem?_eq_getElem ha
        have hy : b[k]? = some b[k] := List.getElem?_eq_getElem hb'
        obtain ⟨x1, p1, hv1⟩ := (ARow.keep hsame (fun _ h => h) _ _ _ hlt1 hs1).get hx
        obtain ⟨x2, p2, hv2⟩ := (ARow.keep hsame (fun _ h => h) _ _ _ hlt2 hs2).get hy
        have hD' : ∀ b, D b → b < wr.heap.size := fun b hb => Nat.lt_of_lt_of_le (hB b hb) hsz
        have HC := Lib.hid (fun W (hW : Below wr.heap.size wr W) => hel a[k] (List.getElem_mem _) b[k] D x1 x2 W (WFL_iff.1 wa _ (List.getElem_mem _)) (WFL_iff.1 wb _ (List.getElem_mem _)) (fun b hb => Nat.lt_of_lt_of_le (hD' b hb) hW.size) (ARep.keep (Same.of_below hW hD') (fun _ h => h) _ _ hv1) (ARep.keep (Same.of_below hW hD') (fun _ h => h) _ _ hv2))
        have HE := Lib.hid (he.out.trans (cmpL_drop hx hy))
        clear hs1 hs2 he hr1 hr2 hx hy hv1 hv2 hsame hel wa wb hD'
        go_wp2_with fail
        refine region_tail 8 (by kernel_rfl) (by kernel_rfl) ?_
        simp only [List.take_succ_cons, List.take_zero, List.drop_succ_cons, List.drop_zero]
        repeat still_step
        refine wpStill_nil ?_
        go_wp2_with fail
        refine (HC.out _ ?_).mono ?_
        · exact (Below.refl _ _).drew
        rintro e w1 ⟨n, rfl, rfl, hb1⟩
        have hb2 : Below w.heap.size w w1 := hb.drew.trans (hb1.mono hsz)
        by_cases hc : cmpJ a[k] b[k] = 0
        · have HZ := Lib.hid hc
          have hc' : (cmpJ a[k] b[k] != 0) = false := by simp [hc]
          clear hc hb1
          go_wp2_with fail
          go_roundw
          case rel => exact ⟨k + 1, by omega, by omega, by go_num, by rw [HE.out, if_pos HZ.out]; rfl, hb2⟩
          case measure => simp [intOf]; omega
        · have HZ := Lib.hid hc
          have hc' : (cmpJ a[k] b[k] != 0) = true := by simp [hc]
          clear hc hb1
          go_wp2_with fail
          go_ret
          exact ⟨_, ret_int rfl, by rw [HE.out, if_neg HZ.out, sgn_cmpJ], hb2⟩
      · have hb'' : k = b.length := by omega
        have HE := Lib.hid (he.out.trans (cmpL_end hk1 hk2 (.inr hb'')))
        have H3 := Lib.hid (fun W => cmpInt_any (a.length : Int) (b.length : Int) W)
        clear hb'' hr1 hr2 he wa wb hel hsame
        go_wp2_with (go_at_call 181; refine (H3.out _).mono ?_; rintro e w' ⟨rfl, rfl⟩)
        go_ret
        exact ⟨_, rfl, by rw [HE.out], hb⟩
    · have ha' : k = a.length := by omega
      have HE := Lib.hid (he.out.trans (cmpL_end hk1 hk2 (.inl ha')))
      have H3 := Lib.hid (fun W => cmpInt_any (a.length : Int) (b.length : Int) W)
      clear ha' hr1 hr2 he wa wb hel hsame
      go_wp2_with (go_at_call 181; refine (H3.out _).mono ?_; rintro e w' ⟨rfl, rfl⟩)
      go_ret
      exact ⟨_, rfl, by rw [HE.out], hb⟩
end Go.Proofs.YtfhppajnnbbcjaaGreatDoor
end

section
namespace Go.Proofs.YtfhppajnnbbcjaaGreatDoor
open Go.RowKit

theorem cmpL_strs : ∀ (a b : List ByteArray), cmpL (a.map J.str) (b.map J.str) = cmpK a b
  | [], b => by simp [cmpL, cmpK]
  | x :: a, [] => by simp [cmpL, cmpK]
  | x :: a, y :: b => by
    simp only [List.map_cons, cmpL, cmpK, cmpL_strs a b]
    rfl

theorem sgn_eq_zero {n : Int} (h : sgn n = 0) : n = 0 := sgn_zero_iff.1 h

set_option maxRecDepth 100000 in
set_option maxHeartbeats 1000000 in
theorem cmpObj_of (ks : List ByteArray) (vs : List J) (ks' : List ByteArray) (vs' : List J) (hel : ∀ x ∈ vs, GCmp x) (hks : GCmp (.arr (ks.map J.str))) (D : Nat → Prop) (r r' : Nat) (xs xs' : List Value) (w : World) (wa : (J.obj ks vs).WF) (wb : (J.obj ks' vs').WF)
    (hB : ∀ b, D b → All w b) (hr : D r) (hr' : D r') (hm : MapIs w r ks.length ks xs) (hm' : MapIs w r' ks'.length ks' xs') (hl : ks.length = xs.length) (hl' : ks'.length = xs'.length) (ha : AList w D vs xs) (ha' : AList w D vs' xs') :
    Calls Tryz.prog 187 #[.map (some r), .map (some r')] w (CmpP fun n w' => n = cmpJ (.obj ks vs) (.obj ks' vs') ∧ Below w.heap.size w w') := by
  simp only [J.WF] at wa wb
  have H1 := Lib.hid (funcKeys_any r _ ks xs w hm hl wa.2.2.2.1 wa.2.1)
  have H2 := Lib.hid (fun W (hb : Below w.heap.size w W) => funcKeys_any r' _ ks' xs' W (hm'.keep (Same.of_below hb hB) hr') hl' wb.2.2.2.1 wb.2.1)
  have H3 := Lib.hid (fun W v u (hv : ARep W (All W) (.arr (ks.map J.str)) v) (hu : ARep W (All W) (.arr (ks'.map J.str)) u) => hks (.arr (ks'.map J.str)) (All W) v u W
    (by simp only [J.WF, List.length_map]; exact ⟨wa.2.1, WFL_iff.2 fun x hx => by obtain ⟨s, hs, rfl⟩ := List.mem_map.1 hx; exact wa.2.2.1 s hs⟩)
    (by simp only [J.WF, List.length_map]; exact ⟨wb.2.1, WFL_iff.2 fun x hx => by obtain ⟨s, hs, rfl⟩ := List.mem_map.1 hx; exact wb.2.2.1 s hs⟩) (fun _ h => h) hv hu)
  have HM := Lib.hid (fun W (hb : Below w.heap.size w W) => And.intro (hm.keep (Same.of_below hb hB) hr) (And.intro (hm'.keep (Same.of_below hb hB) hr') (And.intro (AList.keep (Same.of_below hb hB) (fun _ h => h) _ _ ha) (AList.keep (Same.of_below hb hB) (fun _ h => h) _ _ ha'))))
  have HW := Lib.hid (And.intro wa (And.intro wb (And.intro hl (And.intro hl' (And.intro hB hel)))))
  clear hm hm' ha ha' wa wb hl hl' hks hel hr hr'
  go_enter Tryz.func187, Tryz.ntmps187
  go_wp2_with (first
    | (go_at_call 188; refine H1.out.mono ?_; rintro e w1 ⟨S1, rfl, hs1, hb1⟩; clear H1)
    | (go_at_call 188; refine (H2.out _ hb1).mono ?_; rintro e w2 ⟨S2, rfl, hs2, hb2⟩; clear H2))
  have hb12 : Below w.heap.size w w2 := hb1.trans (hb2.mono hb1.size)
  have hsame : Same (fun b => w.heap.size ≤ b ∧ b < w1.heap.size) w1 w2 := Same.of_below hb2 fun b hb => hb.2
  have hs1' : SlAt (All w2) ks.length S1 (fun b o => ARow w2 (All w2) b (ks.map J.str) o) := hs1.mono (fun b hb => Nat.lt_of_lt_of_le hb.2 hb2.size) fun b o hb hr => ARow.keep hsame (fun b hb => Nat.lt_of_lt_of_le hb.2 hb2.size) _ _ _ hb hr
  have hs2' : SlAt (All w2) ks'.length S2 (fun b o => ARow w2 (All w2) b (ks'.map J.str) o) := hs2.mono (fun b hb => hb.2) fun b o hb hr => ARow.keep (fun _ _ => rfl) (fun b hb => hb.2) _ _ _ hb hr
  have H4 := Lib.hid (H3.out w2 (.iface 88 S1) (.iface 88 S2) ⟨S1, rfl, by rw [List.length_map]; exact hs1'⟩ ⟨S2, rfl, by rw [List.length_map]; exact hs2'⟩)
  obtain ⟨A, c, rfl, hc, hmx, hrow⟩ := hs1'
  have HA := Lib.hid hrow
  clear hs1 hs2 hs2' hrow hsame hb1 hb2 H3
  unfold maxLen at hmx
  have hJ : cmpJ (.arr (ks.map J.str)) (.arr (ks'.map J.str)) = sgn (cmpK ks ks') := by rw [cmpJ, cmpL_strs]
  have hO : cmpJ (.obj ks vs) (.obj ks' vs') = if cmpK ks ks' = 0 then sgn (cmpL vs vs') else sgn (cmpK ks ks') := by rw [cmpJ]
  rw [hJ] at H4
  have HO := Lib.hid (And.intro hO hb12)
  clear hJ hO hb12
  go_wp2_with (go_at_call 133; refine H4.out.mono ?_; rintro e w3 ⟨nn, rfl, hnn, hb3⟩; replace hnn := Lib.hid hnn; replace hb3 := Lib.hid hb3; clear H4)
  · have h0 : (nn != 0) = true := by assumption
    have hz : cmpK ks ks' ≠ 0 := fun h => by rw [hnn.out, h] at h0; exact absurd h0 (by decide)
    go_ret
    exact ⟨_, rfl, hnn.out.trans (HO.out.1.trans (if_neg hz)).symm, HO.out.2.trans (hb3.out.mono HO.out.2.size)⟩
  · have h0 : (nn != 0) = false := by assumption
    have hz : cmpK ks ks' = 0 := sgn_eq_zero (hnn.out.symm.trans (by simpa using h0))
    have hE := Lib.hid (cmpK_eq _ _ hz)
    have HO' := Lib.hid (HO.out.1.trans (if_pos hz))
    have hb13 := Lib.hid (HO.out.2.trans (hb3.out.mono HO.out.2.size))
    rw [h0]
    clear hz h0
    go_loopw [26] (fun i wr => ∃ k : Nat, k ≤ ks.length ∧ i = .int .i64 k ∧ Hid (cmpL vs vs' = cmpL (vs.drop k) (vs'.drop k) ∧ Below w3.heap.size w3 wr)) (fun i _ => ks.length - (intOf i).toNat)
    case atStart => exact ⟨0, Nat.zero_le _, rfl, rfl, Below.refl _ _⟩
    case round =>
      obtain ⟨k, hk, rfl, hR⟩ := hrel
      by_cases hlt : k < ks.length
      · obtain ⟨b, o, rfl, hb, hrow⟩ := HA.out (by omega)
        obtain ⟨wa, wb, hl, hl', hB, hel⟩ := HW.out
        obtain ⟨hm, hm', ha, ha'⟩ := HM.out wr (hb13.out.trans (hR.out.2.mono hb13.out.size))
        have hs : ks[k]? = some ks[k] := List.getElem?_eq_getElem hlt
        have hs' : ks'[k]? = some ks[k] := hE.out ▸ hs
        have hlen : ks'.length = ks.length := by rw [hE.out]
        obtain ⟨jx, hx⟩ : ∃ j, vs[k]? = some j := ⟨_, List.getElem?_eq_getElem (by omega)⟩
        obtain ⟨jy, hy⟩ : ∃ j, vs'[k]? = some j := ⟨_, List.getElem?_eq_getElem (by omega)⟩
        obtain ⟨x1, hx1, hax⟩ := ha.get hx
        obtain ⟨x2, hx2, hay⟩ := ha'.get hy
        have hz := wa.2.2.1 _ (List.getElem_mem hlt)
        have l1 := (hm.hit wa.2.2.2.1 hs hx1 hz).1
        have l2 := (hm'.hit wb.2.2.2.1 hs' hx2 hz).1
        have hsame : Same (All w2) w2 wr := fun b hb => (hR.out.2.block b (Nat.lt_of_lt_of_le hb hb3.out.size)).trans (hb3.out.block b hb)
        obtain ⟨kv, p1, hkv⟩ := (ARow.keep hsame (fun _ h => h) _ _ _ hb hrow).get (x := J.str ks[k]) (i := k) (by rw [List.getElem?_map, hs]; rfl)
        rw [show kv = .iface 9 (.string ks[k]) from hkv] at p1
        have hD' : ∀ b, D b → b < wr.heap.size := fun b hb => Nat.lt_of_lt_of_le (Nat.lt_of_lt_of_le (hB b hb) hb13.out.size) hR.out.2.size
        have HC := Lib.hid (fun W (hW : Below wr.heap.size wr W) => hel jx (List.mem_of_getElem? hx) jy D x1 x2 W (WFL_iff.1 wa.2.2.2.2 _ (List.mem_of_getElem? hx)) (WFL_iff.1 wb.2.2.2.2 _ (List.mem_of_getElem? hy)) (fun b hb => Nat.lt_of_lt_of_le (hD' b hb) hW.size) (ARep.keep (Same.of_below hW hD') (fun _ h => h) _ _ hax) (ARep.keep (Same.of_below hW hD') (fun _ h => h) _ _ hay))
        have HE := Lib.hid (hR.out.1.trans (cmpL_drop hx hy))
        have hbr := Lib.hid hR.out.2
        have l1' : (Instr.lookup 91 (.map (some r)) (.string ks[k]) false).run Tryz.prog wr.drew = .ok x1 wr.drew := ((hm.keep (D := All wr) (Same.of_below (Below.refl wr.heap.size wr).drew fun b h => h) (World.ownsMap.lt hm)).hit wa.2.2.2.1 hs hx1 hz).1
        have l2' : (Instr.lookup 91 (.map (some r')) (.string ks[k]) false).run Tryz.prog wr.drew = .ok x2 wr.drew := ((hm'.keep (D := All wr) (Same.of_below (Below.refl wr.heap.size wr).drew fun b h => h) (World.ownsMap.lt hm')).hit wb.2.2.2.1 hs' hx2 hz).1
        clear hD' hax hay hx hy hs hs' hlen hm hm' ha ha' hx1 hx2 hz hsame hkv hrow hb wa wb hl hl' hel hR l1 l2 HA
        clear hB
        go_wp2_with fail
        refine region_tail 8 (by kernel_rfl) (by kernel_rfl) ?_
        simp only [List.take_succ_cons, List.take_zero, List.drop_succ_cons, List.drop_zero]
        repeat still_step
        refine wpStill_nil ?_
        go_wp2_with fail
        refine (HC.out _ ?_).mono ?_
        · exact (Below.refl _ _).drew
        rintro e w4 ⟨n, rfl, hn, hb4⟩
        have hb5 : Below w3.heap.size w3 w4 := hbr.out.drew.trans (hb4.mono hbr.out.size)
        by_cases hc0 : n = 0
        · subst hc0
          have HN := Lib.hid hn.symm
          clear hn hb4
          go_wp2_with fail
          go_roundw
          case rel => exact ⟨k + 1, by omega, by go_num, ⟨by rw [HE.out, if_pos HN.out], hb5⟩⟩
          case measure => simp [intOf]; omega
        · have hc' : (n != 0) = true := by simp [hc0]
          have HN := Lib.hid (And.intro hc0 hn)
          clear hc0 hn hb4
          go_wp2_with fail
          go_ret
          refine ⟨_, rfl, ?_, hb13.out.trans (hb5.mono hb13.out.size)⟩
          rw [HO'.out, HE.out, if_neg (fun h => HN.out.1 (HN.out.2.trans h)), sgn_cmpJ]
          exact HN.out.2
      · have hk' : k = ks.length := by omega
        obtain ⟨wa, wb, -⟩ := HW.out
        have hE0 : cmpL vs vs' = 0 := by
          rw [hR.out.1, List.drop_eq_nil_of_le (by omega), List.drop_eq_nil_of_le (by have := congrArg List.length hE.out; omega)]
          rfl
        have HZ := Lib.hid hE0
        have hbr := Lib.hid hR.out.2
        clear wa wb hE0 hR
        subst hk'
        go_wp2_with fail
        go_ret
        exact ⟨_, rfl, by rw [HO'.out, HZ.out]; rfl, hb13.out.trans (hbr.out.mono hb13.out.size)⟩
end Go.Proofs.YtfhppajnnbbcjaaGreatDoor
end

section
namespace Go.Proofs.YtfhppajnnbbcjaaGreatDoor
open Go.RowKit

def J.cls : J → Nat
  | .null => 0
  | .bool _ => 1
  | .num _ => 3
  | .str _ => 4
  | .arr _ => 5
  | .obj _ _ => 6

theorem shp_of {w : World} {D : Nat → Prop} {x : J} {v : Value} (h : ARep w D x v) : Shp v x.cls := by
  cases x with
  | null => rw [show v = _ from h]; exact .nil
  | bool b => rw [show v = _ from h]; exact .bool b
  | num n =>
    rw [show v = _ from h]
    unfold numV
    split
    · exact .int _
    · exact .fl _
  | str s => rw [show v = _ from h]; exact .str s
  | arr l => obtain ⟨S, rfl, -⟩ := h; exact .arr S
  | obj ks vs => obtain ⟨r, xs, rfl, -⟩ := h; exact .map _

theorem cmpJ_other {x y : J} (h : x.cls ≠ y.cls ∨ x.cls < 3) : cmpJ x y = sgn (x.kind - y.kind) := by
  cases x <;> cases y <;> first
    | rfl
    | (simp [J.cls] at h)

theorem gcmp_other (x y : J) (h : x.cls ≠ y.cls ∨ x.cls < 3) (D : Nat → Prop) (v u : Value) (w : World) (hv : ARep w D x v) (hu : ARep w D y u) : Calls Tryz.prog 133 #[v, u] w (CmpP fun n w' => n = cmpJ x y ∧ Below w.heap.size w w') := by
  refine cmp_step (.other (shp_of hv) (shp_of hu) h) _ w ?_
  refine (cmpKinds_any x y D v u w hv hu).mono ?_
  rintro e w' ⟨rfl, rfl⟩
  exact ⟨_, rfl, (cmpJ_other h).symm, Below.refl _ _⟩

theorem fl_order_self {n : Int} (h : n.natAbs ≤ 2 ^ 53) (e : Int) (h1 : e = 0 ∨ e = -1) : Ieee.double.order (fl n e) (fl n e) = some .eq := by
  rcases h1 with rfl | rfl
  · rw [order_wholes h h]
    exact congrArg some (Int.compare_eq_eq.2 rfl)
  · rw [order_halves h h]
    exact congrArg some (Int.compare_eq_eq.2 rfl)

theorem gcmp_num (a b : Int) (wa : (J.num a).WF) (wb : (J.num b).WF) (w : World) : Calls Tryz.prog 133 #[numV a, numV b] w (CmpP fun n w' => n = cmpJ (.num a) (.num b) ∧ Below w.heap.size w w') := by
  simp only [J.WF] at wa wb
  have hJ : cmpJ (.num a) (.num b) = sgn (a - b) := by rw [cmpJ]
  rw [hJ]
  unfold numV
  by_cases ha : a % 2 = 0
  · rw [if_pos ha]
    by_cases hb : b % 2 = 0
    · rw [if_pos hb]
      refine cmp_step (.ints _ _) _ w ((cmpInt_any _ _ w).mono ?_)
      rintro e w' ⟨rfl, rfl⟩
      refine ⟨_, rfl, ?_, Below.refl _ _⟩
      unfold sgn
      split <;> split <;> (try split) <;> (try split) <;> omega
    · rw [if_neg hb]
      refine cmp_step (.intFl _ _) _ w ((flCmp_any _ _ _ w (order_whole_half (x := a / 2) (y := b) (by omega) (by omega)) (fl_order_self (by omega) 0 (.inl rfl))).mono ?_)
      rintro e w' ⟨rfl, rfl⟩
      exact ⟨_, rfl, by rw [ordI_compare, show 2 * (a / 2) - b = a - b by omega], Below.refl _ _⟩
  · rw [if_neg ha]
    by_cases hb : b % 2 = 0
    · rw [if_pos hb]
      refine cmp_step (.flInt _ _) _ w ((flCmp_any _ _ _ w (order_half_whole (x := a) (y := b / 2) (by omega) (by omega)) (fl_order_self (by omega) (-1) (.inr rfl))).mono ?_)
      rintro e w' ⟨rfl, rfl⟩
      exact ⟨_, rfl, by rw [ordI_compare, show a - 2 * (b / 2) = a - b by omega], Below.refl _ _⟩
    · rw [if_neg hb]
      refine cmp_step (.flFl _ _) _ w ((flCmp_any _ _ _ w (order_halves (x := a) (y := b) (by omega) (by omega)) (fl_order_self (by omega) (-1) (.inr rfl))).mono ?_)
      rintro e w' ⟨rfl, rfl⟩
      exact ⟨_, rfl, by rw [ordI_compare], Below.refl _ _⟩

theorem gcmp_str (s : ByteArray) : GCmp (.str s) := by
  intro y D v u w wx wy hB hv hu
  cases y with
  | str t =>
    rw [show v = _ from hv, show u = _ from hu]
    refine cmp_step (.strs _ _) _ w ((cmpStr_any _ _ w).mono ?_)
    rintro e w' ⟨rfl, rfl⟩
    exact ⟨_, rfl, by rw [cmpJ], Below.refl _ _⟩
  | _ => exact gcmp_other _ _ (by simp [J.cls]) D v u w hv hu

theorem gcmp_arr (l : List J) (hel : ∀ x ∈ l, GCmp x) : GCmp (.arr l) := by
  intro y D v u w wx wy hB hv hu
  cases y with
  | arr m =>
    obtain ⟨S, rfl, hS⟩ := hv
    obtain ⟨T, rfl, hT⟩ := hu
    simp only [J.WF] at wx wy
    have hJ : cmpJ (.arr l) (.arr m) = sgn (cmpL l m) := by rw [cmpJ]
    rw [hJ]
    exact cmp_step (.arrs _ _) _ w (cmpArr_of l m hel D S T w wx.2 wy.2 hB hS hT)
  | _ => exact gcmp_other _ _ (by simp [J.cls]) D v u w hv hu

theorem gcmp_obj (ks : List ByteArray) (vs : List J) (hel : ∀ x ∈ vs, GCmp x) : GCmp (.obj ks vs) := by
  intro y D v u w wx wy hB hv hu
  cases y with
  | obj ks' vs' =>
    obtain ⟨r, xs, rfl, hr, hm, hl, ha⟩ := hv
    obtain ⟨r', xs', rfl, hr', hm', hl', ha'⟩ := hu
    exact cmp_step (.maps _ _) _ w (cmpObj_of ks vs ks' vs' hel (gcmp_arr _ fun x hx => by obtain ⟨s, -, rfl⟩ := List.mem_map.1 hx; exact gcmp_str s) D r r' xs xs' w wx wy hB hr hr' hm hm' hl hl' ha ha')
  | _ => exact gcmp_other _ _ (by simp [J.cls]) D v u w hv hu

mutual
theorem gcmp : ∀ x : J, GCmp x
  | .null => fun y D v u w _ _ _ hv hu => gcmp_other _ _ (.inr (by decide)) D v u w hv hu
  | .bool b => fun y D v u w _ _ _ hv hu => gcmp_other _ _ (.inr (by simp [J.cls])) D v u w hv hu
  | .num a => fun y D v u w wx wy _ hv hu => by
    cases y with
    | num b => rw [show v = _ from hv, show u = _ from hu]; exact gcmp_num a b wx wy w
    | _ => exact gcmp_other _ _ (by simp [J.cls]) D v u w hv hu
  | .str s => gcmp_str s
  | .arr l => gcmp_arr l (gcmpL l)
  | .obj ks vs => gcmp_obj ks vs (gcmpL vs)
theorem gcmpL : ∀ l : List J, ∀ x ∈ l, GCmp x
  | [], x, h => by cases h
  | a :: l, x, h => by
    have ha := gcmp a
    have hl := gcmpL l
    rcases List.mem_cons.1 h with rfl | h
    · exact ha
    · exact hl x h
end

/-- gojq.Compare at two JSON values -/
theorem compare_any (x y : J) (D : Nat → Prop) (v u : Value) (w : World) (wx : x.WF) (wy : y.WF) (hB : ∀ b, D b → All w b) (hv : ARep w D x v) (hu : ARep w D y u) :
    Calls Tryz.prog 133 #[v, u] w fun e w' => e = .returned (.int .i64 (cmpJ x y)) ∧ Below w.heap.size w w' := by
  refine (gcmp x y D v u w wx wy hB hv hu).mono ?_
  rintro e w' ⟨n, rfl, rfl, hb⟩
  exact ⟨rfl, hb⟩
end Go.Proofs.YtfhppajnnbbcjaaGreatDoor
end

section
namespace Go.Proofs.YtfhppajnnbbcjaaGreatDoor
open Go.RowKit

def SearchPost (p : Nat → Bool) (n : Nat) (w : World) (e : Ending) (w' : World) : Prop := ∃ i : Nat, e = .returned (.int .i64 i) ∧ i ≤ n ∧ (i = 0 ∨ p (i - 1) = false) ∧ (i = n ∨ p i = true) ∧ Below w.heap.size w w'
def PredPost (b : Bool) (w : World) (e : Ending) (w' : World) : Prop := e = .returned (.bool b) ∧ Below w.heap.size w w'

set_option maxRecDepth 100000 in
theorem search_any (g : FuncId) (lb : Array Value) (p : Nat → Bool) (n : Nat) (w : World) (hn : n ≤ 1099511627776) (eg : ∀ args w, (callFunc g args).run Tryz.prog w = .ok (.enter g args) w)
    (hp : ∀ W i, Below w.heap.size w W → i < n → Calls Tryz.prog g (#[.int .i64 ((i : Nat) : Int)] ++ lb) W (PredPost (p i) W)) :
    Calls Tryz.prog 153 #[.int .i64 n, .func (.func g) #[] lb] w (SearchPost p n w) := by
  have HP := Lib.hid (And.intro hp eg)
  clear hp eg
  go_enter Tryz.func153, Tryz.ntmps153
  go_wp2_with fail
  go_loopw [5, 6] (fun vi vj wr => ∃ i j : Nat, i ≤ j ∧ j ≤ n ∧ vi = .int .i64 i ∧ vj = .int .i64 j ∧ Hid (i = 0 ∨ p (i - 1) = false) ∧ Hid (j = n ∨ p j = true) ∧ Hid (Below w.heap.size w wr)) (fun i j _ => (intOf j).toNat - (intOf i).toNat)
  case atStart => exact ⟨0, n, Nat.zero_le _, Nat.le_refl _, rfl, rfl, .inl rfl, .inl rfl, Below.refl _ _⟩
  case round =>
    obtain ⟨i, j, hij, hjn, rfl, rfl, hlo, hhi, hR⟩ := hrel
    by_cases hlt : i < j
    · have eg := HP.out.2
      obtain ⟨c, hc1, hc2, e2⟩ : ∃ c : Nat, i ≤ c ∧ c < j ∧ ((i : Int) + (j : Int)) / 2 = (c : Int) := ⟨(i + j) / 2, by omega, by omega, by omega⟩
      have HC := Lib.hid (HP.out.1 wr c hR.out (by omega))
      cases hpc : p c with
      | true =>
        rw [hpc] at HC
        have HH := Lib.hid (show c = n ∨ p c = true from .inr hpc)
        clear hpc
        go_wp2_with fail
        refine HC.out.mono ?_
        rintro e w1 ⟨rfl, hb1⟩
        have HK := Lib.hid (hR.out.trans (hb1.mono hR.out.size))
        clear hb1 HC hR eg hhi
        go_wp2_with fail
        clear e2
        go_roundw
        case rel => exact ⟨i, c, hc1, by omega, rfl, rfl, hlo, HH, HK⟩
        case measure => simp [intOf]; omega
      | false =>
        rw [hpc] at HC
        have HL := Lib.hid (show c + 1 = 0 ∨ p (c + 1 - 1) = false from .inr (by rw [Nat.add_sub_cancel]; exact hpc))
        clear hpc
        go_wp2_with fail
        refine HC.out.mono ?_
        rintro e w1 ⟨rfl, hb1⟩
        have HK := Lib.hid (hR.out.trans (hb1.mono hR.out.size))
        clear hb1 HC hR eg hlo
        go_wp2_with fail
        clear e2
        go_roundw
        case rel => exact ⟨c + 1, j, by omega, hjn, by go_num, rfl, HL, hhi, HK⟩
        case measure => simp [intOf]; omega
    · have hij' : i = j := by omega
      subst hij'
      go_wp2_with fail
      go_ret
      exact ⟨i, rfl, hjn, hlo.out, hhi.out, hR.out⟩

set_option maxRecDepth 100000 in
set_option maxHeartbeats 1000000 in
theorem bsClosure_any (l : List J) (y : J) (D : Nat → Prop) (S u : Value) (i bv bt : Nat) (W : World) (wl : WFL l) (wy : y.WF) (hi : i < l.length) (hn : l.length ≤ 1048576) (hD : ∀ b, D b → All W b)
    (hbv : W.heap[bv]? = some (.cells #[S] 88 (0, 0))) (hbt : W.heap[bt]? = some (.cells #[u] 20 (0, 0))) (hS : SlAt D l.length S (fun b o => ARow W D b l o)) (hu : ARep W D y u) :
    Calls Tryz.prog 154 #[.int .i64 i, .pointer (some ⟨bv, 0, none⟩), .pointer (some ⟨bt, 0, none⟩)] W (PredPost (decide (0 ≤ cmpJ (l[i]'hi) y)) W) := by
  obtain ⟨A, c, rfl, hc, hm, hr⟩ := hS
  unfold maxLen at hm
  obtain ⟨b, o, rfl, hb, hrow⟩ := hr (by omega)
  obtain ⟨x, hx⟩ : ∃ x, l[i]'hi = x := ⟨_, rfl⟩
  obtain ⟨v, hcell, hv⟩ := hrow.get (show l[i]? = some x by rw [List.getElem?_eq_getElem hi, hx])
  rw [hx]
  have wx : x.WF := by rw [← hx]; exact WFL_iff.1 wl _ (List.getElem_mem _)
  have HC := Lib.hid (compare_any x y D v u W.drew wx wy hD (ARep.keep (show Same D W W.drew from fun _ _ => rfl) (fun _ h => h) _ _ hv) (ARep.keep (show Same D W W.drew from fun _ _ => rfl) (fun _ h => h) _ _ hu))
  have c0 : W.cell? ⟨bv, 0, none⟩ = _ := box_cell hbv 0
  have c1 : W.cell? ⟨bt, 0, none⟩ = _ := box_cell hbt 0
  clear hr hrow hv hu hbv hbt wl wy wx hx hD hb
  go_enter Tryz.func154, Tryz.ntmps154
  go_wp2_with fail
  refine region_tail 5 (by kernel_rfl) (by kernel_rfl) ?_
  simp only [List.take_succ_cons, List.take_zero, List.drop_succ_cons, List.drop_zero]
  repeat still_step
  refine wpStill_nil ?_
  go_wp2_with fail
  refine HC.out.mono ?_
  rintro e w1 ⟨rfl, hb1⟩
  have HB := Lib.hid ((Below.refl W.heap.size W).drew.trans hb1)
  clear hb1 HC c0 c1 hcell
  go_wp2_with fail
  go_ret
  exact ⟨rfl, HB.out⟩
end Go.Proofs.YtfhppajnnbbcjaaGreatDoor
end

section
namespace Go.Proofs.YtfhppajnnbbcjaaGreatDoor
open Go.RowKit

abbrev elemJ (l : List J) (i : Nat) : J := l.getD i .null

/-- where y stands in l, or would stand -/
def BsAt (l : List J) (y : J) (i : Nat) : Prop := i ≤ l.length ∧ (i = 0 ∨ cmpJ (elemJ l (i - 1)) y < 0) ∧ (i = l.length ∨ 0 ≤ cmpJ (elemJ l i) y)
def bsAns (l : List J) (y : J) (i : Nat) : Int := if i < l.length ∧ cmpJ (elemJ l i) y = 0 then i else -(i : Int) - 1
theorem bs_ret {n m : Int} (h : m = n) : Ending.returned (.iface 3 (.int .i64 n)) = .returned (.iface 3 (.int .i64 m)) := by rw [h]
def BsPost (l : List J) (y : J) (w : World) (e : Ending) (w' : World) : Prop := ∃ i, BsAt l y i ∧ e = .returned (.iface 3 (.int .i64 (bsAns l y i))) ∧ Below w.heap.size w w'

theorem elemJ_get {l : List J} {i : Nat} (h : i < l.length) : elemJ l i = l[i] := by
  unfold elemJ
  rw [List.getD_eq_getElem?_getD, List.getElem?_eq_getElem h]
  rfl

theorem alloc2b {w W0 : World} {o1 o2 : Obj} (h : (w.alloc o1).alloc o2 = W0) : Below w.heap.size w W0 ∧ W0.heap.size = w.heap.size + 2 ∧ W0.heap[w.heap.size]? = some o1 ∧ W0.heap[w.heap.size + 1]? = some o2 := by
  subst h
  refine ⟨((Below.refl _ _).alloc (Nat.le_refl _) _).alloc (by simp) _, by simp, ?_, ?_⟩
  · rw [Below.heap_alloc _ _ _ (by simp)]; exact heap_alloc_new _ _
  · exact heap_alloc_new1 _ _ _

set_option maxRecDepth 100000 in
set_option maxHeartbeats 2000000 in
theorem gBsearch_any (l : List J) (y : J) (D : Nat → Prop) (S u : Value) (w : World) (wl : WFL l) (wy : y.WF) (hn : l.length ≤ 1048576) (hD : ∀ b, D b → All w b) (hS : SlAt D l.length S (fun b o => ARow w D b l o)) (hu : ARep w D y u) :
    Calls Tryz.prog 100 #[.iface 88 S, u] w (BsPost l y w) := by
  have hS0 := hS
  obtain ⟨A, c, rfl, hc, hm, hr⟩ := hS
  unfold maxLen at hm
  have HX := Lib.hid (And.intro hS0 (And.intro hu (And.intro wl (And.intro wy hD))))
  have hsh := ARep.shape hu
  clear hr hu wl wy hD hS0
  rcases hsh with rfl | ⟨ut, uu, rfl⟩
  · go_enter Tryz.func100, Tryz.ntmps100
    go_wp2_with fail
    generalize hW : (World.alloc _ _).alloc _ = W0
    have H2 := Lib.hid (alloc2b hW)
    clear hW
    have HS := Lib.hid (search_any 154 #[.pointer (some ⟨w.heap.size + 1, 0, none⟩), .pointer (some ⟨w.heap.size, 0, none⟩)] (fun i => decide (0 ≤ cmpJ (elemJ l i) y)) l.length W0 (by omega) (Go.Proofs.enters_of Tryz.func154 (by kernel_rfl) rfl) (fun W i hW hi => by
      have hbw := H2.out.1.trans (hW.mono H2.out.1.size)
      have hs : Same D w W := Same.of_below hbw HX.out.2.2.2.2
      have := bsClosure_any l y D (.slice A l.length c) .nilIface i (w.heap.size + 1) w.heap.size W HX.out.2.2.1 HX.out.2.2.2.1 hi hn (fun b hb => Nat.lt_of_lt_of_le (HX.out.2.2.2.2 b hb) hbw.size)
        ((hW.block _ (box_lt H2.out.2.2.2)).trans H2.out.2.2.2) ((hW.block _ (box_lt H2.out.2.2.1)).trans H2.out.2.2.1) (HX.out.1.mono (fun _ h => h) fun b o hb hr => ARow.keep hs (fun _ h => h) _ _ _ hb hr) (ARep.keep hs (fun _ h => h) _ _ HX.out.2.1)
      rw [← elemJ_get hi] at this
      exact this))
    refine HS.out.mono ?_
    clear HS
    rintro e w1 ⟨i, rfl, hin, hlo, hhi, hb1⟩
    have HA := Lib.hid (show BsAt l y i from ⟨hin, by
      rcases hlo with h | h
      · exact .inl h
      · exact .inr (by simpa using h), by
      rcases hhi with h | h
      · exact .inl h
      · exact .inr (by simpa using h)⟩)
    have hbw := H2.out.1.trans (hb1.mono H2.out.1.size)
    have HB := Lib.hid hbw
    have c0 : w1.cell? ⟨w.heap.size + 1, 0, none⟩ = _ := box_cell ((hb1.block _ (box_lt H2.out.2.2.2)).trans H2.out.2.2.2) 0
    have c1 : w1.cell? ⟨w.heap.size, 0, none⟩ = _ := box_cell ((hb1.block _ (box_lt H2.out.2.2.1)).trans H2.out.2.2.1) 0
    clear hlo hhi hb1 H2
    by_cases hlt : i < l.length
    · have hs : Same D w w1 := Same.of_below hbw HX.out.2.2.2.2
      obtain ⟨b, o, rfl, hb, hrow⟩ : ∃ b o, A = some ⟨b, o, none⟩ ∧ D b ∧ ARow w D b l o := by
        obtain ⟨A', c', he, -, -, hr⟩ := HX.out.1
        obtain ⟨b, o, hA, hb, hr2⟩ := hr (by omega)
        obtain ⟨rfl, -, -⟩ := Value.slice.inj he
        exact ⟨b, o, hA, hb, hr2⟩
      obtain ⟨v, hcell, hv⟩ := (ARow.keep hs (fun _ h => h) _ _ _ hb hrow).get (show l[i]? = some (elemJ l i) by rw [List.getElem?_eq_getElem hlt, elemJ_get hlt])
      have hwx : (elemJ l i).WF := by rw [elemJ_get hlt]; exact WFL_iff.1 HX.out.2.2.1 _ (List.getElem_mem _)
      have HC := Lib.hid (compare_any (elemJ l i) y D v .nilIface w1.drew hwx HX.out.2.2.2.1 (fun b hb => Nat.lt_of_lt_of_le (HX.out.2.2.2.2 b hb) hbw.size) (ARep.keep (show Same D w1 w1.drew from fun _ _ => rfl) (fun _ h => h) _ _ hv) (ARep.keep (show Same D w w1.drew from hs) (fun _ h => h) _ _ HX.out.2.1))
      obtain ⟨nn, hnn⟩ : ∃ nn, cmpJ (elemJ l i) y = nn := ⟨_, rfl⟩
      rw [hnn] at HC
      have HN := Lib.hid hnn
      clear hnn hwx hv hrow hb hs hbw hm hc
      go_wp2_with fail
      refine region_tail 10 (by kernel_rfl) (by kernel_rfl) ?_
      simp only [List.take_succ_cons, List.take_zero, List.drop_succ_cons, List.drop_zero]
      iterate 5 still_step
      iterate 5
        with_reducible refine still_do ?_ ?_
        · kernel_rfl
        intro K hK
        go_simp
        refine hK _ ?_
        clear hK K
      refine wpStill_nil ?_
      go_wp2_with fail
      refine HC.out.mono ?_
      rintro e w2 ⟨rfl, hb2⟩
      have HB2 := Lib.hid (HB.out.trans ((Below.refl w1.heap.size w1).drew.trans hb2 |>.mono HB.out.size))
      clear HC hb2 c0 c1 hcell
      by_cases hz : nn = 0
      · have HQ := Lib.hid (show bsAns l y i = (i : Int) by unfold bsAns; rw [if_pos ⟨hlt, HN.out.trans hz⟩])
        have e1 : (nn == 0) = true := by simp [hz]
        clear hz
        go_wp2_with fail
        go_ret
        exact ⟨i, HA.out, bs_ret HQ.out, HB2.out⟩
      · have HQ := Lib.hid (show bsAns l y i = -(i : Int) - 1 by unfold bsAns; rw [if_neg (fun h => hz (HN.out.symm.trans h.2))])
        have e1 : (nn == 0) = false := by simp [hz]
        clear hz
        go_wp2_with fail
        go_ret
        exact ⟨i, HA.out, bs_ret HQ.out, HB2.out⟩
    · have HQ := Lib.hid (show bsAns l y i = -(i : Int) - 1 by unfold bsAns; rw [if_neg (fun h => hlt h.1)])
      go_wp2_with fail
      refine region_tail 10 (by kernel_rfl) (by kernel_rfl) ?_
      simp only [List.take_succ_cons, List.take_zero, List.drop_succ_cons, List.drop_zero]
      iterate 5 still_step
      iterate 5
        with_reducible refine still_skip ?_ ?_
        · kernel_rfl
        simp only [Act.put, List.setIfInBounds_toArray, List.set_cons_zero, List.set_cons_succ]
      refine wpStill_nil ?_
      go_wp2_with fail
      go_ret
      exact ⟨i, HA.out, bs_ret HQ.out, HB.out.drew⟩
  · go_enter Tryz.func100, Tryz.ntmps100
    go_wp2_with fail
    generalize hW : (World.alloc _ _).alloc _ = W0
    have H2 := Lib.hid (alloc2b hW)
    clear hW
    have HS := Lib.hid (search_any 154 #[.pointer (some ⟨w.heap.size + 1, 0, none⟩), .pointer (some ⟨w.heap.size, 0, none⟩)] (fun i => decide (0 ≤ cmpJ (elemJ l i) y)) l.length W0 (by omega) (Go.Proofs.enters_of Tryz.func154 (by kernel_rfl) rfl) (fun W i hW hi => by
      have hbw := H2.out.1.trans (hW.mono H2.out.1.size)
      have hs : Same D w W := Same.of_below hbw HX.out.2.2.2.2
      have := bsClosure_any l y D (.slice A l.length c) (.iface ut uu) i (w.heap.size + 1) w.heap.size W HX.out.2.2.1 HX.out.2.2.2.1 hi hn (fun b hb => Nat.lt_of_lt_of_le (HX.out.2.2.2.2 b hb) hbw.size)
        ((hW.block _ (box_lt H2.out.2.2.2)).trans H2.out.2.2.2) ((hW.block _ (box_lt H2.out.2.2.1)).trans H2.out.2.2.1) (HX.out.1.mono (fun _ h => h) fun b o hb hr => ARow.keep hs (fun _ h => h) _ _ _ hb hr) (ARep.keep hs (fun _ h => h) _ _ HX.out.2.1)
      rw [← elemJ_get hi] at this
      exact this))
    refine HS.out.mono ?_
    clear HS
    rintro e w1 ⟨i, rfl, hin, hlo, hhi, hb1⟩
    have HA := Lib.hid (show BsAt l y i from ⟨hin, by
      rcases hlo with h | h
      · exact .inl h
      · exact .inr (by simpa using h), by
      rcases hhi with h | h
      · exact .inl h
      · exact .inr (by simpa using h)⟩)
    have hbw := H2.out.1.trans (hb1.mono H2.out.1.size)
    have HB := Lib.hid hbw
    have c0 : w1.cell? ⟨w.heap.size + 1, 0, none⟩ = _ := box_cell ((hb1.block _ (box_lt H2.out.2.2.2)).trans H2.out.2.2.2) 0
    have c1 : w1.cell? ⟨w.heap.size, 0, none⟩ = _ := box_cell ((hb1.block _ (box_lt H2.out.2.2.1)).trans H2.out.2.2.1) 0
    clear hlo hhi hb1 H2
    by_cases hlt : i < l.length
    · have hs : Same D w w1 := Same.of_below hbw HX.out.2.2.2.2
      obtain ⟨b, o, rfl, hb, hrow⟩ : ∃ b o, A = some ⟨b, o, none⟩ ∧ D b ∧ ARow w D b l o := by
        obtain ⟨A', c', he, -, -, hr⟩ := HX.out.1
        obtain ⟨b, o, hA, hb, hr2⟩ := hr (by omega)
        obtain ⟨rfl, -, -⟩ := Value.slice.inj he
        exact ⟨b, o, hA, hb, hr2⟩
      obtain ⟨v, hcell, hv⟩ := (ARow.keep hs (fun _ h => h) _ _ _ hb hrow).get (show l[i]? = some (elemJ l i) by rw [List.getElem?_eq_getElem hlt, elemJ_get hlt])
      have hwx : (elemJ l i).WF := by rw [elemJ_get hlt]; exact WFL_iff.1 HX.out.2.2.1 _ (List.getElem_mem _)
      have HC := Lib.hid (compare_any (elemJ l i) y D v (.iface ut uu) w1.drew hwx HX.out.2.2.2.1 (fun b hb => Nat.lt_of_lt_of_le (HX.out.2.2.2.2 b hb) hbw.size) (ARep.keep (show Same D w1 w1.drew from fun _ _ => rfl) (fun _ h => h) _ _ hv) (ARep.keep (show Same D w w1.drew from hs) (fun _ h => h) _ _ HX.out.2.1))
      obtain ⟨nn, hnn⟩ : ∃ nn, cmpJ (elemJ l i) y = nn := ⟨_, rfl⟩
      rw [hnn] at HC
      have HN := Lib.hid hnn
      clear hnn hwx hv hrow hb hs hbw hm hc
      go_wp2_with fail
      refine region_tail 10 (by kernel_rfl) (by kernel_rfl) ?_
      simp only [List.take_succ_cons, List.take_zero, List.drop_succ_cons, List.drop_zero]
      iterate 5 still_step
      iterate 5
        with_reducible refine still_do ?_ ?_
        · kernel_rfl
        intro K hK
        go_simp
        refine hK _ ?_
        clear hK K
      refine wpStill_nil ?_
      go_wp2_with fail
      refine HC.out.mono ?_
      rintro e w2 ⟨rfl, hb2⟩
      have HB2 := Lib.hid (HB.out.trans ((Below.refl w1.heap.size w1).drew.trans hb2 |>.mono HB.out.size))
      clear HC hb2 c0 c1 hcell
      by_cases hz : nn = 0
      · have HQ := Lib.hid (show bsAns l y i = (i : Int) by unfold bsAns; rw [if_pos ⟨hlt, HN.out.trans hz⟩])
        have e1 : (nn == 0) = true := by simp [hz]
        clear hz
        go_wp2_with fail
        go_ret
        exact ⟨i, HA.out, bs_ret HQ.out, HB2.out⟩
      · have HQ := Lib.hid (show bsAns l y i = -(i : Int) - 1 by unfold bsAns; rw [if_neg (fun h => hz (HN.out.symm.trans h.2))])
        have e1 : (nn == 0) = false := by simp [hz]
        clear hz
        go_wp2_with fail
        go_ret
        exact ⟨i, HA.out, bs_ret HQ.out, HB2.out⟩
    · have HQ := Lib.hid (show bsAns l y i = -(i : Int) - 1 by unfold bsAns; rw [if_neg (fun h => hlt h.1)])
      go_wp2_with fail
      refine region_tail 10 (by kernel_rfl) (by kernel_rfl) ?_
      simp only [List.take_succ_cons, List.take_zero, List.drop_succ_cons, List.drop_zero]
      iterate 5 still_step
      iterate 5
        with_reducible refine still_skip ?_ ?_
        · kernel_rfl
        simp only [Act.put, List.setIfInBounds_toArray, List.set_cons_zero, List.set_cons_succ]
      refine wpStill_nil ?_
      go_wp2_with fail
      go_ret
      exact ⟨i, HA.out, bs_ret HQ.out, HB.out.drew⟩
end Go.Proofs.YtfhppajnnbbcjaaGreatDoor
end
