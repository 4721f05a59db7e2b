/- Walks: gojq.keys: the keys of a map, sorted.
   Walks: gojq.funcKeys at a map: the sorted keys, as a slice of any.
   Walks: gojq.binopTypeSwitch at Compare's callbacks: which of them is called, with what.
   Walks: gojq.Compare at arrays.
   Walks: gojq.Compare at objects.
   gojq.Compare answers as the reference's order does, at all JSON values.
   Walks: gojq.funcIndex's and funcRindex's closures: the first and the last place of a list in a list.
   Walks: gojq.explode: the runes of a string. -/
import Derived.Test.YtfhppajnnbbcjaaGreatDoorGy8
import Derived.Test.YtfhppajnnbbcjaaGreatDoorGy7
import Derived.Sort.KeysCollected
import Derived.Sort.OwnSorted
import Derived.Maps.RangeWalk
import Derived.Maps.OwnSet
import Derived.Test.YtfhppajnnbbcjaaGreatDoorGy1
import Derived.Test.YtfhppajnnbbcjaaGreatDoorGy2
import Derived.Lib.OthersKept
import Derived.Laws.IdiomStrings

section
namespace Go.Proofs.YtfhppajnnbbcjaaGreatDoor
open Go.RowKit Go.Maps Go.Sort

theorem keyed9 : Keyed Tryz.prog 9 := string_keyed Tryz.underlying9

theorem size_mapD {ks : List ByteArray} {xs : List Value} (hl : ks.length = xs.length) : Maps.size (mapD ks xs) = ks.length := by
  show (entriesOf ks xs).length = _
  simp [entriesOf]
  omega

/-- what make([]string, n) does -/
theorem make_str (n : Nat) (hn : n ≤ 1048576) (w : World) : ∃ c : Array Value, c.size = n ∧ (Instr.makeSlice 24 (.int .i64 (n : Int)) (.int .i64 (n : Int))).run Tryz.prog w = .ok (.slice (some ⟨w.heap.size, 0, none⟩) n n) (w.alloc (.cells c 9)) := by
  obtain ⟨i, hi, hz, hs, hb⟩ := info_parts Tryz.info9
  exact ⟨_, by rw [hs]; simp [madeCells], run_make_rowN 24 9 i (.string ⟨#[]⟩) Tryz.underlying24 hi hz .i64 .i64 n n (Nat.le_refl _) (by rw [hb]; omega) (by omega) w⟩

/-- sort.Strings -/
theorem sortStr_any (blk cap : Nat) (ss : List (List UInt8)) (w : World) (hH : Holds encStr w blk 0 ss.toArray) (hblk : blk < w.heap.size) (hsz : ss.length < 4611686018427387904) :
    Calls Tryz.prog 255 #[.slice (some ⟨blk, 0, none⟩) ss.length cap] w fun e w' =>
      e = .returned (.tuple #[]) ∧ ∃ n os, w' = grow (putRow encStr (Sort.ahead w n) blk 0 (ss.mergeSort fun x y => decide (x ≤ y)).toArray) os := by
  have H := Lib.hid (AnyM.slices_Sort_string Tryz.sort212 blk 0 cap ss w hH hblk hsz)
  clear hH hblk hsz
  go_enter Tryz.func255, Tryz.ntmps255
  go_wp2_with (go_at_call 212; refine H.out.mono ?_; rintro e w' ⟨rfl, n, os, rfl⟩)
  refine bodyPost_end (v := .tuple #[]) (by simp [results, Tryz.results255, go_sem]) rfl ?_
  exact ⟨rfl, _, _, rfl⟩

theorem take_set_succ {α : Type} {l : List α} {k : Nat} {x : α} (h : k < l.length) : (l.set k x).take (k + 1) = l.take k ++ [x] := by
  rw [List.take_add_one, List.take_set_of_le (Nat.le_refl k), List.getElem?_set_self h]
  rfl

/-- the row that is being filled -/
def Filled (w : World) (B n : Nat) (ss : List (List UInt8)) : Prop := ∃ cur : Array Value, w.heap[B]? = some (.cells cur 9 (0, 0)) ∧ cur.size = n ∧ cur.toList.take ss.length = ss.map encStr

set_option maxRecDepth 100000 in
set_option maxHeartbeats 1000000 in
theorem gkeys_any (r n : Nat) (ks : List ByteArray) (xs : List Value) (w : World) (hm : MapIs w r n ks xs) (hl : ks.length = xs.length) (hs : ks.Pairwise (fun a b => cmpB a b < 0)) (hn : ks.length ≤ 1048576) :
    Calls Tryz.prog 218 #[.map (some r)] w fun e w' => e = .returned (.slice (some ⟨w.heap.size, 0, none⟩) ks.length ks.length) ∧ StrRow w' w.heap.size 0 ks ∧ w.heap.size < w'.heap.size ∧ Below w.heap.size w w' := by
  obtain ⟨cur0, hc0, hmk⟩ := make_str ks.length hn w
  have hbl := World.ownsMap.lt hm
  have e1 : (w.alloc (.cells cur0 9)).heap.size = w.heap.size + 1 := by simp
  have hsz := size_mapD hl
  have hown := Lib.hid hm
  have HSS := Lib.hid hs
  have hnew := heap_alloc_new w (.cells cur0 9)
  have hC0 := Lib.hid (And.intro hc0 hnew)
  have HL := Lib.hid hl
  clear hc0 hnew hm hs hl
  go_enter Tryz.func218, Tryz.ntmps218
  go_wp2_with (first | (at_len; refine wpList_len_own _ rfl _ 91 rfl 9 20 Tryz.underlying91 Rh r n (mapD ks xs) rfl hown.out ?_; rw [hsz]) | (at_range; refine wpList_range_own _ rfl _ 91 rfl 9 20 keyed9 Tryz.underlying91 Rh r n (mapD ks xs) rfl (World.ownsMap.alloc hown.out _) ?_; intro w0 hrg0 hg0 hs0))
  rw [e1] at hrg0 hs0 ⊢
  go_frame

  go_loopw [4] (fun i wr => ∃ (left : Lit → Bool) (cnt : Nat) (ss : List (List UInt8)), i = .int .i64 ss.length ∧ wr.ranges Tryz.prog 9 Rh r (w.heap.size + 1) n (mapD ks xs) left cnt ∧ ss.length + cnt ≤ ks.length ∧
      Filled wr w.heap.size ks.length ss ∧ Collected (mapD ks xs) left ss ∧ Below w.heap.size w wr)
    (fun _ wr => wr.rangeLeft r (w.heap.size + 1))
  case atStart =>
    refine ⟨_, _, [], rfl, hrg0, by simp [hsz], ⟨cur0, (hg0.block _ (by simp) (by simp)).trans hC0.out.2, hC0.out.1, rfl⟩, Collected.start _, ((Below.refl _ _).alloc (Nat.le_refl _) _).grown hg0 (by simp) (fun j hj => by cases hj)⟩
  case round =>
    obtain ⟨left, cnt, ss, rfl, hrg, hcs, hF, hC, hnx⟩ := hrel
    go_wp2_with (at_next; refine wpList_next_ranges _ rfl _ rfl 9 keyed9 Rh encStr id (fun key kl hk => by obtain ⟨x, hx, _⟩ := Maps.keyOf_str Tryz.underlying9 hk; exact ⟨x, hx⟩) (fun v y hv => ⟨v, rfl⟩) r (w.heap.size + 1) n _ _ _ rfl hrg ?_ ?_)
    · intro hc0 hl0
      have hperm := hC.perm hown.out keyed9 Tryz.underlying9 hl0
      rw [strKeys_mapD HL.out] at hperm
      have hle : ss.length = ks.length := by rw [hperm.length_eq]; simp
      have hts : ss.mergeSort (fun x y => decide (x ≤ y)) = ks.map fun k => k.data.toList := (Go.mergeSort_of_perm hperm).trans (sorted_keys HSS.out)
      obtain ⟨cur, hb, hc, ht⟩ := hF
      have hc1 := sortStr_any w.heap.size ks.length ss wr (holds_of_block hb ht) (box_lt hb) (by omega)
      rw [hle] at hc1
      have H1 := Lib.hid hc1
      have HB := Lib.hid (And.intro hb (And.intro hc (And.intro hts hle)))
      clear hc1 hb hc ht hts hle hperm hC hrg hcs
      go_wp2_with (go_at_call 255; refine H1.out.mono ?_; rintro e w' ⟨rfl, nn, os, rfl⟩)
      go_ret
      obtain ⟨hb, hc, hts, hle⟩ := HB.out
      have hrow := ownsRow_sorted (n := nn) (os := os) (ts := ss.mergeSort (fun x y => decide (x ≤ y))) (by simp) (Nat.le_refl _) hb (by omega : ss.length ≤ ks.length) (by unfold maxLen; omega) (by simpa using hc)
      have hg := grownBy_sorted (w := wr) (g := w.heap.size) (n := nn) (os := os) (ss.mergeSort (fun x y => decide (x ≤ y))).toArray
      rw [hts] at hrow hg ⊢
      refine ⟨rfl, fun i s hi => ?_, Nat.lt_of_lt_of_le (box_lt hb) hg.size, hnx.grown hg hnx.size (fun j hj => by cases hj; exact Nat.le_refl _)⟩
      have := hrow.cellAt i (by have := (List.getElem?_eq_some_iff.1 hi).1; omega)
      rw [Nat.zero_add, this, List.map_map, List.getElem?_map, hi]
      rfl
    · intro x c kl yd yp w2 cnt2 hkey hlk hv hat hrg2 hlt hg2 hs2 hen
      obtain ⟨x', ex, rfl, -⟩ := Maps.keyOf_str Tryz.underlying9 hkey
      obtain rfl : x = x' := encStr_inj ex
      obtain ⟨cur, hb, hc, ht⟩ := hF
      have hb2 : w2.heap[w.heap.size]? = some (.cells cur 9 (0, 0)) := (hg2.block _ (box_lt hb) (by simp)).trans hb
      have fr := box_frozen hb2 ss.length
      have cl := box_cell hb2 ss.length
      have hlt2 : ss.length < ks.length := by omega
      obtain ⟨cv, hcv⟩ : ∃ cv, cur[ss.length]? = some cv := ⟨_, Array.getElem?_eq_getElem (by omega)⟩
      rw [hcv] at cl
      clear hcv
      have hC' := hC.step hlk hat
      have hb' := hnx.grown hg2 hnx.size (fun j hj => by cases hj; exact Nat.le_succ _)
      have HH := Lib.hid (And.intro hb2 (And.intro hc (And.intro ht (And.intro hC' (And.intro hb' (And.intro hrg2 (And.intro hlt hrg)))))))
      clear hs2 hb2 hc ht hC' hb' hC hnx hrg hat hlk hkey hv hg2 hb ex
      go_wp2_with fail
      obtain ⟨hb2, hc, ht, hC', hb', hrg2, hlt, hrg⟩ := HH.out
      have hg3 : w2.grownBy (w2.setCell ⟨w.heap.size, ss.length, none⟩ (encStr x)) (some w.heap.size) := ⟨rfl, rfl, rfl, by simp, fun k _ hk => heap_setCell_other w2 ⟨w.heap.size, ss.length, none⟩ k _ (fun e => hk (by simp [e]))⟩
      have hrg3 := hrg2.kept hg3 (fun e => by have := Option.some.inj e; omega) (fun e => by have := Option.some.inj e; omega)
      go_roundw
      case rel =>
        refine ⟨_, cnt2, ss ++ [x], by simp, hrg3, by simp; omega, ⟨cur.setIfInBounds ss.length (encStr x), heap_setCell_same w2 _ _ cur 9 _ hb2, by simpa using hc, ?_⟩, hC', hb'.grown hg3 hb'.size (fun j hj => by cases hj; exact Nat.le_refl _)⟩
        rw [Array.toList_setIfInBounds, List.length_append, List.length_singleton, List.map_append, List.map_singleton, ← ht, take_set_succ (by simp [hc]; omega)]
      case measure => rw [hrg3.left_eq, hrg.left_eq]; exact hlt
end Go.Proofs.YtfhppajnnbbcjaaGreatDoor
end

section
namespace Go.Proofs.YtfhppajnnbbcjaaGreatDoor
open Go.RowKit Go.Maps Go.Sort

/-- the row of keys is filled up to k; the keys' own row lies behind it -/
def KRel (ks : List ByteArray) (w wr : World) (k : Nat) : Prop :=
  Below w.heap.size w wr ∧ StrRow wr (w.heap.size + 1) 0 ks ∧ w.heap.size + 1 < wr.heap.size ∧ ∃ cur, wr.heap[w.heap.size]? = some (.cells cur 20 (0, 0)) ∧ cur.size = ks.length ∧
    ∀ i s, i < k → ks[i]? = some s → cur[i]? = some (.iface 9 (.string s))

def GKeysPost (ks : List ByteArray) (w : World) (e : Ending) (w' : World) : Prop :=
  ∃ S, e = .returned (.iface 88 S) ∧ SlAt (fun b => w.heap.size ≤ b ∧ b < w'.heap.size) ks.length S (fun b o => ARow w' (fun b => w.heap.size ≤ b ∧ b < w'.heap.size) b (ks.map J.str) o) ∧ Below w.heap.size w w'

set_option maxRecDepth 100000 in
set_option maxHeartbeats 1000000 in
theorem funcKeys_any (r n : Nat) (ks : List ByteArray) (xs : List Value) (w : World) (hm : MapIs w r n ks xs) (hl : ks.length = xs.length) (hs : ks.Pairwise (fun a b => cmpB a b < 0)) (hn : ks.length ≤ 1048576) :
    Calls Tryz.prog 188 #[.iface 91 (.map (some r))] w (GKeysPost ks w) := by
  obtain ⟨cur0, hc0, hmk⟩ := make_any ks.length hn w
  have hrl := World.ownsMap.lt hm
  have hb0 : Below w.heap.size w (w.alloc (.cells cur0 20)) := (Below.refl _ _).alloc (Nat.le_refl _) _
  have hm1 : MapIs (w.alloc (.cells cur0 20)) r n ks xs := World.ownsMap.alloc hm _
  have HK := Lib.hid (gkeys_any r n ks xs _ hm1 hl hs hn)
  have hsz := size_mapD hl
  have hown := Lib.hid hm
  have hnew := Lib.hid (heap_alloc_new w (.cells cur0 20))
  have hb0 := Lib.hid hb0
  clear hm hm1 hl hs
  go_enter Tryz.func188, Tryz.ntmps188
  go_wp2_with (first
    | (at_len; refine wpList_len_own _ rfl _ 91 rfl 9 20 Tryz.underlying91 Rh r n (mapD ks xs) rfl hown.out ?_; rw [hsz])
    | (go_at_call 218; refine HK.out.mono ?_; rintro e w1 ⟨rfl, hst, hlt, hb⟩))
  rw [World.size_alloc] at hst hlt hb
  have HR : Hid (KRel ks w w1 0) := ⟨hb0.out.trans (hb.mono (Nat.le_succ _)), hst, hlt, cur0, (hb.block _ (Nat.lt_succ_self _)).trans hnew.out, hc0, fun i s hi => absurd hi (by omega)⟩
  clear hst hb hlt HK hc0
  go_wp2_with fail
  go_loopw [44] (fun i wr => ∃ k : Nat, k ≤ ks.length ∧ i = .int .i64 k ∧ Hid (KRel ks w wr k)) (fun i _ => ks.length - (intOf i).toNat)
  case atStart => exact ⟨0, Nat.zero_le _, rfl, HR⟩
  case round =>
    obtain ⟨k, hk, rfl, hR⟩ := hrel
    clear HR
    by_cases ha : k < ks.length
    · obtain ⟨hb, hst, hlt, cur, hcur, hcs, hels⟩ := hR.out
      have hx : ks[k]? = some ks[k] := List.getElem?_eq_getElem ha
      have p1 := hst k _ hx
      rw [Nat.zero_add] at p1
      have hcell : wr.cell? ⟨w.heap.size, k, none⟩ = some (cur[k]'(by omega)) := by
        rw [cell_of_row _ _ _ _ _ _ hcur]
        exact Array.getElem?_eq_getElem _
      have hfz : wr.frozen? ⟨w.heap.size, k, none⟩ = false := by simp [World.frozen?, hcur]
      have HN : Hid (KRel ks w (wr.setCell ⟨w.heap.size, k, none⟩ (.iface 9 (.string ks[k]))) (k + 1)) := by
        refine ⟨hb.setCell (Nat.le_refl _) _, fun i s hi => ?_, by simpa [World.setCell] using hlt, cur.setIfInBounds k _, heap_setCell_same _ _ _ _ _ _ hcur, by simp [hcs], fun i x hi hix => ?_⟩
        · rw [World.cell?_of_block (heap_setCell_other wr ⟨w.heap.size, k, none⟩ (w.heap.size + 1) _ (by simp))]
          exact hst i s hi
        · rcases Nat.lt_succ_iff_lt_or_eq.1 hi with hlt' | rfl
          · rw [Array.getElem?_setIfInBounds_ne (by omega)]
            exact hels i x hlt' hix
          · rw [hx] at hix
            obtain rfl := Option.some.inj hix
            rw [Array.getElem?_setIfInBounds_self_of_lt (by omega)]
      clear hb hst hlt hcur hels hR hx hnew hb0
      go_wp2_with fail
      go_roundw
      case rel => exact ⟨k + 1, by omega, by go_num, HN⟩
      case measure => simp [intOf]; omega
    · have hk' : k = ks.length := by omega
      have HR' : Hid (KRel ks w wr ks.length) := hk' ▸ hR
      clear hR hnew hb0
      subst hk'
      go_wp2_with fail
      go_ret
      obtain ⟨hb, hst, hlt, cur, hcur, hcs, hels⟩ := HR'.out
      refine ⟨_, rfl, ⟨_, _, rfl, Nat.le_refl _, by unfold maxLen; omega, fun hn => ⟨w.heap.size, 0, rfl, ⟨Nat.le_refl _, by omega⟩, ARow.mk fun i x hi => ?_⟩⟩, hb⟩
      rw [List.getElem?_map] at hi
      obtain ⟨s, hs, rfl⟩ := Option.map_eq_some_iff.1 hi
      refine ⟨_, ?_, rfl⟩
      rw [cell_of_row _ _ _ _ _ _ hcur, Nat.zero_add]
      exact hels i s (List.getElem?_eq_some_iff.1 hs).1 hs
end Go.Proofs.YtfhppajnnbbcjaaGreatDoor
end

section
namespace Go.Proofs.YtfhppajnnbbcjaaGreatDoor
open Go.RowKit

/-- a Go value's outer shape, with the class that the order goes by -/
inductive Shp : Value → Nat → Prop
  | nil : Shp .nilIface 0
  | bool (b : Bool) : Shp (.iface 4 (.bool b)) 1
  | int (i : Int) : Shp (.iface 3 (.int .i64 i)) 3
  | fl (b : Nat) : Shp (.iface 87 (.float .f64 b)) 3
  | str (s : ByteArray) : Shp (.iface 9 (.string s)) 4
  | arr (S : Value) : Shp (.iface 88 S) 5
  | map (m : Value) : Shp (.iface 91 m) 6

/-- the callback that a pair of values is handed to -/
inductive Cb : Value → Value → FuncId → Value → Value → Prop
  | ints (i j : Int) : Cb (.iface 3 (.int .i64 i)) (.iface 3 (.int .i64 j)) 181 (.int .i64 i) (.int .i64 j)
  | intFl (i : Int) (b : Nat) : Cb (.iface 3 (.int .i64 i)) (.iface 87 (.float .f64 b)) 182 (.float .f64 (fl i 0)) (.float .f64 b)
  | flInt (i : Int) (b : Nat) : Cb (.iface 87 (.float .f64 b)) (.iface 3 (.int .i64 i)) 182 (.float .f64 b) (.float .f64 (fl i 0))
  | flFl (a b : Nat) : Cb (.iface 87 (.float .f64 a)) (.iface 87 (.float .f64 b)) 182 (.float .f64 a) (.float .f64 b)
  | strs (a b : ByteArray) : Cb (.iface 9 (.string a)) (.iface 9 (.string b)) 185 (.string a) (.string b)
  | arrs (a b : Value) : Cb (.iface 88 a) (.iface 88 b) 186 a b
  | maps (a b : Value) : Cb (.iface 91 a) (.iface 91 b) 187 a b
  | other {a b : Value} {k n : Nat} (ha : Shp a k) (hb : Shp b n) (h : k ≠ n ∨ k < 3) : Cb a b 189 a b

theorem conv_fl (i : Int) (W : World) : (convert 3 87 (.int .i64 i)).run Tryz.prog W = .ok (.float .f64 (fl i 0)) W := by
  simp [convert, run_underlying Tryz.underlying3, run_underlying Tryz.underlying87, Conv.intToFloat]; rfl

/-- what a comparison answers -/
def CmpP (P : Int → World → Prop) (e : Ending) (w' : World) : Prop := ∃ n, e = .returned (.int .i64 n) ∧ P n w'

abbrev swArgs (v u : Value) : Array Value := #[v, u, .func (.func 181) #[] #[], .func (.func 182) #[] #[], .func (.func 184) #[] #[], .func (.func 185) #[] #[], .func (.func 186) #[] #[], .func (.func 187) #[] #[], .func (.func 189) #[] #[]]

set_option maxRecDepth 100000 in
set_option maxHeartbeats 4000000 in
theorem sw_any {v u : Value} {f : FuncId} {a b : Value} (hcb : Cb v u f a b) (P : Int → World → Prop) (w : World) (h : Calls Tryz.prog f #[a, b] w (CmpP P)) : Calls Tryz.prog 180 (swArgs v u) w (CmpP P) := by
  have H := Lib.hid h
  have hconv := conv_fl
  clear h
  cases hcb with
  | ints i j =>
    go_enter Tryz.func180, Tryz.ntmps180
    go_wp2_with (go_at_call 181; refine H.out.mono ?_; rintro e w' ⟨n, rfl, hp⟩)
    go_ret
    exact ⟨_, rfl, hp⟩
  | intFl i b =>
    go_enter Tryz.func180, Tryz.ntmps180
    go_wp2_with (go_at_call 182; refine H.out.mono ?_; rintro e w' ⟨n, rfl, hp⟩)
    go_ret
    exact ⟨_, rfl, hp⟩
  | flInt i b =>
    go_enter Tryz.func180, Tryz.ntmps180
    go_wp2_with (go_at_call 182; refine H.out.mono ?_; rintro e w' ⟨n, rfl, hp⟩)
    go_ret
    exact ⟨_, rfl, hp⟩
  | flFl a b =>
    go_enter Tryz.func180, Tryz.ntmps180
    go_wp2_with (go_at_call 182; refine H.out.mono ?_; rintro e w' ⟨n, rfl, hp⟩)
    go_ret
    exact ⟨_, rfl, hp⟩
  | strs a b =>
    go_enter Tryz.func180, Tryz.ntmps180
    go_wp2_with (go_at_call 185; refine H.out.mono ?_; rintro e w' ⟨n, rfl, hp⟩)
    go_ret
    exact ⟨_, rfl, hp⟩
  | arrs a b =>
    go_enter Tryz.func180, Tryz.ntmps180
    go_wp2_with (go_at_call 186; refine H.out.mono ?_; rintro e w' ⟨n, rfl, hp⟩)
    go_ret
    exact ⟨_, rfl, hp⟩
  | maps a b =>
    go_enter Tryz.func180, Tryz.ntmps180
    go_wp2_with (go_at_call 187; refine H.out.mono ?_; rintro e w' ⟨n, rfl, hp⟩)
    go_ret
    exact ⟨_, rfl, hp⟩
  | other ha hb h =>
    cases ha <;> cases hb
    all_goals first
      | (exact absurd h (by decide))
      | (go_enter Tryz.func180, Tryz.ntmps180
         go_wp2_with (go_at_call 189; refine H.out.mono ?_; rintro e w' ⟨n, rfl, hp⟩)
         go_ret
         exact ⟨_, rfl, hp⟩)

/-- gojq.Compare, one step -/
theorem cmp_step {v u : Value} {f : FuncId} {a b : Value} (hcb : Cb v u f a b) (P : Int → World → Prop) (w : World) (h : Calls Tryz.prog f #[a, b] w (CmpP P)) : Calls Tryz.prog 133 #[v, u] w (CmpP P) := by
  have H := Lib.hid (sw_any hcb P w h)
  clear h hcb
  go_enter Tryz.func133, Tryz.ntmps133
  go_wp2_with (go_at_call 180; refine H.out.mono ?_; rintro e w' ⟨n, rfl, hp⟩)
  go_ret
  exact ⟨_, rfl, hp⟩
end Go.Proofs.YtfhppajnnbbcjaaGreatDoor
end

section
namespace Go.Proofs.YtfhppajnnbbcjaaGreatDoor
open Go.RowKit

theorem sgn_sgn (n : Int) : sgn (sgn n) = sgn n := by
  have h := sgn_bd n
  rcases (by omega : sgn n = -1 ∨ sgn n = 0 ∨ sgn n = 1) with h | h | h <;> rw [h] <;> rfl
theorem sgn_cmpB (a b : ByteArray) : sgn (cmpB a b) = cmpB a b := by unfold cmpB; split <;> (try split) <;> rfl
theorem sgn_cmpJ (x y : J) : sgn (cmpJ x y) = cmpJ x y := by
  by_cases h : x.kind = y.kind
  · rw [cmpJ_same h]
    split
    · exact sgn_sgn _
    · split
      · exact sgn_cmpB _ _
      · split
        · exact sgn_sgn _
        · split
          · split <;> exact sgn_sgn _
          · rfl
  · rw [cmpJ_kind h]; exact sgn_sgn _

/-- gojq.Compare answers as the reference's order does -/
def GCmp (x : J) : Prop := ∀ (y : J) (D : Nat → Prop) (v u : Value) (w : World), x.WF → y.WF → (∀ b, D b → All w b) → ARep w D x v → ARep w D y u →
  Calls Tryz.prog 133 #[v, u] w (CmpP fun n w' => n = cmpJ x y ∧ Below w.heap.size w w')

set_option maxRecDepth 100000 in
theorem cmpArr_of (a b : List J) (hel : ∀ x ∈ a, GCmp x) (D : Nat → Prop) (u v : Value) (w : World) (wa : WFL a) (wb : WFL b) (hB : ∀ b, D b → All w b) (hu : SlAt D a.length u (fun b o => ARow w D b a o)) (hv : SlAt D b.length v (fun b' o => ARow w D b' b o)) :
    Calls Tryz.prog 186 #[u, v] w (CmpP fun n w' => n = sgn (cmpL a b) ∧ Below w.heap.size w w') := by
  obtain ⟨A1, c1, rfl, hc1, hm1, hr1⟩ := hu
  obtain ⟨A2, c2, rfl, hc2, hm2, hr2⟩ := hv
  unfold maxLen at hm1 hm2
  go_enter Tryz.func186, Tryz.ntmps186
  go_wp2_with fail
  go_loopw [12] (fun i wr => ∃ k : Nat, k ≤ a.length ∧ k ≤ b.length ∧ i = .int .i64 k ∧ Hid (cmpL a b = cmpL (a.drop k) (b.drop k)) ∧ Below w.heap.size w wr) (fun i _ => a.length - (intOf i).toNat)
  case atStart => exact ⟨0, Nat.zero_le _, Nat.zero_le _, rfl, rfl, Below.refl _ _⟩
  case round =>
    obtain ⟨k, hk1, hk2, rfl, he, hb⟩ := hrel
    have hsame := Same.of_below hb hB
    have hsz := hb.size
    by_cases ha : k < a.length
    · by_cases hb' : k < b.length
      · obtain ⟨b1, o1, rfl, hlt1, hs1⟩ := hr1 (by omega)
        obtain ⟨b2, o2, rfl, hlt2, hs2⟩ := hr2 (by omega)
        have hx : a[k]? = some a[k] := List.getElem?_eq_getElem ha
        have hy : b[k]? = some b[k] := List.getElem?_eq_getElem hb'
        obtain ⟨x1, p1, hv1⟩ := (ARow.keep hsame (fun _ h => h) _ _ _ hlt1 hs1).get hx
        obtain ⟨x2, p2, hv2⟩ := (ARow.keep hsame (fun _ h => h) _ _ _ hlt2 hs2).get hy
        have hD' : ∀ b, D b → b < wr.heap.size := fun b hb => Nat.lt_of_lt_of_le (hB b hb) hsz
        have HC := Lib.hid (fun W (hW : Below wr.heap.size wr W) => hel a[k] (List.getElem_mem _) b[k] D x1 x2 W (WFL_iff.1 wa _ (List.getElem_mem _)) (WFL_iff.1 wb _ (List.getElem_mem _)) (fun b hb => Nat.lt_of_lt_of_le (hD' b hb) hW.size) (ARep.keep (Same.of_below hW hD') (fun _ h => h) _ _ hv1) (ARep.keep (Same.of_below hW hD') (fun _ h => h) _ _ hv2))
        have HE := Lib.hid (he.out.trans (cmpL_drop hx hy))
        clear hs1 hs2 he hr1 hr2 hx hy hv1 hv2 hsame hel wa wb hD'
        go_wp2_with fail
        refine region_tail 8 (by kernel_rfl) (by kernel_rfl) ?_
        simp only [List.take_succ_cons, List.take_zero, List.drop_succ_cons, List.drop_zero]
        repeat still_step
        refine wpStill_nil ?_
        go_wp2_with fail
        refine (HC.out _ ?_).mono ?_
        · exact (Below.refl _ _).drew
        rintro e w1 ⟨n, rfl, rfl, hb1⟩
        have hb2 : Below w.heap.size w w1 := hb.drew.trans (hb1.mono hsz)
        by_cases hc : cmpJ a[k] b[k] = 0
        · have HZ := Lib.hid hc
          have hc' : (cmpJ a[k] b[k] != 0) = false := by simp [hc]
          clear hc hb1
          go_wp2_with fail
          go_roundw
          case rel => exact ⟨k + 1, by omega, by omega, by go_num, by rw [HE.out, if_pos HZ.out]; rfl, hb2⟩
          case measure => simp [intOf]; omega
        · have HZ := Lib.hid hc
          have hc' : (cmpJ a[k] b[k] != 0) = true := by simp [hc]
          clear hc hb1
          go_wp2_with fail
          go_ret
          exact ⟨_, ret_int rfl, by rw [HE.out, if_neg HZ.out, sgn_cmpJ], hb2⟩
      · have hb'' : k = b.length := by omega
        have HE := Lib.hid (he.out.trans (cmpL_end hk1 hk2 (.inr hb'')))
        have H3 := Lib.hid (fun W => cmpInt_any (a.length : Int) (b.length : Int) W)
        clear hb'' hr1 hr2 he wa wb hel hsame
        go_wp2_with (go_at_call 181; refine (H3.out _).mono ?_; rintro e w' ⟨rfl, rfl⟩)
        go_ret
        exact ⟨_, rfl, by rw [HE.out], hb⟩
    · have ha' : k = a.length := by omega
      have HE := Lib.hid (he.out.trans (cmpL_end hk1 hk2 (.inl ha')))
      have H3 := Lib.hid (fun W => cmpInt_any (a.length : Int) (b.length : Int) W)
      clear ha' hr1 hr2 he wa wb hel hsame
      go_wp2_with (go_at_call 181; refine (H3.out _).mono ?_; rintro e w' ⟨rfl, rfl⟩)
      go_ret
      exact ⟨_, rfl, by rw [HE.out], hb⟩
end Go.Proofs.YtfhppajnnbbcjaaGreatDoor
end

section
namespace Go.Proofs.YtfhppajnnbbcjaaGreatDoor
open Go.RowKit

theorem cmpL_strs : ∀ (a b : List ByteArray), cmpL (a.map J.str) (b.map J.str) = cmpK a b
  | [], b => by simp [cmpL, cmpK]
  | x :: a, [] => by simp [cmpL, cmpK]
  | x :: a, y :: b => by
    simp only [List.map_cons, cmpL, cmpK, cmpL_strs a b]
    rfl

theorem sgn_eq_zero {n : Int} (h : sgn n = 0) : n = 0 := sgn_zero_iff.1 h

set_option maxRecDepth 100000 in
set_option maxHeartbeats 1000000 in
theorem cmpObj_of (ks : List ByteArray) (vs : List J) (ks' : List ByteArray) (vs' : List J) (hel : ∀ x ∈ vs, GCmp x) (hks : GCmp (.arr (ks.map J.str))) (D : Nat → Prop) (r r' : Nat) (xs xs' : List Value) (w : World) (wa : (J.obj ks vs).WF) (wb : (J.obj ks' vs').WF)
    (hB : ∀ b, D b → All w b) (hr : D r) (hr' : D r') (hm : MapIs w r ks.length ks xs) (hm' : MapIs w r' ks'.length ks' xs') (hl : ks.length = xs.length) (hl' : ks'.length = xs'.length) (ha : AList w D vs xs) (ha' : AList w D vs' xs') :
    Calls Tryz.prog 187 #[.map (some r), .map (some r')] w (CmpP fun n w' => n = cmpJ (.obj ks vs) (.obj ks' vs') ∧ Below w.heap.size w w') := by
  simp only [J.WF] at wa wb
  have H1 := Lib.hid (funcKeys_any r _ ks xs w hm hl wa.2.2.2.1 wa.2.1)
  have H2 := Lib.hid (fun W (hb : Below w.heap.size w W) => funcKeys_any r' _ ks' xs' W (hm'.keep (Same.of_below hb hB) hr') hl' wb.2.2.2.1 wb.2.1)
  have H3 := Lib.hid (fun W v u (hv : ARep W (All W) (.arr (ks.map J.str)) v) (hu : ARep W (All W) (.arr (ks'.map J.str)) u) => hks (.arr (ks'.map J.str)) (All W) v u W
    (by simp only [J.WF, List.length_map]; exact ⟨wa.2.1, WFL_iff.2 fun x hx => by obtain ⟨s, hs, rfl⟩ := List.mem_map.1 hx; exact wa.2.2.1 s hs⟩)
    (by simp only [J.WF, List.length_map]; exact ⟨wb.2.1, WFL_iff.2 fun x hx => by obtain ⟨s, hs, rfl⟩ := List.mem_map.1 hx; exact wb.2.2.1 s hs⟩) (fun _ h => h) hv hu)
  have HM := Lib.hid (fun W (hb : Below w.heap.size w W) => And.intro (hm.keep (Same.of_below hb hB) hr) (And.intro (hm'.keep (Same.of_below hb hB) hr') (And.intro (AList.keep (Same.of_below hb hB) (fun _ h => h) _ _ ha) (AList.keep (Same.of_below hb hB) (fun _ h => h) _ _ ha'))))
  have HW := Lib.hid (And.intro wa (And.intro wb (And.intro hl (And.intro hl' (And.intro hB hel)))))
  clear hm hm' ha ha' wa wb hl hl' hks hel hr hr'
  go_enter Tryz.func187, Tryz.ntmps187
  go_wp2_with (first
    | (go_at_call 188; refine H1.out.mono ?_; rintro e w1 ⟨S1, rfl, hs1, hb1⟩; clear H1)
    | (go_at_call 188; refine (H2.out _ hb1).mono ?_; rintro e w2 ⟨S2, rfl, hs2, hb2⟩; clear H2))
  have hb12 : Below w.heap.size w w2 := hb1.trans (hb2.mono hb1.size)
  have hsame : Same (fun b => w.heap.size ≤ b ∧ b < w1.heap.size) w1 w2 := Same.of_below hb2 fun b hb => hb.2
  have hs1' : SlAt (All w2) ks.length S1 (fun b o => ARow w2 (All w2) b (ks.map J.str) o) := hs1.mono (fun b hb => Nat.lt_of_lt_of_le hb.2 hb2.size) fun b o hb hr => ARow.keep hsame (fun b hb => Nat.lt_of_lt_of_le hb.2 hb2.size) _ _ _ hb hr
  have hs2' : SlAt (All w2) ks'.length S2 (fun b o => ARow w2 (All w2) b (ks'.map J.str) o) := hs2.mono (fun b hb => hb.2) fun b o hb hr => ARow.keep (fun _ _ => rfl) (fun b hb => hb.2) _ _ _ hb hr
  have H4 := Lib.hid (H3.out w2 (.iface 88 S1) (.iface 88 S2) ⟨S1, rfl, by rw [List.length_map]; exact hs1'⟩ ⟨S2, rfl, by rw [List.length_map]; exact hs2'⟩)
  obtain ⟨A, c, rfl, hc, hmx, hrow⟩ := hs1'
  have HA := Lib.hid hrow
  clear hs1 hs2 hs2' hrow hsame hb1 hb2 H3
  unfold maxLen at hmx
  have hJ : cmpJ (.arr (ks.map J.str)) (.arr (ks'.map J.str)) = sgn (cmpK ks ks') := by rw [cmpJ, cmpL_strs]
  have hO : cmpJ (.obj ks vs) (.obj ks' vs') = if cmpK ks ks' = 0 then sgn (cmpL vs vs') else sgn (cmpK ks ks') := by rw [cmpJ]
  rw [hJ] at H4
  have HO := Lib.hid (And.intro hO hb12)
  clear hJ hO hb12
  go_wp2_with (go_at_call 133; refine H4.out.mono ?_; rintro e w3 ⟨nn, rfl, hnn, hb3⟩; replace hnn := Lib.hid hnn; replace hb3 := Lib.hid hb3; clear H4)
  · have h0 : (nn != 0) = true := by assumption
    have hz : cmpK ks ks' ≠ 0 := fun h => by rw [hnn.out, h] at h0; exact absurd h0 (by decide)
    go_ret
    exact ⟨_, rfl, hnn.out.trans (HO.out.1.trans (if_neg hz)).symm, HO.out.2.trans (hb3.out.mono HO.out.2.size)⟩
  · have h0 : (nn != 0) = false := by assumption
    have hz : cmpK ks ks' = 0 := sgn_eq_zero (hnn.out.symm.trans (by simpa using h0))
    have hE := Lib.hid (cmpK_eq _ _ hz)
    have HO' := Lib.hid (HO.out.1.trans (if_pos hz))
    have hb13 := Lib.hid (HO.out.2.trans (hb3.out.mono HO.out.2.size))
    rw [h0]
    clear hz h0
    go_loopw [26] (fun i wr => ∃ k : Nat, k ≤ ks.length ∧ i = .int .i64 k ∧ Hid (cmpL vs vs' = cmpL (vs.drop k) (vs'.drop k) ∧ Below w3.heap.size w3 wr)) (fun i _ => ks.length - (intOf i).toNat)
    case atStart => exact ⟨0, Nat.zero_le _, rfl, rfl, Below.refl _ _⟩
    case round =>
      obtain ⟨k, hk, rfl, hR⟩ := hrel
      by_cases hlt : k < ks.length
      · obtain ⟨b, o, rfl, hb, hrow⟩ := HA.out (by omega)
        obtain ⟨wa, wb, hl, hl', hB, hel⟩ := HW.out
        obtain ⟨hm, hm', ha, ha'⟩ := HM.out wr (hb13.out.trans (hR.out.2.mono hb13.out.size))
        have hs : ks[k]? = some ks[k] := List.getElem?_eq_getElem hlt
        have hs' : ks'[k]? = some ks[k] := hE.out ▸ hs
        have hlen : ks'.length = ks.length := by rw [hE.out]
        obtain ⟨jx, hx⟩ : ∃ j, vs[k]? = some j := ⟨_, List.getElem?_eq_getElem (by omega)⟩
        obtain ⟨jy, hy⟩ : ∃ j, vs'[k]? = some j := ⟨_, List.getElem?_eq_getElem (by omega)⟩
        obtain ⟨x1, hx1, hax⟩ := ha.get hx
        obtain ⟨x2, hx2, hay⟩ := ha'.get hy
        have hz := wa.2.2.1 _ (List.getElem_mem hlt)
        have l1 := (hm.hit wa.2.2.2.1 hs hx1 hz).1
        have l2 := (hm'.hit wb.2.2.2.1 hs' hx2 hz).1
        have hsame : Same (All w2) w2 wr := fun b hb => (hR.out.2.block b (Nat.lt_of_lt_of_le hb hb3.out.size)).trans (hb3.out.block b hb)
        obtain ⟨kv, p1, hkv⟩ := (ARow.keep hsame (fun _ h => h) _ _ _ hb hrow).get (x := J.str ks[k]) (i := k) (by rw [List.getElem?_map, hs]; rfl)
        rw [show kv = .iface 9 (.string ks[k]) from hkv] at p1
        have hD' : ∀ b, D b → b < wr.heap.size := fun b hb => Nat.lt_of_lt_of_le (Nat.lt_of_lt_of_le (hB b hb) hb13.out.size) hR.out.2.size
        have HC := Lib.hid (fun W (hW : Below wr.heap.size wr W) => hel jx (List.mem_of_getElem? hx) jy D x1 x2 W (WFL_iff.1 wa.2.2.2.2 _ (List.mem_of_getElem? hx)) (WFL_iff.1 wb.2.2.2.2 _ (List.mem_of_getElem? hy)) (fun b hb => Nat.lt_of_lt_of_le (hD' b hb) hW.size) (ARep.keep (Same.of_below hW hD') (fun _ h => h) _ _ hax) (ARep.keep (Same.of_below hW hD') (fun _ h => h) _ _ hay))
        have HE := Lib.hid (hR.out.1.trans (cmpL_drop hx hy))
        have hbr := Lib.hid hR.out.2
        have l1' : (Instr.lookup 91 (.map (some r)) (.string ks[k]) false).run Tryz.prog wr.drew = .ok x1 wr.drew := ((hm.keep (D := All wr) (Same.of_below (Below.refl wr.heap.size wr).drew fun b h => h) (World.ownsMap.lt hm)).hit wa.2.2.2.1 hs hx1 hz).1
        have l2' : (Instr.lookup 91 (.map (some r')) (.string ks[k]) false).run Tryz.prog wr.drew = .ok x2 wr.drew := ((hm'.keep (D := All wr) (Same.of_below (Below.refl wr.heap.size wr).drew fun b h => h) (World.ownsMap.lt hm')).hit wb.2.2.2.1 hs' hx2 hz).1
        clear hD' hax hay hx hy hs hs' hlen hm hm' ha ha' hx1 hx2 hz hsame hkv hrow hb wa wb hl hl' hel hR l1 l2 HA
        clear hB
        go_wp2_with fail
        refine region_tail 8 (by kernel_rfl) (by kernel_rfl) ?_
        simp only [List.take_succ_cons, List.take_zero, List.drop_succ_cons, List.drop_zero]
        repeat still_step
        refine wpStill_nil ?_
        go_wp2_with fail
        refine (HC.out _ ?_).mono ?_
        · exact (Below.refl _ _).drew
        rintro e w4 ⟨n, rfl, hn, hb4⟩
        have hb5 : Below w3.heap.size w3 w4 := hbr.out.drew.trans (hb4.mono hbr.out.size)
        by_cases hc0 : n = 0
        · subst hc0
          have HN := Lib.hid hn.symm
          clear hn hb4
          go_wp2_with fail
          go_roundw
          case rel => exact ⟨k + 1, by omega, by go_num, ⟨by rw [HE.out, if_pos HN.out], hb5⟩⟩
          case measure => simp [intOf]; omega
        · have hc' : (n != 0) = true := by simp [hc0]
          have HN := Lib.hid (And.intro hc0 hn)
          clear hc0 hn hb4
          go_wp2_with fail
          go_ret
          refine ⟨_, rfl, ?_, hb13.out.trans (hb5.mono hb13.out.size)⟩
          rw [HO'.out, HE.out, if_neg (fun h => HN.out.1 (HN.out.2.trans h)), sgn_cmpJ]
          exact HN.out.2
      · have hk' : k = ks.length := by omega
        obtain ⟨wa, wb, -⟩ := HW.out
        have hE0 : cmpL vs vs' = 0 := by
          rw [hR.out.1, List.drop_eq_nil_of_le (by omega), List.drop_eq_nil_of_le (by have := congrArg List.length hE.out; omega)]
          rfl
        have HZ := Lib.hid hE0
        have hbr := Lib.hid hR.out.2
        clear wa wb hE0 hR
        subst hk'
        go_wp2_with fail
        go_ret
        exact ⟨_, rfl, by rw [HO'.out, HZ.out]; rfl, hb13.out.trans (hbr.out.mono hb13.out.size)⟩
end Go.Proofs.YtfhppajnnbbcjaaGreatDoor
end

section
namespace Go.Proofs.YtfhppajnnbbcjaaGreatDoor
open Go.RowKit

def J.cls : J → Nat
  | .null => 0
  | .bool _ => 1
  | .num _ => 3
  | .str _ => 4
  | .arr _ => 5
  | .obj _ _ => 6

theorem shp_of {w : World} {D : Nat → Prop} {x : J} {v : Value} (h : ARep w D x v) : Shp v x.cls := by
  cases x with
  | null => rw [show v = _ from h]; exact .nil
  | bool b => rw [show v = _ from h]; exact .bool b
  | num n =>
    rw [show v = _ from h]
    unfold numV
    split
    · exact .int _
    · exact .fl _
  | str s => rw [show v = _ from h]; exact .str s
  | arr l => obtain ⟨S, rfl, -⟩ := h; exact .arr S
  | obj ks vs => obtain ⟨r, xs, rfl, -⟩ := h; exact .map _

theorem cmpJ_other {x y : J} (h : x.cls ≠ y.cls ∨ x.cls < 3) : cmpJ x y = sgn (x.kind - y.kind) := by
  cases x <;> cases y <;> first
    | rfl
    | (simp [J.cls] at h)

theorem gcmp_other (x y : J) (h : x.cls ≠ y.cls ∨ x.cls < 3) (D : Nat → Prop) (v u : Value) (w : World) (hv : ARep w D x v) (hu : ARep w D y u) : Calls Tryz.prog 133 #[v, u] w (CmpP fun n w' => n = cmpJ x y ∧ Below w.heap.size w w') := by
  refine cmp_step (.other (shp_of hv) (shp_of hu) h) _ w ?_
  refine (cmpKinds_any x y D v u w hv hu).mono ?_
  rintro e w' ⟨rfl, rfl⟩
  exact ⟨_, rfl, (cmpJ_other h).symm, Below.refl _ _⟩

theorem fl_order_self {n : Int} (h : n.natAbs ≤ 2 ^ 53) (e : Int) (h1 : e = 0 ∨ e = -1) : Ieee.double.order (fl n e) (fl n e) = some .eq := by
  rcases h1 with rfl | rfl
  · rw [order_wholes h h]
    exact congrArg some (Int.compare_eq_eq.2 rfl)
  · rw [order_halves h h]
    exact congrArg some (Int.compare_eq_eq.2 rfl)

theorem gcmp_num (a b : Int) (wa : (J.num a).WF) (wb : (J.num b).WF) (w : World) : Calls Tryz.prog 133 #[numV a, numV b] w (CmpP fun n w' => n = cmpJ (.num a) (.num b) ∧ Below w.heap.size w w') := by
  simp only [J.WF] at wa wb
  have hJ : cmpJ (.num a) (.num b) = sgn (a - b) := by rw [cmpJ]
  rw [hJ]
  unfold numV
  by_cases ha : a % 2 = 0
  · rw [if_pos ha]
    by_cases hb : b % 2 = 0
    · rw [if_pos hb]
      refine cmp_step (.ints _ _) _ w ((cmpInt_any _ _ w).mono ?_)
      rintro e w' ⟨rfl, rfl⟩
      refine ⟨_, rfl, ?_, Below.refl _ _⟩
      unfold sgn
      split <;> split <;> (try split) <;> (try split) <;> omega
    · rw [if_neg hb]
      refine cmp_step (.intFl _ _) _ w ((flCmp_any _ _ _ w (order_whole_half (x := a / 2) (y := b) (by omega) (by omega)) (fl_order_self (by omega) 0 (.inl rfl))).mono ?_)
      rintro e w' ⟨rfl, rfl⟩
      exact ⟨_, rfl, by rw [ordI_compare, show 2 * (a / 2) - b = a - b by omega], Below.refl _ _⟩
  · rw [if_neg ha]
    by_cases hb : b % 2 = 0
    · rw [if_pos hb]
      refine cmp_step (.flInt _ _) _ w ((flCmp_any _ _ _ w (order_half_whole (x := a) (y := b / 2) (by omega) (by omega)) (fl_order_self (by omega) (-1) (.inr rfl))).mono ?_)
      rintro e w' ⟨rfl, rfl⟩
      exact ⟨_, rfl, by rw [ordI_compare, show a - 2 * (b / 2) = a - b by omega], Below.refl _ _⟩
    · rw [if_neg hb]
      refine cmp_step (.flFl _ _) _ w ((flCmp_any _ _ _ w (order_halves (x := a) (y := b) (by omega) (by omega)) (fl_order_self (by omega) (-1) (.inr rfl))).mono ?_)
      rintro e w' ⟨rfl, rfl⟩
      exact ⟨_, rfl, by rw [ordI_compare], Below.refl _ _⟩

theorem gcmp_str (s : ByteArray) : GCmp (.str s) := by
  intro y D v u w wx wy hB hv hu
  cases y with
  | str t =>
    rw [show v = _ from hv, show u = _ from hu]
    refine cmp_step (.strs _ _) _ w ((cmpStr_any _ _ w).mono ?_)
    rintro e w' ⟨rfl, rfl⟩
    exact ⟨_, rfl, by rw [cmpJ], Below.refl _ _⟩
  | _ => exact gcmp_other _ _ (by simp [J.cls]) D v u w hv hu

theorem gcmp_arr (l : List J) (hel : ∀ x ∈ l, GCmp x) : GCmp (.arr l) := by
  intro y D v u w wx wy hB hv hu
  cases y with
  | arr m =>
    obtain ⟨S, rfl, hS⟩ := hv
    obtain ⟨T, rfl, hT⟩ := hu
    simp only [J.WF] at wx wy
    have hJ : cmpJ (.arr l) (.arr m) = sgn (cmpL l m) := by rw [cmpJ]
    rw [hJ]
    exact cmp_step (.arrs _ _) _ w (cmpArr_of l m hel D S T w wx.2 wy.2 hB hS hT)
  | _ => exact gcmp_other _ _ (by simp [J.cls]) D v u w hv hu

theorem gcmp_obj (ks : List ByteArray) (vs : List J) (hel : ∀ x ∈ vs, GCmp x) : GCmp (.obj ks vs) := by
  intro y D v u w wx wy hB hv hu
  cases y with
  | obj ks' vs' =>
    obtain ⟨r, xs, rfl, hr, hm, hl, ha⟩ := hv
    obtain ⟨r', xs', rfl, hr', hm', hl', ha'⟩ := hu
    exact cmp_step (.maps _ _) _ w (cmpObj_of ks vs ks' vs' hel (gcmp_arr _ fun x hx => by obtain ⟨s, -, rfl⟩ := List.mem_map.1 hx; exact gcmp_str s) D r r' xs xs' w wx wy hB hr hr' hm hm' hl hl' ha ha')
  | _ => exact gcmp_other _ _ (by simp [J.cls]) D v u w hv hu

mutual
theorem gcmp : ∀ x : J, GCmp x
  | .null => fun y D v u w _ _ _ hv hu => gcmp_other _ _ (.inr (by decide)) D v u w hv hu
  | .bool b => fun y D v u w _ _ _ hv hu => gcmp_other _ _ (.inr (by simp [J.cls])) D v u w hv hu
  | .num a => fun y D v u w wx wy _ hv hu => by
    cases y with
    | num b => rw [show v = _ from hv, show u = _ from hu]; exact gcmp_num a b wx wy w
    | _ => exact gcmp_other _ _ (by simp [J.cls]) D v u w hv hu
  | .str s => gcmp_str s
  | .arr l => gcmp_arr l (gcmpL l)
  | .obj ks vs => gcmp_obj ks vs (gcmpL vs)
theorem gcmpL : ∀ l : List J, ∀ x ∈ l, GCmp x
  | [], x, h => by cases h
  | a :: l, x, h => by
    have ha := gcmp a
    have hl := gcmpL l
    rcases List.mem_cons.1 h with rfl | h
    · exact ha
    · exact hl x h
end

/-- gojq.Compare at two JSON values -/
theorem compare_any (x y : J) (D : Nat → Prop) (v u : Value) (w : World) (wx : x.WF) (wy : y.WF) (hB : ∀ b, D b → All w b) (hv : ARep w D x v) (hu : ARep w D y u) :
    Calls Tryz.prog 133 #[v, u] w fun e w' => e = .returned (.int .i64 (cmpJ x y)) ∧ Below w.heap.size w w' := by
  refine (gcmp x y D v u w wx wy hB hv hu).mono ?_
  rintro e w' ⟨n, rfl, rfl, hb⟩
  exact ⟨rfl, hb⟩
end Go.Proofs.YtfhppajnnbbcjaaGreatDoor
end

section
namespace Go.Proofs.YtfhppajnnbbcjaaGreatDoor
open Go.RowKit

/-- the list b stands in a at i -/
def LAt (a b : List J) (i : Nat) : Prop := i + b.length ≤ a.length ∧ (a.drop i).take b.length = b

def idxV : Option Nat → Value
  | none => .nilIface
  | some i => .iface 3 (.int .i64 i)

def IsFirst (a b : List J) : Option Nat → Prop
  | none => b = [] ∨ ∀ i, ¬ LAt a b i
  | some i => b ≠ [] ∧ LAt a b i ∧ ∀ j, j < i → ¬ LAt a b j
def IsLast (a b : List J) : Option Nat → Prop
  | none => b = [] ∨ ∀ i, ¬ LAt a b i
  | some i => b ≠ [] ∧ LAt a b i ∧ ∀ j, i < j → ¬ LAt a b j

theorem sub_rep {w : World} {D : Nat → Prop} {a : List J} {b o i m c : Nat} (h : ARow w D b a o) (hD : D b) (hi : i + m ≤ a.length) (hc : a.length ≤ c) (hm : c ≤ maxLen) :
    ARep w D (.arr ((a.drop i).take m)) (.iface 88 (.slice (some ⟨b, o + i, none⟩) m (c - i))) := by
  have hl : ((a.drop i).take m).length = m := by rw [List.length_take, List.length_drop]; omega
  refine ⟨_, rfl, ⟨_, _, by rw [hl], by rw [hl]; omega, by omega, fun _ => ⟨b, o + i, rfl, hD, ARow.mk fun j x hj => ?_⟩⟩⟩
  have hj' : a[i + j]? = some x := by
    rw [List.getElem?_take] at hj
    split at hj
    · rwa [List.getElem?_drop] at hj
    · cases hj
  obtain ⟨v, hv, hx⟩ := h.get hj'
  exact ⟨v, by rw [show o + i + j = o + (i + j) by omega]; exact hv, hx⟩

theorem WFL_sub {a : List J} (h : WFL a) (i m : Nat) : WFL ((a.drop i).take m) := WFL_iff.2 fun x hx => WFL_iff.1 h x (List.mem_of_mem_drop (List.mem_of_mem_take hx))

set_option maxRecDepth 100000 in
set_option maxHeartbeats 1000000 in
theorem first_any (a b : List J) (D : Nat → Prop) (u v : Value) (w : World) (wa : WFL a) (wb : WFL b) (la : a.length ≤ 1048576) (lb : b.length ≤ 1048576) (hB : ∀ b, D b → All w b) (hu : SlAt D a.length u (fun b o => ARow w D b a o)) (hv : SlAt D b.length v (fun b' o => ARow w D b' b o)) :
    Calls Tryz.prog 132 #[u, v] w fun e w' => (∃ r, e = .returned (idxV r) ∧ IsFirst a b r) ∧ Below w.heap.size w w' := by
  have hv0 := hv
  obtain ⟨A1, c1, rfl, hc1, hm1, hr1⟩ := hu
  obtain ⟨A2, c2, rfl, hc2, hm2, hr2⟩ := hv
  by_cases hb0 : b.length = 0
  · have HB := Lib.hid (List.eq_nil_of_length_eq_zero hb0)
    rw [hb0]
    clear hr1 hr2 wa wb hv0 hb0
    go_enter Tryz.func132, Tryz.ntmps132
    go_wp2_with fail
    go_ret
    exact ⟨⟨none, rfl, .inl HB.out⟩, Below.refl _ _⟩
  · have hne : b ≠ [] := fun h => hb0 (by rw [h]; rfl)
    have HW := Lib.hid (And.intro wa (And.intro wb (And.intro hB (And.intro hr1 (And.intro hm1 (And.intro hv0 hne))))))
    clear hr2 wa wb hB hr1 hv0 hne hm1 hm2
    have hb1 : 0 < b.length := by omega
    go_enter Tryz.func132, Tryz.ntmps132
    go_wp2_with fail
    go_loopw [15] (fun i wr => ∃ k : Nat, k ≤ a.length + 1 ∧ i = .int .i64 k ∧ Hid (Below w.heap.size w wr ∧ ∀ j, j < k → ¬ LAt a b j)) (fun i _ => a.length + 1 - (intOf i).toNat)
    case atStart => exact ⟨0, Nat.zero_le _, rfl, Below.refl _ _, fun j hj => absurd hj (by omega)⟩
    case round =>
      obtain ⟨k, hk, rfl, hR⟩ := hrel
      by_cases ha : k + b.length ≤ a.length
      · obtain ⟨wa, wb, hB, hr1, hm1, hv0, hne⟩ := HW.out
        obtain ⟨b1, o1, rfl, hlt1, hs1⟩ := hr1 (by omega)
        have hbw := hR.out.1
        have hD' : ∀ b, D b → b < wr.heap.size := fun b hb' => Nat.lt_of_lt_of_le (hB b hb') hbw.size
        have hA := sub_rep (ARow.keep (Same.of_below hbw hB) (fun _ h => h) _ _ _ hlt1 hs1) hlt1 ha hc1 hm1
        have hV : SlAt D b.length (.slice A2 b.length c2) (fun b' o => ARow wr D b' b o) := hv0.mono (fun _ h => h) fun b' o hb hr => ARow.keep (Same.of_below hbw hB) (fun _ h => h) _ _ _ hb hr
        have hC := compare_any (.arr ((a.drop k).take b.length)) (.arr b) D _ (.iface 88 (.slice A2 b.length c2)) wr ⟨by rw [List.length_take]; omega, WFL_sub wa _ _⟩ ⟨lb, wb⟩ hD' hA ⟨_, rfl, hV⟩
        have HC := Lib.hid hC
        clear wa wb hB hr1 hm1 hv0 hne hbw hD' hA hV hC hs1 hlt1
        go_wp2_with fail
        refine HC.out.mono ?_
        rintro e w1 ⟨rfl, hb2⟩
        have hbw1 := Lib.hid (hR.out.1.trans (hb2.mono hR.out.1.size))
        clear hb2 HC
        by_cases hc : cmpJ (.arr ((a.drop k).take b.length)) (.arr b) = 0
        · have HE := Lib.hid (cmpJ_eq _ _ hc)
          rw [hc]
          clear hc
          go_wp2_with fail
          go_ret
          exact ⟨⟨some k, rfl, HW.out.2.2.2.2.2.2, ⟨ha, J.arr.inj HE.out⟩, hR.out.2⟩, hbw1.out⟩
        · have h0 : (cmpJ (.arr ((a.drop k).take b.length)) (.arr b) == 0) = false := by simp [hc]
          have HN := Lib.hid (fun h : LAt a b k => hc (by rw [h.2]; exact cmpJ_self _))
          generalize cmpJ (.arr ((a.drop k).take b.length)) (.arr b) = n at h0 hc
          clear hc
          go_wp2_with fail
          go_roundw
          case rel =>
            refine ⟨k + 1, by omega, by go_num, hbw1.out, fun j hj => ?_⟩
            rcases Nat.lt_succ_iff_lt_or_eq.1 hj with h | rfl
            · exact hR.out.2 j h
            · exact HN.out
          case measure => simp [intOf]; omega
      · go_wp2_with fail
        go_ret
        refine ⟨⟨none, rfl, .inr fun j hj => ?_⟩, hR.out.1⟩
        by_cases h : j < k
        · exact hR.out.2 j h hj
        · have := hj.1
          omega
set_option maxRecDepth 100000 in
set_option maxHeartbeats 1000000 in
theorem last_any (a b : List J) (D : Nat → Prop) (u v : Value) (w : World) (wa : WFL a) (wb : WFL b) (la : a.length ≤ 1048576) (lb : b.length ≤ 1048576) (hB : ∀ b, D b → All w b) (hu : SlAt D a.length u (fun b o => ARow w D b a o)) (hv : SlAt D b.length v (fun b' o => ARow w D b' b o)) :
    Calls Tryz.prog 134 #[u, v] w fun e w' => (∃ r, e = .returned (idxV r) ∧ IsLast a b r) ∧ Below w.heap.size w w' := by
  have hv0 := hv
  obtain ⟨A1, c1, rfl, hc1, hm1, hr1⟩ := hu
  obtain ⟨A2, c2, rfl, hc2, hm2, hr2⟩ := hv
  by_cases hb0 : b.length = 0
  · have HB := Lib.hid (List.eq_nil_of_length_eq_zero hb0)
    rw [hb0]
    clear hr1 hr2 wa wb hv0 hb0
    go_enter Tryz.func134, Tryz.ntmps134
    go_wp2_with fail
    go_ret
    exact ⟨⟨none, rfl, .inl HB.out⟩, Below.refl _ _⟩
  · have hne : b ≠ [] := fun h => hb0 (by rw [h]; rfl)
    have HW := Lib.hid (And.intro wa (And.intro wb (And.intro hB (And.intro hr1 (And.intro hm1 (And.intro hv0 hne))))))
    clear hr2 wa wb hB hr1 hv0 hne hm1 hm2
    have hb1 : 0 < b.length := by omega
    go_enter Tryz.func134, Tryz.ntmps134
    go_wp2_with fail
    go_loopw [5] (fun i wr => ∃ z : Int, z ≤ (a.length : Int) - b.length ∧ -1048577 ≤ z ∧ i = .int .i64 z ∧ Hid (Below w.heap.size w wr ∧ ∀ j : Nat, z < j → ¬ LAt a b j)) (fun i _ => (intOf i + 1).toNat)
    case atStart => exact ⟨_, Int.le_refl _, by omega, rfl, Below.refl _ _, fun j hj h => by have := h.1; omega⟩
    case round =>
      obtain ⟨z, hz1, hz2, rfl, hR⟩ := hrel
      by_cases hz : 0 ≤ z
      · obtain ⟨k, rfl⟩ := Int.eq_ofNat_of_zero_le hz
        have ha : k + b.length ≤ a.length := by omega
        obtain ⟨wa, wb, hB, hr1, hm1, hv0, hne⟩ := HW.out
        obtain ⟨b1, o1, rfl, hlt1, hs1⟩ := hr1 (by omega)
        have hbw := hR.out.1
        have hD' : ∀ b, D b → b < wr.heap.size := fun b hb' => Nat.lt_of_lt_of_le (hB b hb') hbw.size
        have hA := sub_rep (ARow.keep (Same.of_below hbw hB) (fun _ h => h) _ _ _ hlt1 hs1) hlt1 ha hc1 hm1
        have hV : SlAt D b.length (.slice A2 b.length c2) (fun b' o => ARow wr D b' b o) := hv0.mono (fun _ h => h) fun b' o hb hr => ARow.keep (Same.of_below hbw hB) (fun _ h => h) _ _ _ hb hr
        have hC := compare_any (.arr ((a.drop k).take b.length)) (.arr b) D _ (.iface 88 (.slice A2 b.length c2)) wr ⟨by rw [List.length_take]; omega, WFL_sub wa _ _⟩ ⟨lb, wb⟩ hD' hA ⟨_, rfl, hV⟩
        have HC := Lib.hid hC
        clear wa wb hB hr1 hm1 hv0 hne hbw hD' hA hV hC hs1 hlt1
        go_wp2_with fail
        refine HC.out.mono ?_
        rintro e w1 ⟨rfl, hb2⟩
        have hbw1 := Lib.hid (hR.out.1.trans (hb2.mono hR.out.1.size))
        clear hb2 HC
        by_cases hc : cmpJ (.arr ((a.drop k).take b.length)) (.arr b) = 0
        · have HE := Lib.hid (cmpJ_eq _ _ hc)
          rw [hc]
          clear hc
          go_wp2_with fail
          go_ret
          exact ⟨⟨some k, rfl, HW.out.2.2.2.2.2.2, ⟨ha, J.arr.inj HE.out⟩, fun j hj => hR.out.2 j (by omega)⟩, hbw1.out⟩
        · have h0 : (cmpJ (.arr ((a.drop k).take b.length)) (.arr b) == 0) = false := by simp [hc]
          have HN := Lib.hid (fun h : LAt a b k => hc (by rw [h.2]; exact cmpJ_self _))
          generalize cmpJ (.arr ((a.drop k).take b.length)) (.arr b) = n at h0 hc
          clear hc
          go_wp2_with fail
          go_roundw
          case rel =>
            refine ⟨(k : Int) - 1, by omega, by omega, rfl, hbw1.out, fun j hj => ?_⟩
            by_cases h : j = k
            · exact h ▸ HN.out
            · exact hR.out.2 j (by omega)
          case measure => simp [intOf]
      · go_wp2_with fail
        go_ret
        exact ⟨⟨none, rfl, .inr fun j => hR.out.2 j (by omega)⟩, hR.out.1⟩
end Go.Proofs.YtfhppajnnbbcjaaGreatDoor
end

section
namespace Go.Proofs.YtfhppajnnbbcjaaGreatDoor
open Go.RowKit

/-- the runes from place p on, at most f of them -/
def runesD (s : ByteArray) : Nat → Nat → List Nat
  | 0, _ => []
  | f + 1, p => if p < s.size then (Utf8.decode s p).1 :: runesD s f (p + (Utf8.decode s p).2) else []

theorem runesD_succ (s : ByteArray) (f p : Nat) : runesD s (f + 1) p = if p < s.size then (Utf8.decode s p).1 :: runesD s f (p + (Utf8.decode s p).2) else [] := rfl

theorem runesD_length (s : ByteArray) : ∀ f p, (runesD s f p).length ≤ f
  | 0, _ => by simp [runesD]
  | f + 1, p => by
    unfold runesD
    split
    · have := runesD_length s f (p + (Utf8.decode s p).2)
      simp only [List.length_cons]; omega
    · simp

theorem runesFrom_eq (s : ByteArray) : ∀ (f p : Nat) (acc : Array Value), (Conv.runesFrom s f p acc).size = acc.size + (runesD s f p).length
  | 0, _, acc => by simp [Conv.runesFrom, runesD]
  | f + 1, p, acc => by
    unfold Conv.runesFrom runesD
    split
    · rw [runesFrom_eq s f]
      simp only [Array.size_push, List.length_cons]
      omega
    · simp

/-- the runes of a string, as numbers -/
def runesJ (s : ByteArray) : List J := (runesD s s.size 0).map fun (r : Nat) => .num (2 * (r : Int))

def EPost (s : ByteArray) (w : World) (e : Ending) (w' : World) : Prop :=
  ∃ S, e = .returned S ∧ SlAt (fun b => w.heap.size ≤ b ∧ b < w'.heap.size) (runesJ s).length S (fun b o => ARow w' (fun b => w.heap.size ≤ b ∧ b < w'.heap.size) b (runesJ s) o) ∧ Below w.heap.size w w'

theorem decode_step (s : ByteArray) (p : Nat) (h : p < s.size) : 1 ≤ (Utf8.decode s p).2 := by
  by_cases ha : (s[p]'h).toNat < 128
  · rw [decode_ascii s p h ha]; exact Nat.le_refl _
  · exact (decode_high s p h (by omega)).2

/-- the row is filled up to k; the string's iterator stands at a place from which the other runes come -/
def ERel (s : ByteArray) (w : World) (B n : Nat) (wr : World) (k : Nat) (p : Nat) : Prop :=
  Below w.heap.size w wr ∧ B + 1 < wr.heap.size ∧ wr.heap[B + 1]? = some (.stringIter s p) ∧ (∃ f, s.size ≤ f + p ∧ (runesD s s.size 0).drop k = runesD s f p) ∧
    ∃ cur, wr.heap[B]? = some (.cells cur 20 (0, 0)) ∧ cur.size = n ∧ ∀ i (r : Nat), i < k → (runesD s s.size 0)[i]? = some r → cur[i]? = some (.iface 3 (.int .i64 r))

theorem drop_cons {α : Type} {l r : List α} {k : Nat} {x : α} (h : l.drop k = x :: r) : l[k]? = some x ∧ l.drop (k + 1) = r ∧ k < l.length := by
  have hk : k < l.length := by
    by_cases hk : k < l.length
    · exact hk
    · rw [List.drop_eq_nil_of_le (by omega)] at h; cases h
  rw [List.drop_eq_getElem_cons hk] at h
  obtain ⟨h1, h2⟩ := List.cons.inj h
  exact ⟨by rw [List.getElem?_eq_getElem hk, h1], h2, hk⟩

theorem ERel.step {s : ByteArray} {w : World} {B n : Nat} {wr : World} {k p : Nat} (h : ERel s w B n wr k p) (hB : w.heap.size ≤ B) (hn : (runesD s s.size 0).length = n) (hp : p < s.size) :
    k < n ∧ ERel s w B n ((wr.iterAt (B + 1) s (p + (Utf8.decode s p).2)).setCell ⟨B, k, none⟩ (.iface 3 (.int .i64 (Utf8.decode s p).1))) (k + 1) (p + (Utf8.decode s p).2) := by
  obtain ⟨hb, hsz, hit, ⟨f, hf, hd⟩, cur, hcur, hcs, hels⟩ := h
  obtain ⟨f', rfl⟩ : ∃ f', f = f' + 1 := ⟨f - 1, by omega⟩
  rw [runesD_succ s f' p, if_pos hp] at hd
  obtain ⟨h1, h2, h3⟩ := drop_cons hd
  have hw := decode_step s p hp
  have hcur' : (wr.iterAt (B + 1) s (p + (Utf8.decode s p).2)).heap[B]? = some (.cells cur 20 (0, 0)) := (Go.Lib.iterAt_other wr (B + 1) B s _ (by omega)).trans hcur
  refine ⟨by omega, (Go.Lib.below_iterAt hb (by omega) _ _).setCell hB _, by simp [World.setCell, Go.Lib.iterAt_size]; omega, ?_, ⟨f', by omega, h2⟩, cur.setIfInBounds k _, heap_setCell_same _ _ _ _ _ _ hcur', by simp [hcs], fun i r hi hix => ?_⟩
  · rw [heap_setCell_other _ _ _ _ (by simp)]
    exact Go.Lib.iterAt_heap wr (B + 1) s p _ hit
  · rcases Nat.lt_succ_iff_lt_or_eq.1 hi with hlt | rfl
    · rw [Array.getElem?_setIfInBounds_ne (by omega)]
      exact hels i r hlt hix
    · rw [h1] at hix
      obtain rfl := Option.some.inj hix
      rw [Array.getElem?_setIfInBounds_self_of_lt (by omega)]

set_option maxRecDepth 100000 in
set_option maxHeartbeats 1000000 in
theorem explode_any (s : ByteArray) (w : World) (hs : s.size ≤ 1048576) : Calls Tryz.prog 179 #[.string s] w (EPost s w) := by
  obtain ⟨n, hn⟩ : ∃ n, (runesD s s.size 0).length = n := ⟨_, rfl⟩
  have hnl := runesD_length s s.size 0
  obtain ⟨w1, c, hconv, hb1, hw1⟩ : ∃ w1 c, (convert 9 109 (.string s)).run Tryz.prog w = .ok (.slice (some ⟨w.heap.size, 0, none⟩) n c) w1 ∧ Below w.heap.size w w1 ∧ w.heap.size < w1.heap.size := by
    have h := runesFrom_eq s s.size 0 #[]
    rw [hn] at h
    simp only [List.size_toArray, List.length_nil, Nat.zero_add] at h
    have := run_runes_of_string (P := Tryz.prog) w 9 109 21 s Tryz.underlying9 Tryz.underlying109 Tryz.underlying21 (by rw [h]; omega)
    rw [h] at this
    exact ⟨_, _, this, ((Below.refl _ _).drew).alloc (Nat.le_refl _) _, by rw [World.size_alloc]; exact Nat.lt_succ_self _⟩
  obtain ⟨cur0, hc0, hmk⟩ := make_any n (by omega) w1
  have HN := Lib.hid (And.intro hn (And.intro hb1 (And.intro hw1 hc0)))
  clear hn hb1 hw1 hc0
  go_enter Tryz.func179, Tryz.ntmps179
  go_wp2_with fail
  obtain ⟨B, hB⟩ : ∃ B, w1.heap.size = B := ⟨_, rfl⟩
  have hBw : w.heap.size ≤ B := by have := HN.out.2.2.1; omega
  have hnb : n ≤ 1048576 := by have := HN.out.1; omega
  have h0 : ERel s w B n ((w1.alloc (.cells cur0 20)).iter s 0) 0 0 := by
    subst hB
    refine ⟨(HN.out.2.1.alloc hBw _).alloc (by simp; omega) _, by simp [World.iter], ?_, ⟨s.size, by omega, rfl⟩, cur0, ?_, HN.out.2.2.2, fun i r hi => absurd hi (by omega)⟩
    · have := World.iter_heap (w1.alloc (.cells cur0 20)) s 0
      rwa [World.size_alloc] at this
    · exact (Below.heap_alloc _ _ _ (by simp)).trans (heap_alloc_new w1 _)
  rw [hB]
  have H0 := Lib.hid h0
  clear h0 hmk hconv
  go_loopw [4] (fun i wr => ∃ k p : Nat, k ≤ n ∧ i = .int .i64 k ∧ Hid (ERel s w B n wr k p)) (fun i _ => n - (intOf i).toNat)
  case atStart => exact ⟨0, 0, Nat.zero_le _, rfl, H0⟩
  case round =>
    obtain ⟨k, p, hk, rfl, hR⟩ := hrel
    by_cases hp : p < s.size
    · have hst := hR.out.step hBw HN.out.1 hp
      have hnx := fun ty => Go.Lib.run_next_any_at (P := Tryz.prog) wr (B + 1) s p ty hR.out.2.2.1 hp
      have hle := decode_le s p
      obtain ⟨-, -, hit, -, cur, hcur, hcs, -⟩ := hR.out
      have hlt := hst.1
      obtain ⟨w2, hw2⟩ : ∃ w2, wr.iterAt (B + 1) s (p + (Utf8.decode s p).2) = w2 := ⟨_, rfl⟩
      have hcur' : w2.heap[B]? = some (.cells cur 20 (0, 0)) := hw2 ▸ (Go.Lib.iterAt_other wr (B + 1) B s _ (by omega)).trans hcur
      have fr := box_frozen hcur' k
      have cl := box_cell hcur' k
      obtain ⟨cv, hcv⟩ : ∃ cv, cur[k]? = some cv := ⟨_, Array.getElem?_eq_getElem (by omega)⟩
      rw [hcv] at cl
      have HS := Lib.hid hst.2
      rw [hw2] at HS hnx
      clear hst hcur hcs hcur' hcv hit hw2 hR H0
      generalize (Utf8.decode s p).1 = rn at hnx hle HS
      generalize p + (Utf8.decode s p).2 = p' at HS
      go_wp2_with fail
      go_roundw
      case rel => exact ⟨k + 1, p', by omega, by go_num, HS⟩
      case measure => simp [intOf]; omega
    · have hnx := fun ty => Go.Lib.run_next_end_at (P := Tryz.prog) wr (B + 1) s p ty hR.out.2.2.1 hp
      go_wp2_with fail
      go_ret
      obtain ⟨hb, hsz, hit, ⟨f, hf, hd⟩, cur, hcur, hcs, hels⟩ := hR.out
      have hkn : k = n := by
        have h1 : runesD s f p = [] := by
          cases f with
          | zero => rfl
          | succ f => rw [runesD_succ, if_neg hp]
        rw [h1] at hd
        have h2 := List.drop_eq_nil_iff.1 hd
        have := HN.out.1
        omega
      subst hkn
      have hlen : (runesJ s).length = k := by unfold runesJ; rw [List.length_map]; exact HN.out.1
      refine ⟨_, rfl, ⟨some ⟨B, 0, none⟩, k, by rw [hlen]; rfl, by rw [hlen]; exact Nat.le_refl _, by unfold maxLen; omega, fun hn => ⟨B, 0, rfl, ⟨hBw, by omega⟩, ARow.mk fun i x hi => ?_⟩⟩, hb⟩
      unfold runesJ at hi
      rw [List.getElem?_map] at hi
      obtain ⟨r, hr, rfl⟩ := Option.map_eq_some_iff.1 hi
      refine ⟨.iface 3 (.int .i64 (r : Int)), ?_, ?_⟩
      · rw [cell_of_row _ _ _ _ _ _ hcur, Nat.zero_add]
        exact hels i r (by have := (List.getElem?_eq_some_iff.1 hr).1; rw [HN.out.1] at this; exact this) hr
      · show _ = numV _
        unfold numV
        rw [if_pos (by omega), show 2 * (r : Int) / 2 = r by omega]
end Go.Proofs.YtfhppajnnbbcjaaGreatDoor
end
