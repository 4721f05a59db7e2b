/- The sort package's functions over a row: the merge of two sorted parts, by recursion.
   The sort package's functions over a row: sort.stable_func.
   Walks: the closure that sortItems hands to sort.SliceStable.
   Walks: sort.SliceStable, of a slice of pointers: as far as sort.stable_func.
   The sort of sortItems: the row of pointers, its items, their keys; sort.SliceStable leaves it sorted. -/
import Derived.Test.YtfhppajnnbbcjaaGreatDoorGz12
import Derived.Deep.Cut
import Derived.Deep.CutRange
import Derived.Deep.DeepCutAuto
import Derived.Deep.Light
import Derived.Test.YtfhppajnnbbcjaaGreatDoorGz11
import Derived.Lib.ReflectliteSlice
import Derived.Lib.ReflectliteSwap
import Derived.Shelf.Abstract

section
namespace Go.Proofs.YtfhppajnnbbcjaaGreatDoor
open Go.RowKit

variable {g sf : FuncId} {lb sb : Array Value} {n N : Nat} {K : Nat → J} {St : (Nat → Nat) → World → Prop}

def SymOK (g sf : FuncId) (lb sb : Array Value) (n N : Nat) (K : Nat → J) (St : (Nat → Nat) → World → Prop) (s : Nat) : Prop := ∀ (f : Nat → Nat) (a m b : Nat) (w : World), St f w → a < m → m < b → b ≤ n → b - a < s → Sd K f a m → Sd K f m b →
  Calls Tryz.prog 322 #[.agg (lessSwapV g sf lb sb), .int .i64 a, .int .i64 m, .int .i64 b] w (SymPost N K St f a b w)

/-- where the search for the cut of the first part begins and ends -/
def LoHi (a m b k lo hi : Nat) : Prop := (k < m ∧ lo + b = k + m ∧ hi = k) ∨ (m ≤ k ∧ lo = a ∧ hi = m)
/-- what is known of the place found from below, from above -/
def LowAt (K : Nat → J) (f : Nat → Nat) (a m b k st : Nat) : Prop := st = a ∨ k + m - st = b ∨ cmpJ (K (f (st - 1))) (K (f (k + m - st))) ≤ 0
def HighAt (K : Nat → J) (f : Nat → Nat) (m k r : Nat) : Prop := r = m ∨ k + m - r = m ∨ cmpJ (K (f (k + m - r - 1))) (K (f r)) < 0

set_option maxRecDepth 100000 in
set_option maxHeartbeats 4000000 in
theorem symMerge_mid (E : SortEnv g sf lb sb n N K St) (f : Nat → Nat) (a m b : Nat) (w : World) (h : St f w) (h1 : a + 1 < m) (h2 : m + 1 < b) (h3 : b ≤ n) (ih : SymOK g sf lb sb n N K St (b - a)) (s1 : Sd K f a m) (s2 : Sd K f m b) :
    Calls Tryz.prog 322 #[.agg (lessSwapV g sf lb sb), .int .i64 a, .int .i64 m, .int .i64 b] w (SymPost N K St f a b w) := by
  have hN := E.base _ _ h
  have hn := E.small
  have HR0 := Lib.hid (SoRel.start E h (lessSwapV g sf lb sb))
  have HE := Lib.hid E
  have HS := Lib.hid (And.intro s1 (And.intro s2 ih))
  have e1 : ((m : Int) - (a : Int) == 1) = false := by simp; omega
  have e2 : ((b : Int) - (m : Int) == 1) = false := by simp; omega
  obtain ⟨k, hk1, hk2, e3⟩ : ∃ k : Nat, 2 * k ≤ a + b ∧ a + b ≤ 2 * k + 1 ∧ ((a : Int) + (b : Int)) / 2 = (k : Int) := ⟨(a + b) / 2, by omega, by omega, by omega⟩
  clear E h s1 s2 ih
  go_enter Tryz.func322, Tryz.ntmps322
  go_upto_if 106 with fail
  generalize hW0 : w.alloc _ = W0
  rw [hW0] at HR0
  clear e1 e2 e3 hW0
  go_cut [18, 19] from 107 to 112 (fun s18 s19 wc => ∃ lo hi : Nat, s18 = .int .i64 lo ∧ s19 = .int .i64 hi ∧ Hid (LoHi a m b k lo hi) ∧ wc = W0)
  case first =>
    by_cases hm : k < m
    · have e4 : ((k : Int) + (m : Int) - (b : Int)) = ((k + m - b : Nat) : Int) := by omega
      go_wp2_with fail
      go_meet
      case rel => exact ⟨k + m - b, k, rfl, rfl, .inl ⟨hm, by omega, rfl⟩, rfl⟩
    · go_wp2_with fail
      go_meet
      case rel => exact ⟨a, m, rfl, rfl, .inr ⟨by omega, rfl, rfl⟩, rfl⟩
  case rest =>
    obtain ⟨lo, hi, rfl, rfl, hLH, rfl⟩ := hcut
    have hlo1 : a ≤ lo := by rcases hLH.out with h | h <;> omega
    have hlo2 : k + m ≤ lo + b := by rcases hLH.out with h | h <;> omega
    have hhi1 : hi ≤ m := by rcases hLH.out with h | h <;> omega
    have hhi2 : hi ≤ k := by rcases hLH.out with h | h <;> omega
    have hlh : lo ≤ hi := by rcases hLH.out with h | h <;> omega
    have HL0 := Lib.hid (show LowAt K f a m b k lo by
      rcases hLH.out with h | h
      · exact .inr (.inl (by omega))
      · exact .inl h.2.1)
    have HH0 := Lib.hid (show HighAt K f m k hi by
      rcases hLH.out with h | h
      · exact .inr (.inl (by omega))
      · exact .inl h.2.2)
    clear hLH
    go_wp2_with fail
    go_loopw [18, 19] (fun vi vj wr => ∃ st r : Nat, lo ≤ st ∧ st ≤ r ∧ r ≤ hi ∧ vi = .int .i64 st ∧ vj = .int .i64 r ∧ Hid (LowAt K f a m b k st) ∧ Hid (HighAt K f m k r) ∧ Hid (SoRel N St w (lessSwapV g sf lb sb) f wr)) (fun i j _ => (intOf j).toNat - (intOf i).toNat)
    case atStart => exact ⟨lo, hi, Nat.le_refl _, hlh, Nat.le_refl _, rfl, rfl, HL0, HH0, HR0⟩
    case round =>
      obtain ⟨st, r, h1s, h2s, h3s, rfl, rfl, hL, hH, hR⟩ := hrel
      clear HR0 HL0 HH0
      by_cases hlt : st < r
      · have c0 : wr.cell? ⟨w.heap.size, 0, none⟩ = _ := box_cell hR.out.2.2 0
        have eg := HE.out.enter
        obtain ⟨c, hc1, hc2, e4⟩ : ∃ c : Nat, st ≤ c ∧ c < r ∧ ((st : Int) + (r : Int)) / 2 = (c : Int) := ⟨(st + r) / 2, by omega, by omega, by omega⟩
        have e5 : ((k : Int) + (m : Int) - 1 - (c : Int)) = ((k + m - 1 - c : Nat) : Int) := by omega
        have hl := HE.out.less f wr (k + m - 1 - c) c hR.out.1 (by omega) (by omega)
        by_cases hd : cmpJ (K (f (k + m - 1 - c))) (K (f c)) < 0
        · have hd' : decide (cmpJ (K (f (k + m - 1 - c))) (K (f c)) < 0) = true := by simpa using hd
          rw [hd'] at hl
          have HC := Lib.hid hl
          have HH := Lib.hid (show HighAt K f m k c from .inr (.inr (by rw [show k + m - c - 1 = k + m - 1 - c by omega]; exact hd)))
          clear hl hd hd'
          go_wp2_with fail
          refine HC.out.mono ?_
          rintro e w1 ⟨rfl, hb1⟩
          have HK := Lib.hid (hR.out.near hN (HE.out.keep _ _ _ hR.out.1 hb1) (Near.below hb1))
          clear hb1 HC hR c0 eg hH
          go_wp2_with fail
          clear e4 e5
          go_roundw
          case rel => exact ⟨st, c, by omega, by omega, by omega, rfl, rfl, hL, HH, HK⟩
          case measure => simp [intOf]; omega
        · have hd' : decide (cmpJ (K (f (k + m - 1 - c))) (K (f c)) < 0) = false := by simpa using hd
          rw [hd'] at hl
          have HC := Lib.hid hl
          have HL := Lib.hid (show LowAt K f a m b k (c + 1) from .inr (.inr (by
            rw [Nat.add_sub_cancel, show k + m - (c + 1) = k + m - 1 - c by omega]; exact cmpJ_le_of_not_lt hd)))
          clear hl hd hd'
          go_wp2_with fail
          refine HC.out.mono ?_
          rintro e w1 ⟨rfl, hb1⟩
          have HK := Lib.hid (hR.out.near hN (HE.out.keep _ _ _ hR.out.1 hb1) (Near.below hb1))
          clear hb1 HC hR c0 eg hL
          go_wp2_with fail
          clear e4 e5
          go_roundw
          case rel => exact ⟨c + 1, r, by omega, by omega, by omega, by go_num, rfl, HL, hH, HK⟩
          case measure => simp [intOf]; omega
      · have hst : st = r := by omega
        subst hst
        obtain ⟨en, hen1, hen2, hen3, e6⟩ : ∃ en : Nat, k + m = st + en ∧ m ≤ en ∧ en ≤ b ∧ ((k : Int) + (m : Int) - (st : Int)) = (en : Int) := ⟨k + m - st, by omega, by omega, by omega, by omega⟩
        have HT := Lib.hid (show Turned K (rot f st m en) a st k en b by
          refine turned HS.out.1 HS.out.2.1 (by omega) (by omega) hen2 hen3 hen1 ?_ ?_
          · have := hL.out
            unfold LowAt at this
            rwa [show k + m - st = en by omega] at this
          · have := hH.out
            unfold HighAt at this
            rwa [show k + m - st = en by omega] at this)
        have HQ := Lib.hid ((Sh.rot f (show st ≤ m by omega) hen2).mono (show a ≤ st by omega) hen3)
        have h4s : st ≤ m := by omega
        have h5s : a ≤ st := by omega
        have h6s : st ≤ k := by omega
        have h7s : k ≤ en := by omega
        have HEN := Lib.hid hen1
        clear hen1 hL hH h1s h2s h3s hlt hlo1 hlo2 hhi1 hhi2 hlh
        go_upto_region 40 with fail
        go_cut [145] from 138 to 144 (fun sq wc => ∃ q : Bool, sq = .bool q ∧ Hid (q = true ↔ st < m ∧ m < en) ∧ wr = wc)
        case first =>
          by_cases x1 : st < m
          · by_cases x2 : m < en
            · go_wp2_with fail
              go_meet
              case rel => exact ⟨true, rfl, ⟨fun _ => ⟨x1, x2⟩, fun _ => rfl⟩, rfl⟩
            · go_wp2_with fail
              go_meet
              case rel => exact ⟨false, rfl, ⟨fun h => (nomatch h), fun h => absurd h.2 x2⟩, rfl⟩
          · go_wp2_with fail
            go_meet
            case rel => exact ⟨false, rfl, ⟨fun h => (nomatch h), fun h => absurd h.1 x1⟩, rfl⟩
        case rest =>
        obtain ⟨q, rfl, hq, rfl⟩ := hcut
        clear e6
        go_upto_if 145 with fail
        go_cut [] from 146 to 150 (fun wc => SoRel N St w (lessSwapV g sf lb sb) (rot f st m en) wc)
        case first =>
          cases q with
          | true =>
            have hqq := hq.out.1 rfl
            have HC := Lib.hid (rotate_any HE.out f st m en wr hR.out.1 hqq.1 hqq.2 (by omega))
            have c0 : wr.cell? ⟨w.heap.size, 0, none⟩ = _ := box_cell hR.out.2.2 0
            have c1 : wr.cell? ⟨w.heap.size, 1, none⟩ = _ := box_cell hR.out.2.2 1
            clear hqq
            go_wp2_with fail
            refine HC.out.mono ?_
            rintro e w1 ⟨rfl, f1, rfl, hs, hnr⟩
            have HK := Lib.hid (hR.out.near hN hs hnr)
            clear hs hnr HC c0 c1
            go_wp2_with fail
            go_meet
            case rel => exact HK.out
          | false =>
            have hqq : rot f st m en = f := by
              by_cases x1 : st < m
              · have x2 : ¬ m < en := fun h => nomatch hq.out.2 ⟨x1, h⟩
                rw [show en = m by omega, rot_one]
              · rw [show st = m by omega, rot_none]
            have HK := Lib.hid (show SoRel N St w (lessSwapV g sf lb sb) (rot f st m en) wr by rw [hqq]; exact hR.out)
            clear hqq
            go_wp2_with fail
            go_meet
            case rel => exact HK.out
        case rest =>
        have HR := Lib.hid hcut
        obtain ⟨wc1, hwc⟩ : ∃ x, wc = x := ⟨_, rfl⟩
        rw [hwc] at HR ⊢
        clear hwc
        clear hcut hq hR
        obtain ⟨f1, hf1⟩ : ∃ f1, rot f st m en = f1 := ⟨_, rfl⟩
        rw [hf1] at HR HT HQ
        clear hf1
        have IH := Lib.hid HS.out.2.2
        go_upto_region 42 with fail
        go_cut [158] from 151 to 157 (fun sq wc => ∃ q : Bool, sq = .bool q ∧ Hid (q = true ↔ a < st ∧ st < k) ∧ wc1 = wc)
        case first =>
          by_cases x1 : a < st
          · by_cases x2 : st < k
            · go_wp2_with fail
              go_meet
              case rel => exact ⟨true, rfl, ⟨fun _ => ⟨x1, x2⟩, fun _ => rfl⟩, rfl⟩
            · go_wp2_with fail
              go_meet
              case rel => exact ⟨false, rfl, ⟨fun h => (nomatch h), fun h => absurd h.2 x2⟩, rfl⟩
          · go_wp2_with fail
            go_meet
            case rel => exact ⟨false, rfl, ⟨fun h => (nomatch h), fun h => absurd h.1 x1⟩, rfl⟩
        case rest =>
        obtain ⟨q, rfl, hq, rfl⟩ := hcut
        go_upto_if 158 with fail
        go_cut [] from 159 to 163 (fun wc => ∃ f2, Sh f1 f2 a k ∧ Sd K f2 a k ∧ SoRel N St w (lessSwapV g sf lb sb) f2 wc)
        case first =>
          cases q with
          | true =>
            have hqq := hq.out.1 rfl
            have HC := Lib.hid (IH.out f1 a st k wc1 HR.out.1 hqq.1 hqq.2 (by omega) (by omega) HT.out.s1 HT.out.s2)
            have c0 : wc1.cell? ⟨w.heap.size, 0, none⟩ = _ := box_cell HR.out.2.2 0
            have c1 : wc1.cell? ⟨w.heap.size, 1, none⟩ = _ := box_cell HR.out.2.2 1
            clear hqq
            go_wp2_with fail
            refine HC.out.mono ?_
            rintro e w1 ⟨rfl, f2, hf2, hs, hnr⟩
            have HK := Lib.hid (And.intro hf2 (HR.out.near hN hs hnr))
            clear hs hnr HC c0 c1 hf2
            go_wp2_with fail
            go_meet
            case rel => exact ⟨f2, HK.out.1.1, HK.out.1.2, HK.out.2⟩
          | false =>
            have HK := Lib.hid (show Sd K f1 a k by
              by_cases x1 : a < st
              · have x2 : ¬ st < k := fun h => nomatch hq.out.2 ⟨x1, h⟩
                have := HT.out.s1
                rwa [show st = k by omega] at this
              · have := HT.out.s2
                rwa [show st = a by omega] at this)
            go_wp2_with fail
            go_meet
            case rel => exact ⟨f1, Sh.refl _ _ _, HK.out, HR.out⟩
        case rest =>
        obtain ⟨f2, g1, g2, g3⟩ := hcut
        have HF2 := Lib.hid (And.intro g1 (And.intro g2 g3))
        have HT2 := Lib.hid (show Sd K f2 k en ∧ Sd K f2 en b from ⟨HT.out.s3.same fun x hx _ => g1.out x (.inr hx), HT.out.s4.same fun x hx _ => g1.out x (.inr (by omega))⟩)
        have HFIN := Lib.hid (show ∀ f3, Sh f2 f3 k b → Sd K f3 k b → Sh f f3 a b ∧ Sd K f3 a b from fun f3 h1 h2 =>
          ⟨(HQ.out.trans (g1.mono (Nat.le_refl _) (by omega))).trans (h1.mono (by omega) (Nat.le_refl _)), turned_done HT.out g1 g2 h1 h2⟩)
        clear g1 g2 g3 hq HR HT HQ
        by_cases x1 : k < en
        · by_cases x2 : en < b
          · have HC := Lib.hid (IH.out f2 k en b wc HF2.out.2.2.1 x1 x2 (by omega) (by omega) HT2.out.1 HT2.out.2)
            have c0 : wc.cell? ⟨w.heap.size, 0, none⟩ = _ := box_cell HF2.out.2.2.2.2 0
            have c1 : wc.cell? ⟨w.heap.size, 1, none⟩ = _ := box_cell HF2.out.2.2.2.2 1
            go_wp2_with fail
            refine HC.out.mono ?_
            rintro e w1 ⟨rfl, f3, hf3, hs, hnr⟩
            have HK := Lib.hid (And.intro hf3 (HF2.out.2.2.near hN hs hnr))
            clear hs hnr HC c0 c1 hf3
            go_wp2_with fail
            go_end0
            exact ⟨rfl, _, HFIN.out f3 HK.out.1.1 HK.out.1.2, HK.out.2.1, HK.out.2.2.1⟩
          · have HK := Lib.hid (show Sd K f2 k b by have := HT2.out.1; rwa [show en = b by omega] at this)
            go_wp2_with fail
            go_end0
            exact ⟨rfl, _, HFIN.out f2 (Sh.refl _ _ _) HK.out, HF2.out.2.2.1, HF2.out.2.2.2.1⟩
        · have HK := Lib.hid (show Sd K f2 k b by have := HT2.out.2; rwa [show en = k by omega] at this)
          go_wp2_with fail
          go_end0
          exact ⟨rfl, _, HFIN.out f2 (Sh.refl _ _ _) HK.out, HF2.out.2.2.1, HF2.out.2.2.2.1⟩

theorem symMerge_all (E : SortEnv g sf lb sb n N K St) : ∀ s, SymOK g sf lb sb n N K St s := by
  intro s
  induction s with
  | zero => intro f a m b w _ _ _ _ h; omega
  | succ s ih =>
    intro f a m b w h h1 h2 h3 hs s1 s2
    by_cases c1 : m = a + 1
    · exact symMerge_left E f a m b w h c1 h2 h3 s2
    · by_cases c2 : b = m + 1
      · exact symMerge_right E f a m b w h (by omega) c2 h3 s1
      · exact symMerge_mid E f a m b w h (by omega) (by omega) h3 (fun f' a' m' b' w' g0 g1 g2 g3 g4 => ih f' a' m' b' w' g0 g1 g2 g3 (by omega)) s1 s2

theorem symMerge_any (E : SortEnv g sf lb sb n N K St) (f : Nat → Nat) (a m b : Nat) (w : World) (h : St f w) (h1 : a < m) (h2 : m < b) (h3 : b ≤ n) (s1 : Sd K f a m) (s2 : Sd K f m b) :
    Calls Tryz.prog 322 #[.agg (lessSwapV g sf lb sb), .int .i64 a, .int .i64 m, .int .i64 b] w (SymPost N K St f a b w) :=
  symMerge_all E (b - a + 1) f a m b w h h1 h2 h3 (by omega) s1 s2
end Go.Proofs.YtfhppajnnbbcjaaGreatDoor
end

section
namespace Go.Proofs.YtfhppajnnbbcjaaGreatDoor
open Go.RowKit

variable {g sf : FuncId} {lb sb : Array Value} {n N : Nat} {K : Nat → J} {St : (Nat → Nat) → World → Prop}

/-- all blocks of s elements are sorted -/
def AllBk (K : Nat → J) (n s : Nat) (f : Nat → Nat) : Prop := ∀ c, s ∣ c → Sd K f c (min (c + s) n)
/-- all blocks of s elements ahead of a are -/
def BkTo (K : Nat → J) (s a : Nat) (f : Nat → Nat) : Prop := ∀ c, s ∣ c → c < a → Sd K f c (c + s)
/-- all blocks of s elements from a on are -/
def BkFrom (K : Nat → J) (n s a : Nat) (f : Nat → Nat) : Prop := ∀ c, s ∣ c → a ≤ c → Sd K f c (min (c + s) n)

theorem dvd_step {s c a : Nat} (hc : s ∣ c) (ha : s ∣ a) (h : c < a) : c + s ≤ a := by
  obtain ⟨p, rfl⟩ := hc
  obtain ⟨q, rfl⟩ := ha
  have h1 : p < q := Nat.lt_of_mul_lt_mul_left h
  have h2 : s * (p + 1) ≤ s * q := Nat.mul_le_mul_left s h1
  rw [Nat.mul_add, Nat.mul_one] at h2
  exact h2

theorem BkTo.grow {s a : Nat} {f f' : Nat → Nat} (h : BkTo K s a f) (ha : s ∣ a) (hs : Sh f f' a (a + s)) (hd : Sd K f' a (a + s)) : BkTo K s (a + s) f' := by
  intro c hc hca
  by_cases e : c = a
  · subst e; exact hd
  · have h1 : c < a := by
      rcases Nat.lt_or_ge c a with h1 | h1
      · exact h1
      · have := dvd_step ha hc (by omega); omega
    have h2 := dvd_step hc ha h1
    exact (h c hc h1).same fun x _ hx => hs.out x (.inl (by omega))

theorem BkTo.all {s a : Nat} {f f' : Nat → Nat} (h : BkTo K s a f) (ha : s ∣ a) (hn : n < a + s) (hs : Sh f f' a n) (hd : Sd K f' a n) (han : a ≤ n) : AllBk K n s f' := by
  intro c hc
  rcases Nat.lt_trichotomy c a with h1 | h1 | h1
  · have h2 := dvd_step hc ha h1
    exact ((h c hc h1).same fun x _ hx => hs.out x (.inl (by omega))).mono (Nat.le_refl _) (Nat.min_le_left _ _)
  · subst h1; exact hd.mono (Nat.le_refl _) (Nat.min_le_right _ _)
  · have h2 := dvd_step ha hc h1
    exact Sd.small (by have := Nat.min_le_right (c + s) n; omega)

theorem BkFrom.grow {s a : Nat} {f f' : Nat → Nat} (h : BkFrom K n s a f) (hs : Sh f f' a (a + 2 * s)) : BkFrom K n s (a + 2 * s) f' :=
  fun c hc hca => (h c hc (by omega)).same fun x hx _ => hs.out x (.inr (by omega))

set_option maxRecDepth 100000 in
set_option maxHeartbeats 4000000 in
theorem stable_any (E : SortEnv g sf lb sb n N K St) (f : Nat → Nat) (w : World) (h : St f w) (hn2 : n ≤ 1099511627776) :
    Calls Tryz.prog 281 #[.agg (lessSwapV g sf lb sb), .int .i64 n] w (SymPost N K St f 0 n w) := by
  have hN := E.base _ _ h
  have HR0 := Lib.hid (SoRel.start E h (lessSwapV g sf lb sb))
  have HE := Lib.hid E
  clear E h
  go_enter Tryz.func281, Tryz.ntmps281
  go_wp2_with fail
  go_loopw [5, 6] (fun va vb wr => ∃ (a : Nat) (f' : Nat → Nat), a ≤ n ∧ va = .int .i64 a ∧ vb = .int .i64 ((a : Int) + 20) ∧ Hid (20 ∣ a ∧ Sh f f' 0 n ∧ BkTo K 20 a f') ∧ Hid (SoRel N St w (lessSwapV g sf lb sb) f' wr)) (fun va _ _ => n - (intOf va).toNat)
  case atStart => exact ⟨0, f, Nat.zero_le _, rfl, rfl, ⟨⟨0, rfl⟩, Sh.refl _ _ _, fun c _ hc => by omega⟩, HR0⟩
  case round =>
    obtain ⟨a, f', han, rfl, rfl, hB, hR⟩ := hrel
    clear HR0
    have c0 : wr.cell? ⟨w.heap.size, 0, none⟩ = _ := box_cell hR.out.2.2 0
    have c1 : wr.cell? ⟨w.heap.size, 1, none⟩ = _ := box_cell hR.out.2.2 1
    by_cases hlt : a + 20 ≤ n
    · have HC := Lib.hid (insertionSort_any HE.out f' a (a + 20) wr hR.out.1 (by omega) hlt)
      rw [show (((a + 20 : Nat) : Int)) = (a : Int) + 20 by omega] at HC
      go_wp2_with fail
      refine HC.out.mono ?_
      rintro e w1 ⟨rfl, f1, hf1, hs, hnr⟩
      have HK := Lib.hid (hR.out.near hN hs hnr)
      have HB := Lib.hid (show 20 ∣ a + 20 ∧ Sh f f1 0 n ∧ BkTo K 20 (a + 20) f1 from ⟨Nat.dvd_add hB.out.1 (Nat.dvd_refl _), hB.out.2.1.trans (hf1.1.mono (by omega) hlt), hB.out.2.2.grow hB.out.1 hf1.1 hf1.2⟩)
      clear hs hnr HC c0 c1 hf1 hB hR
      go_wp2_with fail
      go_roundw
      case rel => exact ⟨a + 20, f1, hlt, by go_num, by go_num, HB, HK⟩
      case measure => simp [intOf]; omega
    · have HC := Lib.hid (insertionSort_any HE.out f' a n wr hR.out.1 han (Nat.le_refl _))
      go_wp2_with fail
      refine HC.out.mono ?_
      rintro e w1 ⟨rfl, f1, hf1, hs, hnr⟩
      have HK := Lib.hid (hR.out.near hN hs hnr)
      have HB := Lib.hid (show Sh f f1 0 n ∧ AllBk K n 20 f1 from ⟨hB.out.2.1.trans (hf1.1.mono (by omega) (Nat.le_refl _)), hB.out.2.2.all hB.out.1 (by omega) hf1.1 hf1.2 han⟩)
      clear hs hnr HC c0 c1 hf1 hB hR hlt han
      go_wp2_with fail
      go_loopw [4] (fun vs wr => ∃ (s : Nat) (f' : Nat → Nat), 0 < s ∧ s ≤ 2 * n + 20 ∧ vs = .int .i64 s ∧ Hid (Sh f f' 0 n ∧ AllBk K n s f') ∧ Hid (SoRel N St w (lessSwapV g sf lb sb) f' wr)) (fun vs _ => n - (intOf vs).toNat)
      case atStart => exact ⟨20, f1, by omega, by omega, rfl, HB, HK⟩
      case round =>
        obtain ⟨s, f2, hs0, hs1, rfl, hB2, hR2⟩ := hrel
        clear HB HK
        by_cases hsn : s < n
        · have HS2 := Lib.hid (show Sh f f2 0 n ∧ BkTo K (2 * s) 0 f2 ∧ BkFrom K n s 0 f2 from ⟨hB2.out.1, fun c _ hc => by omega, fun c hc _ => hB2.out.2 c hc⟩)
          clear hB2
          go_wp2_with fail
          go_loopw [5, 6] (fun va vb wr => ∃ (a b : Nat) (f' : Nat → Nat), a ≤ n ∧ va = .int .i64 a ∧ vb = .int .i64 b ∧ b ≤ 4 * n + 40 ∧ Hid (b = a + 2 * s ∧ 2 * s ∣ a ∧ Sh f f' 0 n ∧ BkTo K (2 * s) a f' ∧ BkFrom K n s a f') ∧ Hid (SoRel N St w (lessSwapV g sf lb sb) f' wr)) (fun va _ _ => n - (intOf va).toNat)
          case atStart => exact ⟨0, 2 * s, f2, Nat.zero_le _, rfl, by first | (congr 1; done) | (congr 1; omega), by omega, ⟨by omega, Nat.dvd_zero _, HS2.out⟩, hR2⟩
          case round =>
            obtain ⟨a, b, f3, han, rfl, rfl, hbb, hB3, hR3⟩ := hrel
            clear HS2 hR2
            have c0 : wr.cell? ⟨w.heap.size, 0, none⟩ = _ := box_cell hR3.out.2.2 0
            have c1 : wr.cell? ⟨w.heap.size, 1, none⟩ = _ := box_cell hR3.out.2.2 1
            obtain ⟨hb, hda, hsh, hto, hfrom⟩ := hB3.out
            have hds : s ∣ a := Nat.dvd_trans (Nat.dvd_mul_left s 2) hda
            by_cases hlt : b ≤ n
            · have HC := Lib.hid (symMerge_any HE.out f3 a (a + s) b wr hR3.out.1 (by omega) (by omega) hlt (by have := hfrom a hds (Nat.le_refl _); rwa [Nat.min_eq_left (by omega)] at this)
                (by have := hfrom (a + s) (Nat.dvd_add hds (Nat.dvd_refl _)) (by omega); rwa [Nat.min_eq_left (by omega), show a + s + s = b by omega] at this))
              rw [show (((a + s : Nat) : Int)) = (a : Int) + s by omega] at HC
              have HBB := Lib.hid (And.intro hb hda)
              have HB4 := Lib.hid (And.intro hsh (And.intro hto hfrom))
              have hm1 : a ≤ b := by omega
              have hm2 : a < b := by omega
              clear hb hda hsh hto hfrom hds hB3
              go_wp2_with fail
              refine HC.out.mono ?_
              rintro e w1 ⟨rfl, f4, hf4, hs, hnr⟩
              have HK := Lib.hid (hR3.out.near hN hs hnr)
              have HB := Lib.hid (show True ∧ 2 * s ∣ b ∧ Sh f f4 0 n ∧ BkTo K (2 * s) b f4 ∧ BkFrom K n s b f4 by
                have h1 := HBB.out.1
                have h4 := hf4.1
                have h5 := hf4.2
                subst h1
                exact ⟨trivial, Nat.dvd_add HBB.out.2 (Nat.dvd_refl _), HB4.out.1.trans (h4.mono (by omega) hlt), HB4.out.2.1.grow HBB.out.2 h4 h5, HB4.out.2.2.grow h4⟩)
              clear hs hnr HC c0 c1 hf4 HB4 hR3 HBB
              go_wp2_with fail
              go_roundw
              case rel => exact ⟨b, b + 2 * s, f4, hlt, rfl, by first | (congr 1; done) | (congr 1; omega), by omega, ⟨rfl, HB.out.2⟩, HK⟩
              case measure => simp [intOf]; omega
            · by_cases hms : a + s < n
              · have HC := Lib.hid (symMerge_any HE.out f3 a (a + s) n wr hR3.out.1 (by omega) hms (Nat.le_refl _) (by have := hfrom a hds (Nat.le_refl _); rwa [Nat.min_eq_left (by omega)] at this)
                  (by have := hfrom (a + s) (Nat.dvd_add hds (Nat.dvd_refl _)) (by omega); rwa [Nat.min_eq_right (by omega)] at this))
                rw [show (((a + s : Nat) : Int)) = (a : Int) + s by omega] at HC
                have HB4 := Lib.hid (And.intro hb (And.intro hda (And.intro hsh hto)))
                clear hb hda hsh hto hfrom hds hB3
                go_wp2_with fail
                refine HC.out.mono ?_
                rintro e w1 ⟨rfl, f4, hf4, hs, hnr⟩
                have HK := Lib.hid (hR3.out.near hN hs hnr)
                have HB := Lib.hid (show Sh f f4 0 n ∧ AllBk K n (2 * s) f4 from ⟨HB4.out.2.2.1.trans (hf4.1.mono (by omega) (Nat.le_refl _)), HB4.out.2.2.2.all HB4.out.2.1 (by have := HB4.out.1; omega) hf4.1 hf4.2 han⟩)
                clear hs hnr HC c0 c1 hf4 HB4 hR3
                go_wp2_with fail
                go_roundw
                case rel => exact ⟨2 * s, f4, by omega, by omega, by congr 1; omega, HB, HK⟩
                case measure => simp [intOf]; omega
              · have HB := Lib.hid (show Sh f f3 0 n ∧ AllBk K n (2 * s) f3 from ⟨hsh, hto.all hda (by omega) (Sh.refl _ _ _) (by have := hfrom a hds (Nat.le_refl _); rwa [Nat.min_eq_right (by omega)] at this) han⟩)
                clear hb hda hsh hto hfrom hds hB3
                go_wp2_with fail
                go_roundw
                case rel => exact ⟨2 * s, f3, by omega, by omega, by congr 1; omega, HB, hR3⟩
                case measure => simp [intOf]; omega
        · have HB := Lib.hid (show Sh f f2 0 n ∧ Sd K f2 0 n from ⟨hB2.out.1, by have := hB2.out.2 0 (Nat.dvd_zero _); rwa [Nat.min_eq_right (by omega)] at this⟩)
          clear hB2
          go_wp2_with fail
          go_end0
          exact ⟨rfl, _, HB.out, hR2.out.1, hR2.out.2.1⟩
end Go.Proofs.YtfhppajnnbbcjaaGreatDoor
end

section
namespace Go.Proofs.YtfhppajnnbbcjaaGreatDoor
open Go.RowKit

abbrev toPtr (g : Nat) : Value := .pointer (some ⟨g, 0, none⟩)

def LessPost (x y : J) (w : World) (e : Ending) (w' : World) : Prop := e = .returned (.bool (decide (cmpJ x y < 0))) ∧ Below w.heap.size w w'

set_option maxRecDepth 100000 in
set_option maxHeartbeats 1000000 in
theorem lessItems_any (i j n blk c bx pi pj : Nat) (vi vj ki kj : Value) (x y : J) (D : Nat → Prop) (W : World) (wx : x.WF) (wy : y.WF) (hi : i < n) (hj : j < n) (_hn : n ≤ 1099511627776) (hD : ∀ b, D b → All W b)
    (hbx : W.heap[bx]? = some (.cells #[.slice (some ⟨blk, 0, none⟩) n c] 222 (0, 0))) (h1 : W.cell? ⟨blk, i, none⟩ = some (toPtr pi)) (h2 : W.cell? ⟨blk, j, none⟩ = some (toPtr pj))
    (hp : W.heap[pi]? = some (.cells #[vi, ki] 227 (0, 0))) (hq : W.heap[pj]? = some (.cells #[vj, kj] 227 (0, 0))) (hx : ARep W D x ki) (hy : ARep W D y kj) :
    Calls Tryz.prog 244 #[.int .i64 i, .int .i64 j, toPtr bx] W (LessPost x y W) := by
  have HC := Lib.hid (compare_any x y D ki kj W.drew wx wy hD (ARep.keep (show Same D W W.drew from fun _ _ => rfl) (fun _ h => h) _ _ hx) (ARep.keep (show Same D W W.drew from fun _ _ => rfl) (fun _ h => h) _ _ hy))
  have c0 : W.cell? ⟨bx, 0, none⟩ = _ := box_cell hbx 0
  have c1 : W.cell? ⟨pi, 1, none⟩ = _ := box_cell hp 1
  have c2 : W.cell? ⟨pj, 1, none⟩ = _ := box_cell hq 1
  clear hbx hp hq hx hy hD wx wy
  go_enter Tryz.func244, Tryz.ntmps244
  go_wp2_with fail
  refine region_tail 14 (by kernel_rfl) (by kernel_rfl) ?_
  simp only [List.take_succ_cons, List.take_zero, List.drop_succ_cons, List.drop_zero]
  repeat still_step
  refine wpStill_nil ?_
  go_wp2_with fail
  refine HC.out.mono ?_
  rintro e w1 ⟨rfl, hb1⟩
  have HB := Lib.hid ((Below.refl W.heap.size W).drew.trans hb1)
  clear hb1 HC c0 c1 c2 h1 h2
  go_wp2_with fail
  go_ret
  exact ⟨rfl, HB.out⟩
end Go.Proofs.YtfhppajnnbbcjaaGreatDoor
end

section
namespace Go.Proofs.YtfhppajnnbbcjaaGreatDoor
open Go.RowKit Go.Lib

noncomputable def Tryz.i222 : TypeInfo := (Tryz.prog.info? 222).get (by kernel_rfl)
noncomputable def Tryz.i225 : TypeInfo := (Tryz.prog.info? 225).get (by kernel_rfl)
theorem i222_at : Tryz.prog.info? 222 = some Tryz.i222 := by kernel_rfl
theorem i225_at : Tryz.prog.info? 225 = some Tryz.i225 := by kernel_rfl
theorem i222_desc : Tryz.i222.desc = .slice 225 := by kernel_rfl
theorem i222_packed : Tryz.prog.packed 222 = false := by kernel_rfl
theorem i225_kind (w : World) : (Extern.Rtype.kind 225).run Tryz.prog w = .ok 22 w := by kernel_rfl
theorem i225_size : Tryz.i225.size = 1 := by kernel_rfl
theorem i225_agg (w : World) : (isAgg 225).run Tryz.prog w = .ok false w := by kernel_rfl
theorem sk0 : swapperK 0 Tryz.i225 22 = 1 := by kernel_rfl
theorem sk1 : swapperK 1 Tryz.i225 22 = 2 := by kernel_rfl
theorem sk2 (n : Nat) (h : 2 ≤ n) : swapperK n Tryz.i225 22 = 3 := by
  have a : Tryz.i225.hasPointers = true := by kernel_rfl
  have b : Tryz.i225.bytes = 8 := by kernel_rfl
  have c : (n == 0) = false := by simp; omega
  have d : (n == 1) = false := by simp; omega
  simp [swapperK, a, b, c, d]

def swapF (n : Nat) : FuncId := if n = 0 then 312 else if n = 1 then 313 else 314
theorem swapF_at (n : Nat) : Tryz.prog.funcs.findIdx? (·.name == "internal/reflectlite" ++ ".Swapper$" ++ toString (swapperK n Tryz.i225 22)) = some (swapF n) := by
  unfold swapF
  by_cases h0 : n = 0
  · subst h0
    rw [if_pos rfl, sk0]; kernel_rfl
  · rw [if_neg h0]
    by_cases h1 : n = 1
    · subst h1
      rw [if_pos rfl, sk1]; kernel_rfl
    · rw [if_neg h1, sk2 n (by omega)]; kernel_rfl

/-- what the swapper is bound to -/
noncomputable def swapB (p : Option Addr) (n c : Nat) : Array Value := if swapperK n Tryz.i225 22 ≤ 2 then #[] else #[.slice p n c, typeHandle Tryz.prog 225]

/-- the world in which stable_func is called -/
noncomputable def stableW (p : Option Addr) (n c : Nat) (w : World) : World :=
  (w.alloc (.cells #[.slice p n c] 222)).alloc (.cells #[typeHandle Tryz.prog 222, .pointer (some ⟨w.heap.size, 0, none⟩), .int .u64 151] 303)

theorem stableW_below (p : Option Addr) (n c : Nat) (w : World) : Below w.heap.size w (stableW p n c w) := ((Below.refl _ _).alloc (Nat.le_refl _) _).alloc (by simp) _

def RetP (R : World → Prop) (e : Ending) (w' : World) : Prop := e = .returned (.tuple #[]) ∧ R w'

set_option maxHeartbeats 1000000 in
set_option maxRecDepth 100000 in
theorem sliceStable_any (g : FuncId) (lb : Array Value) (p : Option Addr) (n c : Nat) (w : World) (R : World → Prop)
    (hp : Calls Tryz.prog 281 #[.agg (lessSwapV g (swapF n) lb (swapB p n c)), .int .i64 n] (stableW p n c w) (RetP R)) :
    Calls Tryz.prog 243 #[.iface 222 (.slice p n c), .func (.func g) #[] lb] w (RetP R) := by
  have hv := run_valueOf_slice (P := Tryz.prog) 222 225 Tryz.i222 i222_at i222_desc p n c w
  have hs := fun w => run_swapper_slice (P := Tryz.prog) 222 225 Tryz.i222 Tryz.i225 i222_at i222_desc i225_at 22 i225_kind p n c (swapF n) (swapF_at n) w
  have hl := fun a w ha => run_valueLen_slice (P := Tryz.prog) 222 225 Tryz.i222 i222_at i222_desc i222_packed a p n c w ha
  change ∀ w, _ = Result.ok (Value.func (.func (swapF n)) #[] (swapB p n c)) w at hs
  unfold stableW at hp
  have HS := Lib.hid hs
  have HL := Lib.hid hl
  have HV := Lib.hid hv
  have HP := Lib.hid hp
  clear hs hl hv hp
  go_enter Tryz.func243, Tryz.ntmps243
  go_wp2_with fail
  rw [run_callFunc_extern Tryz.func279 (by kernel_rfl) (by kernel_rfl) (by kernel_rfl) (e := fun args => Extern.ReflectliteValue.unpack (args.getD 0 (.tuple #[]))) (by kernel_rfl),
    show Sem.run Tryz.prog ((fun args : Array Value => Extern.ReflectliteValue.unpack (args.getD 0 (.tuple #[]))) #[.iface 222 (.slice p n c)]) w = _ from HV.out]
  simp only [Result.andThen]
  rw [Oper.upon_value]
  clear HV
  have HT : Hid (typeHandle Tryz.prog 222 = typeHandle Tryz.prog 222) := rfl
  obtain ⟨gh, hgh⟩ : ∃ gh, Tryz.prog.globals.size = gh := ⟨_, rfl⟩
  simp only [typeHandle] at HL HP ⊢
  rw [hgh] at HL HP ⊢
  clear hgh HT
  go_wp2_with fail
  rw [run_callFunc_extern Tryz.func280 (by kernel_rfl) (by kernel_rfl) (by kernel_rfl) (e := Extern.ReflectliteSwapper.swapper "internal/reflectlite" (Extern.ReflectliteValue.valueError "Swapper")) (by kernel_rfl), HS.out]
  simp only [Result.andThen]
  rw [Oper.upon_value]
  clear HS
  go_wp2_with fail
  rw [run_callFunc_extern Tryz.func282 (by kernel_rfl) (by kernel_rfl) (by kernel_rfl) (e := Extern.ReflectliteValue.method (Extern.ReflectliteValue.valueError "reflectlite.Value.Len" 0) Extern.ReflectliteValue.len) (by kernel_rfl),
    HL.out ⟨w.heap.size, 0, none⟩ _ (by simp)]
  simp only [Result.andThen]
  rw [Oper.upon_value]
  clear HL
  go_wp2_with fail
  refine HP.out.mono ?_
  rintro e w' ⟨rfl, hR⟩
  have HR := Lib.hid hR
  clear hR HP
  go_wp2_with fail
  go_end0
  exact ⟨rfl, HR.out⟩
end Go.Proofs.YtfhppajnnbbcjaaGreatDoor
end

section
namespace Go.Proofs.YtfhppajnnbbcjaaGreatDoor
open Go.RowKit Go.Lib

/-- the items as they were laid: P: their blocks; kv: the keys' values -/
structure Items (B0 N blk bx n : Nat) (P : Nat → Nat) (K : Nat → J) (w1 : World) : Prop where
  lo : B0 ≤ blk
  hblk : blk < N
  hbx : bx < N
  bxne : bx ≠ blk
  box : ∃ c, w1.heap[bx]? = some (.cells #[.slice (some ⟨blk, 0, none⟩) n c] 222 (0, 0))
  at_ : ∀ i, i < n → P i < N ∧ P i ≠ blk
  item : ∀ i, i < n → ∃ v k, w1.heap[P i]? = some (.cells #[v, k] 227 (0, 0)) ∧ ARep w1 (fun b => b < N ∧ b ≠ blk) (K i) k
  wf : ∀ i, i < n → (K i).WF

structure ItSt (B0 N blk n : Nat) (P : Nat → Nat) (w w1 : World) (f : Nat → Nat) (W : World) : Prop where
  below : Below B0 w W
  size : N ≤ W.heap.size
  same : ∀ b, b < N → b ≠ blk → W.heap[b]? = w1.heap[b]?
  dom : ∀ x, x < n → f x < n
  row : ∃ cs : Array Value, W.heap[blk]? = some (.cells cs 225 (0, 0)) ∧ cs.size = n ∧ ∀ x, x < n → cs[x]? = some (toPtr (P (f x)))

theorem ItSt.cell {B0 N blk n : Nat} {P : Nat → Nat} {w w1 : World} {f : Nat → Nat} {W : World} (h : ItSt B0 N blk n P w w1 f W) {x : Nat} (hx : x < n) : W.cell? ⟨blk, x, none⟩ = some (toPtr (P (f x))) := by
  obtain ⟨cs, h1, -, h3⟩ := h.row
  rw [box_cell h1, h3 x hx]

theorem ItSt.keep {B0 N blk n : Nat} {P : Nat → Nat} {w w1 : World} {f : Nat → Nat} {W W' : World} (h : ItSt B0 N blk n P w w1 f W) (hb : Below W.heap.size W W') (h0 : B0 ≤ W.heap.size) : ItSt B0 N blk n P w w1 f W' where
  below := h.below.trans (hb.mono h0)
  size := Nat.le_trans h.size hb.size
  same := fun b h1 h2 => (hb.block b (Nat.lt_of_lt_of_le h1 h.size)).trans (h.same b h1 h2)
  dom := h.dom
  row := by
    obtain ⟨cs, h1, h2, h3⟩ := h.row
    exact ⟨cs, (hb.block _ (box_lt h1)).trans h1, h2, h3⟩

theorem swp_dom {f : Nat → Nat} {n i j : Nat} (h : ∀ x, x < n → f x < n) (hi : i < n) (hj : j < n) : ∀ x, x < n → swp f i j x < n := by
  intro x hx
  unfold swp
  split
  · exact h j hj
  · split
    · exact h i hi
    · exact h x hx

theorem ItSt.swap {B0 N blk n : Nat} {P : Nat → Nat} {w w1 : World} {f : Nat → Nat} {W : World} (h : ItSt B0 N blk n P w w1 f W) (h0 : B0 ≤ blk) {i j : Nat} (hi : i < n) (hj : j < n) (hne : i ≠ j) :
    ItSt B0 N blk n P w w1 (swp f i j) ((W.setCell ⟨blk, i, none⟩ (toPtr (P (f j)))).setCell ⟨blk, j, none⟩ (toPtr (P (f i)))) where
  below := (h.below.setCell h0 _).setCell h0 _
  size := by have := h.size; simpa [World.setCell] using this
  same := fun b h1 h2 => by
    rw [heap_setCell_other _ _ _ _ h2, heap_setCell_other _ _ _ _ h2]
    exact h.same b h1 h2
  dom := swp_dom h.dom hi hj
  row := by
    obtain ⟨cs, h1, h2, h3⟩ := h.row
    refine ⟨_, heap_setCell_same _ _ _ _ _ _ (heap_setCell_same _ _ _ _ _ _ h1), by simpa using h2, fun x hx => ?_⟩
    by_cases e1 : x = j
    · subst e1
      rw [Array.getElem?_setIfInBounds]
      rw [if_pos rfl, if_pos (by simpa using (by omega : x < cs.size))]
      unfold swp
      rw [if_neg (Ne.symm hne), if_pos rfl]
    · rw [Array.getElem?_setIfInBounds, if_neg (Ne.symm e1), Array.getElem?_setIfInBounds]
      by_cases e2 : x = i
      · subst e2
        rw [if_pos rfl, if_pos (by omega)]
        unfold swp
        rw [if_pos rfl]
      · rw [if_neg (Ne.symm e2), h3 x hx]
        unfold swp
        rw [if_neg e2, if_neg e1]

theorem itEnv {B0 N blk bx n : Nat} {P : Nat → Nat} {K : Nat → J} {w w1 : World} (I : Items B0 N blk bx n P K w1) (c : Nat) (hn : n ≤ 1099511627776) :
    SortEnv 244 (swapF n) #[toPtr bx] (swapB (some ⟨blk, 0, none⟩) n c) n N K (ItSt B0 N blk n P w w1) where
  base := fun _ _ h => h.size
  keep := fun _ _ _ h hb => h.keep hb (by have := h.size; have := I.lo; have := I.hblk; omega)
  enter := Go.Proofs.enters_of Tryz.func244 (by kernel_rfl) rfl
  less := fun f W i j h hi hj => by
    obtain ⟨c', hbx⟩ := I.box
    obtain ⟨vi, ki, hpi, hki⟩ := I.item (f i) (h.dom i hi)
    obtain ⟨vj, kj, hpj, hkj⟩ := I.item (f j) (h.dom j hj)
    have ai := I.at_ (f i) (h.dom i hi)
    have aj := I.at_ (f j) (h.dom j hj)
    have hs : Same (fun b => b < N ∧ b ≠ blk) w1 W := fun b hb => h.same b hb.1 hb.2
    exact lessItems_any i j n blk c' bx (P (f i)) (P (f j)) vi vj ki kj (K (f i)) (K (f j)) (fun b => b < N ∧ b ≠ blk) W (I.wf _ (h.dom i hi)) (I.wf _ (h.dom j hj)) hi hj hn (fun b hb => Nat.lt_of_lt_of_le hb.1 h.size)
      ((h.same bx I.hbx I.bxne).trans hbx) (h.cell hi) (h.cell hj) ((h.same _ ai.1 ai.2).trans hpi) ((h.same _ aj.1 aj.2).trans hpj) (ARep.keep hs (fun _ h => h) _ _ hki) (ARep.keep hs (fun _ h => h) _ _ hkj)
  swap := fun f W i j h hi hj hne => by
    have h2 : 2 ≤ n := by omega
    have hF : swapF n = 314 := by unfold swapF; rw [if_neg (by omega), if_neg (by omega)]
    have hB : swapB (some ⟨blk, 0, none⟩) n c = #[.slice (some ⟨blk, 0, none⟩) n c, typeHandle Tryz.prog 225] := by
      unfold swapB; rw [sk2 n h2]; rfl
    obtain ⟨cs, h1, -, -⟩ := h.row
    have fz := box_frozen h1
    have hrun := run_swap_one (P := Tryz.prog) true 225 Tryz.i225 i225_at i225_size i225_agg blk 0 n c i j hi hj (toPtr (P (f i))) (toPtr (P (f j))) rfl rfl W (by rw [Nat.zero_add]; exact h.cell hi) (by rw [Nat.zero_add]; exact h.cell hj) (fz _) (fz _)
    rw [Nat.zero_add, Nat.zero_add] at hrun
    refine ⟨_, ?_, h.swap I.lo hi hj hne, ⟨by simp [World.setCell], fun b hb _ => ?_⟩⟩
    · rw [hF, hB, run_callFunc_extern Tryz.func314 (by kernel_rfl) (by kernel_rfl) (by kernel_rfl) (e := Extern.ReflectliteSwapper.swap true) (by kernel_rfl)]
      show ((Extern.ReflectliteSwapper.swap true #[.int .i64 i, .int .i64 j, .slice (some ⟨blk, 0, none⟩) n c, typeHandle Tryz.prog 225]).run Tryz.prog W).andThen _ = _
      rw [hrun]
      rfl
    · have := I.hblk
      rw [heap_setCell_other _ _ _ _ (show b ≠ blk by omega), heap_setCell_other _ _ _ _ (show b ≠ blk by omega)]
  small := by omega

/-- how the sort leaves the row -/
def SortedR (B0 N blk n : Nat) (P : Nat → Nat) (K : Nat → J) (w w1 : World) (w' : World) : Prop := ∃ f, Sh id f 0 n ∧ Sd K f 0 n ∧ ItSt B0 N blk n P w w1 f w'

theorem sortItemsRow_any {B0 N blk bx n : Nat} {P : Nat → Nat} {K : Nat → J} {w w1 : World} (I : Items B0 N blk bx n P K w1) (c : Nat) (hn : n ≤ 1099511627776) (h : ItSt B0 N blk n P w w1 id w1) :
    Calls Tryz.prog 243 #[.iface 222 (.slice (some ⟨blk, 0, none⟩) n c), .func (.func 244) #[] #[toPtr bx]] w1 (RetP (SortedR B0 N blk n P K w w1)) := by
  refine sliceStable_any 244 #[toPtr bx] (some ⟨blk, 0, none⟩) n c w1 _ ?_
  have hb := stableW_below (some ⟨blk, 0, none⟩) n c w1
  refine (stable_any (itEnv I c hn) id _ (h.keep hb (by have := h.size; have := I.lo; have := I.hblk; omega)) hn).mono ?_
  rintro e w' ⟨rfl, f, ⟨h1, h2⟩, h3, -⟩
  exact ⟨rfl, f, h1, h2, h3⟩
end Go.Proofs.YtfhppajnnbbcjaaGreatDoor
end
