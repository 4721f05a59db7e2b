/- Walks: gojq.uniqueBy, of an array by itself.
   Walks: gojq's ZzGetPath. -/
import Derived.Test.YtfhppajnnbbcjaaGreatDoorGz14
import Derived.Test.YtfhppajnnbbcjaaGreatDoorGz12
import Derived.Test.YtfhppajnnbbcjaaGreatDoorGz10

section
namespace Go.Proofs.YtfhppajnnbbcjaaGreatDoor
open Go.RowKit

/-- the elements, without one that equals the one ahead of it -/
def ded (g : Nat → J) : Nat → List J
  | 0 => []
  | k + 1 => if k = 0 ∨ cmpJ (g (k - 1)) (g k) ≠ 0 then ded g k ++ [g k] else ded g k

theorem ded_length (g : Nat → J) : ∀ k, (ded g k).length ≤ k
  | 0 => by simp [ded]
  | k + 1 => by
    have := ded_length g k
    unfold ded
    split <;> simp <;> omega

theorem mem_ded {g : Nat → J} {x : J} : ∀ {k : Nat}, x ∈ ded g k ↔ ∃ i, i < k ∧ x = g i
  | 0 => by simp [ded]
  | k + 1 => by
    have ih := mem_ded (g := g) (x := x) (k := k)
    unfold ded
    by_cases c : k = 0 ∨ cmpJ (g (k - 1)) (g k) ≠ 0
    · rw [if_pos c, List.mem_append, ih, List.mem_singleton]
      constructor
      · rintro (⟨i, h1, h2⟩ | h)
        · exact ⟨i, by omega, h2⟩
        · exact ⟨k, by omega, h⟩
      · rintro ⟨i, h1, h2⟩
        by_cases e : i = k
        · subst e; exact .inr h2
        · exact .inl ⟨i, by omega, h2⟩
    · rw [if_neg c, ih]
      have hk : k ≠ 0 := fun h => c (.inl h)
      have he : g (k - 1) = g k := cmpJ_eq _ _ (by
        rcases Decidable.em (cmpJ (g (k - 1)) (g k) = 0) with h | h
        · exact h
        · exact absurd (.inr h) c)
      constructor
      · rintro ⟨i, h1, h2⟩; exact ⟨i, by omega, h2⟩
      · rintro ⟨i, h1, h2⟩
        by_cases e : i = k
        · subst e; exact ⟨i - 1, by omega, h2.trans he.symm⟩
        · exact ⟨i, by omega, h2⟩

theorem ded_up {g : Nat → J} {n : Nat} (h : ∀ x y, x < y → y < n → cmpJ (g x) (g y) ≤ 0) : ∀ k, k ≤ n → Up (ded g k)
  | 0, _ => by simp [ded, Up]
  | k + 1, hk => by
    have ih := ded_up h k (by omega)
    unfold ded
    by_cases c : k = 0 ∨ cmpJ (g (k - 1)) (g k) ≠ 0
    · rw [if_pos c]
      refine List.pairwise_append.2 ⟨ih, List.pairwise_singleton _ _, fun x hx y hy => ?_⟩
      rw [List.mem_singleton] at hy
      subst hy
      obtain ⟨i, hi, rfl⟩ := mem_ded.1 hx
      have hne := c.resolve_left (by omega)
      have h1 : cmpJ (g (k - 1)) (g k) < 0 := by have := h (k - 1) k (by omega) (by omega); omega
      by_cases e : i = k - 1
      · rw [e]; exact h1
      · have h2 := h i (k - 1) (by omega) (by omega)
        rcases Int.lt_or_eq_of_le h2 with h3 | h3
        · exact cmpJ_trans _ _ _ h3 h1
        · rw [cmpJ_eq _ _ h3]; exact h1
    · rw [if_neg c]; exact ih

theorem ded_uniq {l : List J} {f : Nat → Nat} (h1 : Sh id f 0 l.length) (h2 : Sd (elJ l) f 0 l.length) : Uniq l (ded (fun k => elJ l (f k)) l.length) where
  up := ded_up (fun x y hxy hy => h2 x y (Nat.zero_le _) hxy hy) l.length (Nat.le_refl _)
  mem := fun x => by
    rw [mem_ded]
    constructor
    · rintro ⟨i, hi, rfl⟩
      obtain ⟨j, -, hj, e⟩ := h1.from_ i (Nat.zero_le _) hi
      simp only [e, id]
      unfold elJ
      rw [List.getD_eq_getElem?_getD, List.getElem?_eq_getElem hj]
      exact List.getElem_mem _
    · intro hx
      obtain ⟨j, hj, rfl⟩ := List.getElem_of_mem hx
      obtain ⟨i, -, hi, e⟩ := h1.to_ j (Nat.zero_le _) hj
      refine ⟨i, hi, ?_⟩
      simp only [id] at e
      unfold elJ
      rw [← e, List.getD_eq_getElem?_getD, List.getElem?_eq_getElem hj]
      rfl

def UBPost (l : List J) (D : Nat → Prop) (w : World) (e : Ending) (w' : World) : Prop := ∃ v u, e = .returned v ∧ (Uniq l u ∧ u.length ≤ l.length) ∧ ARep w' (fun b => D b ∨ (w.heap.size ≤ b ∧ b < w'.heap.size)) (.arr u) v ∧ Below w.heap.size w w'

/-- what the values of 'rs, last = append(rs, r.value), r.key' are good for -/
def UBF (x : J) (lst : List J) (D : Nat → Prop) (B : Nat) (rs : Value) (pk : Nat) (v : Value) (d : Nat → Prop) : Nat → Value → World → Prop
  | 0, u, _ => u = rs
  | 1, u, _ => u = toPtr pk
  | 2, u, _ => u = toPtr pk
  | 3, u, _ => u = toPtr pk
  | 4, u, _ => u = v
  | 5, u, W => ∃ q, u = .slice (some ⟨q, 0, none⟩) 1 1 ∧ (¬ d 6 → W.heap[q]? = some (.cells #[v] 20 (0, 0)))
  | 6, u, W => GG EA W B D u (lst ++ [x])
  | 7, u, _ => u = toPtr pk
  | 8, u, _ => u = toPtr pk
  | 9, u, _ => u = .pointer (some ⟨pk, 1, none⟩)
  | 10, u, _ => u = v
  | 11, u, W => d 0 ∧ d 6 ∧ GG EA W B D u (lst ++ [x])
  | _, _, _ => True

theorem UBF.keep {x : J} {lst : List J} {D : Nat → Prop} {B : Nat} {rs : Value} {pk : Nat} {v : Value} {d d' : Nat → Prop} {i : Nat} {u : Value} {W W' : World} (h : UBF x lst D B rs pk v d i u W) (hd : ∀ j, d j → d' j) (hb : Below W.heap.size W W') : UBF x lst D B rs pk v d' i u W' := by
  match i, h with
  | 0, h => exact h
  | 1, h => exact h
  | 2, h => exact h
  | 3, h => exact h
  | 4, h => exact h
  | 5, ⟨q, h1, h2⟩ => exact ⟨q, h1, fun hn => by
      have h3 := h2 fun h6 => hn (hd 6 h6)
      exact (hb.block _ (box_lt h3)).trans h3⟩
  | 6, h => exact GG.below h hb
  | 7, h => exact h
  | 8, h => exact h
  | 9, h => exact h
  | 10, h => exact h
  | 11, h => exact ⟨hd 0 h.1, hd 6 h.2.1, GG.below h.2.2 hb⟩
  | m + 12, _ => trivial
theorem UBF.five {x : J} {lst : List J} {D : Nat → Prop} {B : Nat} {rs : Value} {pk : Nat} {v : Value} {d : Nat → Prop} {u : Value} {W : World} (h : UBF x lst D B rs pk v d 5 u W) : ∃ q, u = .slice (some ⟨q, 0, none⟩) 1 1 ∧ (¬ d 6 → W.heap[q]? = some (.cells #[v] 20 (0, 0))) := h
theorem UBF.grown {x : J} {lst : List J} {D : Nat → Prop} {B : Nat} {rs : Value} {pk : Nat} {v : Value} {d : Nat → Prop} {i : Nat} {u : Value} {W W' : World} (h : UBF x lst D B rs pk v d i u W) (hi : i ≠ 6) (h11 : i ≠ 11) : UBF x lst D B rs pk v (fun j => d j ∨ j = 6) i u W' := by
  match i, hi, h with
  | 0, _, h => exact h
  | 1, _, h => exact h
  | 2, _, h => exact h
  | 3, _, h => exact h
  | 4, _, h => exact h
  | 5, _, ⟨q, h1, h2⟩ => exact ⟨q, h1, fun hn => absurd (.inr rfl) hn⟩
  | 7, _, h => exact h
  | 8, _, h => exact h
  | 9, _, h => exact h
  | 10, _, h => exact h
  | 11, _, _ => exact absurd rfl h11
  | m + 12, _, _ => trivial

/-- on the way -/
def UBRel (g : Nat → J) (D : Nat → Prop) (w1 : World) (k : Nat) (rs lv : Value) (wr : World) : Prop :=
  Below w1.heap.size w1 wr ∧ GG EA wr w1.heap.size D rs (ded g k) ∧ ((k = 0 ∧ lv = .nilIface) ∨ (0 < k ∧ ARep w1 D (g (k - 1)) lv))

set_option maxRecDepth 100000 in
set_option maxHeartbeats 2000000 in
theorem uniqueBy_any (nm : ByteArray) (l : List J) (D : Nat → Prop) (S : Value) (w : World) (wl : WFL l) (hn : l.length ≤ 1048576) (hD : ∀ b, D b → All w b) (hS : SlAt D l.length S (fun b o => ARow w D b l o)) :
    Calls Tryz.prog 152 #[.string nm, .iface 88 S, .iface 88 S] w (UBPost l D w) := by
  have HC := Lib.hid (sortItems_any nm l D S w wl hn hD hS)
  have HD := Lib.hid (And.intro hD wl)
  clear wl hD hS
  go_enter Tryz.func152, Tryz.ntmps152
  go_wp2_with fail
  refine HC.out.mono ?_
  clear HC
  rintro e w1 ⟨blk, c, f, P, rfl, hO⟩
  have HO := Lib.hid hO
  have HU := Lib.hid (ded_uniq hO.sh hO.sd)
  obtain ⟨g, hg⟩ : ∃ g : Nat → J, (fun k => elJ l (f k)) = g := ⟨_, rfl⟩
  rw [hg] at HU
  have HG := Lib.hid (show ∀ k, g k = elJ l (f k) from fun k => by rw [← hg])
  clear hO hg
  go_wp2_with fail
  go_loopw [9, 10, 26] (fun vr vl i wr => ∃ (k : Nat) (rs lv : Value), rs = vr ∧ lv = vl ∧ k ≤ l.length ∧ i = .int .i64 k ∧ Hid (UBRel g D w1 k rs lv wr)) (fun _ _ i _ => l.length - (intOf i).toNat)
  case atStart =>
    refine ⟨0, _, _, rfl, rfl, Nat.zero_le _, rfl, ?_⟩
    have hb : Below w1.heap.size w1 (w1.alloc (.cells #[] 20)) := (Below.refl _ _).alloc (Nat.le_refl _) _
    exact ⟨hb, GG.lit (E := EA) (cs := []) (l := []) (Nat.le_refl _) (heap_alloc_new w1 _) (by simp) rfl, .inl ⟨rfl, rfl⟩⟩
  case round =>
    obtain ⟨k, rs, lv, rfl, rfl, hk, rfl, hR⟩ := hrel
    by_cases ha : k < l.length
    · obtain ⟨v, hv1, hv2⟩ := HO.out.items (f k) (HO.out.dom k ha)
      have hcell := (hR.out.1.cell (p := ⟨blk, k, none⟩) HO.out.lt).trans (HO.out.cells k ha)
      have HI := Lib.hid (And.intro (box_lt hv1) (And.intro hv1 (And.intro (show ARep w1 D (g k) v by rw [HG.out k]; exact hv2) (fun b hb => Nat.lt_of_lt_of_le (HD.out.1 b hb) HO.out.below.size))))
      clear hv1 hv2
      by_cases h0 : k = 0
      · have HW := Lib.hid (And.intro hR.out.1 hR.out.2.1)
        have HC := Lib.hid (show k = 0 ∨ cmpJ (g (k - 1)) (g k) ≠ 0 from .inl h0)
        have e0 : ((k : Int) == 0) = true := by simp [h0]
        clear h0 hR
        rcases ARep.shape HI.out.2.2.1 with rfl | ⟨vt, vu, rfl⟩
        · go_wp2_with fail
          clear hcell e0
          refine wp_region_RGE 12 (by kernel_rfl) (by kernel_rfl) (fun d xs W => Below w1.heap.size w1 W ∧ (¬ d 6 → GG EA W w1.heap.size D rs (ded g k)) ∧ (¬ d 11 → xs 11 = rs)) (fun d i u W => UBF (g k) (ded g k) D w1.heap.size rs (P (f k)) .nilIface d i u W) (by simp [AllSteps, frameOf, Act.put, upd]) (fun xs hxs => ⟨HW.out.1.drew, fun _ => GG.below HW.out.2 (Below.refl _ _).drew, fun _ => by have h9 := congrArg (fun a : Act => a.tmps[9]?) hxs; simp [frameOf, Act.put] at h9; exact h9.symm⟩) ⟨?s0, ?s1, ?s2, ?s3, ?s4, ?s5, ?s6, ?s7, ?s8, ?s9, ?s10, ?s11, trivial⟩ ?e
          case s0 =>
            intro xs d W hd hdeps hG hF K hK
            clear hdeps
            have f11 : xs 11 = rs := hG.2.2 fun h11 => hd (hF 11 h11).1
            simp only [frameOf, List.take_succ_cons, List.take_zero, Act.put, List.setIfInBounds_toArray, List.set_cons_zero, List.set_cons_succ, Nat.zero_add, Nat.reduceAdd]
            simp only [f11]
            go_simp
            exact hK _ _ _ (by simp only [frameOf, List.take_succ_cons, List.take_zero, Act.put, List.setIfInBounds_toArray, List.set_cons_zero, List.set_cons_succ, Nat.zero_add, Nat.reduceAdd, f11]) ⟨hG.1, fun hn => hG.2.1 fun h6 => hn (.inl h6), fun hn => (upd_off (by decide)).trans (hG.2.2 fun h11 => hn (.inl h11))⟩ (fun j u _ _ h => h.keep (fun _ h => .inl h) (Below.refl _ _)) rfl
          case s1 =>
            intro xs d W hd hdeps hG hF K hK
            clear hdeps
            simp only [frameOf, List.take_succ_cons, List.take_zero, Act.put, List.setIfInBounds_toArray, List.set_cons_zero, List.set_cons_succ, Nat.zero_add, Nat.reduceAdd]
            go_simp
            exact hK _ _ _ (by simp only [frameOf, List.take_succ_cons, List.take_zero, Act.put, List.setIfInBounds_toArray, List.set_cons_zero, List.set_cons_succ, Nat.zero_add, Nat.reduceAdd]) ⟨hG.1, fun hn => hG.2.1 fun h6 => hn (.inl h6), fun hn => (upd_off (by decide)).trans (hG.2.2 fun h11 => hn (.inl h11))⟩ (fun j u _ _ h => h.keep (fun _ h => .inl h) (Below.refl _ _)) rfl
          case s2 =>
            intro xs d W hd hdeps hG hF K hK
            simp [Region.binds] at hdeps
            have f1 : xs 1 = _ := hF 1 hdeps
            simp only [frameOf, List.take_succ_cons, List.take_zero, Act.put, List.setIfInBounds_toArray, List.set_cons_zero, List.set_cons_succ, Nat.zero_add, Nat.reduceAdd]
            simp only [f1]
            go_simp
            exact hK _ _ _ (by simp only [frameOf, List.take_succ_cons, List.take_zero, Act.put, List.setIfInBounds_toArray, List.set_cons_zero, List.set_cons_succ, Nat.zero_add, Nat.reduceAdd, f1]) ⟨hG.1, fun hn => hG.2.1 fun h6 => hn (.inl h6), fun hn => (upd_off (by decide)).trans (hG.2.2 fun h11 => hn (.inl h11))⟩ (fun j u _ _ h => h.keep (fun _ h => .inl h) (Below.refl _ _)) rfl
          case s3 =>
            intro xs d W hd hdeps hG hF K hK
            simp [Region.binds] at hdeps
            have f2 : xs 2 = _ := hF 2 hdeps
            simp only [frameOf, List.take_succ_cons, List.take_zero, Act.put, List.setIfInBounds_toArray, List.set_cons_zero, List.set_cons_succ, Nat.zero_add, Nat.reduceAdd]
            simp only [f2]
            go_simp
            exact hK _ _ _ (by simp only [frameOf, List.take_succ_cons, List.take_zero, Act.put, List.setIfInBounds_toArray, List.set_cons_zero, List.set_cons_succ, Nat.zero_add, Nat.reduceAdd, f2]) ⟨hG.1, fun hn => hG.2.1 fun h6 => hn (.inl h6), fun hn => (upd_off (by decide)).trans (hG.2.2 fun h11 => hn (.inl h11))⟩ (fun j u _ _ h => h.keep (fun _ h => .inl h) (Below.refl _ _)) rfl
          case s4 =>
            intro xs d W hd hdeps hG hF K hK
            simp [Region.binds] at hdeps
            have f3 : xs 3 = _ := hF 3 hdeps
            have b0 := (hG.1.cell (p := ⟨P (f k), 0, none⟩) HI.out.1).trans (box_cell HI.out.2.1 0)
            simp at b0
            simp only [frameOf, List.take_succ_cons, List.take_zero, Act.put, List.setIfInBounds_toArray, List.set_cons_zero, List.set_cons_succ, Nat.zero_add, Nat.reduceAdd]
            simp only [f3]
            go_simp
            exact hK _ _ _ (by simp only [frameOf, List.take_succ_cons, List.take_zero, Act.put, List.setIfInBounds_toArray, List.set_cons_zero, List.set_cons_succ, Nat.zero_add, Nat.reduceAdd, f3]) ⟨hG.1, fun hn => hG.2.1 fun h6 => hn (.inl h6), fun hn => (upd_off (by decide)).trans (hG.2.2 fun h11 => hn (.inl h11))⟩ (fun j u _ _ h => h.keep (fun _ h => .inl h) (Below.refl _ _)) rfl
          case s5 =>
            intro xs d W hd hdeps hG hF K hK
            simp [Region.binds] at hdeps
            have f4 : xs 4 = _ := hF 4 hdeps
            simp only [frameOf, List.take_succ_cons, List.take_zero, Act.put, List.setIfInBounds_toArray, List.set_cons_zero, List.set_cons_succ, Nat.zero_add, Nat.reduceAdd]
            simp only [f4]
            go_simp
            exact hK _ _ _ (by simp only [frameOf, List.take_succ_cons, List.take_zero, Act.put, List.setIfInBounds_toArray, List.set_cons_zero, List.set_cons_succ, Nat.zero_add, Nat.reduceAdd, f4]) ⟨hG.1.alloc hG.1.size _, fun hn => GG.below (hG.2.1 fun h6 => hn (.inl h6)) ((Below.refl _ _).alloc (Nat.le_refl _) _), fun hn => (upd_off (by decide)).trans (hG.2.2 fun h11 => hn (.inl h11))⟩ (fun j u _ _ h => h.keep (fun _ h => .inl h) ((Below.refl _ _).alloc (Nat.le_refl _) _)) ⟨_, rfl, fun _ => heap_alloc_new W _⟩
          case s6 =>
            intro xs d W hd hdeps hG hF K hK
            simp [Region.binds] at hdeps
            have f0 : xs 0 = _ := hF 0 hdeps.1
            have h5 := UBF.five (hF 5 hdeps.2)
            have f5 := h5.choose_spec.1
            have hh := h5.choose_spec.2 hd
            generalize h5.choose = q at f5 hh
            clear h5
            have hgg := hG.2.1 hd
            have hlen := ded_length g k
            have hrep := ARep.keep (D' := But D W rs) (Same.of_below hG.1 HI.out.2.2.2) (fun b hb => ⟨hb, Nat.lt_of_lt_of_le (HI.out.2.2.2 b hb) hG.1.size, fun e => by have := (hgg.own_lt b e.symm).1; have := HI.out.2.2.2 b hb; omega⟩) _ _ HI.out.2.2.1
            simp only [frameOf, List.take_succ_cons, List.take_zero, Act.put, List.setIfInBounds_toArray, List.set_cons_zero, List.set_cons_succ, Nat.zero_add, Nat.reduceAdd]
            simp only [f0, f5]
            refine step_append_G (by rfl) (.tmp 42) (.tmp 47) 88 (by rfl) EA Tryz.under88 w1.heap.size D (ded g k) [g k] rs (.slice (some ⟨q, 0, none⟩) 1 1) (by rfl) (by rfl) hgg (lit_one (E := EA) hh ⟨_, rfl, hrep⟩) (by simp [maxLen]; omega) (by simp [EA]; omega) hG.1.size ?_
            intro v' W' hg' hgb _
            exact hK _ v' _ (by simp only [frameOf, List.take_succ_cons, List.take_zero, Act.put, List.setIfInBounds_toArray, List.set_cons_zero, List.set_cons_succ, Nat.zero_add, Nat.reduceAdd, f0, f5]) ⟨hG.1.grown hgb hG.1.size (fun b hb => (hgg.own_lt b hb).1), fun hn => absurd (.inr rfl) hn, fun hn => (upd_off (by decide)).trans (hG.2.2 fun h11 => hn (.inl h11))⟩ (fun j u hne hdj h => h.grown hne (fun e => by subst e; exact hd (hF 11 hdj).2.1)) hg'
          case s7 =>
            intro xs d W hd hdeps hG hF K hK
            clear hdeps
            simp only [frameOf, List.take_succ_cons, List.take_zero, Act.put, List.setIfInBounds_toArray, List.set_cons_zero, List.set_cons_succ, Nat.zero_add, Nat.reduceAdd]
            go_simp
            exact hK _ _ _ (by simp only [frameOf, List.take_succ_cons, List.take_zero, Act.put, List.setIfInBounds_toArray, List.set_cons_zero, List.set_cons_succ, Nat.zero_add, Nat.reduceAdd]) ⟨hG.1, fun hn => hG.2.1 fun h6 => hn (.inl h6), fun hn => (upd_off (by decide)).trans (hG.2.2 fun h11 => hn (.inl h11))⟩ (fun j u _ _ h => h.keep (fun _ h => .inl h) (Below.refl _ _)) rfl
          case s8 =>
            intro xs d W hd hdeps hG hF K hK
            simp [Region.binds] at hdeps
            have f7 : xs 7 = _ := hF 7 hdeps
            simp only [frameOf, List.take_succ_cons, List.take_zero, Act.put, List.setIfInBounds_toArray, List.set_cons_zero, List.set_cons_succ, Nat.zero_add, Nat.reduceAdd]
            simp only [f7]
            go_simp
            exact hK _ _ _ (by simp only [frameOf, List.take_succ_cons, List.take_zero, Act.put, List.setIfInBounds_toArray, List.set_cons_zero, List.set_cons_succ, Nat.zero_add, Nat.reduceAdd, f7]) ⟨hG.1, fun hn => hG.2.1 fun h6 => hn (.inl h6), fun hn => (upd_off (by decide)).trans (hG.2.2 fun h11 => hn (.inl h11))⟩ (fun j u _ _ h => h.keep (fun _ h => .inl h) (Below.refl _ _)) rfl
          case s9 =>
            intro xs d W hd hdeps hG hF K hK
            simp [Region.binds] at hdeps
            have f8 : xs 8 = _ := hF 8 hdeps
            simp only [frameOf, List.take_succ_cons, List.take_zero, Act.put, List.setIfInBounds_toArray, List.set_cons_zero, List.set_cons_succ, Nat.zero_add, Nat.reduceAdd]
            simp only [f8]
            go_simp
            exact hK _ _ _ (by simp only [frameOf, List.take_succ_cons, List.take_zero, Act.put, List.setIfInBounds_toArray, List.set_cons_zero, List.set_cons_succ, Nat.zero_add, Nat.reduceAdd, f8]) ⟨hG.1, fun hn => hG.2.1 fun h6 => hn (.inl h6), fun hn => (upd_off (by decide)).trans (hG.2.2 fun h11 => hn (.inl h11))⟩ (fun j u _ _ h => h.keep (fun _ h => .inl h) (Below.refl _ _)) rfl
          case s10 =>
            intro xs d W hd hdeps hG hF K hK
            simp [Region.binds] at hdeps
            have f9 : xs 9 = _ := hF 9 hdeps
            have b0 := (hG.1.cell (p := ⟨P (f k), 1, none⟩) HI.out.1).trans (box_cell HI.out.2.1 1)
            simp at b0
            simp only [frameOf, List.take_succ_cons, List.take_zero, Act.put, List.setIfInBounds_toArray, List.set_cons_zero, List.set_cons_succ, Nat.zero_add, Nat.reduceAdd]
            simp only [f9]
            go_simp
            exact hK _ _ _ (by simp only [frameOf, List.take_succ_cons, List.take_zero, Act.put, List.setIfInBounds_toArray, List.set_cons_zero, List.set_cons_succ, Nat.zero_add, Nat.reduceAdd, f9]) ⟨hG.1, fun hn => hG.2.1 fun h6 => hn (.inl h6), fun hn => (upd_off (by decide)).trans (hG.2.2 fun h11 => hn (.inl h11))⟩ (fun j u _ _ h => h.keep (fun _ h => .inl h) (Below.refl _ _)) rfl
          case s11 =>
            intro xs d W hd hdeps hG hF K hK
            simp [Region.binds] at hdeps
            have f6 := hF 6 hdeps.1
            have d0 : d 0 := hdeps.2.1
            have d6 : d 6 := hdeps.1
            simp only [frameOf, List.take_succ_cons, List.take_zero, Act.put, List.setIfInBounds_toArray, List.set_cons_zero, List.set_cons_succ, Nat.zero_add, Nat.reduceAdd]
            go_simp
            exact hK _ _ _ (by simp only [frameOf, List.take_succ_cons, List.take_zero, Act.put, List.setIfInBounds_toArray, List.set_cons_zero, List.set_cons_succ, Nat.zero_add, Nat.reduceAdd]) ⟨hG.1, fun hn => hG.2.1 fun h6 => hn (.inl h6), fun hn => absurd (.inr rfl) hn⟩ (fun j u _ _ h => h.keep (fun _ h => .inl h) (Below.refl _ _)) ⟨.inl d0, .inl d6, f6⟩
          case e =>
          intro xs W hG hF
          have f6 := (hF 11 (by omega)).2.2
          have f10 : xs 10 = _ := hF 10 (by omega)
          have HK := Lib.hid (show UBRel g D w1 (k + 1) (xs 11) .nilIface W from ⟨hG.1, by unfold ded; rw [if_pos HC.out]; exact f6, .inr ⟨by omega, HI.out.2.2.1⟩⟩)
          clear hG hF f6 HW HI
          simp only [frameOf, List.take_succ_cons, List.take_zero, List.drop_succ_cons, List.drop_zero, Act.put, List.setIfInBounds_toArray, List.set_cons_zero, List.set_cons_succ, Nat.zero_add, Nat.reduceAdd, f10]
          clear f10
          go_wp2_with fail
          go_roundw
          case rel => exact ⟨k + 1, xs 11, _, rfl, rfl, by omega, by go_num, HK⟩
          case measure => simp [intOf]; omega
        · go_wp2_with fail
          clear hcell e0
          refine wp_region_RGE 12 (by kernel_rfl) (by kernel_rfl) (fun d xs W => Below w1.heap.size w1 W ∧ (¬ d 6 → GG EA W w1.heap.size D rs (ded g k)) ∧ (¬ d 11 → xs 11 = rs)) (fun d i u W => UBF (g k) (ded g k) D w1.heap.size rs (P (f k)) (.iface vt vu) d i u W) (by simp [AllSteps, frameOf, Act.put, upd]) (fun xs hxs => ⟨HW.out.1.drew, fun _ => GG.below HW.out.2 (Below.refl _ _).drew, fun _ => by have h9 := congrArg (fun a : Act => a.tmps[9]?) hxs; simp [frameOf, Act.put] at h9; exact h9.symm⟩) ⟨?s0, ?s1, ?s2, ?s3, ?s4, ?s5, ?s6, ?s7, ?s8, ?s9, ?s10, ?s11, trivial⟩ ?e
          case s0 =>
            intro xs d W hd hdeps hG hF K hK
            clear hdeps
            have f11 : xs 11 = rs := hG.2.2 fun h11 => hd (hF 11 h11).1
            simp only [frameOf, List.take_succ_cons, List.take_zero, Act.put, List.setIfInBounds_toArray, List.set_cons_zero, List.set_cons_succ, Nat.zero_add, Nat.reduceAdd]
            simp only [f11]
            go_simp
            exact hK _ _ _ (by simp only [frameOf, List.take_succ_cons, List.take_zero, Act.put, List.setIfInBounds_toArray, List.set_cons_zero, List.set_cons_succ, Nat.zero_add, Nat.reduceAdd, f11]) ⟨hG.1, fun hn => hG.2.1 fun h6 => hn (.inl h6), fun hn => (upd_off (by decide)).trans (hG.2.2 fun h11 => hn (.inl h11))⟩ (fun j u _ _ h => h.keep (fun _ h => .inl h) (Below.refl _ _)) rfl
          case s1 =>
            intro xs d W hd hdeps hG hF K hK
            clear hdeps
            simp only [frameOf, List.take_succ_cons, List.take_zero, Act.put, List.setIfInBounds_toArray, List.set_cons_zero, List.set_cons_succ, Nat.zero_add, Nat.reduceAdd]
            go_simp
            exact hK _ _ _ (by simp only [frameOf, List.take_succ_cons, List.take_zero, Act.put, List.setIfInBounds_toArray, List.set_cons_zero, List.set_cons_succ, Nat.zero_add, Nat.reduceAdd]) ⟨hG.1, fun hn => hG.2.1 fun h6 => hn (.inl h6), fun hn => (upd_off (by decide)).trans (hG.2.2 fun h11 => hn (.inl h11))⟩ (fun j u _ _ h => h.keep (fun _ h => .inl h) (Below.refl _ _)) rfl
          case s2 =>
            intro xs d W hd hdeps hG hF K hK
            simp [Region.binds] at hdeps
            have f1 : xs 1 = _ := hF 1 hdeps
            simp only [frameOf, List.take_succ_cons, List.take_zero, Act.put, List.setIfInBounds_toArray, List.set_cons_zero, List.set_cons_succ, Nat.zero_add, Nat.reduceAdd]
            simp only [f1]
            go_simp
            exact hK _ _ _ (by simp only [frameOf, List.take_succ_cons, List.take_zero, Act.put, List.setIfInBounds_toArray, List.set_cons_zero, List.set_cons_succ, Nat.zero_add, Nat.reduceAdd, f1]) ⟨hG.1, fun hn => hG.2.1 fun h6 => hn (.inl h6), fun hn => (upd_off (by decide)).trans (hG.2.2 fun h11 => hn (.inl h11))⟩ (fun j u _ _ h => h.keep (fun _ h => .inl h) (Below.refl _ _)) rfl
          case s3 =>
            intro xs d W hd hdeps hG hF K hK
            simp [Region.binds] at hdeps
            have f2 : xs 2 = _ := hF 2 hdeps
            simp only [frameOf, List.take_succ_cons, List.take_zero, Act.put, List.setIfInBounds_toArray, List.set_cons_zero, List.set_cons_succ, Nat.zero_add, Nat.reduceAdd]
            simp only [f2]
            go_simp
            exact hK _ _ _ (by simp only [frameOf, List.take_succ_cons, List.take_zero, Act.put, List.setIfInBounds_toArray, List.set_cons_zero, List.set_cons_succ, Nat.zero_add, Nat.reduceAdd, f2]) ⟨hG.1, fun hn => hG.2.1 fun h6 => hn (.inl h6), fun hn => (upd_off (by decide)).trans (hG.2.2 fun h11 => hn (.inl h11))⟩ (fun j u _ _ h => h.keep (fun _ h => .inl h) (Below.refl _ _)) rfl
          case s4 =>
            intro xs d W hd hdeps hG hF K hK
            simp [Region.binds] at hdeps
            have f3 : xs 3 = _ := hF 3 hdeps
            have b0 := (hG.1.cell (p := ⟨P (f k), 0, none⟩) HI.out.1).trans (box_cell HI.out.2.1 0)
            simp at b0
            simp only [frameOf, List.take_succ_cons, List.take_zero, Act.put, List.setIfInBounds_toArray, List.set_cons_zero, List.set_cons_succ, Nat.zero_add, Nat.reduceAdd]
            simp only [f3]
            go_simp
            exact hK _ _ _ (by simp only [frameOf, List.take_succ_cons, List.take_zero, Act.put, List.setIfInBounds_toArray, List.set_cons_zero, List.set_cons_succ, Nat.zero_add, Nat.reduceAdd, f3]) ⟨hG.1, fun hn => hG.2.1 fun h6 => hn (.inl h6), fun hn => (upd_off (by decide)).trans (hG.2.2 fun h11 => hn (.inl h11))⟩ (fun j u _ _ h => h.keep (fun _ h => .inl h) (Below.refl _ _)) rfl
          case s5 =>
            intro xs d W hd hdeps hG hF K hK
            simp [Region.binds] at hdeps
            have f4 : xs 4 = _ := hF 4 hdeps
            simp only [frameOf, List.take_succ_cons, List.take_zero, Act.put, List.setIfInBounds_toArray, List.set_cons_zero, List.set_cons_succ, Nat.zero_add, Nat.reduceAdd]
            simp only [f4]
            go_simp
            exact hK _ _ _ (by simp only [frameOf, List.take_succ_cons, List.take_zero, Act.put, List.setIfInBounds_toArray, List.set_cons_zero, List.set_cons_succ, Nat.zero_add, Nat.reduceAdd, f4]) ⟨hG.1.alloc hG.1.size _, fun hn => GG.below (hG.2.1 fun h6 => hn (.inl h6)) ((Below.refl _ _).alloc (Nat.le_refl _) _), fun hn => (upd_off (by decide)).trans (hG.2.2 fun h11 => hn (.inl h11))⟩ (fun j u _ _ h => h.keep (fun _ h => .inl h) ((Below.refl _ _).alloc (Nat.le_refl _) _)) ⟨_, rfl, fun _ => heap_alloc_new W _⟩
          case s6 =>
            intro xs d W hd hdeps hG hF K hK
            simp [Region.binds] at hdeps
            have f0 : xs 0 = _ := hF 0 hdeps.1
            have h5 := UBF.five (hF 5 hdeps.2)
            have f5 := h5.choose_spec.1
            have hh := h5.choose_spec.2 hd
            generalize h5.choose = q at f5 hh
            clear h5
            have hgg := hG.2.1 hd
            have hlen := ded_length g k
            have hrep := ARep.keep (D' := But D W rs) (Same.of_below hG.1 HI.out.2.2.2) (fun b hb => ⟨hb, Nat.lt_of_lt_of_le (HI.out.2.2.2 b hb) hG.1.size, fun e => by have := (hgg.own_lt b e.symm).1; have := HI.out.2.2.2 b hb; omega⟩) _ _ HI.out.2.2.1
            simp only [frameOf, List.take_succ_cons, List.take_zero, Act.put, List.setIfInBounds_toArray, List.set_cons_zero, List.set_cons_succ, Nat.zero_add, Nat.reduceAdd]
            simp only [f0, f5]
            refine step_append_G (by rfl) (.tmp 42) (.tmp 47) 88 (by rfl) EA Tryz.under88 w1.heap.size D (ded g k) [g k] rs (.slice (some ⟨q, 0, none⟩) 1 1) (by rfl) (by rfl) hgg (lit_one (E := EA) hh ⟨_, rfl, hrep⟩) (by simp [maxLen]; omega) (by simp [EA]; omega) hG.1.size ?_
            intro v' W' hg' hgb _
            exact hK _ v' _ (by simp only [frameOf, List.take_succ_cons, List.take_zero, Act.put, List.setIfInBounds_toArray, List.set_cons_zero, List.set_cons_succ, Nat.zero_add, Nat.reduceAdd, f0, f5]) ⟨hG.1.grown hgb hG.1.size (fun b hb => (hgg.own_lt b hb).1), fun hn => absurd (.inr rfl) hn, fun hn => (upd_off (by decide)).trans (hG.2.2 fun h11 => hn (.inl h11))⟩ (fun j u hne hdj h => h.grown hne (fun e => by subst e; exact hd (hF 11 hdj).2.1)) hg'
          case s7 =>
            intro xs d W hd hdeps hG hF K hK
            clear hdeps
            simp only [frameOf, List.take_succ_cons, List.take_zero, Act.put, List.setIfInBounds_toArray, List.set_cons_zero, List.set_cons_succ, Nat.zero_add, Nat.reduceAdd]
            go_simp
            exact hK _ _ _ (by simp only [frameOf, List.take_succ_cons, List.take_zero, Act.put, List.setIfInBounds_toArray, List.set_cons_zero, List.set_cons_succ, Nat.zero_add, Nat.reduceAdd]) ⟨hG.1, fun hn => hG.2.1 fun h6 => hn (.inl h6), fun hn => (upd_off (by decide)).trans (hG.2.2 fun h11 => hn (.inl h11))⟩ (fun j u _ _ h => h.keep (fun _ h => .inl h) (Below.refl _ _)) rfl
          case s8 =>
            intro xs d W hd hdeps hG hF K hK
            simp [Region.binds] at hdeps
            have f7 : xs 7 = _ := hF 7 hdeps
            simp only [frameOf, List.take_succ_cons, List.take_zero, Act.put, List.setIfInBounds_toArray, List.set_cons_zero, List.set_cons_succ, Nat.zero_add, Nat.reduceAdd]
            simp only [f7]
            go_simp
            exact hK _ _ _ (by simp only [frameOf, List.take_succ_cons, List.take_zero, Act.put, List.setIfInBounds_toArray, List.set_cons_zero, List.set_cons_succ, Nat.zero_add, Nat.reduceAdd, f7]) ⟨hG.1, fun hn => hG.2.1 fun h6 => hn (.inl h6), fun hn => (upd_off (by decide)).trans (hG.2.2 fun h11 => hn (.inl h11))⟩ (fun j u _ _ h => h.keep (fun _ h => .inl h) (Below.refl _ _)) rfl
          case s9 =>
            intro xs d W hd hdeps hG hF K hK
            simp [Region.binds] at hdeps
            have f8 : xs 8 = _ := hF 8 hdeps
            simp only [frameOf, List.take_succ_cons, List.take_zero, Act.put, List.setIfInBounds_toArray, List.set_cons_zero, List.set_cons_succ, Nat.zero_add, Nat.reduceAdd]
            simp only [f8]
            go_simp
            exact hK _ _ _ (by simp only [frameOf, List.take_succ_cons, List.take_zero, Act.put, List.setIfInBounds_toArray, List.set_cons_zero, List.set_cons_succ, Nat.zero_add, Nat.reduceAdd, f8]) ⟨hG.1, fun hn => hG.2.1 fun h6 => hn (.inl h6), fun hn => (upd_off (by decide)).trans (hG.2.2 fun h11 => hn (.inl h11))⟩ (fun j u _ _ h => h.keep (fun _ h => .inl h) (Below.refl _ _)) rfl
          case s10 =>
            intro xs d W hd hdeps hG hF K hK
            simp [Region.binds] at hdeps
            have f9 : xs 9 = _ := hF 9 hdeps
            have b0 := (hG.1.cell (p := ⟨P (f k), 1, none⟩) HI.out.1).trans (box_cell HI.out.2.1 1)
            simp at b0
            simp only [frameOf, List.take_succ_cons, List.take_zero, Act.put, List.setIfInBounds_toArray, List.set_cons_zero, List.set_cons_succ, Nat.zero_add, Nat.reduceAdd]
            simp only [f9]
            go_simp
            exact hK _ _ _ (by simp only [frameOf, List.take_succ_cons, List.take_zero, Act.put, List.setIfInBounds_toArray, List.set_cons_zero, List.set_cons_succ, Nat.zero_add, Nat.reduceAdd, f9]) ⟨hG.1, fun hn => hG.2.1 fun h6 => hn (.inl h6), fun hn => (upd_off (by decide)).trans (hG.2.2 fun h11 => hn (.inl h11))⟩ (fun j u _ _ h => h.keep (fun _ h => .inl h) (Below.refl _ _)) rfl
          case s11 =>
            intro xs d W hd hdeps hG hF K hK
            simp [Region.binds] at hdeps
            have f6 := hF 6 hdeps.1
            have d0 : d 0 := hdeps.2.1
            have d6 : d 6 := hdeps.1
            simp only [frameOf, List.take_succ_cons, List.take_zero, Act.put, List.setIfInBounds_toArray, List.set_cons_zero, List.set_cons_succ, Nat.zero_add, Nat.reduceAdd]
            go_simp
            exact hK _ _ _ (by simp only [frameOf, List.take_succ_cons, List.take_zero, Act.put, List.setIfInBounds_toArray, List.set_cons_zero, List.set_cons_succ, Nat.zero_add, Nat.reduceAdd]) ⟨hG.1, fun hn => hG.2.1 fun h6 => hn (.inl h6), fun hn => absurd (.inr rfl) hn⟩ (fun j u _ _ h => h.keep (fun _ h => .inl h) (Below.refl _ _)) ⟨.inl d0, .inl d6, f6⟩
          case e =>
          intro xs W hG hF
          have f6 := (hF 11 (by omega)).2.2
          have f10 : xs 10 = _ := hF 10 (by omega)
          have HK := Lib.hid (show UBRel g D w1 (k + 1) (xs 11) (.iface vt vu) W from ⟨hG.1, by unfold ded; rw [if_pos HC.out]; exact f6, .inr ⟨by omega, HI.out.2.2.1⟩⟩)
          clear hG hF f6 HW HI
          simp only [frameOf, List.take_succ_cons, List.take_zero, List.drop_succ_cons, List.drop_zero, Act.put, List.setIfInBounds_toArray, List.set_cons_zero, List.set_cons_succ, Nat.zero_add, Nat.reduceAdd, f10]
          clear f10
          go_wp2_with fail
          go_roundw
          case rel => exact ⟨k + 1, xs 11, _, rfl, rfl, by omega, by go_num, HK⟩
          case measure => simp [intOf]; omega
      · have hlv := hR.out.2.2.resolve_left (fun h => h0 h.1)
        have e0 : ((k : Int) == 0) = false := by simp [h0]
        have c0 := (hR.out.1.cell (p := ⟨P (f k), 1, none⟩) HI.out.1).trans (box_cell HI.out.2.1 1)
        simp at c0
        have hs1 : Same D w1 wr := Same.of_below hR.out.1 HI.out.2.2.2
        have hwf : ∀ i, i < l.length → (g i).WF := fun i hi => by
          rw [HG.out i]
          unfold elJ
          rw [List.getD_eq_getElem?_getD, List.getElem?_eq_getElem (HO.out.dom i hi)]
          exact WFL_iff.1 HD.out.2 _ (List.getElem_mem _)
        have HCM := Lib.hid (compare_any (g (k - 1)) (g k) D lv v wr (hwf _ (by omega)) (hwf _ ha) (fun b hb => Nat.lt_of_lt_of_le (HI.out.2.2.2 b hb) hR.out.1.size) (ARep.keep hs1 (fun _ h => h) _ _ hlv.2) (ARep.keep hs1 (fun _ h => h) _ _ HI.out.2.2.1))
        obtain ⟨nn, hnn⟩ : ∃ nn, cmpJ (g (k - 1)) (g k) = nn := ⟨_, rfl⟩
        rw [hnn] at HCM
        have HN := Lib.hid hnn
        have HLV := Lib.hid hlv
        have HK0 := Lib.hid h0
        clear hlv hs1 hwf hnn h0
        go_wp2_with fail
        refine HCM.out.mono ?_
        rintro e w2 ⟨rfl, hb2⟩
        have HW := Lib.hid (And.intro (hR.out.1.trans (hb2.mono hR.out.1.size)) (GG.below hR.out.2.1 hb2))
        clear HCM hb2 c0 hR
        by_cases hz : nn = 0
        · have hq : g (k - 1) = g k := cmpJ_eq _ _ (HN.out.trans hz)
          have HK := Lib.hid (show UBRel g D w1 (k + 1) rs lv w2 from ⟨HW.out.1, by
            unfold ded
            rw [if_neg (fun h => h.elim HK0.out fun h => h (HN.out.trans hz))]
            exact HW.out.2, .inr ⟨by omega, by rw [Nat.add_sub_cancel, ← hq]; exact HLV.out.2⟩⟩)
          have e1 : (nn != 0) = false := by simp [hz]
          clear hz hq
          go_wp2_with fail
          go_roundw
          case rel => exact ⟨k + 1, rs, lv, rfl, rfl, by omega, by go_num, HK⟩
          case measure => simp [intOf]; omega
        · have HC := Lib.hid (show k = 0 ∨ cmpJ (g (k - 1)) (g k) ≠ 0 from .inr (by rw [HN.out]; exact hz))
          have e1 : (nn != 0) = true := by simp [hz]
          clear hz
          rcases ARep.shape HI.out.2.2.1 with rfl | ⟨vt, vu, rfl⟩
          · go_wp2_with fail
            clear hcell e0 e1
            refine wp_region_RGE 12 (by kernel_rfl) (by kernel_rfl) (fun d xs W => Below w1.heap.size w1 W ∧ (¬ d 6 → GG EA W w1.heap.size D rs (ded g k)) ∧ (¬ d 11 → xs 11 = rs)) (fun d i u W => UBF (g k) (ded g k) D w1.heap.size rs (P (f k)) .nilIface d i u W) (by simp [AllSteps, frameOf, Act.put, upd]) (fun xs hxs => ⟨HW.out.1.drew, fun _ => GG.below HW.out.2 (Below.refl _ _).drew, fun _ => by have h9 := congrArg (fun a : Act => a.tmps[9]?) hxs; simp [frameOf, Act.put] at h9; exact h9.symm⟩) ⟨?s0, ?s1, ?s2, ?s3, ?s4, ?s5, ?s6, ?s7, ?s8, ?s9, ?s10, ?s11, trivial⟩ ?e
            case s0 =>
              intro xs d W hd hdeps hG hF K hK
              clear hdeps
              have f11 : xs 11 = rs := hG.2.2 fun h11 => hd (hF 11 h11).1
              simp only [frameOf, List.take_succ_cons, List.take_zero, Act.put, List.setIfInBounds_toArray, List.set_cons_zero, List.set_cons_succ, Nat.zero_add, Nat.reduceAdd]
              simp only [f11]
              go_simp
              exact hK _ _ _ (by simp only [frameOf, List.take_succ_cons, List.take_zero, Act.put, List.setIfInBounds_toArray, List.set_cons_zero, List.set_cons_succ, Nat.zero_add, Nat.reduceAdd, f11]) ⟨hG.1, fun hn => hG.2.1 fun h6 => hn (.inl h6), fun hn => (upd_off (by decide)).trans (hG.2.2 fun h11 => hn (.inl h11))⟩ (fun j u _ _ h => h.keep (fun _ h => .inl h) (Below.refl _ _)) rfl
            case s1 =>
              intro xs d W hd hdeps hG hF K hK
              clear hdeps
              simp only [frameOf, List.take_succ_cons, List.take_zero, Act.put, List.setIfInBounds_toArray, List.set_cons_zero, List.set_cons_succ, Nat.zero_add, Nat.reduceAdd]
              go_simp
              exact hK _ _ _ (by simp only [frameOf, List.take_succ_cons, List.take_zero, Act.put, List.setIfInBounds_toArray, List.set_cons_zero, List.set_cons_succ, Nat.zero_add, Nat.reduceAdd]) ⟨hG.1, fun hn => hG.2.1 fun h6 => hn (.inl h6), fun hn => (upd_off (by decide)).trans (hG.2.2 fun h11 => hn (.inl h11))⟩ (fun j u _ _ h => h.keep (fun _ h => .inl h) (Below.refl _ _)) rfl
            case s2 =>
              intro xs d W hd hdeps hG hF K hK
              simp [Region.binds] at hdeps
              have f1 : xs 1 = _ := hF 1 hdeps
              simp only [frameOf, List.take_succ_cons, List.take_zero, Act.put, List.setIfInBounds_toArray, List.set_cons_zero, List.set_cons_succ, Nat.zero_add, Nat.reduceAdd]
              simp only [f1]
              go_simp
              exact hK _ _ _ (by simp only [frameOf, List.take_succ_cons, List.take_zero, Act.put, List.setIfInBounds_toArray, List.set_cons_zero, List.set_cons_succ, Nat.zero_add, Nat.reduceAdd, f1]) ⟨hG.1, fun hn => hG.2.1 fun h6 => hn (.inl h6), fun hn => (upd_off (by decide)).trans (hG.2.2 fun h11 => hn (.inl h11))⟩ (fun j u _ _ h => h.keep (fun _ h => .inl h) (Below.refl _ _)) rfl
            case s3 =>
              intro xs d W hd hdeps hG hF K hK
              simp [Region.binds] at hdeps
              have f2 : xs 2 = _ := hF 2 hdeps
              simp only [frameOf, List.take_succ_cons, List.take_zero, Act.put, List.setIfInBounds_toArray, List.set_cons_zero, List.set_cons_succ, Nat.zero_add, Nat.reduceAdd]
              simp only [f2]
              go_simp
              exact hK _ _ _ (by simp only [frameOf, List.take_succ_cons, List.take_zero, Act.put, List.setIfInBounds_toArray, List.set_cons_zero, List.set_cons_succ, Nat.zero_add, Nat.reduceAdd, f2]) ⟨hG.1, fun hn => hG.2.1 fun h6 => hn (.inl h6), fun hn => (upd_off (by decide)).trans (hG.2.2 fun h11 => hn (.inl h11))⟩ (fun j u _ _ h => h.keep (fun _ h => .inl h) (Below.refl _ _)) rfl
            case s4 =>
              intro xs d W hd hdeps hG hF K hK
              simp [Region.binds] at hdeps
              have f3 : xs 3 = _ := hF 3 hdeps
              have b0 := (hG.1.cell (p := ⟨P (f k), 0, none⟩) HI.out.1).trans (box_cell HI.out.2.1 0)
              simp at b0
              simp only [frameOf, List.take_succ_cons, List.take_zero, Act.put, List.setIfInBounds_toArray, List.set_cons_zero, List.set_cons_succ, Nat.zero_add, Nat.reduceAdd]
              simp only [f3]
              go_simp
              exact hK _ _ _ (by simp only [frameOf, List.take_succ_cons, List.take_zero, Act.put, List.setIfInBounds_toArray, List.set_cons_zero, List.set_cons_succ, Nat.zero_add, Nat.reduceAdd, f3]) ⟨hG.1, fun hn => hG.2.1 fun h6 => hn (.inl h6), fun hn => (upd_off (by decide)).trans (hG.2.2 fun h11 => hn (.inl h11))⟩ (fun j u _ _ h => h.keep (fun _ h => .inl h) (Below.refl _ _)) rfl
            case s5 =>
              intro xs d W hd hdeps hG hF K hK
              simp [Region.binds] at hdeps
              have f4 : xs 4 = _ := hF 4 hdeps
              simp only [frameOf, List.take_succ_cons, List.take_zero, Act.put, List.setIfInBounds_toArray, List.set_cons_zero, List.set_cons_succ, Nat.zero_add, Nat.reduceAdd]
              simp only [f4]
              go_simp
              exact hK _ _ _ (by simp only [frameOf, List.take_succ_cons, List.take_zero, Act.put, List.setIfInBounds_toArray, List.set_cons_zero, List.set_cons_succ, Nat.zero_add, Nat.reduceAdd, f4]) ⟨hG.1.alloc hG.1.size _, fun hn => GG.below (hG.2.1 fun h6 => hn (.inl h6)) ((Below.refl _ _).alloc (Nat.le_refl _) _), fun hn => (upd_off (by decide)).trans (hG.2.2 fun h11 => hn (.inl h11))⟩ (fun j u _ _ h => h.keep (fun _ h => .inl h) ((Below.refl _ _).alloc (Nat.le_refl _) _)) ⟨_, rfl, fun _ => heap_alloc_new W _⟩
            case s6 =>
              intro xs d W hd hdeps hG hF K hK
              simp [Region.binds] at hdeps
              have f0 : xs 0 = _ := hF 0 hdeps.1
              have h5 := UBF.five (hF 5 hdeps.2)
              have f5 := h5.choose_spec.1
              have hh := h5.choose_spec.2 hd
              generalize h5.choose = q at f5 hh
              clear h5
              have hgg := hG.2.1 hd
              have hlen := ded_length g k
              have hrep := ARep.keep (D' := But D W rs) (Same.of_below hG.1 HI.out.2.2.2) (fun b hb => ⟨hb, Nat.lt_of_lt_of_le (HI.out.2.2.2 b hb) hG.1.size, fun e => by have := (hgg.own_lt b e.symm).1; have := HI.out.2.2.2 b hb; omega⟩) _ _ HI.out.2.2.1
              simp only [frameOf, List.take_succ_cons, List.take_zero, Act.put, List.setIfInBounds_toArray, List.set_cons_zero, List.set_cons_succ, Nat.zero_add, Nat.reduceAdd]
              simp only [f0, f5]
              refine step_append_G (by rfl) (.tmp 42) (.tmp 47) 88 (by rfl) EA Tryz.under88 w1.heap.size D (ded g k) [g k] rs (.slice (some ⟨q, 0, none⟩) 1 1) (by rfl) (by rfl) hgg (lit_one (E := EA) hh ⟨_, rfl, hrep⟩) (by simp [maxLen]; omega) (by simp [EA]; omega) hG.1.size ?_
              intro v' W' hg' hgb _
              exact hK _ v' _ (by simp only [frameOf, List.take_succ_cons, List.take_zero, Act.put, List.setIfInBounds_toArray, List.set_cons_zero, List.set_cons_succ, Nat.zero_add, Nat.reduceAdd, f0, f5]) ⟨hG.1.grown hgb hG.1.size (fun b hb => (hgg.own_lt b hb).1), fun hn => absurd (.inr rfl) hn, fun hn => (upd_off (by decide)).trans (hG.2.2 fun h11 => hn (.inl h11))⟩ (fun j u hne hdj h => h.grown hne (fun e => by subst e; exact hd (hF 11 hdj).2.1)) hg'
            case s7 =>
              intro xs d W hd hdeps hG hF K hK
              clear hdeps
              simp only [frameOf, List.take_succ_cons, List.take_zero, Act.put, List.setIfInBounds_toArray, List.set_cons_zero, List.set_cons_succ, Nat.zero_add, Nat.reduceAdd]
              go_simp
              exact hK _ _ _ (by simp only [frameOf, List.take_succ_cons, List.take_zero, Act.put, List.setIfInBounds_toArray, List.set_cons_zero, List.set_cons_succ, Nat.zero_add, Nat.reduceAdd]) ⟨hG.1, fun hn => hG.2.1 fun h6 => hn (.inl h6), fun hn => (upd_off (by decide)).trans (hG.2.2 fun h11 => hn (.inl h11))⟩ (fun j u _ _ h => h.keep (fun _ h => .inl h) (Below.refl _ _)) rfl
            case s8 =>
              intro xs d W hd hdeps hG hF K hK
              simp [Region.binds] at hdeps
              have f7 : xs 7 = _ := hF 7 hdeps
              simp only [frameOf, List.take_succ_cons, List.take_zero, Act.put, List.setIfInBounds_toArray, List.set_cons_zero, List.set_cons_succ, Nat.zero_add, Nat.reduceAdd]
              simp only [f7]
              go_simp
              exact hK _ _ _ (by simp only [frameOf, List.take_succ_cons, List.take_zero, Act.put, List.setIfInBounds_toArray, List.set_cons_zero, List.set_cons_succ, Nat.zero_add, Nat.reduceAdd, f7]) ⟨hG.1, fun hn => hG.2.1 fun h6 => hn (.inl h6), fun hn => (upd_off (by decide)).trans (hG.2.2 fun h11 => hn (.inl h11))⟩ (fun j u _ _ h => h.keep (fun _ h => .inl h) (Below.refl _ _)) rfl
            case s9 =>
              intro xs d W hd hdeps hG hF K hK
              simp [Region.binds] at hdeps
              have f8 : xs 8 = _ := hF 8 hdeps
              simp only [frameOf, List.take_succ_cons, List.take_zero, Act.put, List.setIfInBounds_toArray, List.set_cons_zero, List.set_cons_succ, Nat.zero_add, Nat.reduceAdd]
              simp only [f8]
              go_simp
              exact hK _ _ _ (by simp only [frameOf, List.take_succ_cons, List.take_zero, Act.put, List.setIfInBounds_toArray, List.set_cons_zero, List.set_cons_succ, Nat.zero_add, Nat.reduceAdd, f8]) ⟨hG.1, fun hn => hG.2.1 fun h6 => hn (.inl h6), fun hn => (upd_off (by decide)).trans (hG.2.2 fun h11 => hn (.inl h11))⟩ (fun j u _ _ h => h.keep (fun _ h => .inl h) (Below.refl _ _)) rfl
            case s10 =>
              intro xs d W hd hdeps hG hF K hK
              simp [Region.binds] at hdeps
              have f9 : xs 9 = _ := hF 9 hdeps
              have b0 := (hG.1.cell (p := ⟨P (f k), 1, none⟩) HI.out.1).trans (box_cell HI.out.2.1 1)
              simp at b0
              simp only [frameOf, List.take_succ_cons, List.take_zero, Act.put, List.setIfInBounds_toArray, List.set_cons_zero, List.set_cons_succ, Nat.zero_add, Nat.reduceAdd]
              simp only [f9]
              go_simp
              exact hK _ _ _ (by simp only [frameOf, List.take_succ_cons, List.take_zero, Act.put, List.setIfInBounds_toArray, List.set_cons_zero, List.set_cons_succ, Nat.zero_add, Nat.reduceAdd, f9]) ⟨hG.1, fun hn => hG.2.1 fun h6 => hn (.inl h6), fun hn => (upd_off (by decide)).trans (hG.2.2 fun h11 => hn (.inl h11))⟩ (fun j u _ _ h => h.keep (fun _ h => .inl h) (Below.refl _ _)) rfl
            case s11 =>
              intro xs d W hd hdeps hG hF K hK
              simp [Region.binds] at hdeps
              have f6 := hF 6 hdeps.1
              have d0 : d 0 := hdeps.2.1
              have d6 : d 6 := hdeps.1
              simp only [frameOf, List.take_succ_cons, List.take_zero, Act.put, List.setIfInBounds_toArray, List.set_cons_zero, List.set_cons_succ, Nat.zero_add, Nat.reduceAdd]
              go_simp
              exact hK _ _ _ (by simp only [frameOf, List.take_succ_cons, List.take_zero, Act.put, List.setIfInBounds_toArray, List.set_cons_zero, List.set_cons_succ, Nat.zero_add, Nat.reduceAdd]) ⟨hG.1, fun hn => hG.2.1 fun h6 => hn (.inl h6), fun hn => absurd (.inr rfl) hn⟩ (fun j u _ _ h => h.keep (fun _ h => .inl h) (Below.refl _ _)) ⟨.inl d0, .inl d6, f6⟩
            case e =>
            intro xs W hG hF
            have f6 := (hF 11 (by omega)).2.2
            have f10 : xs 10 = _ := hF 10 (by omega)
            have HK := Lib.hid (show UBRel g D w1 (k + 1) (xs 11) .nilIface W from ⟨hG.1, by unfold ded; rw [if_pos HC.out]; exact f6, .inr ⟨by omega, HI.out.2.2.1⟩⟩)
            clear hG hF f6 HW HI
            simp only [frameOf, List.take_succ_cons, List.take_zero, List.drop_succ_cons, List.drop_zero, Act.put, List.setIfInBounds_toArray, List.set_cons_zero, List.set_cons_succ, Nat.zero_add, Nat.reduceAdd, f10]
            clear f10
            go_wp2_with fail
            go_roundw
            case rel => exact ⟨k + 1, xs 11, _, rfl, rfl, by omega, by go_num, HK⟩
            case measure => simp [intOf]; omega
          · go_wp2_with fail
            clear hcell e0 e1
            refine wp_region_RGE 12 (by kernel_rfl) (by kernel_rfl) (fun d xs W => Below w1.heap.size w1 W ∧ (¬ d 6 → GG EA W w1.heap.size D rs (ded g k)) ∧ (¬ d 11 → xs 11 = rs)) (fun d i u W => UBF (g k) (ded g k) D w1.heap.size rs (P (f k)) (.iface vt vu) d i u W) (by simp [AllSteps, frameOf, Act.put, upd]) (fun xs hxs => ⟨HW.out.1.drew, fun _ => GG.below HW.out.2 (Below.refl _ _).drew, fun _ => by have h9 := congrArg (fun a : Act => a.tmps[9]?) hxs; simp [frameOf, Act.put] at h9; exact h9.symm⟩) ⟨?s0, ?s1, ?s2, ?s3, ?s4, ?s5, ?s6, ?s7, ?s8, ?s9, ?s10, ?s11, trivial⟩ ?e
            case s0 =>
              intro xs d W hd hdeps hG hF K hK
              clear hdeps
              have f11 : xs 11 = rs := hG.2.2 fun h11 => hd (hF 11 h11).1
              simp only [frameOf, List.take_succ_cons, List.take_zero, Act.put, List.setIfInBounds_toArray, List.set_cons_zero, List.set_cons_succ, Nat.zero_add, Nat.reduceAdd]
              simp only [f11]
              go_simp
              exact hK _ _ _ (by simp only [frameOf, List.take_succ_cons, List.take_zero, Act.put, List.setIfInBounds_toArray, List.set_cons_zero, List.set_cons_succ, Nat.zero_add, Nat.reduceAdd, f11]) ⟨hG.1, fun hn => hG.2.1 fun h6 => hn (.inl h6), fun hn => (upd_off (by decide)).trans (hG.2.2 fun h11 => hn (.inl h11))⟩ (fun j u _ _ h => h.keep (fun _ h => .inl h) (Below.refl _ _)) rfl
            case s1 =>
              intro xs d W hd hdeps hG hF K hK
              clear hdeps
              simp only [frameOf, List.take_succ_cons, List.take_zero, Act.put, List.setIfInBounds_toArray, List.set_cons_zero, List.set_cons_succ, Nat.zero_add, Nat.reduceAdd]
              go_simp
              exact hK _ _ _ (by simp only [frameOf, List.take_succ_cons, List.take_zero, Act.put, List.setIfInBounds_toArray, List.set_cons_zero, List.set_cons_succ, Nat.zero_add, Nat.reduceAdd]) ⟨hG.1, fun hn => hG.2.1 fun h6 => hn (.inl h6), fun hn => (upd_off (by decide)).trans (hG.2.2 fun h11 => hn (.inl h11))⟩ (fun j u _ _ h => h.keep (fun _ h => .inl h) (Below.refl _ _)) rfl
            case s2 =>
              intro xs d W hd hdeps hG hF K hK
              simp [Region.binds] at hdeps
              have f1 : xs 1 = _ := hF 1 hdeps
              simp only [frameOf, List.take_succ_cons, List.take_zero, Act.put, List.setIfInBounds_toArray, List.set_cons_zero, List.set_cons_succ, Nat.zero_add, Nat.reduceAdd]
              simp only [f1]
              go_simp
              exact hK _ _ _ (by simp only [frameOf, List.take_succ_cons, List.take_zero, Act.put, List.setIfInBounds_toArray, List.set_cons_zero, List.set_cons_succ, Nat.zero_add, Nat.reduceAdd, f1]) ⟨hG.1, fun hn => hG.2.1 fun h6 => hn (.inl h6), fun hn => (upd_off (by decide)).trans (hG.2.2 fun h11 => hn (.inl h11))⟩ (fun j u _ _ h => h.keep (fun _ h => .inl h) (Below.refl _ _)) rfl
            case s3 =>
              intro xs d W hd hdeps hG hF K hK
              simp [Region.binds] at hdeps
              have f2 : xs 2 = _ := hF 2 hdeps
              simp only [frameOf, List.take_succ_cons, List.take_zero, Act.put, List.setIfInBounds_toArray, List.set_cons_zero, List.set_cons_succ, Nat.zero_add, Nat.reduceAdd]
              simp only [f2]
              go_simp
              exact hK _ _ _ (by simp only [frameOf, List.take_succ_cons, List.take_zero, Act.put, List.setIfInBounds_toArray, List.set_cons_zero, List.set_cons_succ, Nat.zero_add, Nat.reduceAdd, f2]) ⟨hG.1, fun hn => hG.2.1 fun h6 => hn (.inl h6), fun hn => (upd_off (by decide)).trans (hG.2.2 fun h11 => hn (.inl h11))⟩ (fun j u _ _ h => h.keep (fun _ h => .inl h) (Below.refl _ _)) rfl
            case s4 =>
              intro xs d W hd hdeps hG hF K hK
              simp [Region.binds] at hdeps
              have f3 : xs 3 = _ := hF 3 hdeps
              have b0 := (hG.1.cell (p := ⟨P (f k), 0, none⟩) HI.out.1).trans (box_cell HI.out.2.1 0)
              simp at b0
              simp only [frameOf, List.take_succ_cons, List.take_zero, Act.put, List.setIfInBounds_toArray, List.set_cons_zero, List.set_cons_succ, Nat.zero_add, Nat.reduceAdd]
              simp only [f3]
              go_simp
              exact hK _ _ _ (by simp only [frameOf, List.take_succ_cons, List.take_zero, Act.put, List.setIfInBounds_toArray, List.set_cons_zero, List.set_cons_succ, Nat.zero_add, Nat.reduceAdd, f3]) ⟨hG.1, fun hn => hG.2.1 fun h6 => hn (.inl h6), fun hn => (upd_off (by decide)).trans (hG.2.2 fun h11 => hn (.inl h11))⟩ (fun j u _ _ h => h.keep (fun _ h => .inl h) (Below.refl _ _)) rfl
            case s5 =>
              intro xs d W hd hdeps hG hF K hK
              simp [Region.binds] at hdeps
              have f4 : xs 4 = _ := hF 4 hdeps
              simp only [frameOf, List.take_succ_cons, List.take_zero, Act.put, List.setIfInBounds_toArray, List.set_cons_zero, List.set_cons_succ, Nat.zero_add, Nat.reduceAdd]
              simp only [f4]
              go_simp
              exact hK _ _ _ (by simp only [frameOf, List.take_succ_cons, List.take_zero, Act.put, List.setIfInBounds_toArray, List.set_cons_zero, List.set_cons_succ, Nat.zero_add, Nat.reduceAdd, f4]) ⟨hG.1.alloc hG.1.size _, fun hn => GG.below (hG.2.1 fun h6 => hn (.inl h6)) ((Below.refl _ _).alloc (Nat.le_refl _) _), fun hn => (upd_off (by decide)).trans (hG.2.2 fun h11 => hn (.inl h11))⟩ (fun j u _ _ h => h.keep (fun _ h => .inl h) ((Below.refl _ _).alloc (Nat.le_refl _) _)) ⟨_, rfl, fun _ => heap_alloc_new W _⟩
            case s6 =>
              intro xs d W hd hdeps hG hF K hK
              simp [Region.binds] at hdeps
              have f0 : xs 0 = _ := hF 0 hdeps.1
              have h5 := UBF.five (hF 5 hdeps.2)
              have f5 := h5.choose_spec.1
              have hh := h5.choose_spec.2 hd
              generalize h5.choose = q at f5 hh
              clear h5
              have hgg := hG.2.1 hd
              have hlen := ded_length g k
              have hrep := ARep.keep (D' := But D W rs) (Same.of_below hG.1 HI.out.2.2.2) (fun b hb => ⟨hb, Nat.lt_of_lt_of_le (HI.out.2.2.2 b hb) hG.1.size, fun e => by have := (hgg.own_lt b e.symm).1; have := HI.out.2.2.2 b hb; omega⟩) _ _ HI.out.2.2.1
              simp only [frameOf, List.take_succ_cons, List.take_zero, Act.put, List.setIfInBounds_toArray, List.set_cons_zero, List.set_cons_succ, Nat.zero_add, Nat.reduceAdd]
              simp only [f0, f5]
              refine step_append_G (by rfl) (.tmp 42) (.tmp 47) 88 (by rfl) EA Tryz.under88 w1.heap.size D (ded g k) [g k] rs (.slice (some ⟨q, 0, none⟩) 1 1) (by rfl) (by rfl) hgg (lit_one (E := EA) hh ⟨_, rfl, hrep⟩) (by simp [maxLen]; omega) (by simp [EA]; omega) hG.1.size ?_
              intro v' W' hg' hgb _
              exact hK _ v' _ (by simp only [frameOf, List.take_succ_cons, List.take_zero, Act.put, List.setIfInBounds_toArray, List.set_cons_zero, List.set_cons_succ, Nat.zero_add, Nat.reduceAdd, f0, f5]) ⟨hG.1.grown hgb hG.1.size (fun b hb => (hgg.own_lt b hb).1), fun hn => absurd (.inr rfl) hn, fun hn => (upd_off (by decide)).trans (hG.2.2 fun h11 => hn (.inl h11))⟩ (fun j u hne hdj h => h.grown hne (fun e => by subst e; exact hd (hF 11 hdj).2.1)) hg'
            case s7 =>
              intro xs d W hd hdeps hG hF K hK
              clear hdeps
              simp only [frameOf, List.take_succ_cons, List.take_zero, Act.put, List.setIfInBounds_toArray, List.set_cons_zero, List.set_cons_succ, Nat.zero_add, Nat.reduceAdd]
              go_simp
              exact hK _ _ _ (by simp only [frameOf, List.take_succ_cons, List.take_zero, Act.put, List.setIfInBounds_toArray, List.set_cons_zero, List.set_cons_succ, Nat.zero_add, Nat.reduceAdd]) ⟨hG.1, fun hn => hG.2.1 fun h6 => hn (.inl h6), fun hn => (upd_off (by decide)).trans (hG.2.2 fun h11 => hn (.inl h11))⟩ (fun j u _ _ h => h.keep (fun _ h => .inl h) (Below.refl _ _)) rfl
            case s8 =>
              intro xs d W hd hdeps hG hF K hK
              simp [Region.binds] at hdeps
              have f7 : xs 7 = _ := hF 7 hdeps
              simp only [frameOf, List.take_succ_cons, List.take_zero, Act.put, List.setIfInBounds_toArray, List.set_cons_zero, List.set_cons_succ, Nat.zero_add, Nat.reduceAdd]
              simp only [f7]
              go_simp
              exact hK _ _ _ (by simp only [frameOf, List.take_succ_cons, List.take_zero, Act.put, List.setIfInBounds_toArray, List.set_cons_zero, List.set_cons_succ, Nat.zero_add, Nat.reduceAdd, f7]) ⟨hG.1, fun hn => hG.2.1 fun h6 => hn (.inl h6), fun hn => (upd_off (by decide)).trans (hG.2.2 fun h11 => hn (.inl h11))⟩ (fun j u _ _ h => h.keep (fun _ h => .inl h) (Below.refl _ _)) rfl
            case s9 =>
              intro xs d W hd hdeps hG hF K hK
              simp [Region.binds] at hdeps
              have f8 : xs 8 = _ := hF 8 hdeps
              simp only [frameOf, List.take_succ_cons, List.take_zero, Act.put, List.setIfInBounds_toArray, List.set_cons_zero, List.set_cons_succ, Nat.zero_add, Nat.reduceAdd]
              simp only [f8]
              go_simp
              exact hK _ _ _ (by simp only [frameOf, List.take_succ_cons, List.take_zero, Act.put, List.setIfInBounds_toArray, List.set_cons_zero, List.set_cons_succ, Nat.zero_add, Nat.reduceAdd, f8]) ⟨hG.1, fun hn => hG.2.1 fun h6 => hn (.inl h6), fun hn => (upd_off (by decide)).trans (hG.2.2 fun h11 => hn (.inl h11))⟩ (fun j u _ _ h => h.keep (fun _ h => .inl h) (Below.refl _ _)) rfl
            case s10 =>
              intro xs d W hd hdeps hG hF K hK
              simp [Region.binds] at hdeps
              have f9 : xs 9 = _ := hF 9 hdeps
              have b0 := (hG.1.cell (p := ⟨P (f k), 1, none⟩) HI.out.1).trans (box_cell HI.out.2.1 1)
              simp at b0
              simp only [frameOf, List.take_succ_cons, List.take_zero, Act.put, List.setIfInBounds_toArray, List.set_cons_zero, List.set_cons_succ, Nat.zero_add, Nat.reduceAdd]
              simp only [f9]
              go_simp
              exact hK _ _ _ (by simp only [frameOf, List.take_succ_cons, List.take_zero, Act.put, List.setIfInBounds_toArray, List.set_cons_zero, List.set_cons_succ, Nat.zero_add, Nat.reduceAdd, f9]) ⟨hG.1, fun hn => hG.2.1 fun h6 => hn (.inl h6), fun hn => (upd_off (by decide)).trans (hG.2.2 fun h11 => hn (.inl h11))⟩ (fun j u _ _ h => h.keep (fun _ h => .inl h) (Below.refl _ _)) rfl
            case s11 =>
              intro xs d W hd hdeps hG hF K hK
              simp [Region.binds] at hdeps
              have f6 := hF 6 hdeps.1
              have d0 : d 0 := hdeps.2.1
              have d6 : d 6 := hdeps.1
              simp only [frameOf, List.take_succ_cons, List.take_zero, Act.put, List.setIfInBounds_toArray, List.set_cons_zero, List.set_cons_succ, Nat.zero_add, Nat.reduceAdd]
              go_simp
              exact hK _ _ _ (by simp only [frameOf, List.take_succ_cons, List.take_zero, Act.put, List.setIfInBounds_toArray, List.set_cons_zero, List.set_cons_succ, Nat.zero_add, Nat.reduceAdd]) ⟨hG.1, fun hn => hG.2.1 fun h6 => hn (.inl h6), fun hn => absurd (.inr rfl) hn⟩ (fun j u _ _ h => h.keep (fun _ h => .inl h) (Below.refl _ _)) ⟨.inl d0, .inl d6, f6⟩
            case e =>
            intro xs W hG hF
            have f6 := (hF 11 (by omega)).2.2
            have f10 : xs 10 = _ := hF 10 (by omega)
            have HK := Lib.hid (show UBRel g D w1 (k + 1) (xs 11) (.iface vt vu) W from ⟨hG.1, by unfold ded; rw [if_pos HC.out]; exact f6, .inr ⟨by omega, HI.out.2.2.1⟩⟩)
            clear hG hF f6 HW HI
            simp only [frameOf, List.take_succ_cons, List.take_zero, List.drop_succ_cons, List.drop_zero, Act.put, List.setIfInBounds_toArray, List.set_cons_zero, List.set_cons_succ, Nat.zero_add, Nat.reduceAdd, f10]
            clear f10
            go_wp2_with fail
            go_roundw
            case rel => exact ⟨k + 1, xs 11, _, rfl, rfl, by omega, by go_num, HK⟩
            case measure => simp [intOf]; omega
    · have hk' : k = l.length := by omega
      subst hk'
      have HE := Lib.hid hR.out
      go_wp2_with fail
      go_ret
      have hbw := HO.out.below.trans (HE.out.1.mono HO.out.below.size)
      exact ⟨_, _, rfl, ⟨HU.out, ded_length g _⟩, HE.out.2.1.arep (fun b h1 _ => .inl h1) (fun b h1 h2 => .inr ⟨Nat.le_trans HO.out.below.size h1, h2⟩), hbw⟩
end Go.Proofs.YtfhppajnnbbcjaaGreatDoor
end

section
namespace Go.Proofs.YtfhppajnnbbcjaaGreatDoor
open Go.RowKit

theorem zzGetPath_any (x : J) (ps : List J) (D : Nat → Prop) (xv S : Value) (w : World) (wx : x.WF) (hps : ∀ k ∈ ps, Key k) (hn : ps.length ≤ 1048576) (hxv : ARep w D x xv) (hS : SlAt D ps.length S (fun b o => ARow w D b ps o)) :
    Calls Tryz.prog 53 #[xv, .iface 88 S] w (GetpPost D x ps w) := by
  have HC := Lib.hid (getpath_any x ps D xv S w wx hps hn hxv hS)
  clear hxv hS hps
  go_enter Tryz.func53, Tryz.ntmps53
  go_wp2_with fail
  refine HC.out.mono ?_
  clear HC
  intro e w1 hpost
  have HP := Lib.hid hpost
  unfold GetpPost at hpost
  have he : ∃ v, e = .returned v := by
    cases hg : getp x ps with
    | some y => rw [hg] at hpost; obtain ⟨v, hv, -⟩ := hpost; exact ⟨v, hv⟩
    | none => rw [hg] at hpost; obtain ⟨T, v, hv, -⟩ := hpost; exact ⟨_, hv⟩
  clear hpost
  obtain ⟨v, rfl⟩ := he
  go_wp2_with fail
  go_ret
  exact HP.out

end Go.Proofs.YtfhppajnnbbcjaaGreatDoor
end
