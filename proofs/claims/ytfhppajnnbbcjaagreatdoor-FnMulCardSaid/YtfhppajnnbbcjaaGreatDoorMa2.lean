/- Pure: maps with sorted keys: a key put in, where it stands; two objects merged all the way down. -/
import Derived.Test.YtfhppajnnbbcjaaGreatDoorGy3
namespace Go.Proofs.YtfhppajnnbbcjaaGreatDoor
open Go.RowKit

def insK (k : ByteArray) : List ByteArray → List ByteArray
  | [] => [k]
  | s :: r => if cmpB s k < 0 then s :: insK k r else if s = k then k :: r else k :: s :: r
def insV {α : Type} (k : ByteArray) (x : α) : List ByteArray → List α → List α
  | s :: r, y :: ys => if cmpB s k < 0 then y :: insV k x r ys else if s = k then x :: ys else x :: y :: ys
  | _, ys => x :: ys
def lookV {α : Type} (k : ByteArray) : List ByteArray → List α → Option α
  | s :: r, y :: ys => if s = k then some y else lookV k r ys
  | _, _ => none

abbrev SortedK (ks : List ByteArray) : Prop := ks.Pairwise (fun a b => cmpB a b < 0)

theorem cmpB_gt {a k : ByteArray} (h1 : ¬ cmpB a k < 0) (h2 : a ≠ k) : cmpB k a < 0 := by
  have h3 : cmpB a k ≠ 0 := fun h => h2 (cmpB_eq h)
  have := cmpB_anti a k
  omega
theorem cmpB_ne {a k : ByteArray} (h : cmpB a k < 0) : a ≠ k := by
  rintro rfl
  rw [cmpB_self] at h
  omega

theorem mem_insK {k s : ByteArray} : ∀ {ks : List ByteArray}, s ∈ insK k ks ↔ s = k ∨ s ∈ ks
  | [] => by simp [insK]
  | a :: r => by
    unfold insK
    split
    · rw [List.mem_cons, mem_insK, List.mem_cons]; exact or_left_comm
    · split
      · rename_i h; subst h; simp
      · rw [List.mem_cons]

theorem sorted_insK {k : ByteArray} : ∀ {ks : List ByteArray}, SortedK ks → SortedK (insK k ks)
  | [], _ => by simp [insK]
  | a :: r, h => by
    obtain ⟨h1, h2⟩ := List.pairwise_cons.1 h
    unfold insK
    split
    · rename_i ha
      refine List.pairwise_cons.2 ⟨fun s hs => ?_, sorted_insK h2⟩
      rcases mem_insK.1 hs with rfl | hs
      · exact ha
      · exact h1 s hs
    · split
      · rename_i e; subst e; exact h
      · rename_i ha e
        have hlt := cmpB_gt ha e
        refine List.pairwise_cons.2 ⟨fun s hs => ?_, h⟩
        rcases List.mem_cons.1 hs with rfl | hs
        · exact hlt
        · exact cmpB_trans hlt (h1 s hs)

theorem length_insV {α : Type} {k : ByteArray} {x : α} : ∀ {ks : List ByteArray} {xs : List α}, ks.length = xs.length → (insK k ks).length = (insV k x ks xs).length
  | [], [], _ => rfl
  | [], _ :: _, h => by simp at h
  | _ :: _, [], h => by simp at h
  | a :: r, y :: ys, h => by
    have h' : r.length = ys.length := by simpa using h
    unfold insK insV
    split
    · simp [length_insV (k := k) (x := x) h']
    · split <;> simp [h']

theorem length_insK (k : ByteArray) : ∀ ks : List ByteArray, (insK k ks).length ≤ ks.length + 1
  | [] => by simp [insK]
  | a :: r => by
    have := length_insK k r
    unfold insK
    split
    · simp; omega
    · split <;> simp

theorem lookV_insV {α : Type} {k q : ByteArray} {x : α} : ∀ {ks : List ByteArray} {xs : List α}, ks.length = xs.length → lookV q (insK k ks) (insV k x ks xs) = if k = q then some x else lookV q ks xs
  | [], [], _ => by simp [insK, insV, lookV]
  | [], _ :: _, h => by simp at h
  | _ :: _, [], h => by simp at h
  | a :: r, y :: ys, h => by
    have h' : r.length = ys.length := by simpa using h
    by_cases h1 : cmpB a k < 0
    · simp only [insK, insV, if_pos h1, lookV]
      rw [lookV_insV h']
      by_cases ha : a = q
      · have hne := cmpB_ne h1
        rw [if_pos ha, if_neg (fun e => hne (ha.trans e.symm)), if_pos ha]
      · rw [if_neg ha, if_neg ha]
    · by_cases h2 : a = k
      · subst h2
        simp only [insK, insV, if_neg h1, if_true, lookV]
        by_cases ha : a = q
        · rw [if_pos ha, if_pos ha]
        · rw [if_neg ha, if_neg ha, if_neg ha]
      · simp only [insK, insV, if_neg h1, if_neg h2, lookV]

theorem lookV_mem {α : Type} {q : ByteArray} {x : α} : ∀ {ks : List ByteArray} {xs : List α}, lookV q ks xs = some x → q ∈ ks ∧ x ∈ xs
  | [], _, h => by simp [lookV] at h
  | _ :: _, [], h => by simp [lookV] at h
  | a :: r, y :: ys, h => by
    simp only [lookV] at h
    split at h
    · rename_i e
      obtain rfl := Option.some.inj h
      subst e
      simp
    · obtain ⟨h1, h2⟩ := lookV_mem h
      exact ⟨List.mem_cons_of_mem _ h1, List.mem_cons_of_mem _ h2⟩
theorem lookV_none {α : Type} {q : ByteArray} {ks : List ByteArray} {xs : List α} (h : q ∉ ks) : lookV q ks xs = none := by
  cases e : lookV q ks xs with
  | none => rfl
  | some x => exact absurd (lookV_mem e).1 h
theorem lookV_some {α : Type} {q : ByteArray} : ∀ {ks : List ByteArray} {xs : List α}, ks.length = xs.length → q ∈ ks → ∃ x, lookV q ks xs = some x
  | [], _, _, h => by simp at h
  | _ :: _, [], h, _ => by simp at h
  | a :: r, y :: ys, h, hq => by
    simp only [lookV]
    by_cases e : a = q
    · exact ⟨y, by rw [if_pos e]⟩
    · rw [if_neg e]
      exact lookV_some (by simpa using h) ((List.mem_cons.1 hq).resolve_left fun h => e h.symm)
theorem lookV_at {α : Type} {q : ByteArray} {x : α} : ∀ {ks : List ByteArray} {xs : List α}, lookV q ks xs = some x → ∃ i : Nat, ks[i]? = some q ∧ xs[i]? = some x
  | [], _, h => by simp [lookV] at h
  | _ :: _, [], h => by simp [lookV] at h
  | a :: r, y :: ys, h => by
    simp only [lookV] at h
    split at h
    · rename_i e
      subst e
      exact ⟨0, rfl, h⟩
    · obtain ⟨i, h1, h2⟩ := lookV_at h
      exact ⟨i + 1, by simpa using h1, by simpa using h2⟩
theorem lookV_get {α : Type} {q : ByteArray} {x : α} {ks : List ByteArray} {xs : List α} (hs : SortedK ks) {i : Nat} (h1 : ks[i]? = some q) (h2 : xs[i]? = some x) : lookV q ks xs = some x := by
  induction ks generalizing xs i with
  | nil => simp at h1
  | cons a r ih =>
    cases xs with
    | nil => simp at h2
    | cons y ys =>
      cases i with
      | zero =>
        simp only [List.getElem?_cons_zero, Option.some.injEq] at h1 h2
        subst h1 h2
        simp [lookV]
      | succ i =>
        simp only [List.getElem?_cons_succ] at h1 h2
        obtain ⟨p1, p2⟩ := List.pairwise_cons.1 hs
        simp only [lookV]
        rw [if_neg (cmpB_ne (p1 q (List.mem_of_getElem? h1)))]
        exact ih p2 h1 h2

theorem sorted_notin {a : ByteArray} {r : List ByteArray} (h : SortedK (a :: r)) : a ∉ r := fun ha => by
  have := (List.pairwise_cons.1 h).1 a ha
  rw [cmpB_self] at this
  omega

/-- a map is what it says at each key -/
theorem look_ext {α : Type} : ∀ {ks ks' : List ByteArray} {xs xs' : List α}, SortedK ks → SortedK ks' → ks.length = xs.length → ks'.length = xs'.length → (∀ q, lookV q ks xs = lookV q ks' xs') → ks = ks' ∧ xs = xs'
  | [], [], [], [], _, _, _, _, _ => ⟨rfl, rfl⟩
  | [], _ :: _, _, [], _, _, _, h, _ => by simp at h
  | [], _ :: _, _ :: _, _, _, _, h, _, _ => by simp at h
  | [], [], _ :: _, _, _, _, h, _, _ => by simp at h
  | [], [], [], _ :: _, _, _, _, h, _ => by simp at h
  | _ :: _, _, [], _, _, _, h, _, _ => by simp at h
  | _ :: _, _ :: _, _ :: _, [], _, _, _, h, _ => by simp at h
  | _ :: _, [], _ :: _, _ :: _, _, _, _, h, _ => by simp at h
  | [], a :: r, [], y :: ys, _, _, _, _, he => by
    have := he a
    simp [lookV] at this
  | a :: r, [], y :: ys, [], _, _, _, _, he => by
    have := he a
    simp [lookV] at this
  | a :: r, a' :: r', y :: ys, y' :: ys', h, h', hl, hl', he => by
    obtain ⟨p1, p2⟩ := List.pairwise_cons.1 h
    obtain ⟨p1', p2'⟩ := List.pairwise_cons.1 h'
    have e1 : a = a' := by
      apply Classical.byContradiction
      intro hne
      have g1 := he a
      have g2 := he a'
      simp only [lookV, if_true] at g1 g2
      rw [if_neg (Ne.symm hne)] at g1
      rw [if_neg hne] at g2
      have m1 := p1' a (lookV_mem g1.symm).1
      have m2 := p1 a' (lookV_mem g2).1
      have := cmpB_trans m1 m2
      rw [cmpB_self] at this
      omega
    subst e1
    have e2 := he a
    simp only [lookV, if_true, Option.some.injEq] at e2
    subst e2
    obtain ⟨i1, i2⟩ := look_ext (xs := ys) (xs' := ys') p2 p2' (by simpa using hl) (by simpa using hl') (fun q => by
      by_cases hq : a = q
      · subst hq
        rw [lookV_none (sorted_notin h), lookV_none (sorted_notin h')]
      · have := he q
        simpa only [lookV, if_neg hq] using this)
    exact ⟨by rw [i1], by rw [i2]⟩

/-! ### keys put in one after the other -/
def insKs : List ByteArray → List ByteArray → List ByteArray
  | [], ka => ka
  | k :: ks, ka => insKs ks (insK k ka)
def insVs {α : Type} : List ByteArray → List α → List ByteArray → List α → List α
  | k :: ks, x :: xs, ka, va => insVs ks xs (insK k ka) (insV k x ka va)
  | _, _, _, va => va

theorem insKs_snoc (k : ByteArray) : ∀ (ks ka : List ByteArray), insKs (ks ++ [k]) ka = insK k (insKs ks ka)
  | [], _ => rfl
  | a :: ks, ka => insKs_snoc k ks (insK a ka)
theorem insVs_snoc {α : Type} (k : ByteArray) (x : α) : ∀ (ks : List ByteArray) (xs : List α) (ka : List ByteArray) (va : List α), ks.length = xs.length → insVs (ks ++ [k]) (xs ++ [x]) ka va = insV k x (insKs ks ka) (insVs ks xs ka va)
  | [], [], _, _, _ => rfl
  | [], _ :: _, _, _, h => by simp at h
  | _ :: _, [], _, _, h => by simp at h
  | a :: ks, y :: xs, ka, va, h => insVs_snoc k x ks xs (insK a ka) (insV a y ka va) (by simpa using h)

theorem mem_insKs {s : ByteArray} : ∀ {ks ka : List ByteArray}, s ∈ insKs ks ka → s ∈ ks ∨ s ∈ ka
  | [], _, h => .inr h
  | a :: ks, ka, h => by
    rcases mem_insKs (ks := ks) h with h | h
    · exact .inl (List.mem_cons_of_mem _ h)
    · rcases mem_insK.1 h with rfl | h
      · exact .inl (by simp)
      · exact .inr h
theorem sorted_insKs : ∀ {ks ka : List ByteArray}, SortedK ka → SortedK (insKs ks ka)
  | [], _, h => h
  | _ :: ks, _, h => sorted_insKs (ks := ks) (sorted_insK h)
theorem length_insKs : ∀ ks ka : List ByteArray, (insKs ks ka).length ≤ ks.length + ka.length
  | [], _ => by simp [insKs]
  | a :: ks, ka => by
    have := length_insKs ks (insK a ka)
    have := length_insK a ka
    simp only [insKs, List.length_cons]
    omega
theorem length_insVs {α : Type} : ∀ {ks : List ByteArray} {xs : List α} {ka : List ByteArray} {va : List α}, ks.length = xs.length → ka.length = va.length → (insKs ks ka).length = (insVs ks xs ka va).length
  | [], [], _, _, _, h => h
  | [], _ :: _, _, _, h, _ => by simp at h
  | _ :: _, [], _, _, h, _ => by simp at h
  | _ :: ks, _ :: xs, _, _, h, h' => length_insVs (ks := ks) (xs := xs) (by simpa using h) (length_insV h')
theorem mem_insV {α : Type} {k : ByteArray} {x y : α} : ∀ {ks : List ByteArray} {xs : List α}, y ∈ insV k x ks xs → y = x ∨ y ∈ xs
  | [], _, h => by simpa [insV] using h
  | _ :: _, [], h => by simpa [insV] using h
  | a :: r, z :: ys, h => by
    unfold insV at h
    split at h
    · rcases List.mem_cons.1 h with rfl | h
      · exact .inr (by simp)
      · rcases mem_insV h with h | h
        · exact .inl h
        · exact .inr (List.mem_cons_of_mem _ h)
    · split at h
      · rcases List.mem_cons.1 h with h | h
        · exact .inl h
        · exact .inr (List.mem_cons_of_mem _ h)
      · exact List.mem_cons.1 h
theorem mem_insVs {α : Type} {y : α} : ∀ {ks : List ByteArray} {xs : List α} {ka : List ByteArray} {va : List α}, y ∈ insVs ks xs ka va → y ∈ xs ∨ y ∈ va
  | [], _, _, _, h => .inr h
  | _ :: _, [], _, _, h => .inr h
  | k :: ks, x :: xs, ka, va, h => by
    rcases mem_insVs (ks := ks) (xs := xs) h with h | h
    · exact .inl (List.mem_cons_of_mem _ h)
    · rcases mem_insV h with rfl | h
      · exact .inl (by simp)
      · exact .inr h

theorem look_insVs {α : Type} {q : ByteArray} : ∀ {ks : List ByteArray} {xs : List α} {ka : List ByteArray} {va : List α}, SortedK ks → ks.length = xs.length → ka.length = va.length →
    lookV q (insKs ks ka) (insVs ks xs ka va) = (lookV q ks xs).or (lookV q ka va)
  | [], [], _, _, _, _, _ => by simp [insKs, insVs, lookV]
  | [], _ :: _, _, _, _, h, _ => by simp at h
  | _ :: _, [], _, _, _, h, _ => by simp at h
  | k :: ks, x :: xs, ka, va, hs, h, h' => by
    simp only [insKs, insVs, lookV]
    rw [look_insVs (List.pairwise_cons.1 hs).2 (by simpa using h) (length_insV h'), lookV_insV h']
    by_cases e : k = q
    · subst e
      rw [if_pos rfl, if_pos rfl, lookV_none (sorted_notin hs)]
      rfl
    · rw [if_neg e, if_neg e]

/-! ### where a key stands -/
def plc (k : ByteArray) : List ByteArray → Nat
  | [] => 0
  | s :: r => if cmpB s k < 0 then plc k r + 1 else 0

theorem plc_le (k : ByteArray) : ∀ ks : List ByteArray, plc k ks ≤ ks.length
  | [] => Nat.le_refl _
  | s :: r => by
    have := plc_le k r
    unfold plc
    split
    · simp; omega
    · omega
theorem plc_step {k : ByteArray} : ∀ {ks : List ByteArray} {i : Nat} {s : ByteArray}, i ≤ plc k ks → ks[i]? = some s → cmpB s k < 0 → i + 1 ≤ plc k ks
  | [], _, _, _, h, _ => by simp at h
  | a :: r, 0, s, _, h, hs => by
    simp only [List.getElem?_cons_zero, Option.some.injEq] at h
    subst h
    unfold plc
    rw [if_pos hs]
    omega
  | a :: r, i + 1, s, hi, h, hs => by
    unfold plc at hi ⊢
    split
    · rename_i ha
      rw [if_pos ha] at hi
      have := plc_step (ks := r) (i := i) (by omega) (by simpa using h) hs
      omega
    · rename_i ha
      rw [if_neg ha] at hi
      omega
theorem plc_stop {k : ByteArray} : ∀ {ks : List ByteArray} {i : Nat}, i ≤ plc k ks → (∀ s, ks[i]? = some s → ¬ cmpB s k < 0) → i = plc k ks
  | [], i, hi, _ => by simp [plc] at hi ⊢; omega
  | a :: r, 0, _, h => by
    unfold plc
    rw [if_neg (h a rfl)]
  | a :: r, i + 1, hi, h => by
    unfold plc at hi ⊢
    split
    · rename_i ha
      rw [if_pos ha] at hi
      have := plc_stop (ks := r) (i := i) (by omega) (fun s hs => h s (by simpa using hs))
      omega
    · rename_i ha
      rw [if_neg ha] at hi
      omega

def isAt (k : ByteArray) (ks : List ByteArray) : Bool := decide (ks[plc k ks]? = some k)
theorem plc_look {α : Type} {k : ByteArray} : ∀ {ks : List ByteArray} {xs : List α}, SortedK ks → ks.length = xs.length → lookV k ks xs = if isAt k ks = true then xs[plc k ks]? else none
  | [], _, _, _ => by simp [lookV, isAt, plc]
  | _ :: _, [], _, h => by simp at h
  | a :: r, y :: ys, hs, h => by
    obtain ⟨p1, p2⟩ := List.pairwise_cons.1 hs
    by_cases h1 : cmpB a k < 0
    · have ih := plc_look (k := k) (ks := r) (xs := ys) p2 (by simpa using h)
      simp only [lookV, isAt, plc, if_pos h1, if_neg (cmpB_ne h1)]
      rw [ih]
      simp [isAt]
    · simp only [lookV, isAt, plc, if_neg h1]
      by_cases h2 : a = k
      · subst h2; simp
      · rw [if_neg h2, lookV_none]
        · simp [h2]
        · intro hk
          exact h1 (by have := cmpB_trans (cmpB_gt h1 h2) (p1 k hk); rw [cmpB_self] at this; omega)
theorem isAt_lt {k a : ByteArray} {r : List ByteArray} (h : cmpB a k < 0) : isAt k (a :: r) = isAt k r := by simp [isAt, plc, h]
theorem plc_lt {k a : ByteArray} {r : List ByteArray} (h : cmpB a k < 0) : plc k (a :: r) = plc k r + 1 := by simp [plc, h]
theorem plc_insK {k : ByteArray} : ∀ {ks : List ByteArray}, insK k ks = ks.take (plc k ks) ++ [k] ++ ks.drop (if isAt k ks = true then plc k ks + 1 else plc k ks)
  | [] => by simp [insK, plc, isAt]
  | a :: r => by
    by_cases h1 : cmpB a k < 0
    · simp only [insK, if_pos h1]
      rw [plc_insK (ks := r), isAt_lt h1, plc_lt h1]
      cases isAt k r <;> simp
    · by_cases h2 : a = k
      · subst h2; simp [insK, plc, isAt, h1]
      · simp [insK, plc, isAt, h1, h2]
theorem plc_insV {α : Type} {k : ByteArray} {x : α} : ∀ {ks : List ByteArray} {xs : List α}, ks.length = xs.length → insV k x ks xs = xs.take (plc k ks) ++ [x] ++ xs.drop (if isAt k ks = true then plc k ks + 1 else plc k ks)
  | [], [], _ => by simp [insV, plc, isAt]
  | [], _ :: _, h => by simp at h
  | _ :: _, [], h => by simp at h
  | a :: r, y :: ys, h => by
    by_cases h1 : cmpB a k < 0
    · simp only [insV, if_pos h1]
      rw [plc_insV (ks := r) (xs := ys) (by simpa using h), isAt_lt h1, plc_lt h1]
      cases isAt k r <;> simp
    · by_cases h2 : a = k
      · subst h2; simp [insV, plc, isAt, h1]
      · simp [insV, plc, isAt, h1, h2]

/-! ### two values merged -/
mutual
/-- b merged onto a -/
def mrg : J → J → J
  | .obj ks vs, .obj ka va => .obj (insKs ks ka) (insVs ks (mrgV vs ks ka va) ka va)
  | b, _ => b
def mrgV : List J → List ByteArray → List ByteArray → List J → List J
  | v :: vs, k :: ks, ka, va => mrg v ((lookV k ka va).getD .null) :: mrgV vs ks ka va
  | _, _, _, _ => []
end

theorem mrgV_length : ∀ {vs : List J} {ks ka : List ByteArray} {va : List J}, ks.length = vs.length → (mrgV vs ks ka va).length = vs.length
  | [], _, _, _, _ => by simp [mrgV]
  | _ :: _, [], _, _, h => by simp at h
  | v :: vs, k :: ks, ka, va, h => by simp [mrgV, mrgV_length (vs := vs) (ks := ks) (ka := ka) (va := va) (by simpa using h)]
theorem mrgV_get {ka : List ByteArray} {va : List J} : ∀ {vs : List J} {ks : List ByteArray} {i : Nat} {v : J} {k : ByteArray}, vs[i]? = some v → ks[i]? = some k → (mrgV vs ks ka va)[i]? = some (mrg v ((lookV k ka va).getD .null))
  | [], _, _, _, _, h, _ => by simp at h
  | _ :: _, [], _, _, _, _, h => by simp at h
  | a :: vs, b :: ks, 0, v, k, h, h' => by
    simp only [List.getElem?_cons_zero, Option.some.injEq] at h h'
    subst h h'
    simp [mrgV]
  | a :: vs, b :: ks, i + 1, v, k, h, h' => by
    simp only [mrgV, List.getElem?_cons_succ]
    exact mrgV_get (by simpa using h) (by simpa using h')

theorem parts_mem {x : J} : ∀ {l : List J}, x ∈ l → x.parts ≤ partsL l
  | [], h => by simp at h
  | a :: l, h => by
    rcases List.mem_cons.1 h with rfl | h
    · simp [partsL]
    · have := parts_mem h; simp [partsL]; omega

mutual
theorem mrg_WF : ∀ (b a : J), b.WF → a.WF → b.parts ≤ 1000 → a.parts ≤ 1000 → (mrg b a).WF
  | .obj ks vs, .obj ka va, hb, ha, pb, pa => by
    simp only [J.WF] at hb ha
    simp only [J.parts] at pb pa
    have hV := mrgV_WF vs ks ka va hb.2.2.2.2 ha.2.2.2.2 (by omega) (by omega)
    have l1 := partsL_length vs
    have l2 := partsL_length va
    have l3 := length_insKs ks ka
    simp only [mrg, J.WF]
    refine ⟨length_insVs (by rw [mrgV_length hb.1]; exact hb.1) ha.1, by omega, fun s hs => ?_, sorted_insKs ha.2.2.2.1, WFL_iff.2 fun x hx => ?_⟩
    · rcases mem_insKs hs with h | h
      · exact hb.2.2.1 s h
      · exact ha.2.2.1 s h
    · rcases mem_insVs hx with h | h
      · exact WFL_iff.1 hV x h
      · exact WFL_iff.1 ha.2.2.2.2 x h
  | .obj _ _, .null, hb, _, _, _ => hb
  | .obj _ _, .bool _, hb, _, _, _ => hb
  | .obj _ _, .num _, hb, _, _, _ => hb
  | .obj _ _, .str _, hb, _, _, _ => hb
  | .obj _ _, .arr _, hb, _, _, _ => hb
  | .null, _, hb, _, _, _ => hb
  | .bool _, _, hb, _, _, _ => hb
  | .num _, _, hb, _, _, _ => hb
  | .str _, _, hb, _, _, _ => hb
  | .arr _, _, hb, _, _, _ => hb
theorem mrgV_WF : ∀ (vs : List J) (ks ka : List ByteArray) (va : List J), WFL vs → WFL va → partsL vs ≤ 1000 → partsL va ≤ 1000 → WFL (mrgV vs ks ka va)
  | [], _, _, _, _, _, _, _ => trivial
  | _ :: _, [], _, _, _, _, _, _ => trivial
  | v :: vs, k :: ks, ka, va, hv, ha, pv, pa => by
    simp only [WFL] at hv
    simp only [partsL] at pv
    refine ⟨?_, mrgV_WF vs ks ka va hv.2 ha (by omega) pa⟩
    have hx : ((lookV k ka va).getD .null).WF ∧ ((lookV k ka va).getD .null).parts ≤ 1000 := by
      cases e : lookV k ka va with
      | none => exact ⟨trivial, by simp [J.parts]⟩
      | some x =>
        have hm := (lookV_mem e).2
        exact ⟨WFL_iff.1 ha x hm, Nat.le_trans (parts_mem hm) pa⟩
    exact mrg_WF v _ hv.1 hx.1 (by omega) hx.2
end

/-! ### the program's maps -/
theorem insert_first (x : Lit × DataW Value) : ∀ l : List (Lit × DataW Value), (∀ p ∈ l, x.1.before p.1 = true) → DataW.insert x l = x :: l
  | [], _ => rfl
  | y :: r, h => by
    unfold DataW.insert
    rw [if_pos (h y (by simp))]

theorem entries_mem {ks : List ByteArray} {xs : List Value} {p : Lit × DataW Value} (hp : p ∈ entriesOf ks xs) : ∃ s ∈ ks, p.1 = litS s := by
  obtain ⟨q, hq, rfl⟩ := List.mem_map.1 hp
  exact ⟨q.1, (List.of_mem_zip hq).1, rfl⟩

theorem filter_none {k : ByteArray} {ks : List ByteArray} {xs : List Value} (h : k ∉ ks) : (entriesOf ks xs).filter (fun p => !p.1.sameKey (litS k)) = entriesOf ks xs := by
  rw [List.filter_eq_self]
  intro p hp
  obtain ⟨s, hs, he⟩ := entries_mem hp
  rw [he, litS_same]
  have : s ≠ k := fun e => h (e ▸ hs)
  simp [this]

theorem insert_ins {k : ByteArray} {x : Value} : ∀ {ks : List ByteArray} {xs : List Value}, SortedK ks → ks.length = xs.length →
    DataW.insert (litS k, .held x) ((entriesOf ks xs).filter (fun p => !p.1.sameKey (litS k))) = entriesOf (insK k ks) (insV k x ks xs)
  | [], [], _, _ => rfl
  | [], _ :: _, _, h => by simp at h
  | _ :: _, [], _, h => by simp at h
  | a :: r, y :: ys, hs, h => by
    obtain ⟨p1, p2⟩ := List.pairwise_cons.1 hs
    have e0 : entriesOf (a :: r) (y :: ys) = (litS a, .held y) :: entriesOf r ys := rfl
    rw [e0]
    by_cases h1 : cmpB a k < 0
    · have hne := cmpB_ne h1
      have hkeep : (!(litS a).sameKey (litS k)) = true := by rw [litS_same]; simp [hne]
      rw [List.filter_cons_of_pos (p := fun p : Lit × DataW Value => !p.1.sameKey (litS k)) (a := (litS a, DataW.held y)) hkeep]
      unfold DataW.insert
      have hb : (litS k).before (litS a) = false := by rw [litS_before, cmpB_anti a k]; simp; omega
      rw [if_neg (by simp only [hb]; exact Bool.false_ne_true), insert_ins p2 (by simpa using h)]
      simp only [insK, insV, if_pos h1]
      rfl
    · by_cases h2 : a = k
      · subst h2
        have hdrop : (!(litS a).sameKey (litS a)) = false := by rw [litS_same]; simp
        rw [List.filter_cons_of_neg (p := fun p : Lit × DataW Value => !p.1.sameKey (litS a)) (a := (litS a, DataW.held y)) (by simp only [hdrop]; exact Bool.false_ne_true), filter_none (sorted_notin hs), insert_first _ _ (fun p hp => by
          obtain ⟨s, hs', he⟩ := entries_mem hp
          rw [he]
          show (litS a).before (litS s) = true
          rw [litS_before]
          simp [p1 s hs'])]
        simp only [insK, insV, if_neg h1, if_true]
        rfl
      · have hlt := cmpB_gt h1 h2
        have hnin : k ∉ a :: r := fun hk => by
          rcases List.mem_cons.1 hk with rfl | hk
          · exact h2 rfl
          · have := cmpB_trans hlt (p1 k hk)
            rw [cmpB_self] at this
            omega
        rw [← e0, filter_none hnin, insert_first _ _ (fun p hp => by
          obtain ⟨s, hs', he⟩ := entries_mem hp
          rw [he]
          show (litS k).before (litS s) = true
          rw [litS_before]
          rcases List.mem_cons.1 hs' with rfl | hs'
          · simp [hlt]
          · simp [cmpB_trans hlt (p1 s hs')])]
        simp only [insK, insV, if_neg h1, if_neg h2]
        rfl

theorem put_ins {k : ByteArray} {x : Value} {ks : List ByteArray} {xs : List Value} (hs : SortedK ks) (hl : ks.length = xs.length) : (mapD ks xs).put (litS k) (.held x) = mapD (insK k ks) (insV k x ks xs) := by
  unfold mapD DataW.put
  simp only []
  rw [insert_ins hs hl]

theorem AList.ins {w : World} {D : Nat → Prop} {k : ByteArray} {j : J} {v : Value} (hv : ARep w D j v) : ∀ {ks : List ByteArray} {l : List J} {xs : List Value}, ks.length = l.length → AList w D l xs → AList w D (insV k j ks l) (insV k v ks xs)
  | [], [], _, _, h => by
    rw [show _ = [] from h]
    exact ⟨v, [], rfl, hv, rfl⟩
  | [], _ :: _, _, h, _ => by simp at h
  | _ :: _, [], _, h, _ => by simp at h
  | a :: r, b :: l, xs, hl, h => by
    obtain ⟨u, ys, rfl, hu, hr⟩ := h
    simp only [insV]
    split
    · exact ⟨u, _, rfl, hu, AList.ins hv (by simpa using hl) hr⟩
    · split
      · exact ⟨v, ys, rfl, hv, hr⟩
      · exact ⟨v, u :: ys, rfl, hv, u, ys, rfl, hu, hr⟩
theorem AList.look {w : World} {D : Nat → Prop} {q : ByteArray} : ∀ {ks : List ByteArray} {l : List J} {xs : List Value}, AList w D l xs → (∀ x, lookV q ks l = some x → ∃ v, lookV q ks xs = some v ∧ ARep w D x v)
  | [], _, _, _, _, h => by simp [lookV] at h
  | _ :: _, [], _, _, _, h => by simp [lookV] at h
  | a :: r, b :: l, xs, hA, x, h => by
    obtain ⟨u, ys, rfl, hu, hr⟩ := hA
    simp only [lookV] at h ⊢
    split at h
    · rename_i e
      obtain rfl := Option.some.inj h
      exact ⟨u, by rw [if_pos e], hu⟩
    · rename_i e
      rw [if_neg e]
      exact AList.look hr x h
end Go.Proofs.YtfhppajnnbbcjaaGreatDoor
