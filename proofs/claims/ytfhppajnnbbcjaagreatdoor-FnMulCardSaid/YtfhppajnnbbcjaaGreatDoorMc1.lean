/- The memory words: slices of strings; parts of slices; a list that a call appends to, while other blocks turn. -/
import Derived.Test.YtfhppajnnbbcjaaGreatDoorGy8
namespace Go.Proofs.YtfhppajnnbbcjaaGreatDoor
open Go.RowKit

variable {X : Type}

/-- a string -/
def EK : El ByteArray where
  ty := 9
  size := 1
  bytes := 16
  zero := _
  info := Tryz.info9
  zsize := rfl
  pos := by decide
  rep := fun _ _ x cs => cs = [.string x]
  len := fun h => by rw [h]; rfl
  one := fun h u hu => by
    rw [h] at hu
    simp at hu
    subst hu
    rfl
  keep := fun _ _ h => h

theorem Tryz.under24 : Tryz.prog.underlying 24 = some (.slice EK.ty) := Tryz.underlying24

theorem row_EK {w : World} {D : Nat → Prop} {b : Nat} : ∀ {l : List ByteArray} {o : Nat}, Row EK w D b l o ↔ StrRow w b o l
  | [], _ => ⟨fun _ i s h => by simp at h, fun _ => trivial⟩
  | x :: l, o => by
    constructor
    · rintro ⟨⟨cs, hc, rfl⟩, hr⟩ i s hi
      cases i with
      | zero =>
        simp at hi
        subst hi
        simpa using hc 0 _ rfl
      | succ i =>
        have := (row_EK.1 hr) i s (by simpa using hi)
        rwa [show o + (i + 1) = o + EK.size + i by simp [EK]; omega]
    · intro h
      refine ⟨⟨[.string x], fun i v hi => ?_, rfl⟩, row_EK.2 fun i s hi => ?_⟩
      · cases i with
        | zero =>
          simp at hi
          subst hi
          exact h 0 x rfl
        | succ i => simp at hi
      · have := h (i + 1) s (by simpa using hi)
        rwa [show o + EK.size + i = o + (i + 1) by simp [EK]; omega]

theorem sl_EK {w : World} {D : Nat → Prop} {l : List ByteArray} {v : Value} : Sl EK w D l v ↔ SlAt D l.length v (fun b o => StrRow w b o l) := ⟨slat_congr fun _ _ => row_EK.1, slat_congr fun _ _ => row_EK.2⟩

theorem Row.of_get {E : El X} {w : World} {D : Nat → Prop} {b : Nat} : ∀ {l : List X} {o : Nat}, (∀ i x, l[i]? = some x → ∃ cs, (∀ j v, cs[j]? = some v → w.cell? ⟨b, o + i * E.size + j, none⟩ = some v) ∧ E.rep w D x cs) → Row E w D b l o
  | [], _, _ => trivial
  | a :: l, o, h => ⟨by
      obtain ⟨cs, hc, hx⟩ := h 0 a rfl
      exact ⟨cs, by simpa using hc, hx⟩, Row.of_get fun i x hi => by
      obtain ⟨cs, hc, hx⟩ := h (i + 1) x (by simpa using hi)
      refine ⟨cs, fun j v hj => ?_, hx⟩
      have := hc j v hj
      rwa [show o + (i + 1) * E.size + j = o + E.size + i * E.size + j by rw [Nat.add_mul]; omega] at this⟩

theorem sizeE (E : El X) (w : World) : (sizeOf E.ty).run Tryz.prog w = .ok E.size w := by
  obtain ⟨i, hi, hz, hs, hb⟩ := info_parts E.info
  simp [sizeOf, typeInfo, hi, hs]

theorem sl_take {E : El X} {t : TypeId} (ht : Tryz.prog.underlying t = some (.slice E.ty)) {W : World} {D : Nat → Prop} {l : List X} {A : Option Addr} {c : Nat} (h : Sl E W D l (.slice A l.length c)) (i : Nat) (hi : i ≤ l.length) :
    ∃ A' c', (∀ W', (Instr.slice t (.slice A l.length c) none (some (.int .i64 (i : Int))) none).run Tryz.prog W' = .ok (.slice A' i c') W') ∧ Sl E W D (l.take i) (.slice A' i c') := by
  have ht' : Tryz.prog.underlying t = some (.slice (Tryz.prog.elem t)) := by simp [Program.elem, ht]
  have he : Tryz.prog.elem t = E.ty := by simp [Program.elem, ht]
  obtain ⟨A0, c0, e, hc, hm, hr⟩ := h
  obtain ⟨rfl, -, rfl⟩ := Value.slice.inj e
  have hlen : (l.take i).length = i := by simp; omega
  refine ⟨if c = 0 then A else A.map (·.add 0), c, fun W' => ?_, ?_⟩
  · rw [run_slice_h W' t _ _ _ ht' .i64 _ (by omega) (by omega), he, sizeE]
    simp [Result.andThen, sliced]
  · refine ⟨_, _, by rw [hlen], by omega, hm, fun hn => ?_⟩
    obtain ⟨b, o, hA, hb, hrow⟩ := hr (by omega)
    refine ⟨b, o, ?_, hb, Row.of_get fun j x hj => ?_⟩
    · rw [if_neg (by omega), hA, Option.map_some, Addr.add_lit, Nat.add_zero]
    · rw [List.getElem?_take] at hj
      split at hj
      · exact hrow.get hj
      · cases hj

theorem sl_drop {E : El X} {t : TypeId} (ht : Tryz.prog.underlying t = some (.slice E.ty)) {W : World} {D : Nat → Prop} {l : List X} {A : Option Addr} {c : Nat} (h : Sl E W D l (.slice A l.length c)) (i : Nat) (hi : i ≤ l.length) :
    ∃ A' c', (∀ W', (Instr.slice t (.slice A l.length c) (some (.int .i64 (i : Int))) none none).run Tryz.prog W' = .ok (.slice A' (l.length - i) c') W') ∧ Sl E W D (l.drop i) (.slice A' (l.length - i) c') := by
  have ht' : Tryz.prog.underlying t = some (.slice (Tryz.prog.elem t)) := by simp [Program.elem, ht]
  have he : Tryz.prog.elem t = E.ty := by simp [Program.elem, ht]
  obtain ⟨A0, c0, e, hc, hm, hr⟩ := h
  obtain ⟨rfl, -, rfl⟩ := Value.slice.inj e
  have hlen : (l.drop i).length = l.length - i := by simp
  refine ⟨if c = i then A else A.map (·.add (i * E.size)), c - i, fun W' => ?_, ?_⟩
  · rw [run_slice_l W' t _ _ _ ht' .i64 _ (by omega) (by omega), he, sizeE]
    simp [Result.andThen, sliced]
  · refine ⟨_, _, by rw [hlen], by omega, by omega, fun hn => ?_⟩
    obtain ⟨b, o, hA, hb, hrow⟩ := hr (by omega)
    refine ⟨b, o + i * E.size, ?_, hb, Row.of_get fun j x hj => ?_⟩
    · rw [if_neg (by omega), hA, Option.map_some, Addr.add_lit]
    · rw [List.getElem?_drop] at hj
      obtain ⟨cs, hc', hx⟩ := hrow.get hj
      refine ⟨cs, fun q v hq => ?_, hx⟩
      have := hc' q v hq
      rwa [show o + (i + j) * E.size + q = o + i * E.size + j * E.size + q by rw [Nat.add_mul]; omega] at this

theorem GG.turn {E : El X} {w w' : World} {base : Nat} {D0 : Nat → Prop} {v : Value} {l : List X} (h : GG E w base D0 v l) (hown : ∀ g, v.ownBlock = some g → w'.heap[g]? = w.heap[g]?) (hsame : ∀ b, D0 b → b < w.heap.size → w'.heap[b]? = w.heap[b]?)
    (hsz : w.heap.size ≤ w'.heap.size) : GG E w' base D0 v l := by
  obtain ⟨xs, ho, hc⟩ := h
  exact ⟨xs, ownsRow_turn ho hown, hc.keep (fun b hb => hsame b hb.1 hb.2.1) (fun b hb => ⟨hb.1, Nat.lt_of_lt_of_le hb.2.1 hsz, hb.2.2⟩)⟩

theorem GG.base {E : El X} {w : World} {base base' : Nat} {D0 : Nat → Prop} {v : Value} {l : List X} (h : GG E w base D0 v l) (hb : base' ≤ base) : GG E w base' D0 v l := by
  obtain ⟨xs, ho, hc⟩ := h
  refine ⟨xs, ⟨ho.1, ?_⟩, hc⟩
  rcases ho.2 with hn | ⟨g, cap, cur, hv, hg, r⟩
  · exact .inl hn
  · exact .inr ⟨g, cap, cur, hv, Nat.le_trans hb hg, r⟩
end Go.Proofs.YtfhppajnnbbcjaaGreatDoor
