/- The law FnGetSteps: what the values of 'a, b := impl.GetPath(r.Val, array(q)), impl.GetPath(v, array(append(append(.., p...), q...)))' are good for, whatever order is drawn. -/
import Derived.Test.YtfhppajnnbbcjaaGreatDoorGx8
import Derived.Test.YtfhppajnnbbcjaaGreatDoorGx7
import Derived.Test.YtfhppajnnbbcjaaGreatDoorGx9

section
namespace Go.Proofs.YtfhppajnnbbcjaaGreatDoor
open Go.RowKit

theorem upd_ne {xs : Nat → Value} {i j : Nat} {v : Value} (h : j ≠ i) : upd xs i v j = xs j := by simp [upd, h]
theorem upd_eq {xs : Nat → Value} {i : Nat} {v : Value} : upd xs i v i = v := by simp [upd]

/-- an answer -/
def ResV (r : Option J) (u : Value) (W : World) (D : Nat → Prop) : Prop := match r with
  | some z => ∃ E1 e1 E2 e2 E3 e3, u = .agg #[.int .i64 z.kind, .int .i64 z.half, .string z.text, .slice E1 z.list.length e1, .slice E2 z.keys.length e2, .slice E3 z.vals.length e3, .int .i64 0] ∧
      SRep W D z [.int .i64 z.kind, .int .i64 z.half, .string z.text, .slice E1 z.list.length e1, .slice E2 z.keys.length e2, .slice E3 z.vals.length e3]
  | none => u = .agg #[.int .i64 0, .int .i64 0, .string ⟨#[]⟩, .slice none 0 0, .slice none 0 0, .slice none 0 0, .int .i64 1]

theorem ResV.keep {r : Option J} {u : Value} {W W' : World} {D D' : Nat → Prop} (h : ResV r u W D) (hs : Same D W W') (hD : ∀ b, D b → D' b) : ResV r u W' D' := by
  cases r with
  | none => exact h
  | some z =>
    obtain ⟨E1, e1, E2, e2, E3, e3, hu, hr⟩ := h
    exact ⟨E1, e1, E2, e2, E3, e3, hu, VRep.keep hs hD _ _ hr⟩

abbrev ptr (g : Nat) : Value := .pointer (some ⟨g, 0, none⟩)

theorem ptr_inj {a b : Nat} (h : ptr a = ptr b) : a = b := by
  have h1 := Value.pointer.inj h
  have h2 := Option.some.inj h1
  exact congrArg Addr.block h2

/-- the blocks that the region itself lays -/
def Ex (d : Nat → Prop) (xs : Nat → Value) (b : Nat) : Prop := (d 13 ∧ xs 13 = ptr b) ∨ (d 14 ∧ xs 14 = ptr b) ∨ (d 6 ∧ (xs 6).ownBlock = some b) ∨ (d 8 ∧ (xs 8).ownBlock = some b)

/-- a step -/
structure Tr (d : Nat → Prop) (xs : Nat → Value) (i : Nat) (v : Value) (W W' : World) : Prop where
  size : W.heap.size ≤ W'.heap.size
  blk : ∀ b, b < W.heap.size → W'.heap[b]? = W.heap[b]? ∨ (i = 8 ∧ d 6 ∧ (xs 6).ownBlock = some b) ∨ (i = 10 ∧ d 8 ∧ (xs 8).ownBlock = some b)
  e13 : i = 13 → v = ptr W.heap.size
  e14 : i = 14 → v = ptr W.heap.size
  e6 : i = 6 → v.ownBlock = some W.heap.size
  e8 : i = 8 → d 6 ∧ (v.ownBlock = (xs 6).ownBlock ∨ v.ownBlock = some W.heap.size)

/-- a step that only lays new blocks -/
theorem Tr.below {d : Nat → Prop} {xs : Nat → Value} {i : Nat} {v : Value} {W W' : World} (hb : Below W.heap.size W W') (h13 : i ≠ 13) (h14 : i ≠ 14) (h6 : i ≠ 6) (h8 : i ≠ 8) : Tr d xs i v W W' :=
  ⟨hb.size, fun b h => .inl (hb.block b h), fun h => absurd h h13, fun h => absurd h h14, fun h => absurd h h6, fun h => absurd h h8⟩

theorem Tr.ex {d : Nat → Prop} {xs : Nat → Value} {i : Nat} {v : Value} {W W' : World} (t : Tr d xs i v W W') {b : Nat} (hb : b < W.heap.size) (h : Ex (fun j => d j ∨ j = i) (upd xs i v) b) : Ex d xs b := by
  rcases h with ⟨h1, h2⟩ | ⟨h1, h2⟩ | ⟨h1, h2⟩ | ⟨h1, h2⟩
  · by_cases e : i = 13
    · rw [← e, upd_eq, t.e13 e] at h2
      have := ptr_inj h2
      omega
    · exact .inl ⟨h1.resolve_right (Ne.symm e), (upd_ne (Ne.symm e)).symm.trans h2⟩
  · by_cases e : i = 14
    · rw [← e, upd_eq, t.e14 e] at h2
      have := ptr_inj h2
      omega
    · exact .inr (.inl ⟨h1.resolve_right (Ne.symm e), (upd_ne (Ne.symm e)).symm.trans h2⟩)
  · by_cases e : i = 6
    · rw [← e, upd_eq, t.e6 e] at h2
      have := Option.some.inj h2
      omega
    · rw [upd_ne (Ne.symm e)] at h2
      exact .inr (.inr (.inl ⟨h1.resolve_right (Ne.symm e), h2⟩))
  · by_cases e : i = 8
    · rw [← e, upd_eq] at h2
      obtain ⟨h6, h | h⟩ := t.e8 e
      · rw [h] at h2; exact .inr (.inr (.inl ⟨h6, h2⟩))
      · rw [h] at h2
        have := Option.some.inj h2
        omega
    · rw [upd_ne (Ne.symm e)] at h2
      exact .inr (.inr (.inr ⟨h1.resolve_right (Ne.symm e), h2⟩))

theorem Tr.same {d : Nat → Prop} {xs : Nat → Value} {i : Nat} {v : Value} {W W' : World} (t : Tr d xs i v W W') {b : Nat} (hb : b < W.heap.size) (h : ¬ Ex d xs b) : W'.heap[b]? = W.heap[b]? := by
  rcases t.blk b hb with h1 | ⟨-, h2, h3⟩ | ⟨-, h2, h3⟩
  · exact h1
  · exact absurd (.inr (.inr (.inl ⟨h2, h3⟩))) h
  · exact absurd (.inr (.inr (.inr ⟨h2, h3⟩))) h

/-- the variables a and b as they were made -/
def VarAt (B g : Nat) (W : World) (d : Nat → Prop) (xs : Nat → Value) (o : Nat) : Prop := W.heap[g]? = some (.cells zRes 34 (0, 0)) ∧ B ≤ g ∧ (d o → xs o ≠ ptr g) ∧ (d 6 → (xs 6).ownBlock ≠ some g) ∧ (d 8 → (xs 8).ownBlock ≠ some g)

theorem VarAt.keep {B g : Nat} {d : Nat → Prop} {xs : Nat → Value} {o i : Nat} {v : Value} {W W' : World} (t : Tr d xs i v W W') (ho : o = 13 ∨ o = 14) (h : VarAt B g W d xs o) : VarAt B g W' (fun j => d j ∨ j = i) (upd xs i v) o := by
  obtain ⟨hh, hB, h1, h2, h3⟩ := h
  have hlt := box_lt hh
  refine ⟨?_, hB, fun hd => ?_, fun hd => ?_, fun hd => ?_⟩
  · rcases t.blk g hlt with e | ⟨-, e6, e⟩ | ⟨-, e8, e⟩
    · exact e.trans hh
    · exact absurd e (h2 e6)
    · exact absurd e (h3 e8)
  · by_cases e : i = o
    · rw [← e, upd_eq]
      have : v = ptr W.heap.size := by
        rcases ho with ho | ho
        · exact t.e13 (e.trans ho)
        · exact t.e14 (e.trans ho)
      rw [this]
      intro h
      have := ptr_inj h
      omega
    · rw [upd_ne (Ne.symm e)]
      exact h1 (hd.resolve_right (Ne.symm e))
  · by_cases e : i = 6
    · rw [← e, upd_eq, t.e6 e]
      intro h
      have := Option.some.inj h
      omega
    · rw [upd_ne (Ne.symm e)]
      exact h2 (hd.resolve_right (Ne.symm e))
  · by_cases e : i = 8
    · rw [← e, upd_eq]
      obtain ⟨h6, h | h⟩ := t.e8 e
      · rw [h]; exact h2 h6
      · rw [h]
        intro h
        have := Option.some.inj h
        omega
    · rw [upd_ne (Ne.symm e)]
      exact h3 (hd.resolve_right (Ne.symm e))

/-- what the values are good for: y: what stands at p; r: what stands there at l -/
def F10 (g9 : Nat) (ya qa qaa cva : Value) (Sp : Value) (p l : List J) (r : Option J) (B : Nat) (d : Nat → Prop) (xs : Nat → Value) : Nat → World → Prop
  | 0, _ => xs 0 = ptr g9
  | 1, _ => xs 1 = ya
  | 2, _ => xs 2 = qa
  | 3, _ => xs 3 = qaa
  | 4, W => ResV r (xs 4) W fun b => (B ≤ b ∧ b < W.heap.size) ∧ ¬ Ex d xs b
  | 5, _ => xs 5 = cva
  | 6, W => (∀ k, (xs 6).ownBlock = some k → B ≤ k ∧ k < W.heap.size) ∧ (¬ d 8 → GG EJ W B (fun _ => True) (xs 6) [])
  | 7, _ => xs 7 = Sp
  | 8, W => (∀ k, (xs 8).ownBlock = some k → B ≤ k ∧ k < W.heap.size) ∧ (¬ d 10 → GG EJ W B (fun _ => True) (xs 8) p)
  | 9, _ => xs 9 = qa
  | 10, W => d 8 ∧ GG EJ W B (fun _ => True) (xs 10) (p ++ l)
  | 11, W => d 8 ∧ d 10 ∧ xs 11 = .agg #[.int .i64 5, .int .i64 0, .string noText, xs 10, .slice none 0 0, .slice none 0 0] ∧ SlJ W (fun b => b < W.heap.size) (p ++ l) (xs 10)
  | 12, W => ResV r (xs 12) W fun b => (B ≤ b ∧ b < W.heap.size) ∧ ¬ Ex d xs b
  | 13, W => ∃ g, xs 13 = ptr g ∧ VarAt B g W d xs 14
  | 14, W => ∃ g, xs 14 = ptr g ∧ VarAt B g W d xs 13
  | _, _ => True

theorem F10.keep {g9 : Nat} {ya qa qaa cva Sp : Value} {p l : List J} {r : Option J} {B : Nat} {d : Nat → Prop} {xs : Nat → Value} {i j : Nat} {v : Value} {W W' : World} (t : Tr d xs i v W W') (hd : ¬ d i) (hj : j ≠ i) (h : F10 g9 ya qa qaa cva Sp p l r B d xs j W) :
    F10 g9 ya qa qaa cva Sp p l r B (fun j => d j ∨ j = i) (upd xs i v) j W' := by
  have hres : ∀ u, ResV r u W (fun b => (B ≤ b ∧ b < W.heap.size) ∧ ¬ Ex d xs b) → ResV r u W' (fun b => (B ≤ b ∧ b < W'.heap.size) ∧ ¬ Ex (fun j => d j ∨ j = i) (upd xs i v) b) := fun u hu =>
    hu.keep (fun b hb => t.same hb.1.2 hb.2) (fun b hb => ⟨⟨hb.1.1, Nat.lt_of_lt_of_le hb.1.2 t.size⟩, fun he => hb.2 (t.ex hb.1.2 he)⟩)
  have hgg : ∀ u m, GG EJ W B (fun _ => True) u m → (i = 8 → False) → (i = 10 → d 8 → False) → GG EJ W' B (fun _ => True) u m := fun u m hu h8 h10 =>
    hu.keep (fun b hb _ => by
      rcases t.blk b hb with h1 | ⟨e, -, -⟩ | ⟨e, e8, -⟩
      · exact h1
      · exact (h8 e).elim
      · exact (h10 e e8).elim) t.size
  match j, hj, h with
  | 0, hj, h => exact (upd_ne hj).trans h
  | 1, hj, h => exact (upd_ne hj).trans h
  | 2, hj, h => exact (upd_ne hj).trans h
  | 3, hj, h => exact (upd_ne hj).trans h
  | 4, hj, h => show ResV r (upd xs i v 4) W' _; rw [upd_ne hj]; exact hres _ h
  | 5, hj, h => exact (upd_ne hj).trans h
  | 6, hj, h =>
    refine ⟨fun k hk => ?_, fun h8 => ?_⟩
    · rw [upd_ne hj] at hk
      exact ⟨(h.1 k hk).1, Nat.lt_of_lt_of_le (h.1 k hk).2 t.size⟩
    show GG EJ W' B _ (upd xs i v 6) _
    rw [upd_ne hj]
    exact hgg _ _ (h.2 fun e => h8 (.inl e)) (fun e => h8 (.inr e.symm)) (fun _ e => h8 (.inl e))
  | 7, hj, h => exact (upd_ne hj).trans h
  | 8, hj, h =>
    refine ⟨fun k hk => ?_, fun h10 => ?_⟩
    · rw [upd_ne hj] at hk
      exact ⟨(h.1 k hk).1, Nat.lt_of_lt_of_le (h.1 k hk).2 t.size⟩
    show GG EJ W' B _ (upd xs i v 8) _
    rw [upd_ne hj]
    exact hgg _ _ (h.2 fun e => h10 (.inl e)) (fun e => hj e.symm) (fun e _ => h10 (.inr e.symm))
  | 9, hj, h => exact (upd_ne hj).trans h
  | 10, hj, h =>
    refine ⟨.inl h.1, ?_⟩
    show GG EJ W' B _ (upd xs i v 10) _
    rw [upd_ne hj]
    exact hgg _ _ h.2 (fun e => hd (e ▸ h.1)) (fun e _ => hj e.symm)
  | 11, hj, h =>
    have e10 : (10 : Nat) ≠ i := fun e => hd (e ▸ h.2.1)
    have e8 : i ≠ 8 := fun e => hd (e ▸ h.1)
    refine ⟨.inl h.1, .inl h.2.1, ?_, ?_⟩
    · show upd xs i v 11 = _
      rw [upd_ne hj, upd_ne e10]
      exact h.2.2.1
    · show SlJ W' _ _ (upd xs i v 10)
      rw [upd_ne e10]
      refine h.2.2.2.keep (fun b hb => ?_) (fun b hb => Nat.lt_of_lt_of_le hb t.size)
      rcases t.blk b hb with h1 | ⟨e, -, -⟩ | ⟨e, -, -⟩
      · exact h1
      · exact absurd e e8
      · exact absurd e.symm e10
  | 12, hj, h => show ResV r (upd xs i v 12) W' _; rw [upd_ne hj]; exact hres _ h
  | 13, hj, h =>
    obtain ⟨g, hx, hv⟩ := h
    exact ⟨g, (upd_ne hj).trans hx, hv.keep t (.inr rfl)⟩
  | 14, hj, h =>
    obtain ⟨g, hx, hv⟩ := h
    exact ⟨g, (upd_ne hj).trans hx, hv.keep t (.inl rfl)⟩
  | n + 15, _, _ => trivial

/-- what is laid later is none of the region's own blocks so far -/
theorem F10.new {g9 : Nat} {ya qa qaa cva Sp : Value} {p l : List J} {r : Option J} {B : Nat} {d : Nat → Prop} {xs : Nat → Value} {W : World} (hF : ∀ j, d j → F10 g9 ya qa qaa cva Sp p l r B d xs j W) {b : Nat} (hb : W.heap.size ≤ b) : ¬ Ex d xs b := by
  rintro (⟨h1, h2⟩ | ⟨h1, h2⟩ | ⟨h1, h2⟩ | ⟨h1, h2⟩)
  · obtain ⟨g, hx, hv⟩ := hF 13 h1
    have := ptr_inj (hx.symm.trans h2)
    have := box_lt hv.1
    omega
  · obtain ⟨g, hx, hv⟩ := hF 14 h1
    have := ptr_inj (hx.symm.trans h2)
    have := box_lt hv.1
    omega
  · have := (hF 6 h1).1 b h2
    omega
  · have := (hF 8 h1).1 b h2
    omega

/-- an answer that a call has just given -/
theorem ResV.fresh {g9 : Nat} {ya qa qaa cva Sp : Value} {p l : List J} {r : Option J} {B : Nat} {d : Nat → Prop} {xs : Nat → Value} {W W' : World} {i : Nat} {u : Value} (hF : ∀ j, d j → F10 g9 ya qa qaa cva Sp p l r B d xs j W) (hB : B ≤ W.heap.size) (hi : i = 4 ∨ i = 12) (hu : ResV r u W' (Fresh W W')) :
    ResV r (upd xs i u i) W' (fun b => (B ≤ b ∧ b < W'.heap.size) ∧ ¬ Ex (fun j => d j ∨ j = i) (upd xs i u) b) := by
  rw [upd_eq]
  refine hu.keep (fun _ _ => rfl) fun b hb => ⟨⟨Nat.le_trans hB hb.1, hb.2⟩, fun he => F10.new hF hb.1 ?_⟩
  have n13 : (13 : Nat) ≠ i := by omega
  have n14 : (14 : Nat) ≠ i := by omega
  have n6 : (6 : Nat) ≠ i := by omega
  have n8 : (8 : Nat) ≠ i := by omega
  rcases he with ⟨h1, h2⟩ | ⟨h1, h2⟩ | ⟨h1, h2⟩ | ⟨h1, h2⟩
  · rw [upd_ne n13] at h2; exact .inl ⟨h1.resolve_right n13, h2⟩
  · rw [upd_ne n14] at h2; exact .inr (.inl ⟨h1.resolve_right n14, h2⟩)
  · rw [upd_ne n6] at h2; exact .inr (.inr (.inl ⟨h1.resolve_right n6, h2⟩))
  · rw [upd_ne n8] at h2; exact .inr (.inr (.inr ⟨h1.resolve_right n8, h2⟩))

/-- a variable that is made now -/
theorem VarAt.new {g9 : Nat} {ya qa qaa cva Sp : Value} {p l : List J} {r : Option J} {B : Nat} {d : Nat → Prop} {xs : Nat → Value} {W : World} {i o : Nat} (hF : ∀ j, d j → F10 g9 ya qa qaa cva Sp p l r B d xs j W) (hB : B ≤ W.heap.size) (hio : (i = 13 ∧ o = 14) ∨ (i = 14 ∧ o = 13)) :
    VarAt B W.heap.size (W.alloc (.cells zRes 34)) (fun j => d j ∨ j = i) (upd xs i (ptr W.heap.size)) o := by
  have hn := F10.new hF (Nat.le_refl W.heap.size)
  have n6 : (6 : Nat) ≠ i := by omega
  have n8 : (8 : Nat) ≠ i := by omega
  have no : o ≠ i := by omega
  refine ⟨heap_alloc_new _ _, hB, fun hd e => ?_, fun hd e => ?_, fun hd e => ?_⟩
  · rw [upd_ne no] at e
    have hd' := hd.resolve_right no
    rcases hio with ⟨-, rfl⟩ | ⟨-, rfl⟩
    · exact hn (.inr (.inl ⟨hd', e⟩))
    · exact hn (.inl ⟨hd', e⟩)
  · rw [upd_ne n6] at e; exact hn (.inr (.inr (.inl ⟨hd.resolve_right n6, e⟩)))
  · rw [upd_ne n8] at e; exact hn (.inr (.inr (.inr ⟨hd.resolve_right n8, e⟩)))

/-- a whole result stored -/
theorem store7 {W : World} {g : Nat} {cs : Array Value} {t : TypeId} (hh : W.heap[g]? = some (.cells cs t (0, 0))) (hc : cs.size = 7) (v0 v1 v2 v3 v4 v5 v6 : Value) :
    (((((((W.setCell ⟨g, 0, none⟩ v0).setCell ⟨g, 1, none⟩ v1).setCell ⟨g, 2, none⟩ v2).setCell ⟨g, 3, none⟩ v3).setCell ⟨g, 4, none⟩ v4).setCell ⟨g, 5, none⟩ v5).setCell ⟨g, 6, none⟩ v6).heap[g]? = some (.cells #[v0, v1, v2, v3, v4, v5, v6] t (0, 0)) := by
  obtain ⟨c0, c1, c2, c3, c4, c5, c6, hl⟩ : ∃ c0 c1 c2 c3 c4 c5 c6, cs.toList = [c0, c1, c2, c3, c4, c5, c6] := by
    have : cs.toList.length = 7 := by simpa using hc
    match cs.toList, this with
    | [c0, c1, c2, c3, c4, c5, c6], _ => exact ⟨_, _, _, _, _, _, _, rfl⟩
  have : cs = #[c0, c1, c2, c3, c4, c5, c6] := by rw [← Array.toArray_toList (xs := cs), hl]
  subst this
  rw [heap_setCell_same _ _ _ _ _ _ (heap_setCell_same _ _ _ _ _ _ (heap_setCell_same _ _ _ _ _ _ (heap_setCell_same _ _ _ _ _ _ (heap_setCell_same _ _ _ _ _ _ (heap_setCell_same _ _ _ _ _ _ (heap_setCell_same _ _ _ _ _ _ hh))))))]
  rfl

theorem store7_ne {W : World} {g b : Nat} (h : b ≠ g) (v0 v1 v2 v3 v4 v5 v6 : Value) : (((((((W.setCell ⟨g, 0, none⟩ v0).setCell ⟨g, 1, none⟩ v1).setCell ⟨g, 2, none⟩ v2).setCell ⟨g, 3, none⟩ v3).setCell ⟨g, 4, none⟩ v4).setCell ⟨g, 5, none⟩ v5).setCell ⟨g, 6, none⟩ v6).heap[b]? = W.heap[b]? := by
  rw [heap_setCell_other _ _ _ _ h, heap_setCell_other _ _ _ _ h, heap_setCell_other _ _ _ _ h, heap_setCell_other _ _ _ _ h, heap_setCell_other _ _ _ _ h, heap_setCell_other _ _ _ _ h, heap_setCell_other _ _ _ _ h]
theorem store7_below {W W0 : World} {g B : Nat} (h : Below B W0 W) (hg : B ≤ g) (v0 v1 v2 v3 v4 v5 v6 : Value) : Below B W0 (((((((W.setCell ⟨g, 0, none⟩ v0).setCell ⟨g, 1, none⟩ v1).setCell ⟨g, 2, none⟩ v2).setCell ⟨g, 3, none⟩ v3).setCell ⟨g, 4, none⟩ v4).setCell ⟨g, 5, none⟩ v5).setCell ⟨g, 6, none⟩ v6) :=
  ((((((h.setCell hg _).setCell hg _).setCell hg _).setCell hg _).setCell hg _).setCell hg _).setCell hg _

/-- two results stored, one behind the other -/
theorem two_stores {W : World} {ga gb : Nat} (ha : W.heap[ga]? = some (.cells zRes 34 (0, 0))) (hb : W.heap[gb]? = some (.cells zRes 34 (0, 0))) (hne : ga ≠ gb) (v0 v1 v2 v3 v4 v5 v6 u0 u1 u2 u3 u4 u5 u6 : Value) :
    ∃ W8, ((((((((((((((W.setCell ⟨ga, 0, none⟩ v0).setCell ⟨ga, 1, none⟩ v1).setCell ⟨ga, 2, none⟩ v2).setCell ⟨ga, 3, none⟩ v3).setCell ⟨ga, 4, none⟩ v4).setCell ⟨ga, 5, none⟩ v5).setCell ⟨ga, 6, none⟩ v6).setCell ⟨gb, 0, none⟩ u0).setCell ⟨gb, 1, none⟩ u1).setCell ⟨gb, 2, none⟩ u2).setCell ⟨gb, 3, none⟩ u3).setCell ⟨gb, 4, none⟩ u4).setCell ⟨gb, 5, none⟩ u5).setCell ⟨gb, 6, none⟩ u6) = W8 ∧ W8.heap[ga]? = some (.cells #[v0, v1, v2, v3, v4, v5, v6] 34 (0, 0)) ∧ W8.heap[gb]? = some (.cells #[u0, u1, u2, u3, u4, u5, u6] 34 (0, 0)) ∧ (∀ b, b ≠ ga → b ≠ gb → W8.heap[b]? = W.heap[b]?) ∧ ∀ B W0, Below B W0 W → B ≤ ga → B ≤ gb → Below B W0 W8 :=
  ⟨_, rfl, (store7_ne hne _ _ _ _ _ _ _).trans (store7 ha rfl _ _ _ _ _ _ _), store7 ((store7_ne (Ne.symm hne) _ _ _ _ _ _ _).trans hb) rfl _ _ _ _ _ _ _, fun _ h1 h2 => (store7_ne h2 _ _ _ _ _ _ _).trans (store7_ne h1 _ _ _ _ _ _ _), fun _ _ h h1 h2 => store7_below (store7_below h h1 _ _ _ _ _ _ _) h2 _ _ _ _ _ _ _⟩

end Go.Proofs.YtfhppajnnbbcjaaGreatDoor
end
