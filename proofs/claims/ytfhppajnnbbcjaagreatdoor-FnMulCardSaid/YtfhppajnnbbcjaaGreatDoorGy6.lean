/- The memory words: slices of whatever elements; one that a call appends to, whatever is appended.
   The memory words: slices of values, of paths, of spots.
   Walks: spec.where.
   Walks: spec.where at a list and a needle that is none: the loop; the relation that the three loops share.
   Laws: type assertions on the interface error.
   Walks: gojq's index, toInt, clampIndex.
   Walks: gojq's funcIndex2, at keys that a straight path has.
   Walks: impl.listFromGo. -/
import Derived.Test.YtfhppajnnbbcjaaGreatDoorGy2
import Derived.Deep.AppendSrc
import Derived.Test.YtfhppajnnbbcjaaGreatDoorGy5
import Derived.Test.YtfhppajnnbbcjaaGreatDoorGy1
import Derived.Stop.Asserts
import Derived.Test.YtfhppajnnbbcjaaGreatDoorGy3

section
namespace Go.Proofs.YtfhppajnnbbcjaaGreatDoor
open Go.RowKit

/-- what an element of a slice stands for -/
structure El (X : Type) where
  ty : TypeId
  size : Nat
  bytes : Nat
  zero : Value
  info : (Tryz.prog.info? ty).map (fun i => (i.zero, i.size, i.bytes)) = some (some zero, size, bytes)
  zsize : zero.cells.size = size
  pos : 0 < size
  rep : World → (Nat → Prop) → X → List Value → Prop
  len : ∀ {w : World} {D : Nat → Prop} {x : X} {cs : List Value}, rep w D x cs → cs.length = size
  one : ∀ {w : World} {D : Nat → Prop} {x : X} {cs : List Value}, rep w D x cs → ∀ u ∈ cs, u.oneCell' = true
  keep : ∀ {w w' : World} {D D' : Nat → Prop} {x : X} {cs : List Value}, Same D w w' → (∀ b, D b → D' b) → rep w D x cs → rep w' D' x cs

variable {X : Type}

def Row (E : El X) (w : World) (D : Nat → Prop) (b : Nat) : List X → Nat → Prop
  | [], _ => True
  | x :: l, o => (∃ cs, (∀ i v, cs[i]? = some v → w.cell? ⟨b, o + i, none⟩ = some v) ∧ E.rep w D x cs) ∧ Row E w D b l (o + E.size)

theorem Row.keep {E : El X} {w w' : World} {D D' : Nat → Prop} (hs : Same D w w') (hB : ∀ b, D b → D' b) : ∀ (l : List X) (b o : Nat), D b → Row E w D b l o → Row E w' D' b l o
  | [], _, _, _, _ => trivial
  | x :: l, b, o, hb, hr => by
    obtain ⟨⟨cs, hc, hx⟩, hr⟩ := hr
    exact ⟨⟨cs, fun i v hi => (hs.cell hb).trans (hc i v hi), E.keep hs hB hx⟩, Row.keep hs hB l b (o + E.size) hb hr⟩

theorem Row.get {E : El X} {w : World} {D : Nat → Prop} {b : Nat} : ∀ {l : List X} {o i : Nat} {x : X}, Row E w D b l o → l[i]? = some x →
    ∃ cs, (∀ j v, cs[j]? = some v → w.cell? ⟨b, o + i * E.size + j, none⟩ = some v) ∧ E.rep w D x cs
  | [], _, _, _, _, h => by simp at h
  | a :: l, o, 0, x, hr, h => by
    obtain ⟨⟨cs, hc, hx⟩, _⟩ := hr
    simp at h
    subst h
    exact ⟨cs, by simpa using hc, hx⟩
  | a :: l, o, i + 1, x, hr, h => by
    obtain ⟨cs, hc, hx⟩ := Row.get (i := i) hr.2 (by simpa using h)
    refine ⟨cs, fun j v hj => ?_, hx⟩
    have := hc j v hj
    rwa [show o + (i + 1) * E.size + j = o + E.size + i * E.size + j by rw [Nat.add_mul]; omega]

abbrev Sl (E : El X) (w : World) (D : Nat → Prop) (l : List X) (v : Value) : Prop := SlAt D l.length v (fun b o => Row E w D b l o)

theorem Sl.keep {E : El X} {w w' : World} {D D' : Nat → Prop} {l : List X} {v : Value} (h : Sl E w D l v) (hs : Same D w w') (hB : ∀ b, D b → D' b) : Sl E w' D' l v :=
  h.mono hB fun b o hb hr => Row.keep hs hB l b o hb hr

theorem Sl.nil (E : El X) (w : World) (D : Nat → Prop) : Sl E w D [] (.slice none 0 0) := ⟨none, 0, rfl, Nat.le_refl _, by unfold maxLen; omega, fun h => absurd h (by simp)⟩

def Chunks (E : El X) (w : World) (D : Nat → Prop) : List X → List Value → Prop
  | [], xs => xs = []
  | x :: l, xs => ∃ cs r, xs = cs ++ r ∧ E.rep w D x cs ∧ Chunks E w D l r

theorem Chunks.length {E : El X} {w : World} {D : Nat → Prop} : ∀ {l : List X} {xs : List Value}, Chunks E w D l xs → xs.length = l.length * E.size
  | [], _, h => by simp [show _ = [] from h]
  | x :: l, _, h => by
    obtain ⟨cs, r, rfl, hx, hr⟩ := h
    rw [List.length_append, E.len hx, hr.length, List.length_cons, Nat.add_mul, Nat.one_mul, Nat.add_comm]

theorem Chunks.one {E : El X} {w : World} {D : Nat → Prop} : ∀ {l : List X} {xs : List Value}, Chunks E w D l xs → ∀ u ∈ xs, u.oneCell' = true
  | [], _, h, u, hu => by rw [show _ = [] from h] at hu; simp at hu
  | x :: l, _, h, u, hu => by
    obtain ⟨cs, r, rfl, hx, hr⟩ := h
    rcases List.mem_append.1 hu with h | h
    · exact E.one hx u h
    · exact hr.one u h

theorem Chunks.append {E : El X} {w : World} {D : Nat → Prop} {l2 : List X} {ys : List Value} (h2 : Chunks E w D l2 ys) : ∀ {l : List X} {xs : List Value}, Chunks E w D l xs → Chunks E w D (l ++ l2) (xs ++ ys)
  | [], _, h => by rw [show _ = [] from h]; exact h2
  | x :: l, _, h => by
    obtain ⟨cs, r, rfl, hx, hr⟩ := h
    exact ⟨cs, r ++ ys, by simp, hx, Chunks.append h2 hr⟩

theorem Chunks.keep {E : El X} {w w' : World} {D D' : Nat → Prop} (hs : Same D w w') (hD : ∀ b, D b → D' b) : ∀ {l : List X} {xs : List Value}, Chunks E w D l xs → Chunks E w' D' l xs
  | [], _, h => h
  | x :: l, _, h => by
    obtain ⟨cs, r, rfl, hx, hr⟩ := h
    exact ⟨cs, r, rfl, E.keep hs hD hx, Chunks.keep hs hD hr⟩

theorem Chunks.row {E : El X} {w : World} {D : Nat → Prop} {b : Nat} : ∀ {l : List X} {xs : List Value} {o : Nat}, Chunks E w D l xs → (∀ j u, xs[j]? = some u → w.cell? ⟨b, o + j, none⟩ = some u) → Row E w D b l o
  | [], _, _, _, _ => trivial
  | x :: l, _, o, h, hc => by
    obtain ⟨cs, r, rfl, hx, hr⟩ := h
    refine ⟨⟨cs, fun j u hj => hc j u ?_, hx⟩, Chunks.row hr fun j u hj => ?_⟩
    · rw [List.getElem?_append_left (List.getElem?_eq_some_iff.1 hj).1]; exact hj
    · have := hc (E.size + j) u (by rw [List.getElem?_append_right (by rw [E.len hx]; omega), E.len hx]; simpa using hj)
      rwa [show o + E.size + j = o + (E.size + j) by omega]

theorem Row.chunks {E : El X} {w : World} {D : Nat → Prop} {b : Nat} : ∀ {l : List X} {o : Nat}, Row E w D b l o → ∃ xs, (∀ j u, xs[j]? = some u → w.cell? ⟨b, o + j, none⟩ = some u) ∧ Chunks E w D l xs
  | [], _, _ => ⟨[], by simp, rfl⟩
  | x :: l, o, hr => by
    obtain ⟨⟨cs, hc, hx⟩, hr⟩ := hr
    obtain ⟨r, hr1, hr2⟩ := Row.chunks hr
    refine ⟨cs ++ r, fun j u hj => ?_, cs, r, rfl, hx, hr2⟩
    by_cases h : j < cs.length
    · rw [List.getElem?_append_left h] at hj; exact hc j u hj
    · rw [List.getElem?_append_right (by omega)] at hj
      have := hr1 _ u hj
      rwa [show o + E.size + (j - cs.length) = o + j by rw [← E.len hx]; omega] at this

/-- the slice value v, the call's own, holds the list l; its row lies from block base on; what its elements hold lies in D0 -/
def GG (E : El X) (w : World) (base : Nat) (D0 : Nat → Prop) (v : Value) (l : List X) : Prop :=
  ∃ xs, w.ownsRow base E.ty E.size v l.length xs ∧ Chunks E w (But D0 w v) l xs

theorem GG.nil (E : El X) (w : World) (base : Nat) (D0 : Nat → Prop) : GG E w base D0 (.slice none 0 0) [] := ⟨[], ⟨by simp, .inl ⟨rfl, rfl⟩⟩, rfl⟩

theorem GG.own_lt {E : El X} {w : World} {base : Nat} {D0 : Nat → Prop} {v : Value} {l : List X} (h : GG E w base D0 v l) : ∀ k, v.ownBlock = some k → base ≤ k ∧ k < w.heap.size := by
  obtain ⟨xs, ho, -⟩ := h
  exact ho.lt

theorem GG.form {E : El X} {w : World} {base : Nat} {D0 : Nat → Prop} {v : Value} {l : List X} (h : GG E w base D0 v l) : ∃ A c, v = .slice A l.length c := by
  obtain ⟨xs, ho, -⟩ := h
  rcases ho.2 with ⟨rfl, hn⟩ | ⟨g, cap, cur, hv, -⟩
  · exact ⟨none, 0, by rw [hn]⟩
  · exact ⟨_, _, hv⟩

/-- kept while other blocks are written -/
theorem GG.keep {E : El X} {w w' : World} {base : Nat} {D0 : Nat → Prop} {v : Value} {l : List X} (h : GG E w base D0 v l) (hsame : ∀ b, b < w.heap.size → D0 b ∨ base ≤ b → w'.heap[b]? = w.heap[b]?) (hsz : w.heap.size ≤ w'.heap.size) : GG E w' base D0 v l := by
  obtain ⟨xs, ho, hc⟩ := h
  refine ⟨xs, ?_, hc.keep (fun b hb => hsame b hb.2.1 (.inl hb.1)) (fun b hb => ⟨hb.1, Nat.lt_of_lt_of_le hb.2.1 hsz, hb.2.2⟩)⟩
  refine ⟨ho.1, ?_⟩
  rcases ho.2 with hn | ⟨g, cap, cur, hv, hg, hh, r⟩
  · exact .inl hn
  · exact .inr ⟨g, cap, cur, hv, hg, by rw [hsame g (box_lt hh) (.inr hg)]; exact hh, r⟩

theorem GG.below {E : El X} {w w' : World} {base : Nat} {D0 : Nat → Prop} {v : Value} {l : List X} (h : GG E w base D0 v l) (hb : Below w.heap.size w w') : GG E w' base D0 v l :=
  h.keep (fun b hlt _ => hb.block b hlt) hb.size

/-- read at the end -/
theorem GG.sl {E : El X} {w : World} {base : Nat} {D0 D : Nat → Prop} {v : Value} {l : List X} (h : GG E w base D0 v l) (h1 : ∀ b, D0 b → b < w.heap.size → D b) (h2 : ∀ b, base ≤ b → b < w.heap.size → D b) : Sl E w D l v := by
  obtain ⟨xs, ho, hc⟩ := h
  rcases ho.2 with ⟨rfl, hn⟩ | ⟨g, cap, cur, hv, hg, hh, hnc, hcm, -⟩
  · exact ⟨_, _, by rw [hn], by omega, by unfold maxLen; omega, fun h => absurd h (by omega)⟩
  · refine ⟨_, cap, hv, hnc, hcm, fun _ => ⟨g, 0, rfl, h2 g hg (box_lt hh), ?_⟩⟩
    refine Chunks.row (hc.keep (fun _ _ => rfl) (fun b hb => h1 b hb.1 hb.2.1)) fun j u hj => ?_
    have := ho.cells (g := g) (by rw [hv]; rfl) j u hj
    rwa [Addr.add_lit] at this

/-- a row that was just made whole: a literal -/
theorem GG.lit {E : El X} {w : World} {base : Nat} {D0 : Nat → Prop} {l : List X} {cs : List Value} {g : Nat} (hg : base ≤ g) (hh : w.heap[g]? = some (.cells cs.toArray E.ty (0, 0))) (hm : l.length ≤ maxLen)
    (hc : Chunks E w (fun b => D0 b ∧ b < w.heap.size ∧ b ≠ g) l cs) : GG E w base D0 (.slice (some ⟨g, 0, none⟩) l.length l.length) l := by
  have hl := hc.length
  refine ⟨cs, ⟨hl, .inr ⟨g, l.length, cs.toArray, rfl, hg, hh, Nat.le_refl _, hm, by simpa using hl, by simp [← hl]⟩⟩, hc.keep (fun _ _ => rfl) (fun b hb => ⟨hb.1, hb.2.1, by simp [Value.ownBlock]; exact hb.2.2⟩)⟩

theorem GG.append {E : El X} {t ty : TypeId} (ht : Tryz.prog.underlying t = some (.slice E.ty)) {w : World} {base : Nat} {D0 : Nat → Prop} {v u : Value} {l l2 : List X} (h : GG E w base D0 v l) (hu : SlAt (fun _ => True) l2.length u (fun b o => Row E w (But D0 w v) b l2 o))
    (hlen : l.length + l2.length ≤ maxLen) (hbytes : (l.length + l2.length) * E.bytes ≤ 140737488355328) (hbase : base ≤ w.heap.size) :
    ∃ A c w', (Builtin.append_ #[t, t] ty #[v, u]).run Tryz.prog w = .ok (.slice A (l.length + l2.length) c) w' ∧ GG E w' base D0 (.slice A (l.length + l2.length) c) (l ++ l2) ∧ w.grownBy w' v.ownBlock ∧
      ((Value.slice A (l.length + l2.length) c).ownBlock = v.ownBlock ∨ (Value.slice A (l.length + l2.length) c).ownBlock = some w.heap.size) := by
  obtain ⟨i, hi, hz, hs, hb⟩ := info_parts E.info
  obtain ⟨xs, hown, hch⟩ := h
  have fin : ∀ (v' : Value) (w' : World) (news : List Value), Chunks E w (But D0 w v) l2 news → w'.ownsRow base E.ty E.size v' (l.length + l2.length) (xs ++ news) → w.grownBy w' v.ownBlock → (v'.ownBlock = v.ownBlock ∨ v'.ownBlock = some w.heap.size) →
      (Builtin.append_ #[t, t] ty #[v, u]).run Tryz.prog w = .ok v' w' →
      ∃ A c w', (Builtin.append_ #[t, t] ty #[v, u]).run Tryz.prog w = .ok (.slice A (l.length + l2.length) c) w' ∧ GG E w' base D0 (.slice A (l.length + l2.length) c) (l ++ l2) ∧ w.grownBy w' v.ownBlock ∧
      ((Value.slice A (l.length + l2.length) c).ownBlock = v.ownBlock ∨ (Value.slice A (l.length + l2.length) c).ownBlock = some w.heap.size) := by
    intro v' w' news hn ho hg hat hrun
    obtain ⟨A, c, rfl⟩ : ∃ A c, v' = .slice A (l.length + l2.length) c := by
      rcases ho.2 with ⟨rfl, hn⟩ | ⟨g, cap, cur, hv, -⟩
      · exact ⟨none, 0, by rw [hn]⟩
      · exact ⟨_, _, hv⟩
    have hsame : Same (But D0 w v) w w' := fun b hb => hg.block b hb.2.1 hb.2.2
    have hD : ∀ b, But D0 w v b → But D0 w' (.slice A (l.length + l2.length) c) b := fun b hb => ⟨hb.1, Nat.lt_of_lt_of_le hb.2.1 hg.size, by
      rcases hat with e | e <;> rw [e]
      · exact hb.2.2
      · have := hb.2.1; simp; omega⟩
    exact ⟨A, c, w', hrun, ⟨xs ++ news, by rw [List.length_append]; exact ho, (Chunks.append hn hch).keep hsame hD⟩, hg, hat⟩
  obtain ⟨A2, c2, rfl, -, -, hr2⟩ := hu
  cases A2 with
  | none =>
    have h0 : l2 = [] := by
      cases l2 with
      | nil => rfl
      | cons a r => obtain ⟨b, o, hA, -⟩ := hr2 (by simp); cases hA
    subst h0
    have hr : (Builtin.append_ #[t, t] ty #[v, .slice none 0 c2]).run Tryz.prog w = .ok v w := by
      obtain ⟨A, c, rfl⟩ := GG.form ⟨xs, hown, hch⟩
      rcases hown.2 with ⟨e, -⟩ | ⟨g, cap, cur, e, -, hh, hnc, hcm, hcs, -⟩
      · rw [e]
        simp [Builtin.append_, run_underlying ht, sizeOf, typeInfo, hi, Builtin.lenOf, Builtin.firstCells]
      · obtain ⟨rfl, rfl⟩ : A = some ⟨g, 0, none⟩ ∧ c = cap := by simpa using e
        have := run_append_room_src (P := Tryz.prog) w t t ty E.ty i ht hi g 0 l.length c (.slice none 0 c2) 0 [] (Src.ofNil w ht c2) (by omega) (fun j hj => absurd hj (by simp)) (fun j hj => absurd hj (by simp))
        rw [this]
        rfl
    exact fin v w [] rfl (by simpa using hown) ⟨rfl, rfl, rfl, Nat.le_refl _, fun _ _ _ => rfl⟩ (.inl rfl) hr
  | some ad =>
    have hnews : ∃ news, (∀ j u, news[j]? = some u → w.cell? (ad.add j) = some u) ∧ Chunks E w (But D0 w v) l2 news := by
      by_cases h0 : 0 < l2.length
      · obtain ⟨b, o, hA, hb, hrow⟩ := hr2 h0
        obtain rfl := Option.some.inj hA
        obtain ⟨news, hn, hc⟩ := hrow.chunks
        exact ⟨news, fun j u hj => by rw [Addr.add_lit]; exact hn j u hj, hc⟩
      · have : l2 = [] := List.eq_nil_of_length_eq_zero (by omega)
        subst this
        exact ⟨[], by simp, rfl⟩
    obtain ⟨news, hn, hc⟩ := hnews
    obtain ⟨v', w', hrun, ho, hg, -, hat⟩ := run_append_own_at (P := Tryz.prog) w base t ty E.ty i E.zero E.size E.bytes ht hi hz hs hb E.zsize E.pos v l.length xs hown ad l2.length c2 news hc.length hn hc.one hlen hbytes hbase
    exact fin v' w' news hc ho hg hat hrun

/-- the literal of one element, as a slice -/
theorem lit_one {E : El X} {W : World} {D : Nat → Prop} {x : X} {cs : List Value} {g : Nat} {T : TypeId} (hh : W.heap[g]? = some (.cells cs.toArray T (0, 0))) (h : E.rep W D x cs) :
    SlAt (fun _ => True) [x].length (.slice (some ⟨g, 0, none⟩) 1 1) (fun b o => Row E W D b [x] o) :=
  ⟨_, _, rfl, Nat.le_refl _, by unfold maxLen; omega, fun _ => ⟨g, 0, rfl, trivial, ⟨⟨cs, fun i v hi => by rw [box_cell hh, Nat.zero_add]; simpa using hi, h⟩, trivial⟩⟩⟩

theorem Sl.loose {E : El X} {w : World} {D D' : Nat → Prop} {l : List X} {v : Value} (h : Sl E w D l v) (hD : ∀ b, D b → D' b) : SlAt (fun _ => True) l.length v (fun b o => Row E w D' b l o) :=
  h.mono (fun _ _ => trivial) fun b o hb hr => Row.keep (fun _ _ => rfl) hD l b o hb hr

/-- at the operation, for the walk -/
theorem wpList_append_G {ops : Array Oper} {rest : List Oper} {o : Oper} {a : Act} {Q : Exit → Act → World → Prop} {w : World} (hgd : o.guard = none) (s x : Operand) (t : TypeId)
    (ho : o.op = .call { callee := .builtin .append, args := #[s, x], argTypes := #[t, t] }) (E : El X) (ht : Tryz.prog.underlying t = some (.slice E.ty)) (base : Nat) (D0 : Nat → Prop) (l l2 : List X) (v u : Value) (hs : a.eval s = v) (hx : a.eval x = u)
    (hv : GG E w base D0 v l) (hu : SlAt (fun _ => True) l2.length u (fun b o => Row E w (But D0 w v) b l2 o)) (hlen : l.length + l2.length ≤ maxLen) (hbytes : (l.length + l2.length) * E.bytes ≤ 140737488355328) (hbase : base ≤ w.heap.size)
    (h : ∀ v' w', GG E w' base D0 v' (l ++ l2) → w.grownBy w' v.ownBlock → (v'.ownBlock = v.ownBlock ∨ v'.ownBlock = some w.heap.size) → wpList Tryz.prog ops Q rest (a.put o.dst v') w') :
    wpList Tryz.prog ops Q (o :: rest) a w := by
  refine wpList_plain hgd fun K hK => ?_
  obtain ⟨A, c, w', hr, h2, h3, h4⟩ := GG.append (ty := o.type) ht hv hu hlen hbytes hbase
  unfold Oper.wp execOp
  simp only [ho, resolve, invoke, builtin, Sem.run_bind, Sem.run_pure, Result.andThen_ok, List.map_toArray, List.map_cons, List.map_nil, hs, hx, hr]
  exact hK _ _ (h _ w' h2 h3 h4)

/-- .. at a step of a region that draws its order -/
theorem step_append_G {o : Oper} {a : Act} {K : Act → World → Prop} {Q : Exit → Act → World → Prop} {E0 : Prop} {w : World} {y : Nat → Option Bool} (hgd : o.guard = none) (s x : Operand) (t : TypeId)
    (ho : o.op = .call { callee := .builtin .append, args := #[s, x], argTypes := #[t, t] }) (E : El X) (ht : Tryz.prog.underlying t = some (.slice E.ty)) (base : Nat) (D0 : Nat → Prop) (l l2 : List X) (v u : Value) (hs : a.eval s = v) (hx : a.eval x = u)
    (hv : GG E w base D0 v l) (hu : SlAt (fun _ => True) l2.length u (fun b o => Row E w (But D0 w v) b l2 o)) (hlen : l.length + l2.length ≤ maxLen) (hbytes : (l.length + l2.length) * E.bytes ≤ 140737488355328) (hbase : base ≤ w.heap.size)
    (h : ∀ v' w', GG E w' base D0 v' (l ++ l2) → w.grownBy w' v.ownBlock → (v'.ownBlock = v.ownBlock ∨ v'.ownBlock = some w.heap.size) → K (a.put o.dst v') w') :
    if Region.wanted o y = true then Oper.wp Tryz.prog o a w K Q else E0 := by
  have hw : Region.wanted o y = true := by simp [Region.wanted, hgd]
  rw [if_pos hw]
  obtain ⟨A, c, w', hr, h2, h3, h4⟩ := GG.append (ty := o.type) ht hv hu hlen hbytes hbase
  unfold Oper.wp execOp
  simp only [ho, resolve, invoke, builtin, Sem.run_bind, Sem.run_pure, Result.andThen_ok, List.map_toArray, List.map_cons, List.map_nil, hs, hx, hr]
  exact h _ w' h2 h3 h4

end Go.Proofs.YtfhppajnnbbcjaaGreatDoor
end

section
namespace Go.Proofs.YtfhppajnnbbcjaaGreatDoor
open Go.RowKit

theorem Tryz.info23 : (Tryz.prog.info? 23).map (fun i => (i.zero, i.size, i.bytes)) = some (some (.slice none 0 0), 1, 24) := by kernel_rfl
theorem Tryz.info67 : (Tryz.prog.info? 67).map (fun i => (i.zero, i.size, i.bytes)) = some (some (.agg #[.slice none 0 0, .int .i64 0, .int .i64 0, .string ⟨#[]⟩, .slice none 0 0, .slice none 0 0, .slice none 0 0]), 7, 128) := by kernel_rfl

theorem SRep.one {w : World} {D : Nat → Prop} {a : J} {cs : List Value} (h : SRep w D a cs) : ∀ u ∈ cs, u.oneCell' = true := by
  obtain ⟨A1, c1, A2, c2, A3, c3, rfl⟩ := h.six
  intro u hu
  simp at hu
  rcases hu with rfl | rfl | rfl | rfl | rfl | rfl <;> rfl
theorem SRep.len6 {w : World} {D : Nat → Prop} {a : J} {cs : List Value} (h : SRep w D a cs) : cs.length = 6 := by
  obtain ⟨A1, c1, A2, c2, A3, c3, rfl⟩ := h.six
  rfl

def EJ : El J where
  ty := 26
  size := 6
  bytes := 104
  zero := _
  info := Tryz.info26
  zsize := rfl
  pos := by decide
  rep := fun w D x cs => SRep w D x cs
  len := fun h => h.len6
  one := fun h => h.one
  keep := fun hs hD h => VRep.keep hs hD _ _ h

theorem row_EJ {w : World} {D : Nat → Prop} {b : Nat} : ∀ {l : List J} {o : Nat}, Row EJ w D b l o ↔ VRow w D b (toVL l) o
  | [], _ => Iff.rfl
  | x :: l, o => by
    constructor
    · rintro ⟨⟨cs, hc, hx⟩, hr⟩
      exact ⟨⟨cs, SRep.len6 hx, hc, hx⟩, row_EJ.1 hr⟩
    · rintro ⟨⟨cs, -, hc, hx⟩, hr⟩
      exact ⟨⟨cs, hc, hx⟩, row_EJ.2 hr⟩

theorem slat_congr {D : Nat → Prop} {n : Nat} {v : Value} {R R' : Nat → Nat → Prop} (h : ∀ b o, R b o → R' b o) (hs : SlAt D n v R) : SlAt D n v R' := hs.mono (fun _ h => h) fun b o _ hr => h b o hr

/-- a slice of values -/
abbrev SlJ (w : World) (D : Nat → Prop) (l : List J) (v : Value) : Prop := SlAt D l.length v (fun b o => VRow w D b (toVL l) o)
theorem sl_EJ {w : World} {D : Nat → Prop} {l : List J} {v : Value} : Sl EJ w D l v ↔ SlJ w D l v := ⟨slat_congr fun _ _ => row_EJ.1, slat_congr fun _ _ => row_EJ.2⟩
theorem SlJ.keep {w w' : World} {D D' : Nat → Prop} {l : List J} {v : Value} (h : SlJ w D l v) (hs : Same D w w') (hB : ∀ b, D b → D' b) : SlJ w' D' l v := sl_EJ.1 ((sl_EJ.2 h).keep hs hB)
theorem SlJ.nil (w : World) (D : Nat → Prop) : SlJ w D [] (.slice none 0 0) := sl_EJ.1 (Sl.nil EJ w D)
theorem SlAt.form {D : Nat → Prop} {n : Nat} {v : Value} {R : Nat → Nat → Prop} (h : SlAt D n v R) : ∃ A c, v = .slice A n c := by
  obtain ⟨A, c, hv, -⟩ := h
  exact ⟨A, c, hv⟩

/-- a path -/
def EP : El (List J) where
  ty := 23
  size := 1
  bytes := 24
  zero := _
  info := Tryz.info23
  zsize := rfl
  pos := by decide
  rep := fun w D p cs => ∃ S, cs = [S] ∧ SlJ w D p S
  len := fun ⟨_, h, _⟩ => by rw [h]; rfl
  one := fun ⟨S, h, hS⟩ u hu => by
    obtain ⟨A, c, rfl⟩ := hS.form
    rw [h] at hu
    simp at hu
    subst hu
    rfl
  keep := fun hs hD ⟨S, h, hS⟩ => ⟨S, h, hS.keep hs hD⟩

/-- a path, and what stands there -/
def ES : El (List J × J) where
  ty := 67
  size := 7
  bytes := 128
  zero := _
  info := Tryz.info67
  zsize := rfl
  pos := by decide
  rep := fun w D x cs => ∃ S r, cs = S :: r ∧ SlJ w D x.1 S ∧ SRep w D x.2 r
  len := fun ⟨_, _, h, _, hr⟩ => by rw [h, List.length_cons, hr.len6]
  one := fun ⟨S, r, h, hS, hr⟩ u hu => by
    obtain ⟨A, c, rfl⟩ := hS.form
    rw [h] at hu
    rcases List.mem_cons.1 hu with rfl | hu
    · rfl
    · exact hr.one u hu
  keep := fun hs hD ⟨S, r, h, hS, hr⟩ => ⟨S, r, h, hS.keep hs hD, VRep.keep hs hD _ _ hr⟩

theorem Tryz.under23 : Tryz.prog.underlying 23 = some (.slice EJ.ty) := Tryz.underlying23
theorem Tryz.under41 : Tryz.prog.underlying 41 = some (.slice EP.ty) := Tryz.underlying41
theorem Tryz.under64 : Tryz.prog.underlying 64 = some (.slice ES.ty) := Tryz.underlying64

end Go.Proofs.YtfhppajnnbbcjaaGreatDoor
end

section
namespace Go.Proofs.YtfhppajnnbbcjaaGreatDoor
open Go.RowKit

abbrev zsix : List Value := [.int .i64 0, .int .i64 0, .string ⟨#[]⟩, .slice none 0 0, .slice none 0 0, .slice none 0 0]
theorem zsix_rep (w : World) (D : Nat → Prop) : SRep w D .null zsix :=
  have h : ∀ R : Nat → Nat → Prop, SlAt D 0 (.slice none 0 0) R := fun R => ⟨none, 0, rfl, Nat.le_refl _, by unfold maxLen; omega, fun h => absurd h (by omega)⟩
  ⟨_, _, _, rfl, h _, h _, h _⟩

/-- an answer of the reference: a value and how -/
def SpecPost (j : J) (how : Int) (w : World) (e : Ending) (w' : World) : Prop := ∃ cs, e = .returned (.tuple #[.agg cs.toArray, .int .i64 how]) ∧ SRep w' (Fresh w w') j cs ∧ Below w.heap.size w w'

set_option maxRecDepth 100000 in
set_option maxHeartbeats 1000000 in
/-- a null on either side: silent -/
theorem where_null (nm : ByteArray) (x y : J) (h : x = .null ∨ y = .null) (D : Nat → Prop) (cx cy : List Value) (w : World) (hx : SRep w D x cx) (hy : SRep w D y cy) :
    Calls Tryz.prog 74 #[.string nm, .agg cx.toArray, .agg cy.toArray] w (SpecPost .null 2 w) := by
  obtain ⟨A1, c1, A2, c2, A3, c3, rfl⟩ := SRep.six hx
  obtain ⟨B1, d1, B2, d2, B3, d3, rfl⟩ := SRep.six hy
  have hk : y.kind = 0 ∨ (y.kind == 0) = false ∧ x.kind = 0 := by
    rcases h with rfl | rfl
    · by_cases hy0 : y.kind = 0
      · exact .inl hy0
      · exact .inr ⟨by simp [hy0], rfl⟩
    · exact .inl rfl
  clear hx hy h
  rcases hk with hk | ⟨hk, hk2⟩
  · rw [hk]
    go_enter Tryz.func74, Tryz.ntmps74
    go_wp2_with fail
    refine bodyPost_ret (v := .tuple #[.agg zsix.toArray, .int .i64 2]) (by simp [results, Tryz.results74, go_sem, zsix]) rfl ?_
    refine ⟨zsix, rfl, zsix_rep _ _, ?_⟩
    exact (((Below.refl _ _).alloc (Nat.le_refl _) _).alloc (by simp) _).alloc (by simp; omega) _
  · rw [hk2]
    go_enter Tryz.func74, Tryz.ntmps74
    go_wp2_with fail
    refine bodyPost_ret (v := .tuple #[.agg zsix.toArray, .int .i64 2]) (by simp [results, Tryz.results74, go_sem, zsix]) rfl ?_
    refine ⟨zsix, rfl, zsix_rep _ _, ?_⟩
    exact (((Below.refl _ _).alloc (Nat.le_refl _) _).alloc (by simp) _).alloc (by simp; omega) _

set_option maxRecDepth 100000 in
set_option maxHeartbeats 1000000 in
/-- no list, and not two texts: an error -/
theorem where_raises (nm : ByteArray) (x y : J) (h0 : x.kind ≠ 0) (h1 : y.kind ≠ 0) (h5 : x.kind ≠ 5) (h4 : x.kind ≠ 4 ∨ y.kind ≠ 4) (D : Nat → Prop) (cx cy : List Value) (w : World) (hx : SRep w D x cx) (hy : SRep w D y cy) :
    Calls Tryz.prog 74 #[.string nm, .agg cx.toArray, .agg cy.toArray] w (SpecPost .null 1 w) := by
  obtain ⟨A1, c1, A2, c2, A3, c3, rfl⟩ := SRep.six hx
  obtain ⟨B1, d1, B2, d2, B3, d3, rfl⟩ := SRep.six hy
  have k0 : (x.kind == 0) = false := by simp [h0]
  have k1 : (y.kind == 0) = false := by simp [h1]
  have k5 : (x.kind == 5) = false := by simp [h5]
  have k4 : (x.kind == 4) = false ∨ (x.kind == 4) = true ∧ (y.kind == 4) = false := by
    by_cases h : x.kind = 4
    · exact .inr ⟨by simp [h], by rcases h4 with h' | h' <;> simp_all⟩
    · exact .inl (by simp [h])
  clear hx hy h0 h1 h5 h4
  rcases k4 with k4 | ⟨k4, k4'⟩
  all_goals
    go_enter Tryz.func74, Tryz.ntmps74
    go_wp2_with fail
    refine bodyPost_ret (v := .tuple #[.agg zsix.toArray, .int .i64 1]) (by simp [results, Tryz.results74, go_sem, zsix]) rfl ?_
    refine ⟨zsix, rfl, zsix_rep _ _, ?_⟩
    exact (((Below.refl _ _).alloc (Nat.le_refl _) _).alloc (by simp) _).alloc (by simp; omega) _

set_option maxRecDepth 100000 in
set_option maxHeartbeats 1000000 in
/-- an empty needle, or a text that is not ASCII: silent -/
theorem where_text_silent (nm : ByteArray) (s t : ByteArray) (h : t = noText ∨ asc s = false) (wx : (J.str s).WF) (D : Nat → Prop) (cx cy : List Value) (w : World) (hx : SRep w D (.str s) cx) (hy : SRep w D (.str t) cy) :
    Calls Tryz.prog 74 #[.string nm, .agg cx.toArray, .agg cy.toArray] w (SpecPost .null 2 w) := by
  obtain ⟨A1, c1, A2, c2, A3, c3, rfl⟩ := SRep.six hx
  obtain ⟨B1, d1, B2, d2, B3, d3, rfl⟩ := SRep.six hy
  simp only [J.kind, J.half, J.text, J.list, J.keys, J.vals, List.length_nil]
  have H1 := Lib.hid (fun W => ascii_any s W (by simpa only [J.WF] using wx))
  clear hx hy wx
  by_cases ht : t = noText
  · subst ht
    clear h
    have hE0 : (noText.toList == ([] : List UInt8)) = true := by rw [toList_data]; rfl
    go_enter Tryz.func74, Tryz.ntmps74
    go_wp2_with fail
    refine bodyPost_ret (v := .tuple #[.agg zsix.toArray, .int .i64 2]) (by simp [results, Tryz.results74, go_sem, zsix]) rfl ?_
    refine ⟨zsix, rfl, zsix_rep _ _, ?_⟩
    exact (((Below.refl _ _).alloc (Nat.le_refl _) _).alloc (by simp) _).alloc (by simp; omega) _
  · have ha : asc s = false := h.resolve_left ht
    rw [ha] at H1
    have hE : (t.toList == ([] : List UInt8)) = false := by
      rw [beq_eq_false_iff_ne]
      intro h'
      rw [toList_data] at h'
      exact ht (bytes_ext (by rw [h']; rfl))
    clear h ha ht
    go_enter Tryz.func74, Tryz.ntmps74
    go_wp2_with (go_at_call 122; refine (H1.out _).mono ?_; rintro e w1 ⟨rfl, rfl⟩)
    refine bodyPost_ret (v := .tuple #[.agg zsix.toArray, .int .i64 2]) (by simp [results, Tryz.results74, go_sem, zsix]) rfl ?_
    refine ⟨zsix, rfl, zsix_rep _ _, ?_⟩
    exact (((Below.refl _ _).alloc (Nat.le_refl _) _).alloc (by simp) _).alloc (by simp; omega) _

set_option maxRecDepth 100000 in
set_option maxHeartbeats 1000000 in
/-- an empty list as the needle: silent -/
theorem where_list_silent (nm : ByteArray) (a : List J) (D : Nat → Prop) (cx cy : List Value) (w : World) (hx : SRep w D (.arr a) cx) (hy : SRep w D (.arr []) cy) :
    Calls Tryz.prog 74 #[.string nm, .agg cx.toArray, .agg cy.toArray] w (SpecPost .null 2 w) := by
  obtain ⟨A1, c1, A2, c2, A3, c3, rfl⟩ := SRep.six hx
  obtain ⟨B1, d1, B2, d2, B3, d3, rfl⟩ := SRep.six hy
  simp only [J.kind, J.half, J.text, J.list, J.keys, J.vals, List.length_nil]
  clear hx hy
  go_enter Tryz.func74, Tryz.ntmps74
  go_wp2_with fail
  refine bodyPost_ret (v := .tuple #[.agg zsix.toArray, .int .i64 2]) (by simp [results, Tryz.results74, go_sem, zsix]) rfl ?_
  refine ⟨zsix, rfl, zsix_rep _ _, ?_⟩
  exact (((Below.refl _ _).alloc (Nat.le_refl _) _).alloc (by simp) _).alloc (by simp; omega) _
end Go.Proofs.YtfhppajnnbbcjaaGreatDoor
end

section
namespace Go.Proofs.YtfhppajnnbbcjaaGreatDoor
open Go.RowKit

/-- the numbers of the places at which p holds -/
def hits (p : Nat → Bool) : Nat → List J
  | 0 => []
  | n + 1 => hits p n ++ (if p n then [.num (2 * (n : Int))] else [])

/-- a list in a list -/
def pL (a b : List J) (i : Nat) : Bool := cmpL ((a.drop i).take b.length) b == 0
/-- an element in a list -/
def pE (a : List J) (y : J) (i : Nat) : Bool := match a[i]? with | some z => cmpJ y z == 0 | none => false
/-- a text in a text -/
def pT (s t : ByteArray) (i : Nat) : Bool := decide (i + t.size ≤ s.size) && decide (s.extract i (i + t.size) = t)
theorem pT_iff {s t : ByteArray} {i : Nat} : pT s t i = true ↔ At s t i := by simp [pT, At]

theorem vrow_mk {w : World} {D : Nat → Prop} {b : Nat} : ∀ {l : List J} {o : Nat}, (∀ i x, l[i]? = some x → ∃ cs, cs.length = 6 ∧ (∀ j v, cs[j]? = some v → w.cell? ⟨b, o + i * 6 + j, none⟩ = some v) ∧ SRep w D x cs) → VRow w D b (toVL l) o
  | [], _, _ => trivial
  | a :: l, o, h => ⟨by
      obtain ⟨cs, h1, h2, h3⟩ := h 0 a rfl
      exact ⟨cs, h1, by simpa using h2, h3⟩, vrow_mk fun i x hi => by
      obtain ⟨cs, h1, h2, h3⟩ := h (i + 1) x (by simpa using hi)
      exact ⟨cs, h1, fun j v hj => by have := h2 j v hj; rwa [show o + (i + 1) * 6 + j = o + 6 + i * 6 + j by omega] at this, h3⟩⟩
theorem vrow_sub {w : World} {D : Nat → Prop} {b : Nat} {a : List J} {o : Nat} (h : VRow w D b (toVL a) o) (k m : Nat) : VRow w D b (toVL ((a.drop k).take m)) (o + k * 6) :=
  vrow_mk fun i x hi => by
    have hx : a[k + i]? = some x := by
      rw [List.getElem?_take] at hi
      split at hi
      · rwa [List.getElem?_drop] at hi
      · cases hi
    obtain ⟨cs, h1, h2, h3⟩ := VRow.get (i := k + i) h (toVL_get hx)
    exact ⟨cs, h1, fun j v hj => by have := h2 j v hj; rwa [show o + (k + i) * 6 + j = o + k * 6 + i * 6 + j by omega] at this, h3⟩
theorem WFL_take {a : List J} (h : WFL a) (i m : Nat) : WFL ((a.drop i).take m) := WFL_iff.2 fun x hx => WFL_iff.1 h x (List.mem_of_mem_drop (List.mem_of_mem_take hx))

theorem hits_length (p : Nat → Bool) : ∀ n, (hits p n).length ≤ n
  | 0 => by simp [hits]
  | n + 1 => by
    have := hits_length p n
    unfold hits
    split <;> simp <;> omega

/-- the call's own blocks: the two boxes, the answer's cell; the list that grows lies behind them -/
def WRel (ks : List J) (w : World) (c1 c2 : Array Value) (v : Value) (wr : World) : Prop :=
  Below w.heap.size w wr ∧ wr.heap[w.heap.size]? = some (.cells c1 26 (0, 0)) ∧ wr.heap[w.heap.size + 1]? = some (.cells c2 26 (0, 0)) ∧ wr.heap[w.heap.size + 2]? = some (.cells zsix.toArray 26 (0, 0)) ∧
    GG EJ wr (w.heap.size + 3) (fun b => w.heap.size + 3 ≤ b) v ks

theorem WRel.mono {ks : List J} {w : World} {c1 c2 : Array Value} {v : Value} {wr w1 : World} (h : WRel ks w c1 c2 v wr) (hb : Below wr.heap.size wr w1) : WRel ks w c1 c2 v w1 := by
  obtain ⟨h1, h2, h3, h4, h5⟩ := h
  exact ⟨h1.trans (hb.mono h1.size), (hb.block _ (box_lt h2)).trans h2, (hb.block _ (box_lt h3)).trans h3, (hb.block _ (box_lt h4)).trans h4, h5.below hb⟩

theorem WRel.step {ks : List J} {w : World} {c1 c2 : Array Value} {v : Value} {wr w1 : World} {x : J} {ys : List Value} (h : WRel ks w c1 c2 v wr) (hb : Below wr.heap.size wr w1)
    (hx : ∀ W D, SRep W D x ys) : GG EJ (w1.alloc (.cells ys.toArray 26)) (w.heap.size + 3) (fun b => w.heap.size + 3 ≤ b) v ks ∧
      SlAt (fun _ => True) [x].length (.slice (some ⟨w1.heap.size, 0, none⟩) 1 1) (fun b o => Row EJ (w1.alloc (.cells ys.toArray 26)) (But (fun b => w.heap.size + 3 ≤ b) (w1.alloc (.cells ys.toArray 26)) v) b [x] o) ∧ w.heap.size + 3 ≤ (w1.alloc (.cells ys.toArray 26)).heap.size :=
  ⟨(h.2.2.2.2.below hb).below ((Below.refl _ _).alloc (Nat.le_refl _) _), lit_one (E := EJ) (heap_alloc_new w1 _) (hx _ _), by have := hb.size; have := box_lt h.2.2.2.1; simp; omega⟩

theorem WRel.grow {ks : List J} {w : World} {c1 c2 : Array Value} {v : Value} {wr w1 w2 : World} {x : J} {ys : List Value} {v' : Value} (h : WRel ks w c1 c2 v wr) (hb : Below wr.heap.size wr w1)
    (hg : GG EJ w2 (w.heap.size + 3) (fun b => w.heap.size + 3 ≤ b) v' (ks ++ [x])) (hgb : (w1.alloc (.cells ys.toArray 26)).grownBy w2 v.ownBlock) : WRel (ks ++ [x]) w c1 c2 v' w2 := by
  obtain ⟨h1, h2, h3, h4, h5⟩ := h
  have l2 := box_lt h2
  have l3 := box_lt h3
  have l4 := box_lt h4
  have hs := hb.size
  have ho : ∀ g, v.ownBlock = some g → w.heap.size + 3 ≤ g := fun g hg' => (h5.own_lt g hg').1
  refine ⟨((h1.trans (hb.mono h1.size)).alloc (by omega) _).grown hgb (by simp; omega) (fun g hg' => by have := ho g hg'; omega), ?_, ?_, ?_, hg⟩
  · exact (hgb.block _ (by simp; omega) (fun e => by have := ho _ e.symm; omega)).trans ((Below.heap_alloc _ _ _ (by omega)).trans ((hb.block _ l2).trans h2))
  · exact (hgb.block _ (by simp; omega) (fun e => by have := ho _ e.symm; omega)).trans ((Below.heap_alloc _ _ _ (by omega)).trans ((hb.block _ l3).trans h3))
  · exact (hgb.block _ (by simp; omega) (fun e => by have := ho _ e.symm; omega)).trans ((Below.heap_alloc _ _ _ (by omega)).trans ((hb.block _ l4).trans h4))
end Go.Proofs.YtfhppajnnbbcjaaGreatDoor
end

section
namespace Go.Proofs.YtfhppajnnbbcjaaGreatDoor
open Go.RowKit

@[go_sem] theorem te_nil (x : TypeId) (w : World) : (Instr.typeAssert .nilIface x 95 true).run Tryz.prog w = .ok (.tuple #[.nilIface, .bool false]) w := by kernel_rfl
@[go_sem] theorem te_4 (x : TypeId) (v : Value) (w : World) : (Instr.typeAssert (.iface 4 v) x 95 true).run Tryz.prog w = .ok (.tuple #[.nilIface, .bool false]) w := run_typeAssert_lacksB Tryz.underlying95 (by kernel_rfl) (by kernel_rfl) v x w
@[go_sem] theorem te_3 (x : TypeId) (v : Value) (w : World) : (Instr.typeAssert (.iface 3 v) x 95 true).run Tryz.prog w = .ok (.tuple #[.nilIface, .bool false]) w := run_typeAssert_lacksB Tryz.underlying95 (by kernel_rfl) (by kernel_rfl) v x w
@[go_sem] theorem te_87 (x : TypeId) (v : Value) (w : World) : (Instr.typeAssert (.iface 87 v) x 95 true).run Tryz.prog w = .ok (.tuple #[.nilIface, .bool false]) w := run_typeAssert_lacksB Tryz.underlying95 (by kernel_rfl) (by kernel_rfl) v x w
@[go_sem] theorem te_9 (x : TypeId) (v : Value) (w : World) : (Instr.typeAssert (.iface 9 v) x 95 true).run Tryz.prog w = .ok (.tuple #[.nilIface, .bool false]) w := run_typeAssert_lacksB Tryz.underlying95 (by kernel_rfl) (by kernel_rfl) v x w
@[go_sem] theorem te_88 (x : TypeId) (v : Value) (w : World) : (Instr.typeAssert (.iface 88 v) x 95 true).run Tryz.prog w = .ok (.tuple #[.nilIface, .bool false]) w := run_typeAssert_lacksB Tryz.underlying95 (by kernel_rfl) (by kernel_rfl) v x w
@[go_sem] theorem te_91 (x : TypeId) (v : Value) (w : World) : (Instr.typeAssert (.iface 91 v) x 95 true).run Tryz.prog w = .ok (.tuple #[.nilIface, .bool false]) w := run_typeAssert_lacksB Tryz.underlying95 (by kernel_rfl) (by kernel_rfl) v x w
@[go_sem] theorem te_159 (x : TypeId) (v : Value) (w : World) : (Instr.typeAssert (.iface 159 v) x 95 true).run Tryz.prog w = .ok (.tuple #[.iface 159 v, .bool true]) w := run_typeAssert_hasB Tryz.underlying95 (by kernel_rfl) v x w
@[go_sem] theorem te_162 (x : TypeId) (v : Value) (w : World) : (Instr.typeAssert (.iface 162 v) x 95 true).run Tryz.prog w = .ok (.tuple #[.iface 162 v, .bool true]) w := run_typeAssert_hasB Tryz.underlying95 (by kernel_rfl) v x w
@[go_sem] theorem te_205 (x : TypeId) (v : Value) (w : World) : (Instr.typeAssert (.iface 205 v) x 95 true).run Tryz.prog w = .ok (.tuple #[.iface 205 v, .bool true]) w := run_typeAssert_hasB Tryz.underlying95 (by kernel_rfl) v x w
@[go_sem] theorem te_211 (x : TypeId) (v : Value) (w : World) : (Instr.typeAssert (.iface 211 v) x 95 true).run Tryz.prog w = .ok (.tuple #[.iface 211 v, .bool true]) w := run_typeAssert_hasB Tryz.underlying95 (by kernel_rfl) v x w

end Go.Proofs.YtfhppajnnbbcjaaGreatDoor
end

section
namespace Go.Proofs.YtfhppajnnbbcjaaGreatDoor
open Go.RowKit

theorem clampIndex_any (i m : Int) (w : World) (h0 : 0 ≤ i) : Calls Tryz.prog 239 #[.int .i64 i, .int .i64 (-1), .int .i64 m] w fun e w' => e = .returned (.int .i64 (if i < m then i else m)) ∧ w' = w := by
  have h1 : ¬ i < 0 := by omega
  have h2 : ¬ i < -1 := by omega
  by_cases h3 : i < m
  · rw [if_pos h3]
    go_enter Tryz.func239, Tryz.ntmps239
    go_wp2_with fail
    go_ret
    exact ⟨rfl, rfl⟩
  · rw [if_neg h3]
    go_enter Tryz.func239, Tryz.ntmps239
    go_wp2_with fail
    go_ret
    exact ⟨rfl, rfl⟩

theorem toInt_any (n : Int) (w : World) : Calls Tryz.prog 199 #[.iface 3 (.int .i64 n)] w fun e w' => e = .returned (.tuple #[.int .i64 n, .bool true]) ∧ w' = w := by
  go_enter Tryz.func199, Tryz.ntmps199
  go_wp2_with fail
  go_ret2
  exact ⟨rfl, rfl⟩

theorem index_any (l : List J) (D : Nat → Prop) (S : Value) (i : Int) (w : World) (h0 : 0 ≤ i) (hS : SlAt D l.length S (fun b o => ARow w D b l o)) :
    Calls Tryz.prog 200 #[S, .int .i64 i] w fun e w' => ∃ v, e = .returned v ∧ ARep w D ((l[i.toNat]?).getD .null) v ∧ w' = w := by
  obtain ⟨A, c, rfl, hc, hm, hr⟩ := hS
  have HC := Lib.hid (clampIndex_any i l.length w h0)
  obtain ⟨k, rfl⟩ : ∃ k : Nat, i = k := ⟨i.toNat, by omega⟩
  by_cases hk : k < l.length
  · obtain ⟨b, o, rfl, hb, hrow⟩ := hr (by omega)
    obtain ⟨x, hx⟩ : ∃ x, l[k]? = some x := ⟨_, List.getElem?_eq_getElem hk⟩
    obtain ⟨y, hy, hay⟩ := hrow.get hx
    have hk' : (k : Int) < l.length := by omega
    rw [if_pos hk'] at HC
    have HA := Lib.hid (show ARep w D ((l[(k : Int).toNat]?).getD .null) y by simpa [hx] using hay)
    clear hay hrow hr hx
    go_enter Tryz.func200, Tryz.ntmps200
    go_wp2_with fail
    refine HC.out.mono ?_
    rintro e w1 ⟨rfl, rfl⟩
    go_wp2_with fail
    go_ret
    exact ⟨_, rfl, HA.out, rfl⟩
  · have hk' : ¬ (k : Int) < l.length := by omega
    rw [if_neg hk'] at HC
    have HA := Lib.hid (show ARep w D ((l[(k : Int).toNat]?).getD .null) .nilIface by
      have : l[k]? = none := List.getElem?_eq_none (by omega)
      simp [this, ARep])
    clear hr
    go_enter Tryz.func200, Tryz.ntmps200
    go_wp2_with fail
    refine HC.out.mono ?_
    rintro e w1 ⟨rfl, rfl⟩
    go_wp2_with fail
    go_ret
    exact ⟨_, rfl, HA.out, rfl⟩

end Go.Proofs.YtfhppajnnbbcjaaGreatDoor
end

section
namespace Go.Proofs.YtfhppajnnbbcjaaGreatDoor
open Go.RowKit

/-- what stands at a key of an object -/
def lookJ : List ByteArray → List J → ByteArray → J
  | k :: ks, v :: vs, s => if k = s then v else lookJ ks vs s
  | _, _, _ => .null

theorem lookJ_hit : ∀ {ks : List ByteArray} {vs : List J} {s : ByteArray} {x : J} {i : Nat}, (∀ j, j < i → ks[j]? ≠ some s) → ks[i]? = some s → vs[i]? = some x → lookJ ks vs s = x
  | [], _, _, _, _, _, h, _ => by simp at h
  | _ :: _, [], _, _, _, _, _, h => by simp at h
  | k :: ks, v :: vs, s, x, 0, _, h, h' => by
    simp only [List.getElem?_cons_zero, Option.some.injEq] at h h'
    simp [lookJ, h, h']
  | k :: ks, v :: vs, s, x, i + 1, hb, h, h' => by
    have h0 := hb 0 (by omega)
    simp only [List.getElem?_cons_zero, ne_eq, Option.some.injEq] at h0
    simp only [List.getElem?_cons_succ] at h h'
    rw [lookJ, if_neg h0]
    exact lookJ_hit (fun j hj => by simpa using hb (j + 1) (by omega)) h h'

theorem lookJ_miss : ∀ {ks : List ByteArray} {vs : List J} {s : ByteArray}, s ∉ ks → lookJ ks vs s = .null
  | [], vs, _, _ => by cases vs <;> rfl
  | _ :: _, [], _, _ => rfl
  | k :: ks, v :: vs, s, h => by
    simp only [List.mem_cons, not_or] at h
    rw [lookJ, if_neg (fun e => h.1 e.symm)]
    exact lookJ_miss h.2

/-- a key of a straight path -/
def Key (k : J) : Prop := match k with
  | .str s => s.size ≤ 1048576
  | .num h => h % 2 = 0 ∧ 0 ≤ h
  | _ => False

/-- what stands at a key -/
def stepJ (x k : J) : Option J := match x, k with
  | .null, _ => some .null
  | .arr l, .num h => some ((l[(h / 2).toNat]?).getD .null)
  | .obj ks vs, .str s => some (lookJ ks vs s)
  | _, _ => none

def box3 (x : J) : Prop := match x with
  | .null => True
  | .arr _ => True
  | .obj _ _ => True
  | _ => False

def StepPost (D : Nat → Prop) (x k : J) (w : World) (e : Ending) (w' : World) : Prop := match stepJ x k with
  | some y => ∃ v, e = .returned v ∧ ARep w D y v ∧ w' = w
  | none => ∃ T v, e = .returned (.iface T v) ∧ (T = 205 ∨ T = 211) ∧ Below w.heap.size w w'

set_option maxRecDepth 100000 in
theorem index2_null (k : J) (D : Nat → Prop) (kv : Value) (w : World) (hk : Key k) (hkv : ARep w D k kv) : Calls Tryz.prog 151 #[.nilIface, .nilIface, kv] w (StepPost D .null k w) := by
  cases k with
  | str s =>
    rw [show kv = _ from hkv]
    go_enter Tryz.func151, Tryz.ntmps151
    go_wp2_with fail
    go_ret
    exact ⟨_, rfl, rfl, rfl⟩
  | num h =>
    have hkv' : kv = .iface 3 (.int .i64 (h / 2)) := by rw [show kv = numV h from hkv]; unfold numV; rw [if_pos hk.1]
    rw [hkv']
    have HT := Lib.hid (toInt_any (h / 2) w)
    go_enter Tryz.func151, Tryz.ntmps151
    go_wp2_with fail
    refine HT.out.mono ?_
    rintro e w1 ⟨rfl, rfl⟩
    go_wp2_with fail
    go_ret
    exact ⟨_, rfl, rfl, rfl⟩
  | _ => exact hk.elim

set_option maxRecDepth 100000 in
theorem index2_arr (l : List J) (k : J) (D : Nat → Prop) (xv kv : Value) (w : World) (hk : Key k) (hxv : ARep w D (.arr l) xv) (hkv : ARep w D k kv) : Calls Tryz.prog 151 #[.nilIface, xv, kv] w (StepPost D (.arr l) k w) := by
  obtain ⟨S, rfl, hS⟩ := hxv
  cases k with
  | str s =>
    rw [show kv = _ from hkv]
    clear hS
    go_enter Tryz.func151, Tryz.ntmps151
    go_wp2_with fail
    go_ret
    exact ⟨205, _, rfl, .inl rfl, (Below.refl _ _).alloc (Nat.le_refl _) _⟩
  | num h =>
    have hkv' : kv = .iface 3 (.int .i64 (h / 2)) := by rw [show kv = numV h from hkv]; unfold numV; rw [if_pos hk.1]
    rw [hkv']
    have HT := Lib.hid (toInt_any (h / 2) w)
    have HI := Lib.hid (index_any l D S (h / 2) w (by have := hk.2; omega) hS)
    clear hS hk hkv hkv'
    go_enter Tryz.func151, Tryz.ntmps151
    go_wp2_with fail
    refine HT.out.mono ?_
    rintro e w1 ⟨rfl, rfl⟩
    go_wp2_with fail
    refine HI.out.mono ?_
    rintro e w2 ⟨v, rfl, hv, rfl⟩
    have HV := Lib.hid hv
    clear hv
    go_wp2_with fail
    go_ret
    exact ⟨_, rfl, HV.out, rfl⟩
  | _ => exact hk.elim

set_option maxRecDepth 100000 in
theorem index2_obj (ks : List ByteArray) (vs : List J) (k : J) (D : Nat → Prop) (xv kv : Value) (w : World) (wx : (J.obj ks vs).WF) (hk : Key k) (hxv : ARep w D (.obj ks vs) xv) (hkv : ARep w D k kv) : Calls Tryz.prog 151 #[.nilIface, xv, kv] w (StepPost D (.obj ks vs) k w) := by
  obtain ⟨r, xs, rfl, hr, hm, hl, ha⟩ := hxv
  simp only [J.WF] at wx
  cases k with
  | str s =>
    rw [show kv = _ from hkv]
    have key : ∃ v, (Instr.lookup 91 (.map (some r)) (.string s) false).run Tryz.prog w = .ok v w ∧ ARep w D (lookJ ks vs s) v := by
      by_cases hs : s ∈ ks
      · obtain ⟨i, hi, he⟩ := List.getElem_of_mem hs
        have hki : ks[i]? = some s := by rw [List.getElem?_eq_getElem hi, he]
        obtain ⟨x, hx⟩ : ∃ x, vs[i]? = some x := ⟨_, List.getElem?_eq_getElem (by omega)⟩
        obtain ⟨y, hy, hay⟩ := ha.get hx
        exact ⟨y, (hm.hit wx.2.2.2.1 hki hy hk).1, by rw [lookJ_hit (not_before wx.2.2.2.1 hki) hki hx]; exact hay⟩
      · exact ⟨.nilIface, (hm.miss hs hk).1, by rw [lookJ_miss hs]; rfl⟩
    obtain ⟨v, hrun, hv⟩ := key
    have HV := Lib.hid hv
    clear hv hm ha hl wx
    go_enter Tryz.func151, Tryz.ntmps151
    go_wp2_with fail
    go_ret
    exact ⟨_, rfl, HV.out, rfl⟩
  | num h =>
    have hkv' : kv = .iface 3 (.int .i64 (h / 2)) := by rw [show kv = numV h from hkv]; unfold numV; rw [if_pos hk.1]
    rw [hkv']
    have HT := Lib.hid (toInt_any (h / 2) w)
    clear hm ha hl wx hk hkv hkv'
    go_enter Tryz.func151, Tryz.ntmps151
    go_wp2_with fail
    refine HT.out.mono ?_
    rintro e w1 ⟨rfl, rfl⟩
    go_wp2_with fail
    go_ret
    exact ⟨211, _, rfl, .inr rfl, (Below.refl _ _).alloc (Nat.le_refl _) _⟩
  | _ => exact hk.elim

end Go.Proofs.YtfhppajnnbbcjaaGreatDoor
end

section
namespace Go.Proofs.YtfhppajnnbbcjaaGreatDoor
open Go.RowKit

abbrev noVal : Array Value := #[.int .i64 0, .int .i64 0, .string ⟨#[]⟩, .slice none 0 0, .slice none 0 0, .slice none 0 0]

/-- the list built up to k -/
def LfRel (l : List J) (w wr : World) (k : Nat) : Prop :=
  Below w.heap.size w wr ∧ wr.heap[w.heap.size]? = some (.cells noVal 26 (0, 0)) ∧ ∃ v, wr.heap[w.heap.size + 1]? = some (.cells #[.int .i64 5, .int .i64 0, .string ⟨#[]⟩, v, .slice none 0 0, .slice none 0 0] 26 (0, 0)) ∧
    VGrow wr (w.heap.size + 2) (fun b => w.heap.size + 2 ≤ b) v (l.take k)

set_option maxRecDepth 100000 in
theorem listFromGo_of (l : List J) (hel : ∀ x ∈ l, FromGoOK x) (D : Nat → Prop) (u : Value) (w : World) (wl : WFL l) (hn : l.length ≤ 1048576) (hD : ∀ b, D b → All w b) (hu : SlAt D l.length u (fun b o => ARow w D b l o)) :
    Calls Tryz.prog 129 #[u] w (FromGoPost (.arr l) w) := by
  obtain ⟨A1, c1, rfl, hc1, hm1, hr1⟩ := hu
  unfold maxLen at hm1
  obtain ⟨i26, hi, hz0, hz1, hz2⟩ := info_parts Tryz.info26
  have HI := Lib.hid hi
  have HZ0 := Lib.hid hz0
  have HZ1 := Lib.hid hz1
  have HZ2 := Lib.hid hz2
  clear hi hz0 hz1 hz2
  go_enter Tryz.func129, Tryz.ntmps129
  go_wp2_with fail
  go_loopw [12] (fun i wr => ∃ k : Nat, k ≤ l.length ∧ i = .int .i64 k ∧ Hid (LfRel l w wr k)) (fun i _ => l.length - (intOf i).toNat)
  case atStart =>
    refine ⟨0, Nat.zero_le _, rfl, ((Below.refl _ _).alloc (Nat.le_refl _) _).alloc (by simp) _, ?_, .slice none 0 0, ?_, VGrow.none_ _ _ _⟩
    · rw [Below.heap_alloc _ _ _ (by simp)]; exact heap_alloc_new w _
    · exact heap_alloc_new1 _ _ _
  case round =>
    obtain ⟨k, hk, rfl, hR⟩ := hrel
    by_cases ha : k < l.length
    · obtain ⟨hb, hres, v, hout, hgr⟩ := hR.out
      clear hR
      obtain ⟨b1, o1, rfl, hlt1, hs1⟩ := hr1 (by omega)
      have hx : l[k]? = some l[k] := List.getElem?_eq_getElem ha
      obtain ⟨y, hy, hay⟩ := (ARow.keep (Same.of_below hb hD) (fun _ h => h) _ _ _ hlt1 hs1).get hx
      have HC := Lib.hid (hel l[k] (List.getElem_mem _) D y wr (WFL_iff.1 wl _ (List.getElem_mem _)) (fun b hb' => Nat.lt_of_lt_of_le (hD b hb') hb.size) hay)
      have HB := Lib.hid hb
      have HG := Lib.hid hgr
      have HR := Lib.hid hres
      have HO := Lib.hid hout
      clear hs1 hr1 hb hay hel hgr hres hout
      go_wp2_with fail
      refine HC.out.mono ?_
      rintro e w1 ⟨cs, rfl, hcs, hb1⟩
      obtain ⟨A2, c2, A3, c3, A4, c4, rfl⟩ := SRep.six hcs
      have hout1 := (hb1.block _ (box_lt HO.out)).trans HO.out
      have hsz1 := box_lt hout1
      have p3 : w1.cell? ⟨w.heap.size + 1, 3, none⟩ = some v := box_cell hout1 3
      have f3 := box_frozen hout1 3
      obtain ⟨xs, hown, hch⟩ := HG.out.below hb1
      rw [List.length_take, Nat.min_eq_left hk] at hown
      have hown3 := (hown.alloc (.cells #[.int .i64 l[k].kind, .int .i64 l[k].half, .string l[k].text, .slice A2 l[k].list.length c2, .slice A3 l[k].keys.length c3, .slice A4 l[k].vals.length c4] 26)).alloc (.cells #[.int .i64 l[k].kind, .int .i64 l[k].half, .string l[k].text, .slice A2 l[k].list.length c2, .slice A3 l[k].keys.length c3, .slice A4 l[k].vals.length c4] 26)
      have HOWN := Lib.hid hown3
      have HCH := Lib.hid hch
      have HCS := Lib.hid hcs
      have HB1 := Lib.hid hb1
      have HX := Lib.hid hx
      clear hown3 hown HC hch hcs hb1 hx
      go_wp2_with (at_builtin; refine wpList_append_own_at _ rfl (.tmp 25) (.tmp 27) 23 rfl (w.heap.size + 2) 26 i26 _ 6 104 Tryz.underlying23 HI.out HZ0.out HZ1.out HZ2.out rfl (by decide) v k xs rfl HOWN.out ⟨w1.heap.size + 1, 0, none⟩ 1 1 [.int .i64 l[k].kind, .int .i64 l[k].half, .string l[k].text, .slice A2 l[k].list.length c2, .slice A3 l[k].keys.length c3, .slice A4 l[k].vals.length c4] rfl rfl ?c1 ?c2 ?c3 ?c4 ?c5 ?_)
      case c1 =>
        intro j u hj
        rw [Addr.add_lit, Nat.zero_add, box_cell (heap_alloc_new1 _ _ _)]
        simpa using hj
      case c2 => intro u hu; simp at hu; rcases hu with rfl | rfl | rfl | rfl | rfl | rfl <;> rfl
      case c3 => unfold maxLen; omega
      case c4 => omega
      case c5 => simp; omega
      intro v' w4 hown4 hg4 _ hat4
      have hlt : ∀ g, v.ownBlock = some g → w.heap.size + 2 ≤ g := fun g hg => (HOWN.out.lt g hg).1
      have hout4 : w4.heap[w.heap.size + 1]? = _ := (hg4.block _ (by simp; omega) (fun e => by have := hlt _ e.symm; omega)).trans ((Below.heap_alloc _ _ _ (by simp; omega)).trans ((Below.heap_alloc _ _ _ (by omega)).trans hout1))
      have HN : Hid (∀ A c, v' = .slice A (k + 1) c → LfRel l w (w4.setCell ⟨w.heap.size + 1, 3, none⟩ (.slice A (k + 1) c)) (k + 1)) := by
        intro A c hv'
        have hs4 := hg4.size
        have hs1 := HB1.out.size
        simp only [World.size_alloc] at hs4
        have hbw : Below w.heap.size w w4 := (((HB.out.trans (HB1.out.mono HB.out.size)).alloc (by omega) _).alloc (by simp; omega) _).grown hg4 (by simp; omega) (fun g hg => by have := hlt g hg; omega)
        refine ⟨hbw.setCell (by simp) _, ?_, v', ?_, ?_⟩
        · rw [heap_setCell_other _ _ _ _ (by simp)]
          exact (hg4.block _ (by simp; omega) (fun e => by have := hlt _ e.symm; omega)).trans ((Below.heap_alloc _ _ _ (by simp; omega)).trans ((Below.heap_alloc _ _ _ (by omega)).trans ((HB1.out.block _ (box_lt HR.out)).trans HR.out)))
        · rw [heap_setCell_same _ _ _ _ _ _ hout4, hv']
          rfl
        · rw [take_snoc' HX.out]
          have hst := VGrow.step (D0 := fun b => w.heap.size + 2 ≤ b) (wB := (w1.alloc (.cells #[.int .i64 l[k].kind, .int .i64 l[k].half, .string l[k].text, .slice A2 l[k].list.length c2, .slice A3 l[k].keys.length c3, .slice A4 l[k].vals.length c4] 26)).alloc (.cells #[.int .i64 l[k].kind, .int .i64 l[k].half, .string l[k].text, .slice A2 l[k].list.length c2, .slice A3 l[k].keys.length c3, .slice A4 l[k].vals.length c4] 26)) (v' := v') (w' := w4) HCH.out
            (VRep.keep (fun _ _ => rfl) (fun b hb => ⟨by have := hb.1; have := box_lt HO.out; omega, hb.2, fun e => by have := (HG.out.own_lt b e.symm).2; have := hb.1; omega⟩) _ _ HCS.out) rfl
            (fun b hb => (Below.heap_alloc _ _ _ (by simp; omega)).trans (Below.heap_alloc _ _ _ hb)) (by simp; omega) (by rw [List.length_take, Nat.min_eq_left hk]; exact hown4) hg4 (by rw [World.size_alloc, World.size_alloc]; exact hat4)
          refine hst.keep (fun b hb hd => heap_setCell_other _ _ _ _ ?_) (by simp [World.setCell])
          show b ≠ w.heap.size + 1
          rcases hd with h | h <;> omega
      obtain ⟨A, c, hv'⟩ : ∃ A c, v' = .slice A (k + 1) c := by
        rcases hown4.2 with ⟨rfl, hn⟩ | ⟨g, cap, cur, hv, -⟩
        · omega
        · exact ⟨_, _, hv⟩
      have HN' := Lib.hid (HN A c hv')
      subst hv'
      have q3 : w4.cell? ⟨w.heap.size + 1, 3, none⟩ = some v := box_cell hout4 3
      have r3 := box_frozen hout4 3
      clear HN hown4 hg4 hat4 hlt hout4 hout1 p3 f3
      go_wp2_with fail
      go_roundw
      case rel => exact ⟨k + 1, by omega, by go_num, HN'⟩
      case measure => simp [intOf]; omega
    · have hk' : k = l.length := by omega
      subst hk'
      obtain ⟨hb, hres, v, hout, hgr⟩ := hR.out
      rw [List.take_length] at hgr
      obtain ⟨A, c, rfl⟩ := hgr.form
      have q0 : wr.cell? ⟨w.heap.size + 1, 0, none⟩ = _ := box_cell hout 0
      have q1 : wr.cell? ⟨w.heap.size + 1, 1, none⟩ = _ := box_cell hout 1
      have q2 : wr.cell? ⟨w.heap.size + 1, 2, none⟩ = _ := box_cell hout 2
      have q3 : wr.cell? ⟨w.heap.size + 1, 3, none⟩ = _ := box_cell hout 3
      have q4 : wr.cell? ⟨w.heap.size + 1, 4, none⟩ = _ := box_cell hout 4
      have q5 : wr.cell? ⟨w.heap.size + 1, 5, none⟩ = _ := box_cell hout 5
      have r0 : wr.cell? ⟨w.heap.size, 0, none⟩ = _ := box_cell hres 0
      have r1 : wr.cell? ⟨w.heap.size, 1, none⟩ = _ := box_cell hres 1
      have r2 : wr.cell? ⟨w.heap.size, 2, none⟩ = _ := box_cell hres 2
      have r3 : wr.cell? ⟨w.heap.size, 3, none⟩ = _ := box_cell hres 3
      have r4 : wr.cell? ⟨w.heap.size, 4, none⟩ = _ := box_cell hres 4
      have r5 : wr.cell? ⟨w.heap.size, 5, none⟩ = _ := box_cell hres 5
      have fz := box_frozen hres
      have HB := Lib.hid hb
      have HG := Lib.hid hgr
      have hsz := box_lt hout
      clear hR hb hgr hres hout hr1 hel
      go_wp2_with fail
      refine bodyPost_ret (v := .tuple #[.agg #[.int .i64 5, .int .i64 0, .string noText, .slice A l.length c, .slice none 0 0, .slice none 0 0], .bool true]) (by simp [results, Tryz.results129, go_sem, r0, r1, r2, r3, r4, r5]; rfl) rfl ?_
      have hbel : Below w.heap.size w ((((((wr.setCell ⟨w.heap.size, 0, none⟩ (.int .i64 5)).setCell ⟨w.heap.size, 1, none⟩ (.int .i64 0)).setCell ⟨w.heap.size, 2, none⟩ (.string ⟨#[]⟩)).setCell ⟨w.heap.size, 3, none⟩ (.slice A l.length c)).setCell ⟨w.heap.size, 4, none⟩ (.slice none 0 0)).setCell ⟨w.heap.size, 5, none⟩ (.slice none 0 0)) := by
        repeat (refine Below.setCell ?_ (by simp) _)
        exact HB.out
      refine ⟨_, rfl, ⟨_, _, _, rfl, ?_, emp _ _, emp _ _⟩, hbel⟩
      rw [toVL_length]
      refine (HG.out.slat (D := fun b => w.heap.size + 2 ≤ b ∧ b < wr.heap.size) (fun b h1 h2 => ⟨h1, h2⟩) (fun b h1 h2 => ⟨h1, h2⟩)).mono (fun b hb' => ⟨by omega, by have := hb'.2; simp [World.setCell]; omega⟩) fun b o hb' hr => VRow.keep (fun k hk => ?_) (fun b hb' => ⟨by omega, by have := hb'.2; simp [World.setCell]; omega⟩) _ _ _ hb' hr
      have : k ≠ w.heap.size := by have := hk.1; omega
      iterate 6 rw [heap_setCell_other _ _ _ _ this]

end Go.Proofs.YtfhppajnnbbcjaaGreatDoor
end
