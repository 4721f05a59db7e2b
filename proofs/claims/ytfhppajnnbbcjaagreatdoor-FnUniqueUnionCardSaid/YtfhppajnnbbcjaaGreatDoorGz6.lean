/- The memory words: slices of whatever elements; one that a call appends to, whatever is appended.
   The memory words: slices of values, of paths, of spots.
   Walks: spec.where.
   Walks: spec.where at a list and a needle that is none: the loop; the relation that the three loops share.
   Walks: spec.where at a list and a needle that is no list. -/
import Derived.Test.YtfhppajnnbbcjaaGreatDoorGz2
import Derived.Deep.AppendSrc
import Derived.Test.YtfhppajnnbbcjaaGreatDoorGz5
import Derived.Test.YtfhppajnnbbcjaaGreatDoorGz1

section
namespace Go.Proofs.YtfhppajnnbbcjaaGreatDoor
open Go.RowKit

/-- what an element of a slice stands for -/
structure El (X : Type) where
  ty : TypeId
  size : Nat
  bytes : Nat
  zero : Value
  info : (Tryz.prog.info? ty).map (fun i => (i.zero, i.size, i.bytes)) = some (some zero, size, bytes)
  zsize : zero.cells.size = size
  pos : 0 < size
  rep : World → (Nat → Prop) → X → List Value → Prop
  len : ∀ {w : World} {D : Nat → Prop} {x : X} {cs : List Value}, rep w D x cs → cs.length = size
  one : ∀ {w : World} {D : Nat → Prop} {x : X} {cs : List Value}, rep w D x cs → ∀ u ∈ cs, u.oneCell' = true
  keep : ∀ {w w' : World} {D D' : Nat → Prop} {x : X} {cs : List Value}, Same D w w' → (∀ b, D b → D' b) → rep w D x cs → rep w' D' x cs

variable {X : Type}

def Row (E : El X) (w : World) (D : Nat → Prop) (b : Nat) : List X → Nat → Prop
  | [], _ => True
  | x :: l, o => (∃ cs, (∀ i v, cs[i]? = some v → w.cell? ⟨b, o + i, none⟩ = some v) ∧ E.rep w D x cs) ∧ Row E w D b l (o + E.size)

theorem Row.keep {E : El X} {w w' : World} {D D' : Nat → Prop} (hs : Same D w w') (hB : ∀ b, D b → D' b) : ∀ (l : List X) (b o : Nat), D b → Row E w D b l o → Row E w' D' b l o
  | [], _, _, _, _ => trivial
  | x :: l, b, o, hb, hr => by
    obtain ⟨⟨cs, hc, hx⟩, hr⟩ := hr
    exact ⟨⟨cs, fun i v hi => (hs.cell hb).trans (hc i v hi), E.keep hs hB hx⟩, Row.keep hs hB l b (o + E.size) hb hr⟩

theorem Row.get {E : El X} {w : World} {D : Nat → Prop} {b : Nat} : ∀ {l : List X} {o i : Nat} {x : X}, Row E w D b l o → l[i]? = some x →
    ∃ cs, (∀ j v, cs[j]? = some v → w.cell? ⟨b, o + i * E.size + j, none⟩ = some v) ∧ E.rep w D x cs
  | [], _, _, _, _, h => by simp at h
  | a :: l, o, 0, x, hr, h => by
    obtain ⟨⟨cs, hc, hx⟩, _⟩ := hr
    simp at h
    subst h
    exact ⟨cs, by simpa using hc, hx⟩
  | a :: l, o, i + 1, x, hr, h => by
    obtain ⟨cs, hc, hx⟩ := Row.get (i := i) hr.2 (by simpa using h)
    refine ⟨cs, fun j v hj => ?_, hx⟩
    have := hc j v hj
    rwa [show o + (i + 1) * E.size + j = o + E.size + i * E.size + j by rw [Nat.add_mul]; omega]

abbrev Sl (E : El X) (w : World) (D : Nat → Prop) (l : List X) (v : Value) : Prop := SlAt D l.length v (fun b o => Row E w D b l o)

theorem Sl.keep {E : El X} {w w' : World} {D D' : Nat → Prop} {l : List X} {v : Value} (h : Sl E w D l v) (hs : Same D w w') (hB : ∀ b, D b → D' b) : Sl E w' D' l v :=
  h.mono hB fun b o hb hr => Row.keep hs hB l b o hb hr

theorem Sl.nil (E : El X) (w : World) (D : Nat → Prop) : Sl E w D [] (.slice none 0 0) := ⟨none, 0, rfl, Nat.le_refl _, by unfold maxLen; omega, fun h => absurd h (by simp)⟩

def Chunks (E : El X) (w : World) (D : Nat → Prop) : List X → List Value → Prop
  | [], xs => xs = []
  | x :: l, xs => ∃ cs r, xs = cs ++ r ∧ E.rep w D x cs ∧ Chunks E w D l r

theorem Chunks.length {E : El X} {w : World} {D : Nat → Prop} : ∀ {l : List X} {xs : List Value}, Chunks E w D l xs → xs.length = l.length * E.size
  | [], _, h => by simp [show _ = [] from h]
  | x :: l, _, h => by
    obtain ⟨cs, r, rfl, hx, hr⟩ := h
    rw [List.length_append, E.len hx, hr.length, List.length_cons, Nat.add_mul, Nat.one_mul, Nat.add_comm]

theorem Chunks.one {E : El X} {w : World} {D : Nat → Prop} : ∀ {l : List X} {xs : List Value}, Chunks E w D l xs → ∀ u ∈ xs, u.oneCell' = true
  | [], _, h, u, hu => by rw [show _ = [] from h] at hu; simp at hu
  | x :: l, _, h, u, hu => by
    obtain ⟨cs, r, rfl, hx, hr⟩ := h
    rcases List.mem_append.1 hu with h | h
    · exact E.one hx u h
    · exact hr.one u h

theorem Chunks.append {E : El X} {w : World} {D : Nat → Prop} {l2 : List X} {ys : List Value} (h2 : Chunks E w D l2 ys) : ∀ {l : List X} {xs : List Value}, Chunks E w D l xs → Chunks E w D (l ++ l2) (xs ++ ys)
  | [], _, h => by rw [show _ = [] from h]; exact h2
  | x :: l, _, h => by
    obtain ⟨cs, r, rfl, hx, hr⟩ := h
    exact ⟨cs, r ++ ys, by simp, hx, Chunks.append h2 hr⟩

theorem Chunks.keep {E : El X} {w w' : World} {D D' : Nat → Prop} (hs : Same D w w') (hD : ∀ b, D b → D' b) : ∀ {l : List X} {xs : List Value}, Chunks E w D l xs → Chunks E w' D' l xs
  | [], _, h => h
  | x :: l, _, h => by
    obtain ⟨cs, r, rfl, hx, hr⟩ := h
    exact ⟨cs, r, rfl, E.keep hs hD hx, Chunks.keep hs hD hr⟩

theorem Chunks.row {E : El X} {w : World} {D : Nat → Prop} {b : Nat} : ∀ {l : List X} {xs : List Value} {o : Nat}, Chunks E w D l xs → (∀ j u, xs[j]? = some u → w.cell? ⟨b, o + j, none⟩ = some u) → Row E w D b l o
  | [], _, _, _, _ => trivial
  | x :: l, _, o, h, hc => by
    obtain ⟨cs, r, rfl, hx, hr⟩ := h
    refine ⟨⟨cs, fun j u hj => hc j u ?_, hx⟩, Chunks.row hr fun j u hj => ?_⟩
    · rw [List.getElem?_append_left (List.getElem?_eq_some_iff.1 hj).1]; exact hj
    · have := hc (E.size + j) u (by rw [List.getElem?_append_right (by rw [E.len hx]; omega), E.len hx]; simpa using hj)
      rwa [show o + E.size + j = o + (E.size + j) by omega]

theorem Row.chunks {E : El X} {w : World} {D : Nat → Prop} {b : Nat} : ∀ {l : List X} {o : Nat}, Row E w D b l o → ∃ xs, (∀ j u, xs[j]? = some u → w.cell? ⟨b, o + j, none⟩ = some u) ∧ Chunks E w D l xs
  | [], _, _ => ⟨[], by simp, rfl⟩
  | x :: l, o, hr => by
    obtain ⟨⟨cs, hc, hx⟩, hr⟩ := hr
    obtain ⟨r, hr1, hr2⟩ := Row.chunks hr
    refine ⟨cs ++ r, fun j u hj => ?_, cs, r, rfl, hx, hr2⟩
    by_cases h : j < cs.length
    · rw [List.getElem?_append_left h] at hj; exact hc j u hj
    · rw [List.getElem?_append_right (by omega)] at hj
      have := hr1 _ u hj
      rwa [show o + E.size + (j - cs.length) = o + j by rw [← E.len hx]; omega] at this

/-- the slice value v, the call's own, holds the list l; its row lies from block base on; what its elements hold lies in D0 -/
def GG (E : El X) (w : World) (base : Nat) (D0 : Nat → Prop) (v : Value) (l : List X) : Prop :=
  ∃ xs, w.ownsRow base E.ty E.size v l.length xs ∧ Chunks E w (But D0 w v) l xs

theorem GG.nil (E : El X) (w : World) (base : Nat) (D0 : Nat → Prop) : GG E w base D0 (.slice none 0 0) [] := ⟨[], ⟨by simp, .inl ⟨rfl, rfl⟩⟩, rfl⟩

theorem GG.own_lt {E : El X} {w : World} {base : Nat} {D0 : Nat → Prop} {v : Value} {l : List X} (h : GG E w base D0 v l) : ∀ k, v.ownBlock = some k → base ≤ k ∧ k < w.heap.size := by
  obtain ⟨xs, ho, -⟩ := h
  exact ho.lt

theorem GG.form {E : El X} {w : World} {base : Nat} {D0 : Nat → Prop} {v : Value} {l : List X} (h : GG E w base D0 v l) : ∃ A c, v = .slice A l.length c := by
  obtain ⟨xs, ho, -⟩ := h
  rcases ho.2 with ⟨rfl, hn⟩ | ⟨g, cap, cur, hv, -⟩
  · exact ⟨none, 0, by rw [hn]⟩
  · exact ⟨_, _, hv⟩

/-- kept while other blocks are written -/
theorem GG.keep {E : El X} {w w' : World} {base : Nat} {D0 : Nat → Prop} {v : Value} {l : List X} (h : GG E w base D0 v l) (hsame : ∀ b, b < w.heap.size → D0 b ∨ base ≤ b → w'.heap[b]? = w.heap[b]?) (hsz : w.heap.size ≤ w'.heap.size) : GG E w' base D0 v l := by
  obtain ⟨xs, ho, hc⟩ := h
  refine ⟨xs, ?_, hc.keep (fun b hb => hsame b hb.2.1 (.inl hb.1)) (fun b hb => ⟨hb.1, Nat.lt_of_lt_of_le hb.2.1 hsz, hb.2.2⟩)⟩
  refine ⟨ho.1, ?_⟩
  rcases ho.2 with hn | ⟨g, cap, cur, hv, hg, hh, r⟩
  · exact .inl hn
  · exact .inr ⟨g, cap, cur, hv, hg, by rw [hsame g (box_lt hh) (.inr hg)]; exact hh, r⟩

theorem GG.below {E : El X} {w w' : World} {base : Nat} {D0 : Nat → Prop} {v : Value} {l : List X} (h : GG E w base D0 v l) (hb : Below w.heap.size w w') : GG E w' base D0 v l :=
  h.keep (fun b hlt _ => hb.block b hlt) hb.size

/-- read at the end -/
theorem GG.sl {E : El X} {w : World} {base : Nat} {D0 D : Nat → Prop} {v : Value} {l : List X} (h : GG E w base D0 v l) (h1 : ∀ b, D0 b → b < w.heap.size → D b) (h2 : ∀ b, base ≤ b → b < w.heap.size → D b) : Sl E w D l v := by
  obtain ⟨xs, ho, hc⟩ := h
  rcases ho.2 with ⟨rfl, hn⟩ | ⟨g, cap, cur, hv, hg, hh, hnc, hcm, -⟩
  · exact ⟨_, _, by rw [hn], by omega, by unfold maxLen; omega, fun h => absurd h (by omega)⟩
  · refine ⟨_, cap, hv, hnc, hcm, fun _ => ⟨g, 0, rfl, h2 g hg (box_lt hh), ?_⟩⟩
    refine Chunks.row (hc.keep (fun _ _ => rfl) (fun b hb => h1 b hb.1 hb.2.1)) fun j u hj => ?_
    have := ho.cells (g := g) (by rw [hv]; rfl) j u hj
    rwa [Addr.add_lit] at this

/-- a row that was just made whole: a literal -/
theorem GG.lit {E : El X} {w : World} {base : Nat} {D0 : Nat → Prop} {l : List X} {cs : List Value} {g : Nat} (hg : base ≤ g) (hh : w.heap[g]? = some (.cells cs.toArray E.ty (0, 0))) (hm : l.length ≤ maxLen)
    (hc : Chunks E w (fun b => D0 b ∧ b < w.heap.size ∧ b ≠ g) l cs) : GG E w base D0 (.slice (some ⟨g, 0, none⟩) l.length l.length) l := by
  have hl := hc.length
  refine ⟨cs, ⟨hl, .inr ⟨g, l.length, cs.toArray, rfl, hg, hh, Nat.le_refl _, hm, by simpa using hl, by simp [← hl]⟩⟩, hc.keep (fun _ _ => rfl) (fun b hb => ⟨hb.1, hb.2.1, by simp [Value.ownBlock]; exact hb.2.2⟩)⟩

theorem GG.append {E : El X} {t ty : TypeId} (ht : Tryz.prog.underlying t = some (.slice E.ty)) {w : World} {base : Nat} {D0 : Nat → Prop} {v u : Value} {l l2 : List X} (h : GG E w base D0 v l) (hu : SlAt (fun _ => True) l2.length u (fun b o => Row E w (But D0 w v) b l2 o))
    (hlen : l.length + l2.length ≤ maxLen) (hbytes : (l.length + l2.length) * E.bytes ≤ 140737488355328) (hbase : base ≤ w.heap.size) :
    ∃ A c w', (Builtin.append_ #[t, t] ty #[v, u]).run Tryz.prog w = .ok (.slice A (l.length + l2.length) c) w' ∧ GG E w' base D0 (.slice A (l.length + l2.length) c) (l ++ l2) ∧ w.grownBy w' v.ownBlock ∧
      ((Value.slice A (l.length + l2.length) c).ownBlock = v.ownBlock ∨ (Value.slice A (l.length + l2.length) c).ownBlock = some w.heap.size) := by
  obtain ⟨i, hi, hz, hs, hb⟩ := info_parts E.info
  obtain ⟨xs, hown, hch⟩ := h
  have fin : ∀ (v' : Value) (w' : World) (news : List Value), Chunks E w (But D0 w v) l2 news → w'.ownsRow base E.ty E.size v' (l.length + l2.length) (xs ++ news) → w.grownBy w' v.ownBlock → (v'.ownBlock = v.ownBlock ∨ v'.ownBlock = some w.heap.size) →
      (Builtin.append_ #[t, t] ty #[v, u]).run Tryz.prog w = .ok v' w' →
      ∃ A c w', (Builtin.append_ #[t, t] ty #[v, u]).run Tryz.prog w = .ok (.slice A (l.length + l2.length) c) w' ∧ GG E w' base D0 (.slice A (l.length + l2.length) c) (l ++ l2) ∧ w.grownBy w' v.ownBlock ∧
      ((Value.slice A (l.length + l2.length) c).ownBlock = v.ownBlock ∨ (Value.slice A (l.length + l2.length) c).ownBlock = some w.heap.size) := by
    intro v' w' news hn ho hg hat hrun
    obtain ⟨A, c, rfl⟩ : ∃ A c, v' = .slice A (l.length + l2.length) c := by
      rcases ho.2 with ⟨rfl, hn⟩ | ⟨g, cap, cur, hv, -⟩
      · exact ⟨none, 0, by rw [hn]⟩
      · exact ⟨_, _, hv⟩
    have hsame : Same (But D0 w v) w w' := fun b hb => hg.block b hb.2.1 hb.2.2
    have hD : ∀ b, But D0 w v b → But D0 w' (.slice A (l.length + l2.length) c) b := fun b hb => ⟨hb.1, Nat.lt_of_lt_of_le hb.2.1 hg.size, by
      rcases hat with e | e <;> rw [e]
      · exact hb.2.2
      · have := hb.2.1; simp; omega⟩
    exact ⟨A, c, w', hrun, ⟨xs ++ news, by rw [List.length_append]; exact ho, (Chunks.append hn hch).keep hsame hD⟩, hg, hat⟩
  obtain ⟨A2, c2, rfl, -, -, hr2⟩ := hu
  cases A2 with
  | none =>
    have h0 : l2 = [] := by
      cases l2 with
      | nil => rfl
      | cons a r => obtain ⟨b, o, hA, -⟩ := hr2 (by simp); cases hA
    subst h0
    have hr : (Builtin.append_ #[t, t] ty #[v, .slice none 0 c2]).run Tryz.prog w = .ok v w := by
      obtain ⟨A, c, rfl⟩ := GG.form ⟨xs, hown, hch⟩
      rcases hown.2 with ⟨e, -⟩ | ⟨g, cap, cur, e, -, hh, hnc, hcm, hcs, -⟩
      · rw [e]
        simp [Builtin.append_, run_underlying ht, sizeOf, typeInfo, hi, Builtin.lenOf, Builtin.firstCells]
      · obtain ⟨rfl, rfl⟩ : A = some ⟨g, 0, none⟩ ∧ c = cap := by simpa using e
        have := run_append_room_src (P := Tryz.prog) w t t ty E.ty i ht hi g 0 l.length c (.slice none 0 c2) 0 [] (Src.ofNil w ht c2) (by omega) (fun j hj => absurd hj (by simp)) (fun j hj => absurd hj (by simp))
        rw [this]
        rfl
    exact fin v w [] rfl (by simpa using hown) ⟨rfl, rfl, rfl, Nat.le_refl _, fun _ _ _ => rfl⟩ (.inl rfl) hr
  | some ad =>
    have hnews : ∃ news, (∀ j u, news[j]? = some u → w.cell? (ad.add j) = some u) ∧ Chunks E w (But D0 w v) l2 news := by
      by_cases h0 : 0 < l2.length
      · obtain ⟨b, o, hA, hb, hrow⟩ := hr2 h0
        obtain rfl := Option.some.inj hA
        obtain ⟨news, hn, hc⟩ := hrow.chunks
        exact ⟨news, fun j u hj => by rw [Addr.add_lit]; exact hn j u hj, hc⟩
      · have : l2 = [] := List.eq_nil_of_length_eq_zero (by omega)
        subst this
        exact ⟨[], by simp, rfl⟩
    obtain ⟨news, hn, hc⟩ := hnews
    obtain ⟨v', w', hrun, ho, hg, -, hat⟩ := run_append_own_at (P := Tryz.prog) w base t ty E.ty i E.zero E.size E.bytes ht hi hz hs hb E.zsize E.pos v l.length xs hown ad l2.length c2 news hc.length hn hc.one hlen hbytes hbase
    exact fin v' w' news hc ho hg hat hrun

/-- the literal of one element, as a slice -/
theorem lit_one {E : El X} {W : World} {D : Nat → Prop} {x : X} {cs : List Value} {g : Nat} {T : TypeId} (hh : W.heap[g]? = some (.cells cs.toArray T (0, 0))) (h : E.rep W D x cs) :
    SlAt (fun _ => True) [x].length (.slice (some ⟨g, 0, none⟩) 1 1) (fun b o => Row E W D b [x] o) :=
  ⟨_, _, rfl, Nat.le_refl _, by unfold maxLen; omega, fun _ => ⟨g, 0, rfl, trivial, ⟨⟨cs, fun i v hi => by rw [box_cell hh, Nat.zero_add]; simpa using hi, h⟩, trivial⟩⟩⟩

theorem Sl.loose {E : El X} {w : World} {D D' : Nat → Prop} {l : List X} {v : Value} (h : Sl E w D l v) (hD : ∀ b, D b → D' b) : SlAt (fun _ => True) l.length v (fun b o => Row E w D' b l o) :=
  h.mono (fun _ _ => trivial) fun b o hb hr => Row.keep (fun _ _ => rfl) hD l b o hb hr

/-- at the operation, for the walk -/
theorem wpList_append_G {ops : Array Oper} {rest : List Oper} {o : Oper} {a : Act} {Q : Exit → Act → World → Prop} {w : World} (hgd : o.guard = none) (s x : Operand) (t : TypeId)
    (ho : o.op = .call { callee := .builtin .append, args := #[s, x], argTypes := #[t, t] }) (E : El X) (ht : Tryz.prog.underlying t = some (.slice E.ty)) (base : Nat) (D0 : Nat → Prop) (l l2 : List X) (v u : Value) (hs : a.eval s = v) (hx : a.eval x = u)
    (hv : GG E w base D0 v l) (hu : SlAt (fun _ => True) l2.length u (fun b o => Row E w (But D0 w v) b l2 o)) (hlen : l.length + l2.length ≤ maxLen) (hbytes : (l.length + l2.length) * E.bytes ≤ 140737488355328) (hbase : base ≤ w.heap.size)
    (h : ∀ v' w', GG E w' base D0 v' (l ++ l2) → w.grownBy w' v.ownBlock → (v'.ownBlock = v.ownBlock ∨ v'.ownBlock = some w.heap.size) → wpList Tryz.prog ops Q rest (a.put o.dst v') w') :
    wpList Tryz.prog ops Q (o :: rest) a w := by
  refine wpList_plain hgd fun K hK => ?_
  obtain ⟨A, c, w', hr, h2, h3, h4⟩ := GG.append (ty := o.type) ht hv hu hlen hbytes hbase
  unfold Oper.wp execOp
  simp only [ho, resolve, invoke, builtin, Sem.run_bind, Sem.run_pure, Result.andThen_ok, List.map_toArray, List.map_cons, List.map_nil, hs, hx, hr]
  exact hK _ _ (h _ w' h2 h3 h4)

/-- .. at a step of a region that draws its order -/
theorem step_append_G {o : Oper} {a : Act} {K : Act → World → Prop} {Q : Exit → Act → World → Prop} {E0 : Prop} {w : World} {y : Nat → Option Bool} (hgd : o.guard = none) (s x : Operand) (t : TypeId)
    (ho : o.op = .call { callee := .builtin .append, args := #[s, x], argTypes := #[t, t] }) (E : El X) (ht : Tryz.prog.underlying t = some (.slice E.ty)) (base : Nat) (D0 : Nat → Prop) (l l2 : List X) (v u : Value) (hs : a.eval s = v) (hx : a.eval x = u)
    (hv : GG E w base D0 v l) (hu : SlAt (fun _ => True) l2.length u (fun b o => Row E w (But D0 w v) b l2 o)) (hlen : l.length + l2.length ≤ maxLen) (hbytes : (l.length + l2.length) * E.bytes ≤ 140737488355328) (hbase : base ≤ w.heap.size)
    (h : ∀ v' w', GG E w' base D0 v' (l ++ l2) → w.grownBy w' v.ownBlock → (v'.ownBlock = v.ownBlock ∨ v'.ownBlock = some w.heap.size) → K (a.put o.dst v') w') :
    if Region.wanted o y = true then Oper.wp Tryz.prog o a w K Q else E0 := by
  have hw : Region.wanted o y = true := by simp [Region.wanted, hgd]
  rw [if_pos hw]
  obtain ⟨A, c, w', hr, h2, h3, h4⟩ := GG.append (ty := o.type) ht hv hu hlen hbytes hbase
  unfold Oper.wp execOp
  simp only [ho, resolve, invoke, builtin, Sem.run_bind, Sem.run_pure, Result.andThen_ok, List.map_toArray, List.map_cons, List.map_nil, hs, hx, hr]
  exact h _ w' h2 h3 h4

end Go.Proofs.YtfhppajnnbbcjaaGreatDoor
end

section
namespace Go.Proofs.YtfhppajnnbbcjaaGreatDoor
open Go.RowKit

theorem Tryz.info23 : (Tryz.prog.info? 23).map (fun i => (i.zero, i.size, i.bytes)) = some (some (.slice none 0 0), 1, 24) := by kernel_rfl
theorem Tryz.info67 : (Tryz.prog.info? 67).map (fun i => (i.zero, i.size, i.bytes)) = some (some (.agg #[.slice none 0 0, .int .i64 0, .int .i64 0, .string ⟨#[]⟩, .slice none 0 0, .slice none 0 0, .slice none 0 0]), 7, 128) := by kernel_rfl

theorem SRep.one {w : World} {D : Nat → Prop} {a : J} {cs : List Value} (h : SRep w D a cs) : ∀ u ∈ cs, u.oneCell' = true := by
  obtain ⟨A1, c1, A2, c2, A3, c3, rfl⟩ := h.six
  intro u hu
  simp at hu
  rcases hu with rfl | rfl | rfl | rfl | rfl | rfl <;> rfl
theorem SRep.len6 {w : World} {D : Nat → Prop} {a : J} {cs : List Value} (h : SRep w D a cs) : cs.length = 6 := by
  obtain ⟨A1, c1, A2, c2, A3, c3, rfl⟩ := h.six
  rfl

def EJ : El J where
  ty := 26
  size := 6
  bytes := 104
  zero := _
  info := Tryz.info26
  zsize := rfl
  pos := by decide
  rep := fun w D x cs => SRep w D x cs
  len := fun h => h.len6
  one := fun h => h.one
  keep := fun hs hD h => VRep.keep hs hD _ _ h

theorem row_EJ {w : World} {D : Nat → Prop} {b : Nat} : ∀ {l : List J} {o : Nat}, Row EJ w D b l o ↔ VRow w D b (toVL l) o
  | [], _ => Iff.rfl
  | x :: l, o => by
    constructor
    · rintro ⟨⟨cs, hc, hx⟩, hr⟩
      exact ⟨⟨cs, SRep.len6 hx, hc, hx⟩, row_EJ.1 hr⟩
    · rintro ⟨⟨cs, -, hc, hx⟩, hr⟩
      exact ⟨⟨cs, hc, hx⟩, row_EJ.2 hr⟩

theorem slat_congr {D : Nat → Prop} {n : Nat} {v : Value} {R R' : Nat → Nat → Prop} (h : ∀ b o, R b o → R' b o) (hs : SlAt D n v R) : SlAt D n v R' := hs.mono (fun _ h => h) fun b o _ hr => h b o hr

/-- a slice of values -/
abbrev SlJ (w : World) (D : Nat → Prop) (l : List J) (v : Value) : Prop := SlAt D l.length v (fun b o => VRow w D b (toVL l) o)
theorem sl_EJ {w : World} {D : Nat → Prop} {l : List J} {v : Value} : Sl EJ w D l v ↔ SlJ w D l v := ⟨slat_congr fun _ _ => row_EJ.1, slat_congr fun _ _ => row_EJ.2⟩
theorem SlJ.keep {w w' : World} {D D' : Nat → Prop} {l : List J} {v : Value} (h : SlJ w D l v) (hs : Same D w w') (hB : ∀ b, D b → D' b) : SlJ w' D' l v := sl_EJ.1 ((sl_EJ.2 h).keep hs hB)
theorem SlJ.nil (w : World) (D : Nat → Prop) : SlJ w D [] (.slice none 0 0) := sl_EJ.1 (Sl.nil EJ w D)
theorem SlAt.form {D : Nat → Prop} {n : Nat} {v : Value} {R : Nat → Nat → Prop} (h : SlAt D n v R) : ∃ A c, v = .slice A n c := by
  obtain ⟨A, c, hv, -⟩ := h
  exact ⟨A, c, hv⟩

/-- a path -/
def EP : El (List J) where
  ty := 23
  size := 1
  bytes := 24
  zero := _
  info := Tryz.info23
  zsize := rfl
  pos := by decide
  rep := fun w D p cs => ∃ S, cs = [S] ∧ SlJ w D p S
  len := fun ⟨_, h, _⟩ => by rw [h]; rfl
  one := fun ⟨S, h, hS⟩ u hu => by
    obtain ⟨A, c, rfl⟩ := hS.form
    rw [h] at hu
    simp at hu
    subst hu
    rfl
  keep := fun hs hD ⟨S, h, hS⟩ => ⟨S, h, hS.keep hs hD⟩

/-- a path, and what stands there -/
def ES : El (List J × J) where
  ty := 67
  size := 7
  bytes := 128
  zero := _
  info := Tryz.info67
  zsize := rfl
  pos := by decide
  rep := fun w D x cs => ∃ S r, cs = S :: r ∧ SlJ w D x.1 S ∧ SRep w D x.2 r
  len := fun ⟨_, _, h, _, hr⟩ => by rw [h, List.length_cons, hr.len6]
  one := fun ⟨S, r, h, hS, hr⟩ u hu => by
    obtain ⟨A, c, rfl⟩ := hS.form
    rw [h] at hu
    rcases List.mem_cons.1 hu with rfl | hu
    · rfl
    · exact hr.one u hu
  keep := fun hs hD ⟨S, r, h, hS, hr⟩ => ⟨S, r, h, hS.keep hs hD, VRep.keep hs hD _ _ hr⟩

theorem Tryz.under23 : Tryz.prog.underlying 23 = some (.slice EJ.ty) := Tryz.underlying23
theorem Tryz.under41 : Tryz.prog.underlying 41 = some (.slice EP.ty) := Tryz.underlying41
theorem Tryz.under64 : Tryz.prog.underlying 64 = some (.slice ES.ty) := Tryz.underlying64

end Go.Proofs.YtfhppajnnbbcjaaGreatDoor
end

section
namespace Go.Proofs.YtfhppajnnbbcjaaGreatDoor
open Go.RowKit

abbrev zsix : List Value := [.int .i64 0, .int .i64 0, .string ⟨#[]⟩, .slice none 0 0, .slice none 0 0, .slice none 0 0]
theorem zsix_rep (w : World) (D : Nat → Prop) : SRep w D .null zsix :=
  have h : ∀ R : Nat → Nat → Prop, SlAt D 0 (.slice none 0 0) R := fun R => ⟨none, 0, rfl, Nat.le_refl _, by unfold maxLen; omega, fun h => absurd h (by omega)⟩
  ⟨_, _, _, rfl, h _, h _, h _⟩

/-- an answer of the reference: a value and how -/
def SpecPost (j : J) (how : Int) (w : World) (e : Ending) (w' : World) : Prop := ∃ cs, e = .returned (.tuple #[.agg cs.toArray, .int .i64 how]) ∧ SRep w' (Fresh w w') j cs ∧ Below w.heap.size w w'

set_option maxRecDepth 100000 in
set_option maxHeartbeats 1000000 in
/-- a null on either side: silent -/
theorem where_null (nm : ByteArray) (x y : J) (h : x = .null ∨ y = .null) (D : Nat → Prop) (cx cy : List Value) (w : World) (hx : SRep w D x cx) (hy : SRep w D y cy) :
    Calls Tryz.prog 74 #[.string nm, .agg cx.toArray, .agg cy.toArray] w (SpecPost .null 2 w) := by
  obtain ⟨A1, c1, A2, c2, A3, c3, rfl⟩ := SRep.six hx
  obtain ⟨B1, d1, B2, d2, B3, d3, rfl⟩ := SRep.six hy
  have hk : y.kind = 0 ∨ (y.kind == 0) = false ∧ x.kind = 0 := by
    rcases h with rfl | rfl
    · by_cases hy0 : y.kind = 0
      · exact .inl hy0
      · exact .inr ⟨by simp [hy0], rfl⟩
    · exact .inl rfl
  clear hx hy h
  rcases hk with hk | ⟨hk, hk2⟩
  · rw [hk]
    go_enter Tryz.func74, Tryz.ntmps74
    go_wp2_with fail
    refine bodyPost_ret (v := .tuple #[.agg zsix.toArray, .int .i64 2]) (by simp [results, Tryz.results74, go_sem, zsix]) rfl ?_
    refine ⟨zsix, rfl, zsix_rep _ _, ?_⟩
    exact (((Below.refl _ _).alloc (Nat.le_refl _) _).alloc (by simp) _).alloc (by simp; omega) _
  · rw [hk2]
    go_enter Tryz.func74, Tryz.ntmps74
    go_wp2_with fail
    refine bodyPost_ret (v := .tuple #[.agg zsix.toArray, .int .i64 2]) (by simp [results, Tryz.results74, go_sem, zsix]) rfl ?_
    refine ⟨zsix, rfl, zsix_rep _ _, ?_⟩
    exact (((Below.refl _ _).alloc (Nat.le_refl _) _).alloc (by simp) _).alloc (by simp; omega) _

set_option maxRecDepth 100000 in
set_option maxHeartbeats 1000000 in
/-- no list, and not two texts: an error -/
theorem where_raises (nm : ByteArray) (x y : J) (h0 : x.kind ≠ 0) (h1 : y.kind ≠ 0) (h5 : x.kind ≠ 5) (h4 : x.kind ≠ 4 ∨ y.kind ≠ 4) (D : Nat → Prop) (cx cy : List Value) (w : World) (hx : SRep w D x cx) (hy : SRep w D y cy) :
    Calls Tryz.prog 74 #[.string nm, .agg cx.toArray, .agg cy.toArray] w (SpecPost .null 1 w) := by
  obtain ⟨A1, c1, A2, c2, A3, c3, rfl⟩ := SRep.six hx
  obtain ⟨B1, d1, B2, d2, B3, d3, rfl⟩ := SRep.six hy
  have k0 : (x.kind == 0) = false := by simp [h0]
  have k1 : (y.kind == 0) = false := by simp [h1]
  have k5 : (x.kind == 5) = false := by simp [h5]
  have k4 : (x.kind == 4) = false ∨ (x.kind == 4) = true ∧ (y.kind == 4) = false := by
    by_cases h : x.kind = 4
    · exact .inr ⟨by simp [h], by rcases h4 with h' | h' <;> simp_all⟩
    · exact .inl (by simp [h])
  clear hx hy h0 h1 h5 h4
  rcases k4 with k4 | ⟨k4, k4'⟩
  all_goals
    go_enter Tryz.func74, Tryz.ntmps74
    go_wp2_with fail
    refine bodyPost_ret (v := .tuple #[.agg zsix.toArray, .int .i64 1]) (by simp [results, Tryz.results74, go_sem, zsix]) rfl ?_
    refine ⟨zsix, rfl, zsix_rep _ _, ?_⟩
    exact (((Below.refl _ _).alloc (Nat.le_refl _) _).alloc (by simp) _).alloc (by simp; omega) _

set_option maxRecDepth 100000 in
set_option maxHeartbeats 1000000 in
/-- an empty needle, or a text that is not ASCII: silent -/
theorem where_text_silent (nm : ByteArray) (s t : ByteArray) (h : t = noText ∨ asc s = false) (wx : (J.str s).WF) (D : Nat → Prop) (cx cy : List Value) (w : World) (hx : SRep w D (.str s) cx) (hy : SRep w D (.str t) cy) :
    Calls Tryz.prog 74 #[.string nm, .agg cx.toArray, .agg cy.toArray] w (SpecPost .null 2 w) := by
  obtain ⟨A1, c1, A2, c2, A3, c3, rfl⟩ := SRep.six hx
  obtain ⟨B1, d1, B2, d2, B3, d3, rfl⟩ := SRep.six hy
  simp only [J.kind, J.half, J.text, J.list, J.keys, J.vals, List.length_nil]
  have H1 := Lib.hid (fun W => ascii_any s W (by simpa only [J.WF] using wx))
  clear hx hy wx
  by_cases ht : t = noText
  · subst ht
    clear h
    have hE0 : (noText.toList == ([] : List UInt8)) = true := by rw [toList_data]; rfl
    go_enter Tryz.func74, Tryz.ntmps74
    go_wp2_with fail
    refine bodyPost_ret (v := .tuple #[.agg zsix.toArray, .int .i64 2]) (by simp [results, Tryz.results74, go_sem, zsix]) rfl ?_
    refine ⟨zsix, rfl, zsix_rep _ _, ?_⟩
    exact (((Below.refl _ _).alloc (Nat.le_refl _) _).alloc (by simp) _).alloc (by simp; omega) _
  · have ha : asc s = false := h.resolve_left ht
    rw [ha] at H1
    have hE : (t.toList == ([] : List UInt8)) = false := by
      rw [beq_eq_false_iff_ne]
      intro h'
      rw [toList_data] at h'
      exact ht (bytes_ext (by rw [h']; rfl))
    clear h ha ht
    go_enter Tryz.func74, Tryz.ntmps74
    go_wp2_with (go_at_call 122; refine (H1.out _).mono ?_; rintro e w1 ⟨rfl, rfl⟩)
    refine bodyPost_ret (v := .tuple #[.agg zsix.toArray, .int .i64 2]) (by simp [results, Tryz.results74, go_sem, zsix]) rfl ?_
    refine ⟨zsix, rfl, zsix_rep _ _, ?_⟩
    exact (((Below.refl _ _).alloc (Nat.le_refl _) _).alloc (by simp) _).alloc (by simp; omega) _

set_option maxRecDepth 100000 in
set_option maxHeartbeats 1000000 in
/-- an empty list as the needle: silent -/
theorem where_list_silent (nm : ByteArray) (a : List J) (D : Nat → Prop) (cx cy : List Value) (w : World) (hx : SRep w D (.arr a) cx) (hy : SRep w D (.arr []) cy) :
    Calls Tryz.prog 74 #[.string nm, .agg cx.toArray, .agg cy.toArray] w (SpecPost .null 2 w) := by
  obtain ⟨A1, c1, A2, c2, A3, c3, rfl⟩ := SRep.six hx
  obtain ⟨B1, d1, B2, d2, B3, d3, rfl⟩ := SRep.six hy
  simp only [J.kind, J.half, J.text, J.list, J.keys, J.vals, List.length_nil]
  clear hx hy
  go_enter Tryz.func74, Tryz.ntmps74
  go_wp2_with fail
  refine bodyPost_ret (v := .tuple #[.agg zsix.toArray, .int .i64 2]) (by simp [results, Tryz.results74, go_sem, zsix]) rfl ?_
  refine ⟨zsix, rfl, zsix_rep _ _, ?_⟩
  exact (((Below.refl _ _).alloc (Nat.le_refl _) _).alloc (by simp) _).alloc (by simp; omega) _
end Go.Proofs.YtfhppajnnbbcjaaGreatDoor
end

section
namespace Go.Proofs.YtfhppajnnbbcjaaGreatDoor
open Go.RowKit

/-- the numbers of the places at which p holds -/
def hits (p : Nat → Bool) : Nat → List J
  | 0 => []
  | n + 1 => hits p n ++ (if p n then [.num (2 * (n : Int))] else [])

/-- a list in a list -/
def pL (a b : List J) (i : Nat) : Bool := cmpL ((a.drop i).take b.length) b == 0
/-- an element in a list -/
def pE (a : List J) (y : J) (i : Nat) : Bool := match a[i]? with | some z => cmpJ y z == 0 | none => false
/-- a text in a text -/
def pT (s t : ByteArray) (i : Nat) : Bool := decide (i + t.size ≤ s.size) && decide (s.extract i (i + t.size) = t)
theorem pT_iff {s t : ByteArray} {i : Nat} : pT s t i = true ↔ At s t i := by simp [pT, At]

theorem vrow_mk {w : World} {D : Nat → Prop} {b : Nat} : ∀ {l : List J} {o : Nat}, (∀ i x, l[i]? = some x → ∃ cs, cs.length = 6 ∧ (∀ j v, cs[j]? = some v → w.cell? ⟨b, o + i * 6 + j, none⟩ = some v) ∧ SRep w D x cs) → VRow w D b (toVL l) o
  | [], _, _ => trivial
  | a :: l, o, h => ⟨by
      obtain ⟨cs, h1, h2, h3⟩ := h 0 a rfl
      exact ⟨cs, h1, by simpa using h2, h3⟩, vrow_mk fun i x hi => by
      obtain ⟨cs, h1, h2, h3⟩ := h (i + 1) x (by simpa using hi)
      exact ⟨cs, h1, fun j v hj => by have := h2 j v hj; rwa [show o + (i + 1) * 6 + j = o + 6 + i * 6 + j by omega] at this, h3⟩⟩
theorem vrow_sub {w : World} {D : Nat → Prop} {b : Nat} {a : List J} {o : Nat} (h : VRow w D b (toVL a) o) (k m : Nat) : VRow w D b (toVL ((a.drop k).take m)) (o + k * 6) :=
  vrow_mk fun i x hi => by
    have hx : a[k + i]? = some x := by
      rw [List.getElem?_take] at hi
      split at hi
      · rwa [List.getElem?_drop] at hi
      · cases hi
    obtain ⟨cs, h1, h2, h3⟩ := VRow.get (i := k + i) h (toVL_get hx)
    exact ⟨cs, h1, fun j v hj => by have := h2 j v hj; rwa [show o + (k + i) * 6 + j = o + k * 6 + i * 6 + j by omega] at this, h3⟩
theorem WFL_take {a : List J} (h : WFL a) (i m : Nat) : WFL ((a.drop i).take m) := WFL_iff.2 fun x hx => WFL_iff.1 h x (List.mem_of_mem_drop (List.mem_of_mem_take hx))

theorem hits_length (p : Nat → Bool) : ∀ n, (hits p n).length ≤ n
  | 0 => by simp [hits]
  | n + 1 => by
    have := hits_length p n
    unfold hits
    split <;> simp <;> omega

/-- the call's own blocks: the two boxes, the answer's cell; the list that grows lies behind them -/
def WRel (ks : List J) (w : World) (c1 c2 : Array Value) (v : Value) (wr : World) : Prop :=
  Below w.heap.size w wr ∧ wr.heap[w.heap.size]? = some (.cells c1 26 (0, 0)) ∧ wr.heap[w.heap.size + 1]? = some (.cells c2 26 (0, 0)) ∧ wr.heap[w.heap.size + 2]? = some (.cells zsix.toArray 26 (0, 0)) ∧
    GG EJ wr (w.heap.size + 3) (fun b => w.heap.size + 3 ≤ b) v ks

theorem WRel.mono {ks : List J} {w : World} {c1 c2 : Array Value} {v : Value} {wr w1 : World} (h : WRel ks w c1 c2 v wr) (hb : Below wr.heap.size wr w1) : WRel ks w c1 c2 v w1 := by
  obtain ⟨h1, h2, h3, h4, h5⟩ := h
  exact ⟨h1.trans (hb.mono h1.size), (hb.block _ (box_lt h2)).trans h2, (hb.block _ (box_lt h3)).trans h3, (hb.block _ (box_lt h4)).trans h4, h5.below hb⟩

theorem WRel.step {ks : List J} {w : World} {c1 c2 : Array Value} {v : Value} {wr w1 : World} {x : J} {ys : List Value} (h : WRel ks w c1 c2 v wr) (hb : Below wr.heap.size wr w1)
    (hx : ∀ W D, SRep W D x ys) : GG EJ (w1.alloc (.cells ys.toArray 26)) (w.heap.size + 3) (fun b => w.heap.size + 3 ≤ b) v ks ∧
      SlAt (fun _ => True) [x].length (.slice (some ⟨w1.heap.size, 0, none⟩) 1 1) (fun b o => Row EJ (w1.alloc (.cells ys.toArray 26)) (But (fun b => w.heap.size + 3 ≤ b) (w1.alloc (.cells ys.toArray 26)) v) b [x] o) ∧ w.heap.size + 3 ≤ (w1.alloc (.cells ys.toArray 26)).heap.size :=
  ⟨(h.2.2.2.2.below hb).below ((Below.refl _ _).alloc (Nat.le_refl _) _), lit_one (E := EJ) (heap_alloc_new w1 _) (hx _ _), by have := hb.size; have := box_lt h.2.2.2.1; simp; omega⟩

theorem WRel.grow {ks : List J} {w : World} {c1 c2 : Array Value} {v : Value} {wr w1 w2 : World} {x : J} {ys : List Value} {v' : Value} (h : WRel ks w c1 c2 v wr) (hb : Below wr.heap.size wr w1)
    (hg : GG EJ w2 (w.heap.size + 3) (fun b => w.heap.size + 3 ≤ b) v' (ks ++ [x])) (hgb : (w1.alloc (.cells ys.toArray 26)).grownBy w2 v.ownBlock) : WRel (ks ++ [x]) w c1 c2 v' w2 := by
  obtain ⟨h1, h2, h3, h4, h5⟩ := h
  have l2 := box_lt h2
  have l3 := box_lt h3
  have l4 := box_lt h4
  have hs := hb.size
  have ho : ∀ g, v.ownBlock = some g → w.heap.size + 3 ≤ g := fun g hg' => (h5.own_lt g hg').1
  refine ⟨((h1.trans (hb.mono h1.size)).alloc (by omega) _).grown hgb (by simp; omega) (fun g hg' => by have := ho g hg'; omega), ?_, ?_, ?_, hg⟩
  · exact (hgb.block _ (by simp; omega) (fun e => by have := ho _ e.symm; omega)).trans ((Below.heap_alloc _ _ _ (by omega)).trans ((hb.block _ l2).trans h2))
  · exact (hgb.block _ (by simp; omega) (fun e => by have := ho _ e.symm; omega)).trans ((Below.heap_alloc _ _ _ (by omega)).trans ((hb.block _ l3).trans h3))
  · exact (hgb.block _ (by simp; omega) (fun e => by have := ho _ e.symm; omega)).trans ((Below.heap_alloc _ _ _ (by omega)).trans ((hb.block _ l4).trans h4))
end Go.Proofs.YtfhppajnnbbcjaaGreatDoor
end

section
namespace Go.Proofs.YtfhppajnnbbcjaaGreatDoor
open Go.RowKit

theorem WRel.start (w : World) (csx csy : Array Value) : WRel [] w csx csy (.slice none 0 0) (((w.alloc (.cells csx 26)).alloc (.cells csy 26)).alloc (.cells zsix.toArray 26)) := by
  refine ⟨(((Below.refl _ _).alloc (Nat.le_refl _) _).alloc (by simp) _).alloc (by simp; omega) _, ?_, ?_, ?_, GG.nil _ _ _ _⟩
  · exact (Below.heap_alloc _ _ _ (by simp; omega)).trans ((Below.heap_alloc _ _ _ (by simp)).trans (heap_alloc_new w _))
  · exact (Below.heap_alloc _ _ _ (by simp)).trans (heap_alloc_new1 w _ _)
  · have := heap_alloc_new ((w.alloc (.cells csx 26)).alloc (.cells csy 26)) (.cells zsix.toArray 26)
    rwa [World.size_alloc, World.size_alloc] at this

theorem srep_num (w : World) (D : Nat → Prop) (h : Int) : SRep w D (.num h) [.int .i64 3, .int .i64 h, .string noText, .slice none 0 0, .slice none 0 0, .slice none 0 0] :=
  have e : ∀ R : Nat → Nat → Prop, SlAt D 0 (.slice none 0 0) R := fun R => ⟨none, 0, rfl, Nat.le_refl _, by unfold maxLen; omega, fun h => absurd h (by omega)⟩
  ⟨_, _, _, rfl, e _, e _, e _⟩

/-- what is answered: the first or the last of some places, or null -/
def wAns (fs : Bool) (l : List J) : J := (if fs then l[0]? else l[l.length - 1]?).getD .null

theorem spec_set {w wr W' : World} {j : J} {cs : List Value} (hr : SRep wr (fun b => w.heap.size + 3 ≤ b ∧ b < wr.heap.size) j cs) (hs : W'.heap.size = wr.heap.size) (hk : ∀ b, b ≠ w.heap.size + 1 + 1 → W'.heap[b]? = wr.heap[b]?)
    (hb : Below w.heap.size w W') {j' : J} (e : j' = j) : SpecPost j' 0 w (.returned (.tuple #[.agg cs.toArray, .int .i64 0])) W' := by
  subst e
  exact ⟨cs, rfl, VRep.keep (fun b hb => hk b (by omega)) (fun b hb => ⟨by omega, by omega⟩) _ _ hr, hb⟩

set_option maxRecDepth 100000 in
set_option maxHeartbeats 2000000 in
theorem where_elem (nm : ByteArray) (fs : Bool) (n1 : (nm.toList == [105, 110, 100, 105, 99, 101, 115]) = false) (n2 : (nm.toList == [105, 110, 100, 101, 120]) = fs) (a : List J) (y : J) (h0 : y.kind ≠ 0) (h5 : y.kind ≠ 5) (D : Nat → Prop) (cx cy : List Value) (w : World) (wx : (J.arr a).WF) (wy : y.WF) (hD : ∀ b, D b → All w b) (hx : SRep w D (.arr a) cx) (hy : SRep w D y cy) :
    Calls Tryz.prog 74 #[.string nm, .agg cx.toArray, .agg cy.toArray] w (SpecPost (wAns fs (hits (pE a y) a.length)) 0 w) := by
  obtain ⟨L, K, S, rfl, hL, hK, hS⟩ := hx.cells
  obtain ⟨A2, c2, rfl⟩ := hK.form
  obtain ⟨A3, c3, rfl⟩ := hS.form
  have hL0 := hL
  obtain ⟨A1, c1, rfl, hc1, hm1, hr1⟩ := hL
  have hy' := hy
  obtain ⟨B1, d1, B2, d2, B3, d3, rfl⟩ := SRep.six hy
  have k0 : (y.kind == 0) = false := by simp [h0]
  have k5 : (y.kind == 5) = false := by simp [h5]
  obtain ⟨p, hp⟩ : ∃ p : Nat → Bool, p = pE a y := ⟨_, rfl⟩
  rw [← hp]
  have HP := Lib.hid hp
  clear hp
  obtain ⟨yk, hyk⟩ : ∃ z, y.kind = z := ⟨_, rfl⟩
  obtain ⟨yh, hyh⟩ : ∃ z, y.half = z := ⟨_, rfl⟩
  obtain ⟨yt, hyt⟩ : ∃ z, y.text = z := ⟨_, rfl⟩
  obtain ⟨yl, hyl⟩ : ∃ z, y.list.length = z := ⟨_, rfl⟩
  obtain ⟨yks, hyks⟩ : ∃ z, y.keys.length = z := ⟨_, rfl⟩
  obtain ⟨yv, hyv⟩ : ∃ z, y.vals.length = z := ⟨_, rfl⟩
  rw [hyk] at h0 h5 k0 k5
  rw [hyk, hyh, hyt, hyl, hyks, hyv] at hy hy' ⊢
  change SlAt D a.length _ _ at hL0
  obtain ⟨csx, hcsx⟩ : ∃ cs : Array Value, #[Value.int .i64 5, .int .i64 0, .string noText, .slice A1 a.length c1, .slice A2 0 c2, .slice A3 0 c3] = cs := ⟨_, rfl⟩
  obtain ⟨csy, hcsy⟩ : ∃ cs : Array Value, #[Value.int .i64 yk, .int .i64 yh, .string yt, .slice B1 yl d1, .slice B2 yks d2, .slice B3 yv d3] = cs := ⟨_, rfl⟩
  have HW := Lib.hid (And.intro hr1 (And.intro wx (And.intro wy (And.intro hD (And.intro hy' (And.intro hcsx hcsy))))))
  clear hL0 hx hy hK hS h0 h5 hyk hyh hyt hyl hyks hyv hr1 wx wy hD hy' hcsx hcsy
  unfold maxLen at hm1
  have hz0 : (((w.alloc (.cells #[.int .i64 5, .int .i64 0, .string noText, .slice A1 a.length c1, .slice A2 0 c2, .slice A3 0 c3] 26)).alloc (.cells #[.int .i64 yk, .int .i64 yh, .string yt, .slice B1 yl d1, .slice B2 yks d2, .slice B3 yv d3] 26)).alloc (.cells #[.int .i64 0, .int .i64 0, .string ⟨#[]⟩, .slice none 0 0, .slice none 0 0, .slice none 0 0] 26)) = (((w.alloc (.cells csx 26)).alloc (.cells csy 26)).alloc (.cells zsix.toArray 26)) := by rw [← HW.out.2.2.2.2.2.1, ← HW.out.2.2.2.2.2.2]
  obtain ⟨W0, hW1⟩ : ∃ W, (((w.alloc (.cells #[.int .i64 5, .int .i64 0, .string noText, .slice A1 a.length c1, .slice A2 0 c2, .slice A3 0 c3] 26)).alloc (.cells #[.int .i64 yk, .int .i64 yh, .string yt, .slice B1 yl d1, .slice B2 yks d2, .slice B3 yv d3] 26)).alloc (.cells #[.int .i64 0, .int .i64 0, .string ⟨#[]⟩, .slice none 0 0, .slice none 0 0, .slice none 0 0] 26)) = W := ⟨_, rfl⟩
  have HR0 := Lib.hid (show WRel [] w csx csy (.slice none 0 0) W0 by rw [← hW1, hz0]; exact WRel.start w csx csy)
  have hW0 := Lib.hid hW1
  clear hz0 hW1
  change Calls Tryz.prog 74 #[.string nm, .agg #[.int .i64 5, .int .i64 0, .string noText, .slice A1 a.length c1, .slice A2 0 c2, .slice A3 0 c3], .agg #[.int .i64 yk, .int .i64 yh, .string yt, .slice B1 yl d1, .slice B2 yks d2, .slice B3 yv d3]] w _
  have hla : a.length ≤ 1048576 := HW.out.2.1.1
  go_enter Tryz.func74, Tryz.ntmps74
  go_wp2_with fail
  rw [hW0.out]
  clear hW0
  go_loopw [8, 112] (fun v i wr => ∃ (k : Nat) (v0 : Value), v0 = v ∧ k ≤ a.length ∧ i = .int .i64 k ∧ Hid (WRel (hits p k) w csx csy v0 wr)) (fun _ i _ => a.length - (intOf i).toNat)
  case atStart => exact ⟨0, _, rfl, Nat.zero_le _, rfl, HR0⟩
  case round =>
    obtain ⟨k, v, rfl, hk, rfl, hR⟩ := hrel
    by_cases ha : k < a.length
    · obtain ⟨hr1, wx, wy, hD, hy', hcsx, hcsy⟩ := HW.out
      obtain ⟨b1, o1, rfl, hlt1, hs1⟩ := hr1 (by show 0 < a.length; omega)
      have hbw := hR.out.1
      have hz : a[k]? = some a[k] := List.getElem?_eq_getElem ha
      obtain ⟨cs1, hl1, hg1, hv1⟩ := (VRow.keep (Same.of_below hbw hD) (fun _ h => h) _ _ _ hlt1 hs1).get (toVL_get hz)
      have hDr : ∀ b, D b → b < wr.heap.size := fun b hb => Nat.lt_of_lt_of_le (hD b hb) hbw.size
      have HC := Lib.hid (fun W (hW : Below wr.heap.size wr W) => same_any y a[k] D _ cs1 W wy (WFL_iff.1 wx.2 _ (List.getElem_mem _)) (fun b hb => Nat.lt_of_lt_of_le (hDr b hb) hW.size)
        (VRep.keep (Same.of_below (hbw.trans (hW.mono hbw.size)) hD) (fun _ h => h) _ _ hy') (VRep.keep (Same.of_below hW hDr) (fun _ h => h) _ _ hv1))
      obtain ⟨E1, e1, E2, e2, E3, e3, rfl⟩ := SRep.six hv1
      obtain ⟨z, hzz⟩ : ∃ z, a[k] = z := ⟨_, rfl⟩
      rw [hzz] at HC hg1 hv1 hz
      have HZ := Lib.hid (And.intro hz hv1)
      have p0 : wr.cell? ⟨b1, o1 + k * 6, none⟩ = _ := hg1 0 _ rfl
      have p1 := hg1 1 _ rfl
      have p2 := hg1 2 _ rfl
      have p3 := hg1 3 _ rfl
      have p4 := hg1 4 _ rfl
      have p5 := hg1 5 _ rfl
      have hbx := hR.out.2.2.1
      rw [← hcsy] at hbx
      have q0 : wr.cell? ⟨w.heap.size + 1, 0, none⟩ = _ := box_cell hbx 0
      have q1 : wr.cell? ⟨w.heap.size + 1, 1, none⟩ = _ := box_cell hbx 1
      have q2 : wr.cell? ⟨w.heap.size + 1, 2, none⟩ = _ := box_cell hbx 2
      have q3 : wr.cell? ⟨w.heap.size + 1, 3, none⟩ = _ := box_cell hbx 3
      have q4 : wr.cell? ⟨w.heap.size + 1, 4, none⟩ = _ := box_cell hbx 4
      have q5 : wr.cell? ⟨w.heap.size + 1, 5, none⟩ = _ := box_cell hbx 5
      have hlt := box_lt hbx
      clear hbx hz hzz hv1 hg1 hDr hbw hs1 hlt1 wx wy hD hy' hr1 hcsx hcsy
      obtain ⟨ok, hok⟩ : ∃ ok, (cmpJ y z == 0) = ok := ⟨_, rfl⟩
      rw [hok] at HC
      have HOK := Lib.hid (show p k = ok by rw [HP.out]; unfold pE; simp only [HZ.out.1]; exact hok)
      clear hok
      go_wp2_with fail
      refine (HC.out _ ((Below.refl _ _).alloc (Nat.le_refl _) _)).mono ?_
      clear HC
      rintro e w1 ⟨rfl, hb1⟩
      have HR1 := Lib.hid (hR.out.mono (((Below.refl _ _).alloc (Nat.le_refl _) _).trans (hb1.mono (by simp))))
      clear hR hb1 p0 p1 p2 p3 p4 p5 q0 q1 q2 q3 q4 q5 HZ
      cases ok
      · go_wp2_with fail
        have HK := Lib.hid (show WRel (hits p (k + 1)) w csx csy v w1 by
          unfold hits; rw [HOK.out]; simpa using HR1.out)
        clear HR1 HOK
        go_roundw
        case rel => exact ⟨k + 1, v, rfl, by omega, by go_num, HK⟩
        case measure => simp [intOf]; omega
      · go_wp2_with fail
        refine (Num_any k _ (by omega) (by omega)).mono ?_
        rintro e w2 ⟨rfl, hb2⟩
        have hhl := hits_length p k
        have HST := Lib.hid (HR1.out.step hb2 (x := .num (2 * (k : Int))) (fun W D => srep_num W D _))
        have HB2 := Lib.hid hb2
        clear hb2
        go_wp2_with (at_builtin; refine wpList_append_G rfl (.tmp 120) (.tmp 123) 23 rfl EJ Tryz.under23 (w.heap.size + 3) _ (hits p k) [.num (2 * (k : Int))] v _ rfl rfl HST.out.1 HST.out.2.1 ?c1 ?c2 HST.out.2.2 ?_)
        case c1 => simp [maxLen]; omega
        case c2 => simp [EJ]; omega
        intro v' w3 hg hgb _
        have HK := Lib.hid (show WRel (hits p (k + 1)) w csx csy v' w3 by
          unfold hits; rw [HOK.out]; exact HR1.out.grow HB2.out hg hgb)
        clear hg hgb HST HB2 HR1 HOK hhl
        go_wp2_with fail
        go_roundw
        case rel => exact ⟨k + 1, v', rfl, by omega, by go_num, HK⟩
        case measure => simp [intOf]; omega
    · have hk' : k = a.length := by omega
      subst hk'
      obtain ⟨A, c, hvs⟩ := hR.out.2.2.2.2.form
      subst hvs
      have hhl := hits_length p a.length
      obtain ⟨l, hl⟩ : ∃ l, hits p a.length = l := ⟨_, rfl⟩
      rw [hl] at hR hhl ⊢
      have HL := Lib.hid hl
      have hbx := hR.out.2.2.2.1
      have r0 : wr.cell? ⟨w.heap.size + 1 + 1, 0, none⟩ = _ := box_cell hbx 0
      have r1 : wr.cell? ⟨w.heap.size + 1 + 1, 1, none⟩ = _ := box_cell hbx 1
      have r2 : wr.cell? ⟨w.heap.size + 1 + 1, 2, none⟩ = _ := box_cell hbx 2
      have r3 : wr.cell? ⟨w.heap.size + 1 + 1, 3, none⟩ = _ := box_cell hbx 3
      have r4 : wr.cell? ⟨w.heap.size + 1 + 1, 4, none⟩ = _ := box_cell hbx 4
      have r5 : wr.cell? ⟨w.heap.size + 1 + 1, 5, none⟩ = _ := box_cell hbx 5
      have fz := box_frozen hbx
      have hlt := box_lt hbx
      clear hbx
      cases l with
      | nil =>
        simp only [List.length_nil]
        go_wp2_with fail
        refine bodyPost_ret (v := .tuple #[.agg zsix.toArray, .int .i64 0]) (by simp [results, Tryz.results74, go_sem, zsix, r0, r1, r2, r3, r4, r5]) rfl ?_
        refine spec_set (zsix_rep wr _) (by simp [World.setCell]) (fun b hb => by iterate 6 rw [heap_setCell_other _ _ _ _ hb]) (by
          repeat (refine Below.setCell ?_ (by simp; omega) _)
          exact hR.out.1) ?_
        rw [HL.out]; cases fs <;> rfl
      | cons b0 l0 =>
        obtain ⟨m, hm⟩ : ∃ m, (b0 :: l0).length = m + 1 := ⟨l0.length, rfl⟩
        rw [hm] at hhl ⊢
        have HM := Lib.hid hm
        have hsl := hR.out.2.2.2.2.sl (D := fun b => w.heap.size + 3 ≤ b ∧ b < wr.heap.size) (fun b h1 h2 => ⟨h1, h2⟩) (fun b h1 h2 => ⟨h1, h2⟩)
        obtain ⟨A', c', he, -, -, hr⟩ := hsl
        obtain ⟨b, o, hA, hb, hrow⟩ := hr (by simp)
        rw [hA] at he
        obtain ⟨rfl, -, rfl⟩ := Value.slice.inj he
        have HROW := Lib.hid (And.intro hb hrow)
        clear hl hm he hr hA hb hrow
        cases fs
        · obtain ⟨cs, hcs, hrep⟩ := Row.get (i := m) HROW.out.2 (x := (b0 :: l0)[m]'(by rw [HM.out]; omega)) (List.getElem?_eq_getElem _)
          simp only [EJ] at hcs hrep
          obtain ⟨j, hj⟩ : ∃ j, (b0 :: l0)[m]'(by rw [HM.out]; omega) = j := ⟨_, rfl⟩
          rw [hj] at hrep
          have HJ := Lib.hid (And.intro hj hrep)
          obtain ⟨E1, e1, E2, e2, E3, e3, rfl⟩ := SRep.six hrep
          have s0 : wr.cell? ⟨b, o + m * 6, none⟩ = _ := hcs 0 _ rfl
          have s1 := hcs 1 _ rfl
          have s2 := hcs 2 _ rfl
          have s3 := hcs 3 _ rfl
          have s4 := hcs 4 _ rfl
          have s5 := hcs 5 _ rfl
          clear hj hrep hcs
          go_wp2_with fail
          refine bodyPost_ret (v := .tuple #[.agg #[.int .i64 j.kind, .int .i64 j.half, .string j.text, .slice E1 j.list.length e1, .slice E2 j.keys.length e2, .slice E3 j.vals.length e3], .int .i64 0]) (by simp [results, Tryz.results74, go_sem, r0, r1, r2, r3, r4, r5]) rfl ?_
          refine spec_set HJ.out.2 (by simp [World.setCell]) (fun b hb => by iterate 6 rw [heap_setCell_other _ _ _ _ hb]) (by
          repeat (refine Below.setCell ?_ (by simp; omega) _)
          exact hR.out.1) ?_
          rw [HL.out]
          unfold wAns
          rw [HM.out]
          simp only [Bool.false_eq_true, if_false, Nat.add_sub_cancel]
          rw [List.getElem?_eq_getElem (by rw [HM.out]; omega), HJ.out.1]
          rfl
        · obtain ⟨cs, hcs, hrep⟩ := Row.get (i := 0) HROW.out.2 (x := (b0 :: l0)[0]'(by rw [HM.out]; omega)) (List.getElem?_eq_getElem _)
          simp only [EJ] at hcs hrep
          simp only [Nat.zero_mul, Nat.add_zero] at hcs
          obtain ⟨j, hj⟩ : ∃ j, (b0 :: l0)[0]'(by rw [HM.out]; omega) = j := ⟨_, rfl⟩
          rw [hj] at hrep
          have HJ := Lib.hid (And.intro hj hrep)
          obtain ⟨E1, e1, E2, e2, E3, e3, rfl⟩ := SRep.six hrep
          have s0 : wr.cell? ⟨b, o, none⟩ = _ := hcs 0 _ rfl
          have s1 := hcs 1 _ rfl
          have s2 := hcs 2 _ rfl
          have s3 := hcs 3 _ rfl
          have s4 := hcs 4 _ rfl
          have s5 := hcs 5 _ rfl
          clear hj hrep hcs
          go_wp2_with fail
          refine bodyPost_ret (v := .tuple #[.agg #[.int .i64 j.kind, .int .i64 j.half, .string j.text, .slice E1 j.list.length e1, .slice E2 j.keys.length e2, .slice E3 j.vals.length e3], .int .i64 0]) (by simp [results, Tryz.results74, go_sem, r0, r1, r2, r3, r4, r5]) rfl ?_
          refine spec_set HJ.out.2 (by simp [World.setCell]) (fun b hb => by iterate 6 rw [heap_setCell_other _ _ _ _ hb]) (by
          repeat (refine Below.setCell ?_ (by simp; omega) _)
          exact hR.out.1) ?_
          rw [HL.out, ← HJ.out.1]
          rfl
end Go.Proofs.YtfhppajnnbbcjaaGreatDoor
end
