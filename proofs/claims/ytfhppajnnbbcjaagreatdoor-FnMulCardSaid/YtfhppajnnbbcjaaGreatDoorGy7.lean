/- A region that draws its order and whose last stores turn cells that its loads read: a load may be taken first while a store that waits for it has not come up.
   The state of impl.mapFromGo's loop, as a relation on worlds.
   slices.Sorted(maps.Keys(m)) at this program: the shelf's contracts, laid by its own program in plain words; then the keys of a map, sorted. -/
import Derived.OrdersHeld
import Derived.Lib.Hide
import Derived.Deep.RegionLaw
import Derived.Maps.AppendAt
import Derived.Test.YtfhppajnnbbcjaaGreatDoorGy2
import Derived.Test.YtfhppajnnbbcjaaGreatDoorGy5
import Derived.Shelf.SlIter.Nil
import Derived.Shelf.SortM.Plain
import Derived.Shelf.SortM.SortNone
import Derived.Ground.GgzProg
import Derived.Ground.SlgmProg

section
namespace Go.Proofs.YtfhppajnnbbcjaaGreatDoor
open Go

section
variable {P : Program} {ops : Array Oper} {Q : Exit → Act → World → Prop} {md : Region.Mode} {S : Bool → World → Prop}

/-- whatever order is picked from here on; behind every operation S holds, of the mark whether number st has come up -/
def wpAnyQ (P : Program) (md : Region.Mode) (ops : Array Oper) (Q : Exit → Act → World → Prop) (S : Bool → World → Prop) (st : Nat) : Nat → Array Bool → Act → World → Prop
  | 0, listed, a, w => Region.ready md ops listed = [] ∧ Q .normal a w
  | fuel + 1, listed, a, w =>
    (Region.ready md ops listed = [] → Q .normal a w) ∧
    ∀ i ∈ Region.ready md ops listed, wpOp P ops Q i (fun a' w' => S ((listed.setIfInBounds i true).getD st true) w' ∧ wpAnyQ P md ops Q S st fuel (listed.setIfInBounds i true) a' w') a w

theorem wpAny_of_late {st : Nat} : ∀ (fuel : Nat) (listed : Array Bool) (a : Act) (w : World), wpAnyQ P md ops Q S st fuel listed a w → wpAny P md ops Q fuel listed a w
  | 0, _, _, _, h => h
  | fuel + 1, _, _, _, h => ⟨h.1, fun i hi => wpOp_mono (fun a' w' h' => wpAny_of_late fuel _ a' w' h'.2) (h.2 i hi)⟩

/-- number j waits for number i -/
def waits (md : Region.Mode) (ops : Array Oper) (j i : Nat) : Bool := match ops[j]? with
  | some o => o.after.any fun e => Region.binds md e && e.on == i
  | none => true

theorem wpAnyQ_first {i st : Nat} {oi : Oper} {v : Value} {S0 : World → Prop} (hi : ops[i]? = some oi) (hsel : ∀ (j : Nat) (o : Oper) cs b, ops[j]? = some o → o.op ≠ .select cs b)
    (hQ : ∀ c a w, Q (.panic c) (a.put oi.dst v) w → Q (.panic c) a w) (hist : i ≠ st) :
    ∀ (fuel : Nat) (listed : Array Bool) (a : Act) (w : World), (waits md ops st i = true ∧ listed.getD st true = false ∧ S0 = S false) ∨ (∀ b w, S b w → S0 w) →
      (∀ j oj, ops[j]? = some oj → j ≠ i → listed.getD j true = false → (∀ e ∈ oj.after, Region.binds md e = true → e.on ≠ i) → oi.apart ops oj = true) →
      i ∈ Region.ready md ops listed → YieldsIf P ops S0 oi v a → S (listed.getD st true) w →
      wpAnyQ P md ops Q S st fuel (listed.setIfInBounds i true) (a.put oi.dst v) w → wpAnyQ P md ops Q S st (fuel + 1) listed a w := by
  have hS0 : ∀ {listed : Array Bool} {w : World}, (waits md ops st i = true ∧ listed.getD st true = false ∧ S0 = S false) ∨ (∀ b w, S b w → S0 w) → S (listed.getD st true) w → S0 w := by
    intro listed w hc hS
    rcases hc with ⟨-, h1, rfl⟩ | h1
    · rwa [h1] at hS
    · exact h1 _ _ hS
  intro fuel
  induction fuel with
  | zero =>
    intro listed a w hc _ hr hy hS H
    refine ⟨fun h => (by rw [h] at hr; cases hr), fun j hj => ?_⟩
    by_cases hji : j = i
    · subst hji; exact hy.wpOp hi (hS0 hc hS) ⟨by rw [getD_set_ne true hist]; exact hS, H⟩
    · have := ready_mono hj hji
      rw [H.1] at this
      cases this
  | succ fuel ih =>
    intro listed a w hc hfree hr hy hS H
    refine ⟨fun h => (by rw [h] at hr; cases hr), fun j hj => ?_⟩
    by_cases hji : j = i
    · subst hji; exact hy.wpOp hi (hS0 hc hS) ⟨by rw [getD_set_ne true hist]; exact hS, H⟩
    · have h1 := H.2 j (ready_mono hj hji)
      obtain ⟨hjun, oj, hoj, hall⟩ := mem_ready.1 hj
      have hnot : ∀ e ∈ oj.after, Region.binds md e = true → e.on ≠ i := fun e he hb heq => by
        have h1 := hall e he hb
        have h0 := (mem_ready.1 hr).1
        rw [heq] at h1
        rcases Nat.lt_or_ge i listed.size with h' | h'
        · simp [h'] at h0 h1; rw [h0] at h1; cases h1
        · simp [Array.getElem?_eq_none h'] at h1
      have h2 := wpOp_putIf hoj (hfree j oj hoj hji hjun hnot) (fun cs b => hsel i oi cs b hi) (fun cs b => hsel j oj cs b hoj) hQ hy h1
      have hfree' : ∀ k ok, ops[k]? = some ok → k ≠ i → (listed.setIfInBounds j true).getD k true = false →
          (∀ e ∈ ok.after, Region.binds md e = true → e.on ≠ i) → oi.apart ops ok = true := fun k ok hk hki hun hno => by
        refine hfree k ok hk hki ?_ hno
        by_cases hjk : j = k
        · subst hjk; exact hjun
        · rw [getD_set_ne true hjk] at hun; exact hun
      have hc' : (waits md ops st i = true ∧ (listed.setIfInBounds j true).getD st true = false ∧ S0 = S false) ∨ (∀ b w, S b w → S0 w) := by
        rcases hc with ⟨hst, hun, e0⟩ | hc
        · refine .inl ⟨hst, ?_, e0⟩
          rw [getD_set_ne true ?_]
          · exact hun
          · intro e
            subst e
            unfold waits at hst
            rw [hoj] at hst
            simp only [Array.any_eq_true', Bool.and_eq_true, beq_iff_eq] at hst
            obtain ⟨e, he, h1, h2⟩ := hst
            exact hnot e (by simpa using he) h1 h2
        · exact .inr hc
      refine wpOp_mono (fun a' w' h3 => ?_) h2
      have hS' : S ((listed.setIfInBounds j true).getD st true) w' := by
        have := h3.2.1
        rwa [Array.setIfInBounds_comm _ _ (Ne.symm hji), getD_set_ne true hist] at this
      refine ⟨hS', ih (listed.setIfInBounds j true) a' w' hc' hfree' (ready_mono hr (Ne.symm hji)) h3.1 hS' ?_⟩
      rw [Array.setIfInBounds_comm _ _ hji]
      exact h3.2.2

/-- take number i first: what it reads holds as long as st, which waits for it, has not come up -/
theorem wpAnyQ_take {i st : Nat} {oi : Oper} {v : Value} {fuel : Nat} {listed : Array Bool} {a : Act} {w : World} (hi : ops[i]? = some oi)
    (hs : Region.noSelect ops = true) (hst : (waits md ops st i && !(i == st) && !(listed.getD st true)) = true) (hf : Region.free md ops listed i = true) (hr : (Region.ready md ops listed).contains i = true)
    (hQ : ∀ c a w, Q (.panic c) (a.put oi.dst v) w → Q (.panic c) a w) (hy : YieldsIf P ops (S false) oi v a) (hS : S false w)
    (h : wpAnyQ P md ops Q S st fuel (listed.setIfInBounds i true) (a.put oi.dst v) w) : wpAnyQ P md ops Q S st (fuel + 1) listed a w := by
  simp only [Bool.and_eq_true, Bool.not_eq_true', beq_eq_false_iff_ne] at hst
  refine wpAnyQ_first hi (Region.noSelect_spec hs) hQ hst.1.2 fuel listed a w (.inl ⟨hst.1.1, hst.2, rfl⟩) (Region.free_spec hi hf) (by simpa using hr) hy ?_ h
  rw [hst.2]; exact hS

/-- .. what it reads holds in every world -/
theorem wpAnyQ_take' {i st : Nat} {oi : Oper} {v : Value} {fuel : Nat} {listed : Array Bool} {a : Act} {w : World} {S0 : World → Prop} (hS0 : ∀ b w, S b w → S0 w) (hi : ops[i]? = some oi)
    (hs : Region.noSelect ops = true) (hst : (!(i == st) && !(listed.getD st true)) = true) (hf : Region.free md ops listed i = true) (hr : (Region.ready md ops listed).contains i = true)
    (hQ : ∀ c a w, Q (.panic c) (a.put oi.dst v) w → Q (.panic c) a w) (hy : YieldsIf P ops S0 oi v a) (hS : S false w)
    (h : wpAnyQ P md ops Q S st fuel (listed.setIfInBounds i true) (a.put oi.dst v) w) : wpAnyQ P md ops Q S st (fuel + 1) listed a w := by
  simp only [Bool.and_eq_true, Bool.not_eq_true', beq_eq_false_iff_ne] at hst
  refine wpAnyQ_first hi (Region.noSelect_spec hs) hQ hst.1 fuel listed a w (.inr hS0) (Region.free_spec hi hf) (by simpa using hr) hy ?_ h
  rw [hst.2]; exact hS

/-- the one that may come up -/
theorem wpAnyQ_all {st : Nat} {rs : List Nat} {fuel : Nat} {listed : Array Bool} {a : Act} {w : World} (hr : Region.ready md ops listed = rs) (hne : rs ≠ [])
    (h : ∀ i ∈ rs, wpOp P ops Q i (fun a' w' => S ((listed.setIfInBounds i true).getD st true) w' ∧ wpAnyQ P md ops Q S st fuel (listed.setIfInBounds i true) a' w') a w) : wpAnyQ P md ops Q S st (fuel + 1) listed a w :=
  ⟨fun h0 => absurd (hr ▸ h0) hne, hr ▸ h⟩

theorem wpAnyQ_done {st : Nat} {listed : Array Bool} {a : Act} {w : World} (hr : Region.ready md ops listed = []) (h : Q .normal a w) :
    ∀ fuel, wpAnyQ P md ops Q S st fuel listed a w
  | 0 => ⟨hr, h⟩
  | _ + 1 => ⟨fun _ => h, by rw [hr]; simp⟩

theorem wp_region_late {id st : Nat} {a : Act} {w : World} (S : Bool → World → Prop) (n : Nat) (L : Array Bool) (hm : P.follows .mixedOrders = true) (hn : ops.size = n) (hL : Array.replicate n false = L)
    (h : wpAnyQ P .any ops Q S st n L a w.drew) : (Code.region id ops true).wp P Q a w := by
  subst hn hL
  exact wp_region_any hm (wpAny_of_late _ _ _ _ h)

/-- one operation without a guard, written out -/
theorem wpOp_plainL {i : Nat} {o : Oper} {K : Act → World → Prop} {a : Act} {w : World} (ho : ops[i]? = some o) (hg : o.guard = none) (h : Oper.wp P o a w K Q) : wpOp P ops Q i K a w := by
  have hw : Region.wanted o (yielded ops a.tmps) = true := by simp [Region.wanted, hg]
  unfold wpOp
  simp only [ho, hw, if_true]
  exact .inl h

/-- what follows behind operation number i, shut -/
abbrev Back (P : Program) (md : Region.Mode) (ops : Array Oper) (Q : Exit → Act → World → Prop) (S : Bool → World → Prop) (st fuel : Nat) (listed : Array Bool) (i : Nat) (K' : Act → World → Prop) : Prop :=
  RowKit.Hid (∀ a' w', S ((listed.setIfInBounds i true).getD st true) w' → wpAnyQ P md ops Q S st fuel (listed.setIfInBounds i true) a' w' → K' a' w')

/-- the only one -/
theorem wpAnyQ_one {st i : Nat} {o : Oper} {fuel : Nat} {listed : Array Bool} {a : Act} {w : World} (hr : Region.ready md ops listed = [i]) (ho : ops[i]? = some o) (hg : o.guard = none)
    (h : ∀ K', Back P md ops Q S st fuel listed i K' → Oper.wp P o a w K' Q) : wpAnyQ P md ops Q S st (fuel + 1) listed a w :=
  wpAnyQ_all hr (by simp) fun j hj => by
    simp at hj
    subst hj
    exact wpOp_plainL ho hg (h _ (Lib.hid fun _ _ h1 h2 => ⟨h1, h2⟩))

/-- one of two -/
theorem wpAnyQ_two {st i k : Nat} {o o' : Oper} {fuel : Nat} {listed : Array Bool} {a : Act} {w : World} (hr : Region.ready md ops listed = [i, k]) (ho : ops[i]? = some o) (hg : o.guard = none) (ho' : ops[k]? = some o') (hg' : o'.guard = none)
    (h : ∀ K', Back P md ops Q S st fuel listed i K' → Oper.wp P o a w K' Q)
    (h' : ∀ K', Back P md ops Q S st fuel listed k K' → Oper.wp P o' a w K' Q) : wpAnyQ P md ops Q S st (fuel + 1) listed a w :=
  wpAnyQ_all hr (by simp) fun j hj => by
    simp at hj
    rcases hj with rfl | rfl
    · exact wpOp_plainL ho hg (h _ (Lib.hid fun _ _ h1 h2 => ⟨h1, h2⟩))
    · exact wpOp_plainL ho' hg' (h' _ (Lib.hid fun _ _ h1 h2 => ⟨h1, h2⟩))

/-- append to an own row, as one operation of a region -/
theorem wp_append_ownL {o : Oper} {a : Act} {w : World} {K : Act → World → Prop} (s x : Operand) (t : TypeId)
    (ho : o.op = .call { callee := .builtin .append, args := #[s, x], argTypes := #[t, t] })
    (base : Nat) (e : TypeId) (i : TypeInfo) (z : Value) (size bytes : Nat) (ht : P.underlying t = some (.slice e)) (hi : P.info? e = some i) (hz : i.zero = some z)
    (hsize : i.size = size) (hby : i.bytes = bytes) (hzs : z.cells.size = size) (hsz : 0 < size)
    (v : Value) (n : Nat) (xs : List Value) (hs : a.eval s = v) (hown : w.ownsRow base e size v n xs)
    (ad : Addr) (m c : Nat) (news : List Value) (hx : a.eval x = .slice (some ad) m c) (hl : news.length = m * size) (hnews : ∀ j u, news[j]? = some u → w.cell? (ad.add j) = some u) (h1 : ∀ u ∈ news, u.oneCell' = true)
    (h63 : n + m ≤ maxLen) (hbytes : (n + m) * bytes ≤ 140737488355328) (hbase : base ≤ w.heap.size)
    (h : ∀ v' w', w'.ownsRow base e size v' (n + m) (xs ++ news) → w.grownBy w' v.ownBlock → (v'.ownBlock = v.ownBlock ∨ v'.ownBlock = some w.heap.size) → K (a.put o.dst v') w') :
    Oper.wp P o a w K Q := by
  obtain ⟨v', w', hr, h2, h3, h4, h5⟩ := run_append_own_at (P := P) w base t o.type e i z size bytes ht hi hz hsize hby hzs hsz v n xs hown ad m c news hl hnews h1 h63 hbytes hbase
  unfold Oper.wp execOp
  simp only [ho, resolve, invoke, builtin, Sem.run_bind, Sem.run_pure, Result.andThen_ok, List.map_toArray, List.map_cons, List.map_nil, hs, hx, hr]
  exact h v' w' h2 h3 h5

end
end Go.Proofs.YtfhppajnnbbcjaaGreatDoor
end

section
namespace Go.Proofs.YtfhppajnnbbcjaaGreatDoor
open Go.RowKit

theorem take_snocM {α : Type} {l : List α} {k : Nat} {x : α} (h : l[k]? = some x) : l.take (k + 1) = l.take k ++ [x] := by
  obtain ⟨hk, rfl⟩ := List.getElem?_eq_some_iff.1 h
  exact List.take_succ_eq_append_getElem hk

abbrev D0of (B : Nat) (u : Value) : Nat → Prop := fun b => B ≤ b ∧ some b ≠ u.ownBlock

/-- the world in the loop: the two boxes, the sorted keys kv, the rows u (keys) and v (values) -/
structure MfSt (w W : World) (ks : List ByteArray) (kv u0 v0 : Value) (ku : Nat) (u v : Value) (l : List J) : Prop where
  below : Below w.heap.size w W
  res : ∃ cs, cs = #[Value.int .i64 0, .int .i64 0, .string ⟨#[]⟩, .slice none 0 0, .slice none 0 0, .slice none 0 0] ∧ W.heap[w.heap.size]? = some (.cells cs 26 (0, 0))
  out : W.heap[w.heap.size + 1]? = some (.cells #[.int .i64 6, .int .i64 0, .string ⟨#[]⟩, .slice none 0 0, u0, v0] 26 (0, 0))
  src : W.ownsRow (w.heap.size + 3) 9 1 kv ks.length (ks.map .string)
  keys : W.ownsRow (w.heap.size + 3) 9 1 u ku ((ks.take ku).map .string)
  vals : VGrow W (w.heap.size + 3) (D0of (w.heap.size + 3) u) v l
  apartU : ∀ g, u.ownBlock = some g → v.ownBlock ≠ some g ∧ kv.ownBlock ≠ some g
  apartV : ∀ g, v.ownBlock = some g → kv.ownBlock ≠ some g

variable {w W W' : World} {ks : List ByteArray} {kv u0 v0 u v : Value} {ku : Nat} {l : List J} {x : J} {cs : List Value}

/-- other blocks are made or written -/
theorem MfSt.turn (h : MfSt w W ks kv u0 v0 ku u v l) (hb : Below (w.heap.size + 3) W W') (hk : ∀ b, w.heap.size + 3 ≤ b → b < W.heap.size → W'.heap[b]? = W.heap[b]?) : MfSt w W' ks kv u0 v0 ku u v l where
  below := h.below.trans (hb.mono (by omega))
  res := by obtain ⟨cs, hcs, hh⟩ := h.res; exact ⟨cs, hcs, (hb.block _ (by omega)).trans hh⟩
  out := (hb.block _ (by omega)).trans h.out
  src := ownsRow_turn h.src fun g hg => hk g (h.src.lt g hg).1 (h.src.lt g hg).2
  keys := ownsRow_turn h.keys fun g hg => hk g (h.keys.lt g hg).1 (h.keys.lt g hg).2
  vals := h.vals.turn (fun g hg => hk g (h.vals.own_lt g hg).1 (h.vals.own_lt g hg).2) (fun b hlt hd _ => hk b hd.1 hlt) (fun _ _ h => h) hb.size
  apartU := h.apartU
  apartV := h.apartV

theorem MfSt.size (h : MfSt w W ks kv u0 v0 ku u v l) : w.heap.size + 2 ≤ W.heap.size := by have := box_lt h.out; omega

theorem MfSt.alloc (h : MfSt w W ks kv u0 v0 ku u v l) (hs : w.heap.size + 3 ≤ W.heap.size) (o : Obj) : MfSt w (W.alloc o) ks kv u0 v0 ku u v l :=
  h.turn ((Below.refl _ _).alloc hs _) fun _ _ hlt => Below.heap_alloc _ _ _ hlt

/-- the element that is to be appended -/
abbrev MfX (w W : World) (u v : Value) (x : J) (cs : List Value) : Prop := SRep W (But (D0of (w.heap.size + 3) u) W v) x cs

theorem MfX.turn (hx : MfX w W u v x cs) (hk : ∀ b, w.heap.size + 3 ≤ b → b < W.heap.size → W'.heap[b]? = W.heap[b]?) (hs : W.heap.size ≤ W'.heap.size) : MfX w W' u v x cs :=
  VRep.keep (fun b hb => hk b hb.1.1 hb.2.1) (fun _ hb => ⟨hb.1, Nat.lt_of_lt_of_le hb.2.1 hs, hb.2.2⟩) _ _ hx

theorem MfX.alloc (hx : MfX w W u v x cs) (o : Obj) : MfX w (W.alloc o) u v x cs := hx.turn (fun _ _ hlt => Below.heap_alloc _ _ _ hlt) (by simp)

/-- behind the append of a key -/
theorem MfSt.key {u' : Value} (h : MfSt w W ks kv u0 v0 ku u v l) (hx : MfX w W u v x cs) (hs : w.heap.size + 3 ≤ W.heap.size) {k : ByteArray} (hk : ks[ku]? = some k)
    (hown : W'.ownsRow (w.heap.size + 3) 9 1 u' (ku + 1) ((ks.take ku).map Value.string ++ [Value.string k])) (hg : W.grownBy W' u.ownBlock) (hat : u'.ownBlock = u.ownBlock ∨ u'.ownBlock = some W.heap.size) :
    MfSt w W' ks kv u0 v0 (ku + 1) u' v l ∧ MfX w W' u' v x cs := by
  have hu : ∀ g, u.ownBlock = some g → w.heap.size + 3 ≤ g := fun g hg => (h.keys.lt g hg).1
  have hlow : ∀ b, b < w.heap.size + 3 → b < W.heap.size → W'.heap[b]? = W.heap[b]? := fun b hb hlt => hg.block b hlt fun e => by have := hu b e.symm; omega
  have hD : ∀ b, b < W.heap.size → D0of (w.heap.size + 3) u b → D0of (w.heap.size + 3) u' b := fun b hlt hd => ⟨hd.1, by
    rcases hat with e | e <;> rw [e]
    · exact hd.2
    · simp; omega⟩
  have hsame : ∀ b, b < W.heap.size → D0of (w.heap.size + 3) u b → W'.heap[b]? = W.heap[b]? := fun b hlt hd => hg.block b hlt hd.2
  refine ⟨⟨?_, ?_, ?_, ?_, ?_, ?_, ?_, h.apartV⟩, ?_⟩
  · exact h.below.grown hg (by omega) (fun g hg => by have := hu g hg; omega)
  · obtain ⟨cs, hcs, hh⟩ := h.res
    exact ⟨cs, hcs, (hlow _ (by omega) (by omega)).trans hh⟩
  · exact (hlow _ (by omega) (by omega)).trans h.out
  · exact ownsRow_turn h.src fun g hg' => hg.block g (h.src.lt g hg').2 fun e => (h.apartU g e.symm).2 hg'
  · rw [take_snocM hk, List.map_append]; exact hown
  · exact h.vals.turn (fun g hg' => hg.block g (h.vals.own_lt g hg').2 fun e => (h.apartU g e.symm).1 hg') (fun b hlt hd _ => hsame b hlt hd) hD hg.size
  · intro g hg'
    rcases hat with e | e
    · exact h.apartU g (e ▸ hg')
    · rw [e] at hg'
      simp only [Option.some.injEq] at hg'
      subst hg'
      exact ⟨fun e => by have := h.vals.own_lt _ e; omega, fun e => by have := h.src.lt _ e; omega⟩
  · exact VRep.keep (fun b hb => hsame b hb.2.1 hb.1) (fun b hb => ⟨hD b hb.2.1 hb.1, Nat.lt_of_lt_of_le hb.2.1 hg.size, hb.2.2⟩) _ _ hx

/-- behind the append of a value -/
theorem MfSt.val {v' : Value} {xs : List Value} (h : MfSt w W ks kv u0 v0 ku u v l) (hx : MfX w W u v x cs) (h6 : cs.length = 6) (hs : w.heap.size + 3 ≤ W.heap.size) (hch : VChunks W (But (D0of (w.heap.size + 3) u) W v) l xs)
    (hown : W'.ownsRow (w.heap.size + 3) 26 6 v' (l.length + 1) (xs ++ cs)) (hg : W.grownBy W' v.ownBlock) (hat : v'.ownBlock = v.ownBlock ∨ v'.ownBlock = some W.heap.size) :
    MfSt w W' ks kv u0 v0 ku u v' (l ++ [x]) := by
  have hu : ∀ g, v.ownBlock = some g → w.heap.size + 3 ≤ g := fun g hg => (h.vals.own_lt g hg).1
  have hlow : ∀ b, b < w.heap.size + 3 → b < W.heap.size → W'.heap[b]? = W.heap[b]? := fun b hb hlt => hg.block b hlt fun e => by have := hu b e.symm; omega
  refine ⟨?_, ?_, ?_, ?_, ?_, ?_, ?_, ?_⟩
  · exact h.below.grown hg (by omega) (fun g hg => by have := hu g hg; omega)
  · obtain ⟨cs, hcs, hh⟩ := h.res
    exact ⟨cs, hcs, (hlow _ (by omega) (by omega)).trans hh⟩
  · exact (hlow _ (by omega) (by omega)).trans h.out
  · exact ownsRow_turn h.src fun g hg' => hg.block g (h.src.lt g hg').2 fun e => h.apartV g e.symm hg'
  · exact ownsRow_turn h.keys fun g hg' => hg.block g (h.keys.lt g hg').2 fun e => (h.apartU g hg').1 e.symm
  · exact VGrow.step hch hx h6 (fun _ _ => rfl) (Nat.le_refl _) hown hg hat
  · intro g hg'
    refine ⟨fun e => ?_, (h.apartU g hg').2⟩
    rcases hat with e' | e'
    · exact (h.apartU g hg').1 (e' ▸ e)
    · rw [e'] at e
      simp only [Option.some.injEq] at e
      have := h.keys.lt _ hg'
      omega
  · intro g hg'
    rcases hat with e | e
    · exact h.apartV g (e ▸ hg')
    · rw [e] at hg'
      simp only [Option.some.injEq] at hg'
      subst hg'
      exact fun e => by have := h.src.lt _ e; omega

/-- behind the two stores -/
theorem MfSt.store (h : MfSt w W ks kv u0 v0 ku u v l) : MfSt w ((W.setCell ⟨w.heap.size + 1, 4, none⟩ u).setCell ⟨w.heap.size + 1, 5, none⟩ v) ks kv u v ku u v l := by
  have hne : ∀ b, b ≠ w.heap.size + 1 → ((W.setCell ⟨w.heap.size + 1, 4, none⟩ u).setCell ⟨w.heap.size + 1, 5, none⟩ v).heap[b]? = W.heap[b]? := fun b hb => by
    rw [heap_setCell_other _ _ _ _ hb, heap_setCell_other _ _ _ _ hb]
  refine ⟨?_, ?_, ?_, ?_, ?_, ?_, h.apartU, h.apartV⟩
  · exact (h.below.setCell (by simp) _).setCell (by simp) _
  · obtain ⟨cs, hcs, hh⟩ := h.res
    exact ⟨cs, hcs, (hne _ (by omega)).trans hh⟩
  · rw [heap_setCell_same _ _ _ _ _ _ (heap_setCell_same _ _ _ _ _ _ h.out)]
    rfl
  · exact ownsRow_turn h.src fun g hg => hne g (by have := h.src.lt g hg; omega)
  · exact ownsRow_turn h.keys fun g hg => hne g (by have := h.keys.lt g hg; omega)
  · exact h.vals.turn (fun g hg => hne g (by have := h.vals.own_lt g hg; omega)) (fun b _ hd _ => hne b (by have := hd.1; omega)) (fun _ _ h => h) (by simp [World.setCell])

/-- all that the drawn region keeps: bs are the boxes that the round has made -/
structure MfAll (w W : World) (ks : List ByteArray) (kv u0 v0 : Value) (ku : Nat) (u v : Value) (l : List J) (x : J) (cs : List Value) (bs : List (Nat × Obj)) : Prop where
  st : MfSt w W ks kv u0 v0 ku u v l
  x : MfX w W u v x cs
  size : w.heap.size + 3 ≤ W.heap.size
  box : ∀ p ∈ bs, W.heap[p.1]? = some p.2 ∧ (∀ g, u.ownBlock = some g → g ≠ p.1) ∧ ∀ g, v.ownBlock = some g → g ≠ p.1

variable {bs : List (Nat × Obj)}

theorem MfAll.alloc (h : MfAll w W ks kv u0 v0 ku u v l x cs bs) (o : Obj) : MfAll w (W.alloc o) ks kv u0 v0 ku u v l x cs ((W.heap.size, o) :: bs) where
  st := h.st.alloc h.size o
  x := h.x.alloc o
  size := by have := h.size; simp; omega
  box := fun p hp => by
    rcases List.mem_cons.1 hp with rfl | hp
    · exact ⟨heap_alloc_new W o, fun g hg => by have := h.st.keys.lt g hg; simp; omega, fun g hg => by have := h.st.vals.own_lt g hg; simp; omega⟩
    · obtain ⟨h1, h2⟩ := h.box p hp
      exact ⟨(Below.heap_alloc _ _ _ (box_lt h1)).trans h1, h2⟩

theorem MfAll.key {u' : Value} (h : MfAll w W ks kv u0 v0 ku u v l x cs bs) {k : ByteArray} (hk : ks[ku]? = some k)
    (hown : W'.ownsRow (w.heap.size + 3) 9 1 u' (ku + 1) ((ks.take ku).map Value.string ++ [Value.string k])) (hg : W.grownBy W' u.ownBlock) (hat : u'.ownBlock = u.ownBlock ∨ u'.ownBlock = some W.heap.size) :
    MfAll w W' ks kv u0 v0 (ku + 1) u' v l x cs bs := by
  obtain ⟨h1, h2⟩ := h.st.key h.x h.size hk hown hg hat
  refine ⟨h1, h2, Nat.le_trans h.size hg.size, fun p hp => ?_⟩
  obtain ⟨b1, b2, b3⟩ := h.box p hp
  refine ⟨(hg.block _ (box_lt b1) fun e => b2 _ e.symm rfl).trans b1, fun g hg' => ?_, b3⟩
  rcases hat with e | e
  · exact b2 g (e ▸ hg')
  · rw [e] at hg'
    simp only [Option.some.injEq] at hg'
    have := box_lt b1
    omega

theorem MfAll.val {v' : Value} {xs : List Value} (h : MfAll w W ks kv u0 v0 ku u v l x cs bs) (h6 : cs.length = 6) (hch : VChunks W (But (D0of (w.heap.size + 3) u) W v) l xs)
    (hown : W'.ownsRow (w.heap.size + 3) 26 6 v' (l.length + 1) (xs ++ cs)) (hg : W.grownBy W' v.ownBlock) (hat : v'.ownBlock = v.ownBlock ∨ v'.ownBlock = some W.heap.size) :
    MfSt w W' ks kv u0 v0 ku u v' (l ++ [x]) ∧ ∀ p ∈ bs, W'.heap[p.1]? = some p.2 :=
  ⟨h.st.val h.x h6 h.size hch hown hg hat, fun p hp => (hg.block _ (box_lt (h.box p hp).1) fun e => (h.box p hp).2.2 _ e.symm rfl).trans (h.box p hp).1⟩

/-- what lies in a box -/
theorem MfAll.news {ns : List Value} {t : TypeId} {q : Nat} (h : MfAll w W ks kv u0 v0 ku u v l x cs bs) (hq : (q, Obj.cells ns.toArray t (0, 0)) ∈ bs) : ∀ j y, ns[j]? = some y → W.cell? ((⟨q, 0, none⟩ : Addr).add j) = some y := by
  intro j y hj
  rw [Addr.add_lit, Nat.zero_add, box_cell (h.box _ hq).1]
  simpa using hj

/-- what is handed back -/
theorem MfSt.finish (h : MfSt w W ks kv u v ks.length u v l) (hk : ∀ b, b ≠ w.heap.size → W'.heap[b]? = W.heap[b]?) (hs : W.heap.size ≤ W'.heap.size) :
    SRep W' (Fresh w W') (.obj ks l) [.int .i64 6, .int .i64 0, .string noText, .slice none 0 0, u, v] := by
  refine ⟨_, _, _, rfl, emp _ _, ?_, ?_⟩
  · obtain ⟨A, c, hu, hr, h1, h2⟩ := ownsRow_form h.keys
    refine ⟨A, c, hu, h1, h2, fun hn => ?_⟩
    obtain ⟨g, hA, hg, hlt, hc⟩ := hr hn
    refine ⟨g, 0, hA, ⟨by omega, by omega⟩, fun i s hi => ?_⟩
    rw [World.cell?_of_block (hk g (by omega)), Nat.zero_add]
    exact hc i _ (by simp [hi])
  · rw [toVL_length]
    refine (h.vals.slat (D := fun b => w.heap.size + 3 ≤ b ∧ b < W.heap.size) (fun b h1 h2 => ⟨h1.1, h2⟩) (fun b h1 h2 => ⟨h1, h2⟩)).mono (fun b hb' => ⟨by omega, by omega⟩) fun b o hb' hr => VRow.keep (fun k hk' => hk k ?_) (fun b hb' => ⟨by omega, by omega⟩) _ _ _ hb' hr
    have := hk'.1
    omega

end Go.Proofs.YtfhppajnnbbcjaaGreatDoor
end

section
namespace Go.Proofs
open Go.RowKit Go.Maps Go.Sort Go.Shelf
def Tryz.keys178_ren : Go.Shelf.Ren := ⟨fun | 7 => 178 | 10 => 213 | n => n, fun | 23 => 91 | 26 => 9 | 3 => 20 | 28 => 179 | 0 => 0 | 27 => 178 | 33 => 114 | 4 => 4 | n => n, fun | n => n⟩
theorem Tryz.keys178 : Go.Proofs.SlLaysZ.n7 Tryz.prog Tryz.keys178_ren := {
  mixed := by kernel_rfl
  f7 := ⟨Tryz.f178.name, by decide, Tryz.func178.trans (congrArg some (by kernel_rfl))⟩
  f10 := ⟨Tryz.f213.name, by decide, Tryz.func213.trans (congrArg some (by kernel_rfl))⟩
  t0 := Tryz.underlying0
  a0 := Tryz.isAgg0
  z0 := Tryz.sizeOf0
  v0 := Tryz.zeroValue0
  t4 := Tryz.underlying4
  a4 := Tryz.isAgg4
  z4 := Tryz.sizeOf4
  v4 := Tryz.zeroValue4
  t23 := Tryz.underlying91
  a23 := Tryz.isAgg91
  z23 := Tryz.sizeOf91
  v23 := Tryz.zeroValue91
  t26 := Tryz.underlying9
  a26 := Tryz.isAgg9
  z26 := Tryz.sizeOf9
  v26 := Tryz.zeroValue9
  t27 := Tryz.underlying178
  a27 := Tryz.isAgg178
  z27 := Tryz.sizeOf178
  v27 := Tryz.zeroValue178
  t28 := Tryz.underlying179
  a28 := Tryz.isAgg179
  z28 := Tryz.sizeOf179
  v28 := Tryz.zeroValue179
  t33 := Tryz.underlying114
  a33 := Tryz.isAgg114
  z33 := Tryz.sizeOf114
  v33 := Tryz.zeroValue114 }
def Tryz.sorted177_ren : Go.Shelf.Ren := ⟨fun | 6 => 177 | 8 => 211 | 9 => 212 | 11 => 252 | 13 => 254 | 12 => 253 | 23 => 292 | 24 => 293 | 14 => 283 | 15 => 284 | 16 => 285 | 17 => 286 | 18 => 287 | 19 => 288 | 20 => 289 | 21 => 290 | 22 => 291 | 25 => 323 | 26 => 324 | 27 => 325 | 28 => 326 | 29 => 327 | 30 => 217 | 31 => 341 | n => n, fun | 26 => 9 | 28 => 179 | 24 => 24 | 0 => 0 | 3 => 3 | 37 => 118 | 48 => 255 | 50 => 200 | 4 => 4 | 40 => 312 | 39 => 311 | 45 => 82 | 5 => 5 | 9 => 9 | 51 => 341 | 55 => 344 | 57 => 358 | 58 => 359 | 33 => 114 | n => n, fun | n => n⟩
theorem Tryz.sorted177 : Go.Proofs.SlLaysZ.n6 Tryz.prog Tryz.sorted177_ren := {
  mixed := by kernel_rfl
  f6 := ⟨Tryz.f177.name, by decide, Tryz.func177.trans (congrArg some (by kernel_rfl))⟩
  f8 := ⟨Tryz.f211.name, by decide, Tryz.func211.trans (congrArg some (by kernel_rfl))⟩
  f11 := ⟨Tryz.f252.name, by decide, Tryz.func252.trans (congrArg some (by kernel_rfl))⟩
  t0 := Tryz.underlying0
  a0 := Tryz.isAgg0
  z0 := Tryz.sizeOf0
  v0 := Tryz.zeroValue0
  t24 := Tryz.underlying24
  a24 := Tryz.isAgg24
  z24 := Tryz.sizeOf24
  v24 := Tryz.zeroValue24
  t26 := Tryz.underlying9
  a26 := Tryz.isAgg9
  z26 := Tryz.sizeOf9
  v26 := Tryz.zeroValue9
  t28 := Tryz.underlying179
  a28 := Tryz.isAgg179
  z28 := Tryz.sizeOf179
  v28 := Tryz.zeroValue179
  i26 := by kernel_rfl }
def Tryz.sort212_ren : Go.Shelf.Ren := ⟨fun | 6 => 212 | 8 => 254 | 9 => 253 | 19 => 292 | 20 => 293 | 21 => 283 | 22 => 284 | 23 => 285 | 24 => 286 | 25 => 287 | 26 => 288 | 27 => 289 | 28 => 290 | 29 => 291 | 36 => 323 | 31 => 324 | 32 => 325 | 37 => 326 | 38 => 327 | 39 => 217 | 41 => 341 | n => n, fun | 27 => 24 | 29 => 9 | 3 => 3 | 32 => 118 | 26 => 24 | 0 => 0 | 44 => 255 | 46 => 200 | 4 => 4 | 36 => 312 | 35 => 311 | 41 => 82 | 5 => 5 | 9 => 9 | 53 => 341 | 57 => 344 | 63 => 358 | 64 => 359 | n => n, fun | n => n⟩
theorem Tryz.sort212 : Go.Proofs.SlLaysM.n6 Tryz.prog Tryz.sort212_ren := {
  mixed := by kernel_rfl
  f6 := ⟨Tryz.f212.name, by decide, Tryz.func212.trans (congrArg some (by kernel_rfl))⟩
  f8 := Tryz.func254.trans (congrArg some (by kernel_rfl))
  f9 := ⟨Tryz.f253.name, by decide, Tryz.func253.trans (congrArg some (by kernel_rfl))⟩
  f19 := Tryz.func292.trans (congrArg some (by kernel_rfl))
  f20 := Tryz.func293.trans (congrArg some (by kernel_rfl))
  f21 := ⟨Tryz.f283.name, by decide, Tryz.func283.trans (congrArg some (by kernel_rfl))⟩
  f22 := ⟨Tryz.f284.name, by decide, Tryz.func284.trans (congrArg some (by kernel_rfl))⟩
  f23 := ⟨Tryz.f285.name, by decide, Tryz.func285.trans (congrArg some (by kernel_rfl))⟩
  f24 := ⟨Tryz.f286.name, by decide, Tryz.func286.trans (congrArg some (by kernel_rfl))⟩
  f25 := ⟨Tryz.f287.name, by decide, Tryz.func287.trans (congrArg some (by kernel_rfl))⟩
  f26 := ⟨Tryz.f288.name, by decide, Tryz.func288.trans (congrArg some (by kernel_rfl))⟩
  f27 := ⟨Tryz.f289.name, by decide, Tryz.func289.trans (congrArg some (by kernel_rfl))⟩
  f28 := ⟨Tryz.f290.name, by decide, Tryz.func290.trans (congrArg some (by kernel_rfl))⟩
  f29 := ⟨Tryz.f291.name, by decide, Tryz.func291.trans (congrArg some (by kernel_rfl))⟩
  f31 := Tryz.func324.trans (congrArg some (by kernel_rfl))
  f32 := Tryz.func325.trans (congrArg some (by kernel_rfl))
  f36 := ⟨Tryz.f323.name, by decide, Tryz.func323.trans (congrArg some (by kernel_rfl))⟩
  f37 := ⟨Tryz.f326.name, by decide, Tryz.func326.trans (congrArg some (by kernel_rfl))⟩
  f38 := ⟨Tryz.f327.name, by decide, Tryz.func327.trans (congrArg some (by kernel_rfl))⟩
  f39 := ⟨Tryz.f217.name, by decide, Tryz.func217.trans (congrArg some (by kernel_rfl))⟩
  f41 := ⟨Tryz.f341.name, by decide, Tryz.func341.trans (congrArg some (by kernel_rfl))⟩
  t0 := Tryz.underlying0
  a0 := Tryz.isAgg0
  z0 := Tryz.sizeOf0
  v0 := Tryz.zeroValue0
  t3 := Tryz.underlying3
  a3 := Tryz.isAgg3
  z3 := Tryz.sizeOf3
  v3 := Tryz.zeroValue3
  t4 := Tryz.underlying4
  a4 := Tryz.isAgg4
  z4 := Tryz.sizeOf4
  v4 := Tryz.zeroValue4
  t5 := Tryz.underlying5
  a5 := Tryz.isAgg5
  z5 := Tryz.sizeOf5
  v5 := Tryz.zeroValue5
  t9 := Tryz.underlying9
  a9 := Tryz.isAgg9
  z9 := Tryz.sizeOf9
  v9 := Tryz.zeroValue9
  t26 := Tryz.underlying24
  a26 := Tryz.isAgg24
  z26 := Tryz.sizeOf24
  v26 := Tryz.zeroValue24
  t27 := Tryz.underlying24
  a27 := Tryz.isAgg24
  z27 := Tryz.sizeOf24
  v27 := Tryz.zeroValue24
  t29 := Tryz.underlying9
  a29 := Tryz.isAgg9
  z29 := Tryz.sizeOf9
  v29 := Tryz.zeroValue9
  t32 := Tryz.underlying118
  a32 := Tryz.isAgg118
  z32 := Tryz.sizeOf118
  v32 := Tryz.zeroValue118
  t35 := Tryz.underlying311
  a35 := Tryz.isAgg311
  z35 := Tryz.sizeOf311
  v35 := Tryz.zeroValue311
  t36 := Tryz.underlying312
  a36 := Tryz.isAgg312
  z36 := Tryz.sizeOf312
  v36 := Tryz.zeroValue312
  t41 := Tryz.underlying82
  a41 := Tryz.isAgg82
  z41 := Tryz.sizeOf82
  v41 := Tryz.zeroValue82
  t44 := Tryz.underlying255
  a44 := Tryz.isAgg255
  z44 := Tryz.sizeOf255
  v44 := Tryz.zeroValue255
  t46 := Tryz.underlying200
  a46 := Tryz.isAgg200
  z46 := Tryz.sizeOf200
  v46 := Tryz.zeroValue200
  t53 := Tryz.underlying341
  a53 := Tryz.isAgg341
  z53 := Tryz.sizeOf341
  v53 := Tryz.zeroValue341
  t57 := Tryz.underlying344
  a57 := Tryz.isAgg344
  z57 := Tryz.sizeOf344
  v57 := Tryz.zeroValue344
  t63 := Tryz.underlying358
  a63 := Tryz.isAgg358
  z63 := Tryz.sizeOf358
  v63 := Tryz.zeroValue358
  t64 := Tryz.underlying359
  a64 := Tryz.isAgg359
  z64 := Tryz.sizeOf359
  v64 := Tryz.zeroValue359 }
/-- slices.Sort's two contracts at this dump, at the fence that asks nothing. -/
theorem Tryz.sorts177 (m : Nat) : AnyZ.SortsIn Tryz.prog Tryz.sorted177_ren Fence.wide m :=
  ⟨fun blk off cap ss W hH hblk hsz => callsIn_wide.2 (AnyM.slices_Sort_string Tryz.sort212 blk off cap ss W hH hblk hsz),
   fun p cap W => callsIn_wide.2 (AnyM.slices_Sort_string_none Tryz.sort212 p cap W)⟩

/-- **maps.Keys[map[string]any,string,any], at whatever map, the nil one too:** a function value over ONE NEW BLOCK, which holds the map. -/
theorem Tryz.maps_Keys_178 (mb : Option Nat) (W : World) : CallsIn Fence.wide 5 Tryz.prog 178 #[.map mb] W fun e w' => e = .returned (.func (.func 213) #[] #[.pointer (some ⟨W.heap.size, 0, none⟩)]) ∧ w' = W.alloc (.cells #[.map mb] 91) :=
  AnyZ.keys_in Tryz.keys178 Fence.wide 5 trivial rfl mb W

set_option maxHeartbeats 1000000 in
/-- **slices.Sorted[string] AT WHAT maps.Keys[map[string]any,string,any] HANDED BACK FOR A MAP THAT IS NOT nil** ('w': the world AHEAD of maps.Keys' call): A NEW SLICE THAT HOLDS THE MAP's KEYS, SORTED; nil just where it has none; nothing that lay before has turned. -/
theorem Tryz.slices_Sorted_keys_177_178 {H : Type} (b nn : Nat) (D0 : DataW H) (R : Value → Option (DataW H × List MemPlace)) (w : World) (hown : w.ownsMap Tryz.prog 9 R b nn D0) (hmax : Maps.size D0 ≤ maxLen) (hbytes : Maps.size D0 * 16 ≤ 140737488355328) :
    CallsIn Fence.wide 5 Tryz.prog 177 #[.func (.func 213) #[] #[.pointer (some ⟨w.heap.size, 0, none⟩)]] (w.alloc (.cells #[.map (some b)] 91)) fun e w' => ∃ (v : Value) (ss : List (List UInt8)), e = .returned v ∧ ss.Perm (strKeys D0) ∧
      w'.ownsRow (w.alloc (.cells #[.map (some b)] 91)).heap.size 9 1 v ss.length ((ss.mergeSort (fun x y => decide (x ≤ y))).map encStr) ∧ (v = .slice none 0 0 ↔ ss = []) ∧ Below (w.alloc (.cells #[.map (some b)] 91)).heap.size (w.alloc (.cells #[.map (some b)] 91)) w' := by
  have hbl := hown.lt
  have hseq : SeqGives Fence.wide 2 Tryz.prog 213 #[.pointer (some ⟨w.heap.size, 0, none⟩)] encStr (fun ss => ss.Perm (strKeys D0)) (Maps.size D0) (w.alloc (.cells #[.map (some b)] 91)) :=
    AnyZ.keys_gives (ρ := Tryz.keys178_ren) { Tryz.keys178 with } Fence.wide _ trivial rfl (by omega) w.heap.size b nn D0 _ (by simp) (by simp) (by
      obtain ⟨es, clock, hb, Ft, hs, hD⟩ := hown
      exact ⟨es, clock, (Below.heap_alloc _ _ b hbl).trans hb, Ft, hs, hD⟩)
  exact AnyZ.sorted_in Tryz.sorted177 Fence.wide 5 trivial trivial trivial trivial rfl (by omega) (Tryz.sorts177 _) (enters_of Tryz.func212 (by kernel_rfl) rfl) 213 #[.pointer (some ⟨w.heap.size, 0, none⟩)] trivial (enters_of Tryz.func213 (by kernel_rfl) rfl) _ _ hmax hbytes _ hseq

end Go.Proofs

namespace Go.Proofs.YtfhppajnnbbcjaaGreatDoor
open Go.RowKit

theorem mapsKeys_any (r : Nat) (w : World) : Calls Tryz.prog 178 #[.map (some r)] w fun e w' => e = .returned (.func (.func 213) #[] #[.pointer (some ⟨w.heap.size, 0, none⟩)]) ∧ w' = w.alloc (.cells #[.map (some r)] 91) :=
  callsIn_wide.1 (Tryz.maps_Keys_178 (some r) w)

theorem strKeys_mapD {ks : List ByteArray} {xs : List Value} (h : ks.length = xs.length) : Go.strKeys (mapD ks xs) = ks.map fun k => k.data.toList := by
  show (entriesOf ks xs).map _ = _
  unfold entriesOf
  rw [List.map_map]
  have : (List.map ((fun p : Lit × DataW Value => Go.strOf p.1) ∘ fun p : ByteArray × Value => (litS p.1, DataW.held p.2)) (ks.zip xs)) = (ks.zip xs).map (fun p => p.1.data.toList) := rfl
  have e : (ks.zip xs).map (fun p : ByteArray × Value => p.1.data.toList) = ((ks.zip xs).map Prod.fst).map (fun k => k.data.toList) := by rw [List.map_map]; rfl
  rw [this, e, List.map_fst_zip (by omega)]

theorem sorted_keys {ks : List ByteArray} (hs : ks.Pairwise (fun a b => cmpB a b < 0)) : (ks.map fun k => k.data.toList).mergeSort (fun x y => decide (x ≤ y)) = ks.map fun k => k.data.toList := by
  apply List.mergeSort_of_pairwise
  rw [List.pairwise_map]
  refine hs.imp fun {a b} h => ?_
  rw [cmpB_lt_iff, bytesLess_eq] at h
  simp only [decide_eq_true_eq] at h ⊢
  exact List.le_of_lt h

theorem sortedKeys_any (r n : Nat) (ks : List ByteArray) (xs : List Value) (w : World) (hm : MapIs w r n ks xs) (hl : ks.length = xs.length) (hs : ks.Pairwise (fun a b => cmpB a b < 0)) (hn : ks.length ≤ 1048576) :
    Calls Tryz.prog 177 #[.func (.func 213) #[] #[.pointer (some ⟨w.heap.size, 0, none⟩)]] (w.alloc (.cells #[.map (some r)] 91)) fun e w' => ∃ v, e = .returned v ∧
      w'.ownsRow (w.heap.size + 1) 9 1 v ks.length (ks.map Value.string) ∧ Below (w.heap.size + 1) (w.alloc (.cells #[.map (some r)] 91)) w' := by
  have hsz : Maps.size (mapD ks xs) = ks.length := by
    show (entriesOf ks xs).length = _
    simp [entriesOf]
    omega
  refine (callsIn_wide.1 (Tryz.slices_Sorted_keys_177_178 r n (mapD ks xs) Rh w hm (by rw [hsz]; unfold maxLen; omega) (by rw [hsz]; omega))).mono ?_
  rintro e w' ⟨v, ss, rfl, hp, hown, -, hb⟩
  rw [World.size_alloc] at hown hb
  refine ⟨v, rfl, ?_, hb⟩
  rw [strKeys_mapD hl] at hp
  have h1 := Go.mergeSort_of_perm hp
  have h2 : ss.mergeSort (fun x y => decide (x ≤ y)) = ks.map fun k => k.data.toList := h1.trans (sorted_keys hs)
  rw [h2] at hown
  have h3 : ss.length = ks.length := by rw [hp.length_eq]; simp
  rw [h3, List.map_map] at hown
  exact hown

end Go.Proofs.YtfhppajnnbbcjaaGreatDoor
end
