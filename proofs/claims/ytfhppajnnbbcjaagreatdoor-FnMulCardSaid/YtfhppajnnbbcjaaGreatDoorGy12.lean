/- A region that draws its order, by an invariant: what each operation leaves holds on, whatever comes up next; each operation is walked once.
   Walks: spec.along and spec.Call at 'index' and 'rindex'.
   Walks: the laws' told and array.
   Walks: the laws' told, at an answer that is fine.
   Walks: the laws' told, whatever the reference says: it is true where the reference and the answer agree. -/
import Derived.StillTail
import Derived.Lib.Hide
import Derived.Test.YtfhppajnnbbcjaaGreatDoorGy11
import Derived.Test.YtfhppajnnbbcjaaGreatDoorGy5
import Derived.Test.YtfhppajnnbbcjaaGreatDoorGy8

section
namespace Go.Proofs.YtfhppajnnbbcjaaGreatDoor
open Go

section
variable {P : Program} {ops : Array Oper} {Q : Exit → Act → World → Prop} {md : Region.Mode}

/-- no operation waits for a later one -/
def lexB (md : Region.Mode) (ops : Array Oper) : Bool := (List.range ops.size).all fun i => match ops[i]? with
  | some o => o.after.all fun e => !Region.binds md e || decide (e.on < i)
  | none => true

theorem lexB_spec (h : lexB md ops = true) {i : Nat} {o : Oper} (ho : ops[i]? = some o) : ∀ e ∈ o.after, Region.binds md e = true → e.on < i := by
  intro e he hb
  have hi : i < ops.size := (Array.getElem?_eq_some_iff.1 ho).1
  have h1 := List.all_eq_true.1 h i (List.mem_range.2 hi)
  rw [ho] at h1
  have h2 := Array.all_eq_true_iff_forall_mem.1 h1 e he
  simpa [hb] using h2

/-- an operation of which all that it waits for has come up -/
theorem some_ready (hx : lexB md ops = true) {listed : Array Bool} : ∀ (i : Nat), i < ops.size → listed.getD i true = false → listed.size = ops.size → Region.ready md ops listed ≠ [] := by
  intro i
  induction i using Nat.strongRecOn with
  | _ i ih =>
    intro hi hun hsz hr
    obtain ⟨o, ho⟩ : ∃ o, ops[i]? = some o := ⟨_, Array.getElem?_eq_getElem hi⟩
    by_cases hall : ∀ e ∈ o.after, Region.binds md e = true → listed.getD e.on false = true
    · have : i ∈ Region.ready md ops listed := mem_ready.2 ⟨hun, o, ho, hall⟩
      rw [hr] at this
      cases this
    · apply hall
      intro e he hb
      have hlt := lexB_spec hx ho e he hb
      cases hl : listed.getD e.on false with
      | true => rfl
      | false => exact absurd hr (ih e.on hlt (by omega) (getD_in (by omega) hl) hsz)

def tailB (md : Region.Mode) (ops : Array Oper) (n : Nat) : Bool :=
  lexB md ops && decide (n < ops.size) && Region.sinkB md ops n && Region.chainB md ops n && Region.seqB md ops (ops.size - n) n (Array.replicate n true ++ Array.replicate (ops.size - n) false)

theorem countP_set {listed : Array Bool} {i n : Nat} (hi : i < n) (hun : listed.getD i true = false) (hsz : i < listed.size) :
    (List.range n).countP (fun j => !listed.getD j true) = (List.range n).countP (fun j => !(listed.setIfInBounds i true).getD j true) + 1 := by
  induction n with
  | zero => omega
  | succ n ih =>
    rw [List.range_succ, List.countP_append, List.countP_append]
    by_cases h : i = n
    · subst h
      have e1 : (List.range i).countP (fun j => !(listed.setIfInBounds i true).getD j true) = (List.range i).countP (fun j => !listed.getD j true) := by
        apply List.countP_congr
        intro j hj
        have : i ≠ j := by have := List.mem_range.1 hj; omega
        rw [getD_set_ne true this]
      have e2 : (listed.setIfInBounds i true).getD i true = true := by simp [hsz]
      rw [e1, List.countP_singleton, List.countP_singleton, hun, e2]
      simp
    · rw [ih (by omega), List.countP_singleton, List.countP_singleton, getD_set_ne true h]
      omega

abbrev Done (listed : Array Bool) : Nat → Prop := fun j => listed.getD j false = true

theorem wpAny_rg {n : Nat} (hB : tailB md ops n = true) (I : (Nat → Prop) → Act → World → Prop)
    (hstep : ∀ i, i < n → ∀ o, ops[i]? = some o → ∀ (d : Nat → Prop) a w, ¬ d i → (∀ e ∈ o.after, Region.binds md e = true → d e.on) → I d a w → wpOp P ops Q i (fun a' w' => I (fun j => d j ∨ j = i) a' w') a w)
    (hend : ∀ a w, I (fun j => j < n) a w → wpList P ops Q (ops.toList.drop n) a w) :
    ∀ (c : Nat) (listed : Array Bool) (a : Act) (w : World), HeadInv md ops n listed → (List.range n).countP (fun i => !listed.getD i true) = c → I (Done listed) a w → wpAny P md ops Q (c + (ops.size - n)) listed a w := by
  simp only [tailB, Bool.and_eq_true, decide_eq_true_eq] at hB
  obtain ⟨⟨⟨⟨hx, hn⟩, hs⟩, hc⟩, hseq⟩ := hB
  intro c
  induction c with
  | zero =>
    intro listed a w inv h0 hI
    have hall : ∀ i, i < n → listed.getD i true = true := fun i hi => by
      have := List.countP_eq_zero.1 h0 i (List.mem_range.2 hi)
      simpa using this
    have hall' : ∀ i, i < n → listed.getD i false = true := fun i hi => by
      have h1 := hall i hi
      have : i < listed.size := by rw [inv.size]; omega
      simp [this] at h1 ⊢
      exact h1
    have e : listed = Array.replicate n true ++ Array.replicate (ops.size - n) false := by
      apply Array.ext
      · simp [inv.size]; omega
      · intro i h1 h2
        by_cases hi : i < n
        · have := hall' i hi
          simp [h1] at this
          rw [this, Array.getElem_append_left (by simpa using hi)]
          simp
        · have := inv.tail i (by omega) (by rw [inv.size] at h1; exact h1)
          simp [h1] at this
          rw [this, Array.getElem_append_right (by simp; omega)]
          simp
    have ed : Done listed = fun j => j < n := by
      funext j
      apply propext
      constructor
      · intro hj
        apply Classical.byContradiction
        intro hjn
        by_cases hj' : j < ops.size
        · have := getD_both (inv.tail j (by omega) hj')
          rw [show listed.getD j false = true from hj] at this
          cases this
        · have hj2 : listed.getD j false = true := hj
          rw [show listed.getD j false = false by simp [Array.getElem?_eq_none (show listed.size ≤ j by rw [inv.size]; omega)]] at hj2
          cases hj2
      · exact hall' j
    rw [ed] at hI
    have hlen : (ops.toList.drop n).length = ops.size - n := by simp
    rw [Nat.zero_add, ← hlen]
    refine wpAny_of_seq (ops.toList.drop n) n listed a w (fun j => by simp) ?_ (hend a w hI)
    rw [hlen, e]
    exact hseq
  | succ c ih =>
    intro listed a w inv h0 hI
    obtain ⟨i, hi, hun⟩ : ∃ i, i < n ∧ listed.getD i true = false := by
      have : 0 < (List.range n).countP (fun i => !listed.getD i true) := by omega
      obtain ⟨i, hi, hp⟩ := List.countP_pos_iff.1 this
      exact ⟨i, List.mem_range.1 hi, by simpa using hp⟩
    rw [show c + 1 + (ops.size - n) = (c + (ops.size - n)) + 1 by omega]
    refine ⟨fun h => absurd h (some_ready hx i (by omega) hun inv.size), fun j hj => ?_⟩
    have hjn : j < n := by
      rcases Nat.lt_or_ge j n with h | h
      · exact h
      · exact absurd hj (tail_waits hs hc hn inv _ i rfl hi hun j h)
    obtain ⟨hjun, oj, hoj, hall⟩ := mem_ready.1 hj
    refine wpOp_mono (fun a' w' h' => ?_) (hstep j hjn oj hoj (Done listed) a w (by rw [show Done listed j = (listed.getD j false = true) from rfl, getD_both hjun]; simp) hall hI)
    have hjs : j < listed.size := by rw [inv.size]; exact (Array.getElem?_eq_some_iff.1 hoj).1
    refine ih _ a' w' (inv.set hj hjn) (by have := countP_set hjn hjun hjs; omega) ?_
    have : (fun k => Done listed k ∨ k = j) = Done (listed.setIfInBounds j true) := by
      funext k
      apply propext
      by_cases hk : j = k
      · subst hk
        simp [hjs]
      · have : ¬ k = j := fun e => hk e.symm
        simp only [Done, getD_set_ne false hk, this, or_false]
    rw [← this]
    exact h'

/-- all of a list's operations, each with its number -/
def AllSteps (S : Nat → Oper → Prop) : Nat → List Oper → Prop
  | _, [] => True
  | k, o :: l => S k o ∧ AllSteps S (k + 1) l

theorem AllSteps.get {S : Nat → Oper → Prop} : ∀ {l : List Oper} {k i : Nat} {o : Oper}, AllSteps S k l → l[i]? = some o → S (k + i) o
  | [], _, _, _, _, h => by simp at h
  | a :: l, k, 0, o, hS, h => by simp at h; subst h; exact hS.1
  | a :: l, k, i + 1, o, hS, h => by
    have := AllSteps.get (i := i) hS.2 (by simpa using h)
    rwa [show k + (i + 1) = k + 1 + i by omega]

/-- what an operation has to show -/
def StepOK (P : Program) (Q : Exit → Act → World → Prop) (l : List Oper) (I : (Nat → Prop) → Act → World → Prop) (i : Nat) (o : Oper) : Prop :=
  ∀ (d : Nat → Prop) (a : Act) (w : World), ¬ d i → (∀ e ∈ o.after.toList, Region.binds .any e = true → d e.on) → I d a w → ∀ K : Act → World → Prop, (∀ a' w', I (fun j => d j ∨ j = i) a' w' → K a' w') →
    if Region.wanted o (yielded l.toArray a.tmps) = true then o.wp P a w K Q else K (a.put o.dst undef) w

theorem wp_region_rg {id : Nat} {a : Act} {w : World} {l : List Oper} (n : Nat) (hm : P.follows .mixedOrders = true) (hB : tailB .any l.toArray n = true) (I : (Nat → Prop) → Act → World → Prop)
    (h0 : I (fun _ => False) a w.drew) (hstep : AllSteps (StepOK P Q l I) 0 (l.take n)) (hend : ∀ a w, I (fun j => j < n) a w → wpList P l.toArray Q (l.drop n) a w) : (Code.region id l.toArray true).wp P Q a w := by
  have hn : n < l.toArray.size := by
    simp only [tailB, Bool.and_eq_true, decide_eq_true_eq] at hB
    exact hB.1.1.1.2
  refine wp_region_any hm ?_
  have inv0 : HeadInv .any l.toArray n (Array.replicate l.toArray.size false) :=
    ⟨by simp, fun j oj _ hl => (by rw [getD_replicate_false] at hl; cases hl), fun t _ ht => getD_in (by simpa using ht) (getD_replicate_false _ _)⟩
  have hcnt : (List.range n).countP (fun i => !(Array.replicate l.toArray.size false).getD i true) = n := by
    rw [List.countP_eq_length.2, List.length_range]
    intro i hi
    have hi' : i < l.length := by have := List.mem_range.1 hi; have : l.toArray.size = l.length := by simp
                                  omega
    simp [hi']
  have h := wpAny_rg (Q := Q) hB I (fun i hi o ho d a w hd hdeps hI => by
    have ho' : (l.take n)[i]? = some o := by rw [List.getElem?_take, if_pos hi]; simpa using ho
    have hs := hstep.get ho'
    rw [Nat.zero_add] at hs
    have := hs d a w hd (fun e he => hdeps e (by simpa using he)) hI _ (fun _ _ h => h)
    unfold wpOp
    rw [ho]
    simp only
    split
    · rename_i hw; rw [if_pos hw] at this; exact .inl this
    · rename_i hw; rw [if_neg hw] at this; exact this) (by simpa using hend) n _ a w.drew inv0 hcnt (by
    have : Done (Array.replicate l.toArray.size false) = fun _ => False := by
      funext j
      apply propext
      simp only [Done, getD_replicate_false, iff_false]
      simp
    rw [this]
    exact h0)
  rwa [show n + (l.toArray.size - n) = l.toArray.size by omega] at h

/-- number i's value set -/
def upd (xs : Nat → Value) (i : Nat) (v : Value) : Nat → Value := fun j => if j = i then v else xs j

/-- the frame by the values of the region's operations -/
def frameOf (a0 : Act) : Nat → List Oper → (Nat → Value) → Act
  | _, [], _ => a0
  | k, o :: l, xs => (frameOf a0 (k + 1) l xs).put o.dst (xs k)

theorem frameOf_agree (a : Act) : ∀ (l : List Oper) (k : Nat) (xs ys : Nat → Value), (∀ i, k ≤ i → xs i = ys i) → frameOf a k l xs = frameOf a k l ys
  | [], _, _, _, _ => rfl
  | o :: l, k, xs, ys, h => by
    rw [frameOf, frameOf, frameOf_agree a l (k + 1) xs ys (fun i hi => h i (by omega)), h k (Nat.le_refl _)]

theorem frameOf_self (a : Act) : ∀ (l : List Oper) (k : Nat), ∃ xs, a = frameOf a k l xs
  | [], _ => ⟨fun _ => undef, rfl⟩
  | o :: l, k => by
    obtain ⟨xs, h⟩ := frameOf_self a l (k + 1)
    cases hd : o.dst with
    | none => exact ⟨xs, by rw [frameOf, hd]; exact h⟩
    | some t =>
      refine ⟨upd xs k (a.tmps.getD t undef), ?_⟩
      rw [frameOf, frameOf_agree a l (k + 1) _ xs (fun i hi => by simp [upd]; omega), ← h, hd]
      have : upd xs k (a.tmps.getD t undef) k = a.tmps.getD t undef := by simp [upd]
      rw [this]
      obtain ⟨tm, df⟩ := a
      unfold Act.put
      congr 1
      apply Array.ext
      · simp
      · intro i h1 h2
        by_cases hi : t = i
        · subst hi; simp [h1]
        · exact (Array.getElem_setIfInBounds_ne (by simpa using h1) hi).symm

/-- what an operation has to show, the invariant taken apart: the world (G), what each value that has been found is good for (F) -/
def StepRG (P : Program) (Q : Exit → Act → World → Prop) (l : List Oper) (frame : (Nat → Value) → Act) (G : World → Prop) (F : (Nat → Prop) → Nat → Value → World → Prop) (i : Nat) (o : Oper) : Prop :=
  ∀ (xs : Nat → Value) (d : Nat → Prop) (w : World), ¬ d i → (∀ e ∈ o.after.toList, Region.binds .any e = true → d e.on) → G w → (∀ j, d j → F d j (xs j) w) → ∀ K : Act → World → Prop,
    (∀ a' v w', a' = (frame xs).put o.dst v → G w' → (∀ j u, j ≠ i → d j → F d j u w → F (fun j => d j ∨ j = i) j u w') → F (fun j => d j ∨ j = i) i v w' → K a' w') →
    if Region.wanted o (yielded l.toArray (frame xs).tmps) = true then o.wp P (frame xs) w K Q else K ((frame xs).put o.dst undef) w

theorem wp_region_RG {id : Nat} {a : Act} {w : World} {l : List Oper} (n : Nat) (hm : P.follows .mixedOrders = true) (hB : tailB .any l.toArray n = true) (G : World → Prop) (F : (Nat → Prop) → Nat → Value → World → Prop) 
    (hcomm : AllSteps (fun i o => ∀ xs v, (frameOf a 0 (l.take n) xs).put o.dst v = frameOf a 0 (l.take n) (upd xs i v)) 0 (l.take n)) (hG : G w.drew)
    (hstep : AllSteps (StepRG P Q l (frameOf a 0 (l.take n)) G F) 0 (l.take n))
    (hend : ∀ xs w, G w → (∀ j, j < n → F (fun j => j < n) j (xs j) w) → wpList P l.toArray Q (l.drop n) (frameOf a 0 (l.take n) xs) w) : (Code.region id l.toArray true).wp P Q a w := by
  have key : ∀ (k : Nat) (m : List Oper), AllSteps (fun i o => ∀ xs v, (frameOf a 0 (l.take n) xs).put o.dst v = frameOf a 0 (l.take n) (upd xs i v)) k m → AllSteps (StepRG P Q l (frameOf a 0 (l.take n)) G F) k m →
      AllSteps (StepOK P Q l fun d a' w' => ∃ xs, a' = frameOf a 0 (l.take n) xs ∧ G w' ∧ ∀ j, d j → F d j (xs j) w') k m := by
    intro k m
    induction m generalizing k with
    | nil => intro _ _; trivial
    | cons o m ih =>
      intro h1 h2
      refine ⟨?_, ih (k + 1) h1.2 h2.2⟩
      rintro d a' w' hd hdeps ⟨xs, rfl, hg, hF⟩ K hK
      refine h2.1 xs d w' hd hdeps hg hF K fun a2 v w2 ha2 hg2 hk hv => hK _ _ ⟨upd xs k v, ha2.trans (h1.1 xs v), hg2, fun j hj => ?_⟩
      by_cases e : j = k
      · subst e
        have : upd xs j v j = v := by simp [upd]
        rw [this]
        exact hv
      · have : upd xs k v j = xs j := by simp [upd, e]
        rw [this]
        exact hk j _ e (hj.resolve_right e) (hF j (hj.resolve_right e))
  obtain ⟨xs0, ha⟩ := frameOf_self a (l.take n) 0
  refine wp_region_rg n hm hB _ ⟨xs0, ha, hG, fun j hj => hj.elim⟩ (key 0 _ hcomm hstep) ?_
  rintro a' w' ⟨xs, rfl, hg, hF⟩
  exact hend xs w' hg hF

/-- the same, where what a value is good for may depend on the others -/
def StepRGX (P : Program) (Q : Exit → Act → World → Prop) (l : List Oper) (frame : (Nat → Value) → Act) (G : World → Prop) (F : (Nat → Prop) → (Nat → Value) → Nat → World → Prop) (i : Nat) (o : Oper) : Prop :=
  ∀ (xs : Nat → Value) (d : Nat → Prop) (w : World), ¬ d i → (∀ e ∈ o.after.toList, Region.binds .any e = true → d e.on) → G w → (∀ j, d j → F d xs j w) → ∀ K : Act → World → Prop,
    (∀ a' v w', a' = (frame xs).put o.dst v → G w' → (∀ j, j ≠ i → d j → F d xs j w → F (fun j => d j ∨ j = i) (upd xs i v) j w') → F (fun j => d j ∨ j = i) (upd xs i v) i w' → K a' w') →
    if Region.wanted o (yielded l.toArray (frame xs).tmps) = true then o.wp P (frame xs) w K Q else K ((frame xs).put o.dst undef) w

theorem wp_region_RGX {id : Nat} {a : Act} {w : World} {l : List Oper} (n : Nat) (hm : P.follows .mixedOrders = true) (hB : tailB .any l.toArray n = true) (G : World → Prop) (F : (Nat → Prop) → (Nat → Value) → Nat → World → Prop) 
    (hcomm : AllSteps (fun i o => ∀ xs v, (frameOf a 0 (l.take n) xs).put o.dst v = frameOf a 0 (l.take n) (upd xs i v)) 0 (l.take n)) (hG : G w.drew)
    (hstep : AllSteps (StepRGX P Q l (frameOf a 0 (l.take n)) G F) 0 (l.take n))
    (hend : ∀ xs w, G w → (∀ j, j < n → F (fun j => j < n) xs j w) → wpList P l.toArray Q (l.drop n) (frameOf a 0 (l.take n) xs) w) : (Code.region id l.toArray true).wp P Q a w := by
  have key : ∀ (k : Nat) (m : List Oper), AllSteps (fun i o => ∀ xs v, (frameOf a 0 (l.take n) xs).put o.dst v = frameOf a 0 (l.take n) (upd xs i v)) k m → AllSteps (StepRGX P Q l (frameOf a 0 (l.take n)) G F) k m →
      AllSteps (StepOK P Q l fun d a' w' => ∃ xs, a' = frameOf a 0 (l.take n) xs ∧ G w' ∧ ∀ j, d j → F d xs j w') k m := by
    intro k m
    induction m generalizing k with
    | nil => intro _ _; trivial
    | cons o m ih =>
      intro h1 h2
      refine ⟨?_, ih (k + 1) h1.2 h2.2⟩
      rintro d a' w' hd hdeps ⟨xs, rfl, hg, hF⟩ K hK
      refine h2.1 xs d w' hd hdeps hg hF K fun a2 v w2 ha2 hg2 hk hv => hK _ _ ⟨upd xs k v, ha2.trans (h1.1 xs v), hg2, fun j hj => ?_⟩
      by_cases e : j = k
      · subst e
        exact hv
      · exact hk j e (hj.resolve_right e) (hF j (hj.resolve_right e))
  obtain ⟨xs0, ha⟩ := frameOf_self a (l.take n) 0
  refine wp_region_rg n hm hB _ ⟨xs0, ha, hG, fun j hj => hj.elim⟩ (key 0 _ hcomm hstep) ?_
  rintro a' w' ⟨xs, rfl, hg, hF⟩
  exact hend xs w' hg hF

end

end Go.Proofs.YtfhppajnnbbcjaaGreatDoor
end

section
namespace Go.Proofs.YtfhppajnnbbcjaaGreatDoor
open Go.RowKit

abbrev idxName : ByteArray := ⟨#[105, 110, 100, 101, 120]⟩
abbrev ridxName : ByteArray := ⟨#[114, 105, 110, 100, 101, 120]⟩

/-- how a function of the reference of a name and two values answers -/
def RefOK (f : FuncId) (nm : ByteArray) (x y : J) (j : J) (how : Int) : Prop := ∀ (D : Nat → Prop) (cx cy : List Value) (w : World), (∀ b, D b → All w b) → SRep w D x cx → SRep w D y cy →
  Calls Tryz.prog f #[.string nm, .agg cx.toArray, .agg cy.toArray] w (SpecPost j how w)

theorem spec_put {w wr W' : World} {j : J} {how : Int} {cs : List Value} {r n : Nat} (hrn : r < n) (hwn : w.heap.size ≤ n) (hr : SRep wr (fun b => n ≤ b ∧ b < wr.heap.size) j cs) (hs : W'.heap.size = wr.heap.size) (hk : ∀ b, b ≠ r → W'.heap[b]? = wr.heap[b]?)
    (hb : Below w.heap.size w W') : SpecPost j how w (.returned (.tuple #[.agg cs.toArray, .int .i64 how])) W' :=
  ⟨cs, rfl, VRep.keep (fun b hb => hk b (by omega)) (fun b hb => ⟨by omega, by omega⟩) _ _ hr, hb⟩

theorem alloc3 {w W0 : World} {o1 o2 o3 : Obj} (h : ((w.alloc o1).alloc o2).alloc o3 = W0) : Below w.heap.size w W0 ∧ W0.heap.size = w.heap.size + 3 ∧ W0.heap[w.heap.size]? = some o1 ∧ W0.heap[w.heap.size + 1]? = some o2 ∧ W0.heap[w.heap.size + 1 + 1]? = some o3 := by
  subst h
  refine ⟨(((Below.refl _ _).alloc (Nat.le_refl _) _).alloc (by simp) _).alloc (by simp; omega) _, by simp, ?_, ?_, ?_⟩
  · rw [Below.heap_alloc _ _ _ (by simp; omega), Below.heap_alloc _ _ _ (by simp)]; exact heap_alloc_new _ _
  · rw [Below.heap_alloc _ _ _ (by simp)]; exact heap_alloc_new1 _ _ _
  · have := heap_alloc_new ((w.alloc o1).alloc o2) o3; rwa [World.size_alloc, World.size_alloc] at this
theorem alloc2 {w W0 : World} {o1 o2 : Obj} (h : (w.alloc o1).alloc o2 = W0) : Below w.heap.size w W0 ∧ W0.heap.size = w.heap.size + 2 ∧ W0.heap[w.heap.size]? = some o1 ∧ W0.heap[w.heap.size + 1]? = some o2 := by
  subst h
  refine ⟨((Below.refl _ _).alloc (Nat.le_refl _) _).alloc (by simp) _, by simp, ?_, ?_⟩
  · rw [Below.heap_alloc _ _ _ (by simp)]; exact heap_alloc_new _ _
  · exact heap_alloc_new1 _ _ _

/-- what the values of 'along(name, in, args[0])' are good for -/
def CallF (nm : ByteArray) (cx : Array Value) (S : Value) (p : Addr) (cy : Array Value) (j : J) (how : Int) (n : Nat) : Nat → Value → World → Prop
  | 0, u, _ => u = .string nm
  | 1, u, _ => u = .agg cx
  | 2, u, _ => u = S
  | 3, u, _ => u = .pointer (some p)
  | 4, u, _ => u = .agg cy
  | 5, u, W => ∃ cs : List Value, u = .tuple #[.agg cs.toArray, .int .i64 how] ∧ SRep W (fun b => n ≤ b ∧ b < W.heap.size) j cs
  | 6, u, W => ∃ cs : List Value, u = .agg cs.toArray ∧ SRep W (fun b => n ≤ b ∧ b < W.heap.size) j cs
  | 7, u, _ => u = .int .i64 how
  | _, _, _ => True

theorem CallF.keep {nm : ByteArray} {cx : Array Value} {S : Value} {p : Addr} {cy : Array Value} {j : J} {how : Int} {n i : Nat} {u : Value} {W W' : World} (h : CallF nm cx S p cy j how n i u W) (hb : Below W.heap.size W W') : CallF nm cx S p cy j how n i u W' := by
  match i, h with
  | 0, h => exact h
  | 1, h => exact h
  | 2, h => exact h
  | 3, h => exact h
  | 4, h => exact h
  | 5, ⟨cs, hu, hr⟩ => exact ⟨cs, hu, VRep.keep (fun b hb' => hb.block b hb'.2) (fun b hb' => ⟨hb'.1, Nat.lt_of_lt_of_le hb'.2 hb.size⟩) _ _ hr⟩
  | 6, ⟨cs, hu, hr⟩ => exact ⟨cs, hu, VRep.keep (fun b hb' => hb.block b hb'.2) (fun b hb' => ⟨hb'.1, Nat.lt_of_lt_of_le hb'.2 hb.size⟩) _ _ hr⟩
  | 7, h => exact h
  | k + 8, _ => trivial
theorem CallF.five {nm : ByteArray} {cx : Array Value} {S : Value} {p : Addr} {cy : Array Value} {j : J} {how : Int} {n : Nat} {u : Value} {W : World} (h : CallF nm cx S p cy j how n 5 u W) :
    ∃ cs : List Value, u = .tuple #[.agg cs.toArray, .int .i64 how] ∧ SRep W (fun b => n ≤ b ∧ b < W.heap.size) j cs := h
theorem CallF.six {nm : ByteArray} {cx : Array Value} {S : Value} {p : Addr} {cy : Array Value} {j : J} {how : Int} {n : Nat} {u : Value} {W : World} (h : CallF nm cx S p cy j how n 6 u W) :
    ∃ cs : List Value, u = .agg cs.toArray ∧ SRep W (fun b => n ≤ b ∧ b < W.heap.size) j cs := h

set_option maxRecDepth 100000 in
set_option maxHeartbeats 1000000 in
theorem along_idx (x y : J) (j : J) (how : Int) (H : RefOK 74 idxName x y j how) : RefOK 39 idxName x y j how := by
  intro D cx cy w hD hx hy
  have HC := Lib.hid (fun W (hW : Below w.heap.size w W) => H D cx cy W (fun b hb => Nat.lt_of_lt_of_le (hD b hb) hW.size) (VRep.keep (Same.of_below hW hD) (fun _ h => h) _ _ hx) (VRep.keep (Same.of_below hW hD) (fun _ h => h) _ _ hy))
  obtain ⟨A1, c1, A2, c2, A3, c3, rfl⟩ := SRep.six hx
  obtain ⟨B1, d1, B2, d2, B3, d3, rfl⟩ := SRep.six hy
  clear hx hy hD H
  go_enter Tryz.func39, Tryz.ntmps39
  go_wp2_with fail
  generalize hW : ((World.alloc _ _).alloc _).alloc _ = W0
  have h3 := alloc3 hW
  have H3 := Lib.hid h3
  clear h3 hW
  refine (HC.out W0 H3.out.1).mono ?_
  rintro e w1 ⟨cs, rfl, hr, hb⟩
  obtain ⟨E1, e1, E2, e2, E3, e3, rfl⟩ := SRep.six hr
  have HR := Lib.hid (And.intro hr hb)
  have hbx := (hb.block _ (box_lt H3.out.2.2.2.2)).trans H3.out.2.2.2.2
  have r0 : w1.cell? ⟨w.heap.size + 1 + 1, 0, none⟩ = _ := box_cell hbx 0
  have r1 : w1.cell? ⟨w.heap.size + 1 + 1, 1, none⟩ = _ := box_cell hbx 1
  have r2 : w1.cell? ⟨w.heap.size + 1 + 1, 2, none⟩ = _ := box_cell hbx 2
  have r3 : w1.cell? ⟨w.heap.size + 1 + 1, 3, none⟩ = _ := box_cell hbx 3
  have r4 : w1.cell? ⟨w.heap.size + 1 + 1, 4, none⟩ = _ := box_cell hbx 4
  have r5 : w1.cell? ⟨w.heap.size + 1 + 1, 5, none⟩ = _ := box_cell hbx 5
  have fz := box_frozen hbx
  have hlt := box_lt hbx
  clear hr hb hbx HC
  go_wp2_with fail
  refine bodyPost_ret (v := .tuple #[.agg #[.int .i64 j.kind, .int .i64 j.half, .string j.text, .slice E1 j.list.length e1, .slice E2 j.keys.length e2, .slice E3 j.vals.length e3], .int .i64 how]) (by simp [results, Tryz.results39, go_sem, r0, r1, r2, r3, r4, r5]) rfl ?_
  have hsz := H3.out.2.1
  refine spec_put (r := w.heap.size + 1 + 1) (n := w.heap.size + 3) (by omega) (by omega) (by rw [← hsz]; exact HR.out.1) (by simp [World.setCell]) (fun b hb => by iterate 6 rw [heap_setCell_other _ _ _ _ hb]) ?_
  repeat (refine Below.setCell ?_ (by simp; omega) _)
  exact H3.out.1.trans (HR.out.2.mono (by omega))

set_option maxRecDepth 100000 in
set_option maxHeartbeats 1000000 in
theorem along_ridx (x y : J) (j : J) (how : Int) (H : RefOK 74 ridxName x y j how) : RefOK 39 ridxName x y j how := by
  intro D cx cy w hD hx hy
  have HC := Lib.hid (fun W (hW : Below w.heap.size w W) => H D cx cy W (fun b hb => Nat.lt_of_lt_of_le (hD b hb) hW.size) (VRep.keep (Same.of_below hW hD) (fun _ h => h) _ _ hx) (VRep.keep (Same.of_below hW hD) (fun _ h => h) _ _ hy))
  obtain ⟨A1, c1, A2, c2, A3, c3, rfl⟩ := SRep.six hx
  obtain ⟨B1, d1, B2, d2, B3, d3, rfl⟩ := SRep.six hy
  clear hx hy hD H
  go_enter Tryz.func39, Tryz.ntmps39
  go_wp2_with fail
  generalize hW : ((World.alloc _ _).alloc _).alloc _ = W0
  have h3 := alloc3 hW
  have H3 := Lib.hid h3
  clear h3 hW
  refine (HC.out W0 H3.out.1).mono ?_
  rintro e w1 ⟨cs, rfl, hr, hb⟩
  obtain ⟨E1, e1, E2, e2, E3, e3, rfl⟩ := SRep.six hr
  have HR := Lib.hid (And.intro hr hb)
  have hbx := (hb.block _ (box_lt H3.out.2.2.2.2)).trans H3.out.2.2.2.2
  have r0 : w1.cell? ⟨w.heap.size + 1 + 1, 0, none⟩ = _ := box_cell hbx 0
  have r1 : w1.cell? ⟨w.heap.size + 1 + 1, 1, none⟩ = _ := box_cell hbx 1
  have r2 : w1.cell? ⟨w.heap.size + 1 + 1, 2, none⟩ = _ := box_cell hbx 2
  have r3 : w1.cell? ⟨w.heap.size + 1 + 1, 3, none⟩ = _ := box_cell hbx 3
  have r4 : w1.cell? ⟨w.heap.size + 1 + 1, 4, none⟩ = _ := box_cell hbx 4
  have r5 : w1.cell? ⟨w.heap.size + 1 + 1, 5, none⟩ = _ := box_cell hbx 5
  have fz := box_frozen hbx
  have hlt := box_lt hbx
  clear hr hb hbx HC
  go_wp2_with fail
  refine bodyPost_ret (v := .tuple #[.agg #[.int .i64 j.kind, .int .i64 j.half, .string j.text, .slice E1 j.list.length e1, .slice E2 j.keys.length e2, .slice E3 j.vals.length e3], .int .i64 how]) (by simp [results, Tryz.results39, go_sem, r0, r1, r2, r3, r4, r5]) rfl ?_
  have hsz := H3.out.2.1
  refine spec_put (r := w.heap.size + 1 + 1) (n := w.heap.size + 3) (by omega) (by omega) (by rw [← hsz]; exact HR.out.1) (by simp [World.setCell]) (fun b hb => by iterate 6 rw [heap_setCell_other _ _ _ _ hb]) ?_
  repeat (refine Below.setCell ?_ (by simp; omega) _)
  exact H3.out.1.trans (HR.out.2.mono (by omega))

set_option maxRecDepth 100000 in
set_option maxHeartbeats 1000000 in
theorem call_idx (x y : J) (j : J) (how : Int) (H : RefOK 74 idxName x y j how) (D : Nat → Prop) (cx : List Value) (S : Value) (w : World) (hD : ∀ b, D b → All w b) (hx : SRep w D x cx) (hy : SlJ w D [y] S) :
    Calls Tryz.prog 10 #[.string idxName, .agg cx.toArray, S] w (SpecPost j how w) := by
  have HC := Lib.hid (fun W (hW : Below w.heap.size w W) cy (hc : SRep W D y cy) => along_idx x y j how H D cx cy W (fun b hb => Nat.lt_of_lt_of_le (hD b hb) hW.size) (VRep.keep (Same.of_below hW hD) (fun _ h => h) _ _ hx) hc)
  have HV1 := Lib.hid (fun W (hW : Below w.heap.size w W) => vague x D cx W (fun b hb => Nat.lt_of_lt_of_le (hD b hb) hW.size) (VRep.keep (Same.of_below hW hD) (fun _ h => h) _ _ hx))
  have HV2 := Lib.hid (fun W (hW : Below w.heap.size w W) => vague (.arr [y]) D [.int .i64 5, .int .i64 0, .string noText, S, .slice none 0 0, .slice none 0 0] W (fun b hb => Nat.lt_of_lt_of_le (hD b hb) hW.size)
    ⟨_, _, _, rfl, SlJ.keep hy (Same.of_below hW hD) (fun _ h => h), emp _ _, emp _ _⟩)
  have HY := Lib.hid (fun W (hW : Below w.heap.size w W) => SlJ.keep hy (Same.of_below hW hD) (fun _ h => h))
  obtain ⟨A1, c1, A2, c2, A3, c3, rfl⟩ := SRep.six hx
  obtain ⟨A, c, rfl, -⟩ := hy
  have HD := Lib.hid hD
  clear hx hD H
  go_enter Tryz.func10, Tryz.ntmps10
  go_wp2_with fail
  generalize hW : (World.alloc _ _).alloc _ = W0
  have H2 := Lib.hid (alloc2 hW)
  clear hW
  refine (HV1.out W0 H2.out.1).mono ?_
  rintro e w1 ⟨rfl, hb1⟩
  have HB1 := Lib.hid (H2.out.1.trans (hb1.mono H2.out.1.size))
  have HX := Lib.hid (And.intro ((hb1.block _ (box_lt H2.out.2.2.1)).trans H2.out.2.2.1) ((hb1.block _ (box_lt H2.out.2.2.2)).trans H2.out.2.2.2))
  clear hb1 HV1 H2
  go_wp2_with fail
  refine (specArray_any A 1 c w1).mono ?_
  rintro e w2 ⟨rfl, hb2⟩
  have HB2 := Lib.hid (HB1.out.trans (hb2.mono HB1.out.size))
  replace HX := Lib.hid (And.intro ((hb2.block _ (box_lt HX.out.1)).trans HX.out.1) ((hb2.block _ (box_lt HX.out.2)).trans HX.out.2))
  clear hb2 HB1
  go_wp2_with fail
  refine (HV2.out w2 HB2.out).mono ?_
  rintro e w3 ⟨rfl, hb3⟩
  have HB3 := Lib.hid (HB2.out.trans (hb3.mono HB2.out.size))
  replace HX := Lib.hid (And.intro ((hb3.block _ (box_lt HX.out.1)).trans HX.out.1) ((hb3.block _ (box_lt HX.out.2)).trans HX.out.2))
  clear hb3 HB2 HV2
  go_wp2_with fail
  obtain ⟨Aq, cq, he, -, -, hr⟩ := HY.out w3 HB3.out
  obtain ⟨b, o, hA, hbD, hrow⟩ := hr (by simp)
  rw [hA] at he
  obtain ⟨rfl, -, rfl⟩ := Value.slice.inj he
  obtain ⟨cs1, hl1, hg1, hv1⟩ := hrow.get (i := 0) (toVL_get (x := y) rfl)
  have HC1 := Lib.hid (fun W (hW : Below w3.heap.size w3 W) => HC.out W (HB3.out.trans (hW.mono HB3.out.size)) cs1 (VRep.keep (Same.of_below hW (fun b hb => Nat.lt_of_lt_of_le (HD.out b hb) HB3.out.size)) (fun _ h => h) _ _ hv1))
  simp only [Nat.zero_mul, Nat.add_zero] at hg1
  obtain ⟨B1, d1, B2, d2, B3, d3, rfl⟩ := SRep.six hv1
  have s0 : w3.cell? ⟨b, o, none⟩ = _ := hg1 0 _ rfl
  have s1 := hg1 1 _ rfl
  have s2 := hg1 2 _ rfl
  have s3 := hg1 3 _ rfl
  have s4 := hg1 4 _ rfl
  have s5 := hg1 5 _ rfl
  have HS := Lib.hid (And.intro (Nat.lt_of_lt_of_le (HD.out b hbD) HB3.out.size) (And.intro s0 (And.intro s1 (And.intro s2 (And.intro s3 (And.intro s4 s5))))))
  clear he hr hA hbD hrow hl1 hg1 hv1 HC HY HD s0 s1 s2 s3 s4 s5
  refine wp_region_RG 8 (by kernel_rfl) (by kernel_rfl) (Below w3.heap.size w3) (fun _ i u W => CallF idxName #[.int .i64 x.kind, .int .i64 x.half, .string x.text, .slice A1 x.list.length c1, .slice A2 x.keys.length c2, .slice A3 x.vals.length c3] (.slice (some ⟨b, o, none⟩) 1 c) ⟨b, o, none⟩ #[.int .i64 y.kind, .int .i64 y.half, .string y.text, .slice B1 y.list.length d1, .slice B2 y.keys.length d2, .slice B3 y.vals.length d3] j how w3.heap.size i u W) (by simp [AllSteps, frameOf, Act.put, upd]) ((Below.refl _ _).drew) ⟨?s0, ?s1, ?s2, ?s3, ?s4, ?s5, ?s6, ?s7, trivial⟩ ?e
  case s0 =>
    intro xs d W hd hdeps hG hF K hK
    clear hdeps
    simp only [frameOf, List.take_succ_cons, List.take_zero, Act.put, List.setIfInBounds_toArray, List.set_cons_zero, List.set_cons_succ, Nat.zero_add, Nat.reduceAdd]
    go_simp
    exact hK _ _ _ (by simp only [frameOf, List.take_succ_cons, List.take_zero, Act.put, List.setIfInBounds_toArray, List.set_cons_zero, List.set_cons_succ, Nat.zero_add, Nat.reduceAdd]) hG (fun j u _ _ h => h) rfl
  case s1 =>
    intro xs d W hd hdeps hG hF K hK
    clear hdeps
    have hb := (hG.block _ (box_lt HX.out.1)).trans HX.out.1
    have b0 := box_cell hb 0
    have b1 := box_cell hb 1
    have b2 := box_cell hb 2
    have b3 := box_cell hb 3
    have b4 := box_cell hb 4
    have b5 := box_cell hb 5
    simp at b0 b1 b2 b3 b4 b5
    clear hb
    simp only [frameOf, List.take_succ_cons, List.take_zero, Act.put, List.setIfInBounds_toArray, List.set_cons_zero, List.set_cons_succ, Nat.zero_add, Nat.reduceAdd]
    go_simp
    exact hK _ _ _ (by simp only [frameOf, List.take_succ_cons, List.take_zero, Act.put, List.setIfInBounds_toArray, List.set_cons_zero, List.set_cons_succ, Nat.zero_add, Nat.reduceAdd]) hG (fun j u _ _ h => h) rfl
  case s2 =>
    intro xs d W hd hdeps hG hF K hK
    clear hdeps
    simp only [frameOf, List.take_succ_cons, List.take_zero, Act.put, List.setIfInBounds_toArray, List.set_cons_zero, List.set_cons_succ, Nat.zero_add, Nat.reduceAdd]
    go_simp
    exact hK _ _ _ (by simp only [frameOf, List.take_succ_cons, List.take_zero, Act.put, List.setIfInBounds_toArray, List.set_cons_zero, List.set_cons_succ, Nat.zero_add, Nat.reduceAdd]) hG (fun j u _ _ h => h) rfl
  case s3 =>
    intro xs d W hd hdeps hG hF K hK
    simp [Region.binds] at hdeps
    have f2 : xs 2 = _ := hF 2 hdeps
    simp only [frameOf, List.take_succ_cons, List.take_zero, Act.put, List.setIfInBounds_toArray, List.set_cons_zero, List.set_cons_succ, Nat.zero_add, Nat.reduceAdd]
    simp only [f2]
    go_simp
    exact hK _ _ _ (by simp only [frameOf, List.take_succ_cons, List.take_zero, Act.put, List.setIfInBounds_toArray, List.set_cons_zero, List.set_cons_succ, Nat.zero_add, Nat.reduceAdd, f2]) hG (fun j u _ _ h => h) rfl
  case s4 =>
    intro xs d W hd hdeps hG hF K hK
    simp [Region.binds] at hdeps
    have f3 : xs 3 = _ := hF 3 hdeps
    have t0 := (hG.cell (p := ⟨b, o, none⟩) HS.out.1).trans HS.out.2.1
    have t1 := (hG.cell (p := ⟨b, o + 1, none⟩) HS.out.1).trans HS.out.2.2.1
    have t2 := (hG.cell (p := ⟨b, o + 2, none⟩) HS.out.1).trans HS.out.2.2.2.1
    have t3 := (hG.cell (p := ⟨b, o + 3, none⟩) HS.out.1).trans HS.out.2.2.2.2.1
    have t4 := (hG.cell (p := ⟨b, o + 4, none⟩) HS.out.1).trans HS.out.2.2.2.2.2.1
    have t5 := (hG.cell (p := ⟨b, o + 5, none⟩) HS.out.1).trans HS.out.2.2.2.2.2.2
    simp only [frameOf, List.take_succ_cons, List.take_zero, Act.put, List.setIfInBounds_toArray, List.set_cons_zero, List.set_cons_succ, Nat.zero_add, Nat.reduceAdd]
    simp only [f3]
    go_simp
    exact hK _ _ _ (by simp only [frameOf, List.take_succ_cons, List.take_zero, Act.put, List.setIfInBounds_toArray, List.set_cons_zero, List.set_cons_succ, Nat.zero_add, Nat.reduceAdd, f3]) hG (fun j u _ _ h => h) rfl
  case s5 =>
    intro xs d W hd hdeps hG hF K hK
    simp [Region.binds] at hdeps
    have f0 : xs 0 = _ := hF 0 hdeps.1
    have f1 : xs 1 = _ := hF 1 hdeps.2.1
    have f4 : xs 4 = _ := hF 4 hdeps.2.2
    have HG2 := Lib.hid (And.intro hG hK)
    clear hG hK hF
    simp only [frameOf, List.take_succ_cons, List.take_zero, Act.put, List.setIfInBounds_toArray, List.set_cons_zero, List.set_cons_succ, Nat.zero_add, Nat.reduceAdd]
    simp only [f0, f1, f4]
    go_simp
    refine (HC1.out W HG2.out.1).mono ?_
    rintro e w4 ⟨cs, rfl, hr, hb4⟩
    obtain ⟨hG, hK⟩ := HG2.out
    exact hK _ _ _ (by simp only [frameOf, List.take_succ_cons, List.take_zero, Act.put, List.setIfInBounds_toArray, List.set_cons_zero, List.set_cons_succ, Nat.zero_add, Nat.reduceAdd, f0, f1, f4]) (hG.trans (hb4.mono hG.size)) (fun j u _ _ h => h.keep hb4) ⟨cs, rfl, VRep.keep (fun _ _ => rfl) (fun b hb => ⟨Nat.le_trans hG.size hb.1, hb.2⟩) _ _ hr⟩
  case s6 =>
    intro xs d W hd hdeps hG hF K hK
    simp [Region.binds] at hdeps
    have h5 := CallF.five (hF 5 hdeps)
    have f5 := h5.choose_spec.1
    have hr := h5.choose_spec.2
    generalize h5.choose = cs at f5 hr
    clear h5
    simp only [frameOf, List.take_succ_cons, List.take_zero, Act.put, List.setIfInBounds_toArray, List.set_cons_zero, List.set_cons_succ, Nat.zero_add, Nat.reduceAdd]
    simp only [f5]
    go_simp
    exact hK _ _ _ (by simp only [frameOf, List.take_succ_cons, List.take_zero, Act.put, List.setIfInBounds_toArray, List.set_cons_zero, List.set_cons_succ, Nat.zero_add, Nat.reduceAdd, f5]) hG (fun j u _ _ h => h) ⟨cs, rfl, hr⟩
  case s7 =>
    intro xs d W hd hdeps hG hF K hK
    simp [Region.binds] at hdeps
    have h5 := CallF.five (hF 5 hdeps)
    have f5 := h5.choose_spec.1
    have hr := h5.choose_spec.2
    generalize h5.choose = cs at f5 hr
    clear h5
    simp only [frameOf, List.take_succ_cons, List.take_zero, Act.put, List.setIfInBounds_toArray, List.set_cons_zero, List.set_cons_succ, Nat.zero_add, Nat.reduceAdd]
    simp only [f5]
    go_simp
    exact hK _ _ _ (by simp only [frameOf, List.take_succ_cons, List.take_zero, Act.put, List.setIfInBounds_toArray, List.set_cons_zero, List.set_cons_succ, Nat.zero_add, Nat.reduceAdd, f5]) hG (fun j u _ _ h => h) rfl
  case e =>
  intro xs w4 hG hF
  have h6 := CallF.six (hF 6 (by omega))
  have f6 := h6.choose_spec.1
  have hr := h6.choose_spec.2
  generalize h6.choose = cs at f6 hr
  clear h6
  have f7 : xs 7 = _ := hF 7 (by omega)
  obtain ⟨E1, e1, E2, e2, E3, e3, rfl⟩ := SRep.six hr
  have HR := Lib.hid (And.intro hr hG)
  have hbx := (hG.block _ (box_lt HX.out.2)).trans HX.out.2
  have r0 : w4.cell? ⟨w.heap.size + 1, 0, none⟩ = _ := box_cell hbx 0
  have r1 : w4.cell? ⟨w.heap.size + 1, 1, none⟩ = _ := box_cell hbx 1
  have r2 : w4.cell? ⟨w.heap.size + 1, 2, none⟩ = _ := box_cell hbx 2
  have r3 : w4.cell? ⟨w.heap.size + 1, 3, none⟩ = _ := box_cell hbx 3
  have r4 : w4.cell? ⟨w.heap.size + 1, 4, none⟩ = _ := box_cell hbx 4
  have r5 : w4.cell? ⟨w.heap.size + 1, 5, none⟩ = _ := box_cell hbx 5
  have fz := box_frozen hbx
  have hlt := box_lt hbx
  have hlt3 := box_lt HX.out.2
  clear hr hbx HC1 hG hF HS
  simp only [frameOf, List.take_succ_cons, List.take_zero, List.drop_succ_cons, List.drop_zero, Act.put, List.setIfInBounds_toArray, List.set_cons_zero, List.set_cons_succ, Nat.zero_add, Nat.reduceAdd, f6, f7]
  clear f6 f7
  go_wp2_with fail
  refine bodyPost_ret (v := .tuple #[.agg #[.int .i64 j.kind, .int .i64 j.half, .string j.text, .slice E1 j.list.length e1, .slice E2 j.keys.length e2, .slice E3 j.vals.length e3], .int .i64 how]) (by simp [results, Tryz.results10, go_sem, r0, r1, r2, r3, r4, r5]) rfl ?_
  refine spec_put (r := w.heap.size + 1) (n := w3.heap.size) (by omega) HB3.out.size HR.out.1 (by simp [World.setCell]) (fun b hb => by iterate 6 rw [heap_setCell_other _ _ _ _ hb]) ?_
  repeat (refine Below.setCell ?_ (by simp) _)
  exact HB3.out.trans (HR.out.2.mono HB3.out.size)

set_option maxRecDepth 100000 in
set_option maxHeartbeats 1000000 in
theorem call_ridx (x y : J) (j : J) (how : Int) (H : RefOK 74 ridxName x y j how) (D : Nat → Prop) (cx : List Value) (S : Value) (w : World) (hD : ∀ b, D b → All w b) (hx : SRep w D x cx) (hy : SlJ w D [y] S) :
    Calls Tryz.prog 10 #[.string ridxName, .agg cx.toArray, S] w (SpecPost j how w) := by
  have HC := Lib.hid (fun W (hW : Below w.heap.size w W) cy (hc : SRep W D y cy) => along_ridx x y j how H D cx cy W (fun b hb => Nat.lt_of_lt_of_le (hD b hb) hW.size) (VRep.keep (Same.of_below hW hD) (fun _ h => h) _ _ hx) hc)
  have HV1 := Lib.hid (fun W (hW : Below w.heap.size w W) => vague x D cx W (fun b hb => Nat.lt_of_lt_of_le (hD b hb) hW.size) (VRep.keep (Same.of_below hW hD) (fun _ h => h) _ _ hx))
  have HV2 := Lib.hid (fun W (hW : Below w.heap.size w W) => vague (.arr [y]) D [.int .i64 5, .int .i64 0, .string noText, S, .slice none 0 0, .slice none 0 0] W (fun b hb => Nat.lt_of_lt_of_le (hD b hb) hW.size)
    ⟨_, _, _, rfl, SlJ.keep hy (Same.of_below hW hD) (fun _ h => h), emp _ _, emp _ _⟩)
  have HY := Lib.hid (fun W (hW : Below w.heap.size w W) => SlJ.keep hy (Same.of_below hW hD) (fun _ h => h))
  obtain ⟨A1, c1, A2, c2, A3, c3, rfl⟩ := SRep.six hx
  obtain ⟨A, c, rfl, -⟩ := hy
  have HD := Lib.hid hD
  clear hx hD H
  go_enter Tryz.func10, Tryz.ntmps10
  go_wp2_with fail
  generalize hW : (World.alloc _ _).alloc _ = W0
  have H2 := Lib.hid (alloc2 hW)
  clear hW
  refine (HV1.out W0 H2.out.1).mono ?_
  rintro e w1 ⟨rfl, hb1⟩
  have HB1 := Lib.hid (H2.out.1.trans (hb1.mono H2.out.1.size))
  have HX := Lib.hid (And.intro ((hb1.block _ (box_lt H2.out.2.2.1)).trans H2.out.2.2.1) ((hb1.block _ (box_lt H2.out.2.2.2)).trans H2.out.2.2.2))
  clear hb1 HV1 H2
  go_wp2_with fail
  refine (specArray_any A 1 c w1).mono ?_
  rintro e w2 ⟨rfl, hb2⟩
  have HB2 := Lib.hid (HB1.out.trans (hb2.mono HB1.out.size))
  replace HX := Lib.hid (And.intro ((hb2.block _ (box_lt HX.out.1)).trans HX.out.1) ((hb2.block _ (box_lt HX.out.2)).trans HX.out.2))
  clear hb2 HB1
  go_wp2_with fail
  refine (HV2.out w2 HB2.out).mono ?_
  rintro e w3 ⟨rfl, hb3⟩
  have HB3 := Lib.hid (HB2.out.trans (hb3.mono HB2.out.size))
  replace HX := Lib.hid (And.intro ((hb3.block _ (box_lt HX.out.1)).trans HX.out.1) ((hb3.block _ (box_lt HX.out.2)).trans HX.out.2))
  clear hb3 HB2 HV2
  go_wp2_with fail
  obtain ⟨Aq, cq, he, -, -, hr⟩ := HY.out w3 HB3.out
  obtain ⟨b, o, hA, hbD, hrow⟩ := hr (by simp)
  rw [hA] at he
  obtain ⟨rfl, -, rfl⟩ := Value.slice.inj he
  obtain ⟨cs1, hl1, hg1, hv1⟩ := hrow.get (i := 0) (toVL_get (x := y) rfl)
  have HC1 := Lib.hid (fun W (hW : Below w3.heap.size w3 W) => HC.out W (HB3.out.trans (hW.mono HB3.out.size)) cs1 (VRep.keep (Same.of_below hW (fun b hb => Nat.lt_of_lt_of_le (HD.out b hb) HB3.out.size)) (fun _ h => h) _ _ hv1))
  simp only [Nat.zero_mul, Nat.add_zero] at hg1
  obtain ⟨B1, d1, B2, d2, B3, d3, rfl⟩ := SRep.six hv1
  have s0 : w3.cell? ⟨b, o, none⟩ = _ := hg1 0 _ rfl
  have s1 := hg1 1 _ rfl
  have s2 := hg1 2 _ rfl
  have s3 := hg1 3 _ rfl
  have s4 := hg1 4 _ rfl
  have s5 := hg1 5 _ rfl
  have HS := Lib.hid (And.intro (Nat.lt_of_lt_of_le (HD.out b hbD) HB3.out.size) (And.intro s0 (And.intro s1 (And.intro s2 (And.intro s3 (And.intro s4 s5))))))
  clear he hr hA hbD hrow hl1 hg1 hv1 HC HY HD s0 s1 s2 s3 s4 s5
  refine wp_region_RG 8 (by kernel_rfl) (by kernel_rfl) (Below w3.heap.size w3) (fun _ i u W => CallF ridxName #[.int .i64 x.kind, .int .i64 x.half, .string x.text, .slice A1 x.list.length c1, .slice A2 x.keys.length c2, .slice A3 x.vals.length c3] (.slice (some ⟨b, o, none⟩) 1 c) ⟨b, o, none⟩ #[.int .i64 y.kind, .int .i64 y.half, .string y.text, .slice B1 y.list.length d1, .slice B2 y.keys.length d2, .slice B3 y.vals.length d3] j how w3.heap.size i u W) (by simp [AllSteps, frameOf, Act.put, upd]) ((Below.refl _ _).drew) ⟨?s0, ?s1, ?s2, ?s3, ?s4, ?s5, ?s6, ?s7, trivial⟩ ?e
  case s0 =>
    intro xs d W hd hdeps hG hF K hK
    clear hdeps
    simp only [frameOf, List.take_succ_cons, List.take_zero, Act.put, List.setIfInBounds_toArray, List.set_cons_zero, List.set_cons_succ, Nat.zero_add, Nat.reduceAdd]
    go_simp
    exact hK _ _ _ (by simp only [frameOf, List.take_succ_cons, List.take_zero, Act.put, List.setIfInBounds_toArray, List.set_cons_zero, List.set_cons_succ, Nat.zero_add, Nat.reduceAdd]) hG (fun j u _ _ h => h) rfl
  case s1 =>
    intro xs d W hd hdeps hG hF K hK
    clear hdeps
    have hb := (hG.block _ (box_lt HX.out.1)).trans HX.out.1
    have b0 := box_cell hb 0
    have b1 := box_cell hb 1
    have b2 := box_cell hb 2
    have b3 := box_cell hb 3
    have b4 := box_cell hb 4
    have b5 := box_cell hb 5
    simp at b0 b1 b2 b3 b4 b5
    clear hb
    simp only [frameOf, List.take_succ_cons, List.take_zero, Act.put, List.setIfInBounds_toArray, List.set_cons_zero, List.set_cons_succ, Nat.zero_add, Nat.reduceAdd]
    go_simp
    exact hK _ _ _ (by simp only [frameOf, List.take_succ_cons, List.take_zero, Act.put, List.setIfInBounds_toArray, List.set_cons_zero, List.set_cons_succ, Nat.zero_add, Nat.reduceAdd]) hG (fun j u _ _ h => h) rfl
  case s2 =>
    intro xs d W hd hdeps hG hF K hK
    clear hdeps
    simp only [frameOf, List.take_succ_cons, List.take_zero, Act.put, List.setIfInBounds_toArray, List.set_cons_zero, List.set_cons_succ, Nat.zero_add, Nat.reduceAdd]
    go_simp
    exact hK _ _ _ (by simp only [frameOf, List.take_succ_cons, List.take_zero, Act.put, List.setIfInBounds_toArray, List.set_cons_zero, List.set_cons_succ, Nat.zero_add, Nat.reduceAdd]) hG (fun j u _ _ h => h) rfl
  case s3 =>
    intro xs d W hd hdeps hG hF K hK
    simp [Region.binds] at hdeps
    have f2 : xs 2 = _ := hF 2 hdeps
    simp only [frameOf, List.take_succ_cons, List.take_zero, Act.put, List.setIfInBounds_toArray, List.set_cons_zero, List.set_cons_succ, Nat.zero_add, Nat.reduceAdd]
    simp only [f2]
    go_simp
    exact hK _ _ _ (by simp only [frameOf, List.take_succ_cons, List.take_zero, Act.put, List.setIfInBounds_toArray, List.set_cons_zero, List.set_cons_succ, Nat.zero_add, Nat.reduceAdd, f2]) hG (fun j u _ _ h => h) rfl
  case s4 =>
    intro xs d W hd hdeps hG hF K hK
    simp [Region.binds] at hdeps
    have f3 : xs 3 = _ := hF 3 hdeps
    have t0 := (hG.cell (p := ⟨b, o, none⟩) HS.out.1).trans HS.out.2.1
    have t1 := (hG.cell (p := ⟨b, o + 1, none⟩) HS.out.1).trans HS.out.2.2.1
    have t2 := (hG.cell (p := ⟨b, o + 2, none⟩) HS.out.1).trans HS.out.2.2.2.1
    have t3 := (hG.cell (p := ⟨b, o + 3, none⟩) HS.out.1).trans HS.out.2.2.2.2.1
    have t4 := (hG.cell (p := ⟨b, o + 4, none⟩) HS.out.1).trans HS.out.2.2.2.2.2.1
    have t5 := (hG.cell (p := ⟨b, o + 5, none⟩) HS.out.1).trans HS.out.2.2.2.2.2.2
    simp only [frameOf, List.take_succ_cons, List.take_zero, Act.put, List.setIfInBounds_toArray, List.set_cons_zero, List.set_cons_succ, Nat.zero_add, Nat.reduceAdd]
    simp only [f3]
    go_simp
    exact hK _ _ _ (by simp only [frameOf, List.take_succ_cons, List.take_zero, Act.put, List.setIfInBounds_toArray, List.set_cons_zero, List.set_cons_succ, Nat.zero_add, Nat.reduceAdd, f3]) hG (fun j u _ _ h => h) rfl
  case s5 =>
    intro xs d W hd hdeps hG hF K hK
    simp [Region.binds] at hdeps
    have f0 : xs 0 = _ := hF 0 hdeps.1
    have f1 : xs 1 = _ := hF 1 hdeps.2.1
    have f4 : xs 4 = _ := hF 4 hdeps.2.2
    have HG2 := Lib.hid (And.intro hG hK)
    clear hG hK hF
    simp only [frameOf, List.take_succ_cons, List.take_zero, Act.put, List.setIfInBounds_toArray, List.set_cons_zero, List.set_cons_succ, Nat.zero_add, Nat.reduceAdd]
    simp only [f0, f1, f4]
    go_simp
    refine (HC1.out W HG2.out.1).mono ?_
    rintro e w4 ⟨cs, rfl, hr, hb4⟩
    obtain ⟨hG, hK⟩ := HG2.out
    exact hK _ _ _ (by simp only [frameOf, List.take_succ_cons, List.take_zero, Act.put, List.setIfInBounds_toArray, List.set_cons_zero, List.set_cons_succ, Nat.zero_add, Nat.reduceAdd, f0, f1, f4]) (hG.trans (hb4.mono hG.size)) (fun j u _ _ h => h.keep hb4) ⟨cs, rfl, VRep.keep (fun _ _ => rfl) (fun b hb => ⟨Nat.le_trans hG.size hb.1, hb.2⟩) _ _ hr⟩
  case s6 =>
    intro xs d W hd hdeps hG hF K hK
    simp [Region.binds] at hdeps
    have h5 := CallF.five (hF 5 hdeps)
    have f5 := h5.choose_spec.1
    have hr := h5.choose_spec.2
    generalize h5.choose = cs at f5 hr
    clear h5
    simp only [frameOf, List.take_succ_cons, List.take_zero, Act.put, List.setIfInBounds_toArray, List.set_cons_zero, List.set_cons_succ, Nat.zero_add, Nat.reduceAdd]
    simp only [f5]
    go_simp
    exact hK _ _ _ (by simp only [frameOf, List.take_succ_cons, List.take_zero, Act.put, List.setIfInBounds_toArray, List.set_cons_zero, List.set_cons_succ, Nat.zero_add, Nat.reduceAdd, f5]) hG (fun j u _ _ h => h) ⟨cs, rfl, hr⟩
  case s7 =>
    intro xs d W hd hdeps hG hF K hK
    simp [Region.binds] at hdeps
    have h5 := CallF.five (hF 5 hdeps)
    have f5 := h5.choose_spec.1
    have hr := h5.choose_spec.2
    generalize h5.choose = cs at f5 hr
    clear h5
    simp only [frameOf, List.take_succ_cons, List.take_zero, Act.put, List.setIfInBounds_toArray, List.set_cons_zero, List.set_cons_succ, Nat.zero_add, Nat.reduceAdd]
    simp only [f5]
    go_simp
    exact hK _ _ _ (by simp only [frameOf, List.take_succ_cons, List.take_zero, Act.put, List.setIfInBounds_toArray, List.set_cons_zero, List.set_cons_succ, Nat.zero_add, Nat.reduceAdd, f5]) hG (fun j u _ _ h => h) rfl
  case e =>
  intro xs w4 hG hF
  have h6 := CallF.six (hF 6 (by omega))
  have f6 := h6.choose_spec.1
  have hr := h6.choose_spec.2
  generalize h6.choose = cs at f6 hr
  clear h6
  have f7 : xs 7 = _ := hF 7 (by omega)
  obtain ⟨E1, e1, E2, e2, E3, e3, rfl⟩ := SRep.six hr
  have HR := Lib.hid (And.intro hr hG)
  have hbx := (hG.block _ (box_lt HX.out.2)).trans HX.out.2
  have r0 : w4.cell? ⟨w.heap.size + 1, 0, none⟩ = _ := box_cell hbx 0
  have r1 : w4.cell? ⟨w.heap.size + 1, 1, none⟩ = _ := box_cell hbx 1
  have r2 : w4.cell? ⟨w.heap.size + 1, 2, none⟩ = _ := box_cell hbx 2
  have r3 : w4.cell? ⟨w.heap.size + 1, 3, none⟩ = _ := box_cell hbx 3
  have r4 : w4.cell? ⟨w.heap.size + 1, 4, none⟩ = _ := box_cell hbx 4
  have r5 : w4.cell? ⟨w.heap.size + 1, 5, none⟩ = _ := box_cell hbx 5
  have fz := box_frozen hbx
  have hlt := box_lt hbx
  have hlt3 := box_lt HX.out.2
  clear hr hbx HC1 hG hF HS
  simp only [frameOf, List.take_succ_cons, List.take_zero, List.drop_succ_cons, List.drop_zero, Act.put, List.setIfInBounds_toArray, List.set_cons_zero, List.set_cons_succ, Nat.zero_add, Nat.reduceAdd, f6, f7]
  clear f6 f7
  go_wp2_with fail
  refine bodyPost_ret (v := .tuple #[.agg #[.int .i64 j.kind, .int .i64 j.half, .string j.text, .slice E1 j.list.length e1, .slice E2 j.keys.length e2, .slice E3 j.vals.length e3], .int .i64 how]) (by simp [results, Tryz.results10, go_sem, r0, r1, r2, r3, r4, r5]) rfl ?_
  refine spec_put (r := w.heap.size + 1) (n := w3.heap.size) (by omega) HB3.out.size HR.out.1 (by simp [World.setCell]) (fun b hb => by iterate 6 rw [heap_setCell_other _ _ _ _ hb]) ?_
  repeat (refine Below.setCell ?_ (by simp) _)
  exact HB3.out.trans (HR.out.2.mono HB3.out.size)

end Go.Proofs.YtfhppajnnbbcjaaGreatDoor
end

section
namespace Go.Proofs.YtfhppajnnbbcjaaGreatDoor
open Go.RowKit

theorem told_raises (r0 r1 r2 r3 r4 r5 : Value) (x : Array Value) (n : Int) (w : World) (hx : x.size = 6) :
    Calls Tryz.prog 11 #[.agg #[r0, r1, r2, r3, r4, r5, .int .i64 n], .agg x, .int .i64 1] w fun e w' => e = .returned (.bool (n == 1)) ∧ Below w.heap.size w w' := by
  obtain ⟨x0, x1, x2, x3, x4, x5, hx'⟩ : ∃ x0 x1 x2 x3 x4 x5, x.toList = [x0, x1, x2, x3, x4, x5] := six_of (by simpa using hx)
  have : x = #[x0, x1, x2, x3, x4, x5] := by rw [← Array.toArray_toList (xs := x), hx']
  subst this
  clear hx hx'
  go_enter Tryz.func11, Tryz.ntmps11
  go_wp2_with fail
  go_ret
  exact ⟨rfl, ((Below.refl _ _).alloc (Nat.le_refl _) _).alloc (by simp) _⟩

def ArrPost (l : List V) (D : Nat → Prop) (S : Value) (w : World) (e : Ending) (w' : World) : Prop := e = .returned (.agg #[.int .i64 5, .int .i64 0, .string noText, S, .slice none 0 0, .slice none 0 0]) ∧
  VRep w' D (.mk 5 0 noText l [] []) [.int .i64 5, .int .i64 0, .string noText, S, .slice none 0 0, .slice none 0 0] ∧ Below w.heap.size w w'

set_option maxRecDepth 100000 in
theorem array_any (l : List V) (D : Nat → Prop) (S : Value) (w : World) (hS : SlAt D l.length S (fun b o => VRow w D b l o)) (hD : ∀ b, D b → All w b) :
    Calls Tryz.prog 17 #[S] w (ArrPost l D S w) := by
  have KEY : Hid (∀ w' : World, Below w.heap.size w w' → ArrPost l D S w (.returned (.agg #[.int .i64 5, .int .i64 0, .string noText, S, .slice none 0 0, .slice none 0 0])) w') := fun w' hb =>
    ⟨rfl, ⟨_, _, _, rfl, hS.mono (fun _ h => h) fun b o hb' hr => VRow.keep (Same.of_below hb hD) (fun _ h => h) _ _ _ hb' hr, emp _ _, emp _ _⟩, hb⟩
  obtain ⟨A, c, rfl, -⟩ := hS
  go_enter Tryz.func17, Tryz.ntmps17
  go_wp2_with fail
  refine bodyPost_ret (v := .agg #[.int .i64 5, .int .i64 0, .string noText, .slice A l.length c, .slice none 0 0, .slice none 0 0]) (by simp [results, Tryz.results17, go_sem]; rfl) rfl ?_
  refine KEY.out _ ?_
  repeat (refine Below.setCell ?_ (by simp) _)
  exact (Below.refl _ _).alloc (Nat.le_refl _) _

end Go.Proofs.YtfhppajnnbbcjaaGreatDoor
end

section
namespace Go.Proofs.YtfhppajnnbbcjaaGreatDoor
open Go.RowKit

def ToldPost (w : World) (b : Bool) (e : Ending) (w' : World) : Prop := e = .returned (.bool b) ∧ Below w.heap.size w w'

set_option maxRecDepth 100000 in
theorem told_fine (a m : J) (D : Nat → Prop) (A1 A2 A3 : Option Addr) (c1 c2 c3 : Nat) (cm : List Value) (w : World) (wa : a.WF) (wm : m.WF) (hD : ∀ b, D b → All w b)
    (ha : SRep w D a [.int .i64 a.kind, .int .i64 a.half, .string a.text, .slice A1 a.list.length c1, .slice A2 a.keys.length c2, .slice A3 a.vals.length c3]) (hm : SRep w D m cm) :
    Calls Tryz.prog 11 #[.agg #[.int .i64 a.kind, .int .i64 a.half, .string a.text, .slice A1 a.list.length c1, .slice A2 a.keys.length c2, .slice A3 a.vals.length c3, .int .i64 0], .agg cm.toArray, .int .i64 0] w (ToldPost w (cmpJ a m == 0)) := by
  obtain ⟨B1, d1, B2, d2, B3, d3, rfl⟩ := SRep.six hm
  have hb : Below w.heap.size w ((w.alloc (.cells #[.int .i64 a.kind, .int .i64 a.half, .string a.text, .slice A1 a.list.length c1, .slice A2 a.keys.length c2, .slice A3 a.vals.length c3, .int .i64 0] 34)).alloc (.cells #[.int .i64 m.kind, .int .i64 m.half, .string m.text, .slice B1 m.list.length d1, .slice B2 m.keys.length d2, .slice B3 m.vals.length d3] 26)) :=
    ((Below.refl _ _).alloc (Nat.le_refl _) _).alloc (by simp) _
  have HC := Lib.hid (same_any a m D _ _ _ wa wm (fun b hb' => Nat.lt_of_lt_of_le (hD b hb') hb.size) (VRep.keep (Same.of_below hb hD) (fun _ h => h) _ _ ha) (VRep.keep (Same.of_below hb hD) (fun _ h => h) _ _ hm))
  have HB := Lib.hid hb
  clear hb ha hm hD
  obtain ⟨ok, hok⟩ : ∃ ok, (cmpJ a m == 0) = ok := ⟨_, rfl⟩
  rw [hok] at HC ⊢
  clear hok
  go_enter Tryz.func11, Tryz.ntmps11
  go_wp2_with fail
  refine HC.out.mono ?_
  clear HC
  rintro e w1 ⟨rfl, hb1⟩
  have HN : Hid (Below w.heap.size w w1) := HB.out.trans (hb1.mono HB.out.size)
  clear hb1
  go_wp2_with fail
  go_ret
  exact ⟨rfl, HN.out⟩

end Go.Proofs.YtfhppajnnbbcjaaGreatDoor
end

section
namespace Go.Proofs.YtfhppajnnbbcjaaGreatDoor
open Go.RowKit

/-- the answer is true; nothing that was there has turned -/
def TrueP (w : World) (e : Ending) (w' : World) : Prop := e = .returned (.bool true) ∧ Below w.heap.size w w'

theorem upd_no {xs : Nat → Value} {i j : Nat} {v : Value} (h : j ≠ i) : upd xs i v j = xs j := by simp [upd, h]
theorem upd_at {xs : Nat → Value} {i : Nat} {v : Value} : upd xs i v i = v := by simp [upd]

theorem lit_two {W : World} {D : Nat → Prop} {a b : V} {ca cb : List Value} {g : Nat} {T : TypeId} (hh : W.heap[g]? = some (.cells (ca ++ cb).toArray T (0, 0))) (ha : VRep W D a ca) (hb : VRep W D b cb) (la : ca.length = 6) (lb : cb.length = 6) (hg : D g) :
    SlAt D [a, b].length (.slice (some ⟨g, 0, none⟩) 2 2) (fun x o => VRow W D x [a, b] o) :=
  ⟨_, _, rfl, Nat.le_refl _, by unfold maxLen; omega, fun _ => ⟨g, 0, rfl, hg, ⟨⟨ca, la, fun i v hi => by
      rw [box_cell hh, Nat.zero_add]
      have : i < ca.length := (List.getElem?_eq_some_iff.1 hi).1
      simpa [List.getElem?_append_left this] using hi, ha⟩, ⟨cb, lb, fun i v hi => by
      rw [box_cell hh, Nat.zero_add]
      have : (ca ++ cb)[6 + i]? = cb[i]? := by rw [List.getElem?_append_right (by omega), la]; congr 1; omega
      simpa [this] using hi, hb⟩, trivial⟩⟩⟩
theorem lit_single {W : World} {D : Nat → Prop} {a : V} {ca : List Value} {g : Nat} {T : TypeId} (hh : W.heap[g]? = some (.cells ca.toArray T (0, 0))) (ha : VRep W D a ca) (la : ca.length = 6) (hg : D g) :
    SlAt D [a].length (.slice (some ⟨g, 0, none⟩) 1 1) (fun x o => VRow W D x [a] o) :=
  ⟨_, _, rfl, Nat.le_refl _, by unfold maxLen; omega, fun _ => ⟨g, 0, rfl, hg, ⟨⟨ca, la, fun i v hi => by
      rw [box_cell hh, Nat.zero_add]; simpa using hi, ha⟩, trivial⟩⟩⟩

/-- a call of the program and the reference agree: Rj: what is answered, Re: an error is; j, how: what the reference says -/
def Agree (Rj : J → Prop) (Re : Prop) (j : J) (how : Int) : Prop := how = 2 ∨ (how = 1 ∧ ∀ j', ¬ Rj j') ∨ (how = 0 ∧ j.WF ∧ ¬ Re ∧ ∀ j', Rj j' → j' = j)

/-- the program's answer, as a value -/
def ResG (Rj : J → Prop) (Re : Prop) (u : Value) (W : World) (D : Nat → Prop) : Prop :=
  (∃ j A1 c1 A2 c2 A3 c3, Rj j ∧ u = .agg #[.int .i64 j.kind, .int .i64 j.half, .string j.text, .slice A1 j.list.length c1, .slice A2 j.keys.length c2, .slice A3 j.vals.length c3, .int .i64 0] ∧
    SRep W D j [.int .i64 j.kind, .int .i64 j.half, .string j.text, .slice A1 j.list.length c1, .slice A2 j.keys.length c2, .slice A3 j.vals.length c3]) ∨
  (Re ∧ u = .agg #[.int .i64 0, .int .i64 0, .string ⟨#[]⟩, .slice none 0 0, .slice none 0 0, .slice none 0 0, .int .i64 1])

theorem ResG.keep {Rj : J → Prop} {Re : Prop} {u : Value} {W W' : World} {D D' : Nat → Prop} (h : ResG Rj Re u W D) (hs : Same D W W') (hD : ∀ b, D b → D' b) : ResG Rj Re u W' D' := by
  rcases h with ⟨j, A1, c1, A2, c2, A3, c3, hr, hu, hv⟩ | h
  · exact .inl ⟨j, A1, c1, A2, c2, A3, c3, hr, hu, VRep.keep hs hD _ _ hv⟩
  · exact .inr h

set_option maxRecDepth 100000 in
theorem told_silent (r0 r1 r2 r3 r4 r5 r6 x0 x1 x2 x3 x4 x5 : Value) (w : World) :
    Calls Tryz.prog 11 #[.agg #[r0, r1, r2, r3, r4, r5, r6], .agg #[x0, x1, x2, x3, x4, x5], .int .i64 2] w (ToldPost w true) := by
  go_enter Tryz.func11, Tryz.ntmps11
  go_wp2_with fail
  go_ret
  exact ⟨rfl, ((Below.refl _ _).alloc (Nat.le_refl _) _).alloc (by simp) _⟩

theorem told_agree {Rj : J → Prop} {Re : Prop} {j : J} {how : Int} (ha : Agree Rj Re j how) (D : Nat → Prop) (u : Value) (cs : List Value) (W : World) (hD : ∀ b, D b → All W b) (hu : ResG Rj Re u W D) (hj : SRep W D j cs) :
    Calls Tryz.prog 11 #[u, .agg cs.toArray, .int .i64 how] W (ToldPost W true) := by
  obtain ⟨x0, x1, x2, x3, x4, x5, hx⟩ : ∃ x0 x1 x2 x3 x4 x5, cs = [x0, x1, x2, x3, x4, x5] := by
    obtain ⟨B1, d1, B2, d2, B3, d3, h⟩ := SRep.six hj
    exact ⟨_, _, _, _, _, _, h⟩
  rcases ha with rfl | ⟨rfl, hn⟩ | ⟨rfl, wj, hne, he⟩
  · subst hx
    rcases hu with ⟨j', A1, c1, A2, c2, A3, c3, hr, rfl, hv⟩ | ⟨-, rfl⟩
    · exact told_silent _ _ _ _ _ _ _ _ _ _ _ _ _ W
    · exact told_silent _ _ _ _ _ _ _ _ _ _ _ _ _ W
  · rcases hu with ⟨j', A1, c1, A2, c2, A3, c3, hr, rfl, hv⟩ | ⟨-, rfl⟩
    · exact absurd hr (hn j')
    · exact told_raises _ _ _ _ _ _ cs.toArray 1 W (by rw [hx]; rfl)
  · rcases hu with ⟨j', A1, c1, A2, c2, A3, c3, hr, rfl, hv⟩ | ⟨hr, -⟩
    · obtain rfl := he j' hr
      have := told_fine j' j' D A1 A2 A3 c1 c2 c3 cs W wj wj hD hv hj
      rw [cmpJ_self] at this
      exact this
    · exact absurd hr hne
end Go.Proofs.YtfhppajnnbbcjaaGreatDoor
end
