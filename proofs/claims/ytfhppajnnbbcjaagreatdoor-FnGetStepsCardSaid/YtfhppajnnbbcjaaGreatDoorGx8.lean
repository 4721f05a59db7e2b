/- Walks: spec.Each, spec.Keys.
   Walks: spec.Keys.
   A region that draws its order, by an invariant: what each operation leaves holds on, whatever comes up next; each operation is walked once.
   Walks: spec.Spot's below. -/
import Derived.Test.YtfhppajnnbbcjaaGreatDoorGx7
import Derived.StillTail
import Derived.Lib.Hide

section
namespace Go.Proofs.YtfhppajnnbbcjaaGreatDoor
open Go.RowKit

def EachPost (D : Nat → Prop) (j : J) (w : World) (e : Ending) (w' : World) : Prop := ∃ S h, e = .returned (.tuple #[S, .int .i64 h]) ∧ SlJ w' D (eachJ j) S ∧ Below w.heap.size w w'

set_option maxRecDepth 100000 in
theorem Each_any (j : J) (D : Nat → Prop) (cs : List Value) (w : World) (hj : SRep w D j cs) (hD : ∀ b, D b → All w b) : Calls Tryz.prog 149 #[.agg cs.toArray] w (EachPost D j w) := by
  obtain ⟨L, K, S, rfl, hL, hK, hS⟩ := hj.cells
  have hb : Below w.heap.size w (w.alloc (.cells #[.int .i64 j.kind, .int .i64 j.half, .string j.text, L, K, S] 26)) := (Below.refl _ _).alloc (Nat.le_refl _) _
  have hL' : SlJ (w.alloc (.cells #[.int .i64 j.kind, .int .i64 j.half, .string j.text, L, K, S] 26)) D j.list L := SlJ.keep hL (Same.of_below hb hD) (fun _ h => h)
  have hS' : SlJ (w.alloc (.cells #[.int .i64 j.kind, .int .i64 j.half, .string j.text, L, K, S] 26)) D j.vals S := SlJ.keep hS (Same.of_below hb hD) (fun _ h => h)
  have HX := Lib.hid (And.intro hb (And.intro hL' hS'))
  have e5 : j.kind = 5 → eachJ j = j.list := by cases j with
    | bool b => cases b <;> simp [J.kind]
    | arr l => simp [eachJ, J.list, J.vals]
    | _ => simp [J.kind]
  have e6 : j.kind = 6 → eachJ j = j.vals := by cases j with
    | bool b => cases b <;> simp [J.kind]
    | obj l => simp [eachJ, J.list, J.vals]
    | _ => simp [J.kind]
  have e0 : j.kind ≠ 5 → j.kind ≠ 6 → eachJ j = [] := by cases j with
    | bool b => cases b <;> simp [eachJ, J.list, J.vals]
    | arr l => simp [J.kind]
    | obj l => simp [J.kind]
    | _ => simp [eachJ, J.list, J.vals]
  have kb := kind_bd j
  obtain ⟨A1, c1, rfl⟩ := hL.form
  obtain ⟨A2, c2, rfl⟩ := hS.form
  clear hL hS hL' hS' hb hj hK hD
  by_cases k5 : j.kind = 5
  · have HE := Lib.hid (e5 k5)
    have t5 : (j.kind == 5) = true := by simp [k5]
    clear e5 e6 e0 k5 kb
    go_enter Tryz.func149, Tryz.ntmps149
    go_wp2_with fail
    go_ret2
    exact ⟨_, _, rfl, by rw [HE.out]; exact HX.out.2.1, HX.out.1⟩
  · have t5 : (j.kind == 5) = false := by simp [k5]
    by_cases k6 : j.kind = 6
    · have HE := Lib.hid (e6 k6)
      have t6 : (j.kind == 6) = true := by simp [k6]
      clear e5 e6 e0 k5 k6 kb
      go_enter Tryz.func149, Tryz.ntmps149
      go_wp2_with fail
      go_ret2
      exact ⟨_, _, rfl, by rw [HE.out]; exact HX.out.2.2, HX.out.1⟩
    · have HE := Lib.hid (e0 k5 k6)
      have t6 : (j.kind == 6) = false := by simp [k6]
      have t7 : (j.kind == 7) = false := by simp; omega
      clear e5 e6 e0 k5 k6 kb
      go_enter Tryz.func149, Tryz.ntmps149
      go_wp2_with fail
      go_ret2
      exact ⟨_, _, rfl, by rw [HE.out]; exact SlJ.nil _ _, HX.out.1⟩

theorem idxKeys_snoc (x : J) : ∀ (l : List J) (i : Nat), idxKeys (l ++ [x]) i = idxKeys l i ++ [.num (2 * ((i + l.length : Nat) : Int))]
  | [], i => by simp [idxKeys]
  | a :: l, i => by
    simp only [List.cons_append, idxKeys, List.length_cons]
    rw [idxKeys_snoc x l (i + 1)]
    simp only [List.cons.injEq, true_and]
    congr 4
    omega
theorem idxKeys_length : ∀ (l : List J) (i : Nat), (idxKeys l i).length = l.length
  | [], _ => rfl
  | _ :: l, i => by simp [idxKeys, idxKeys_length l (i + 1)]

theorem SRep.num (w : World) (D : Nat → Prop) (h : Int) : SRep w D (.num h) [.int .i64 3, .int .i64 h, .string noText, .slice none 0 0, .slice none 0 0, .slice none 0 0] := ⟨_, _, _, rfl, emp _ _, emp _ _, emp _ _⟩
theorem SRep.str (w : World) (D : Nat → Prop) (s : ByteArray) : SRep w D (.str s) [.int .i64 4, .int .i64 0, .string s, .slice none 0 0, .slice none 0 0, .slice none 0 0] := ⟨_, _, _, rfl, emp _ _, emp _ _, emp _ _⟩

/-- keys collected -/
def KyRel (ks : List J) (w : World) (cs : Array Value) (v : Value) (wr : World) : Prop := Below w.heap.size w wr ∧ wr.heap[w.heap.size]? = some (.cells cs 26 (0, 0)) ∧ GG EJ wr (w.heap.size + 1) (fun b => w.heap.size + 1 ≤ b) v ks

theorem KyRel.grow {ks : List J} {w : World} {cs : Array Value} {v : Value} {wr w1 w2 : World} {x : J} {ys : List Value} {v' : Value} (h : KyRel ks w cs v wr) (hb : Below wr.heap.size wr w1)
    (hg : GG EJ w2 (w.heap.size + 1) (fun b => w.heap.size + 1 ≤ b) v' (ks ++ [x])) (hgb : (w1.alloc (.cells ys.toArray 26)).grownBy w2 v.ownBlock) : KyRel (ks ++ [x]) w cs v' w2 := by
  obtain ⟨h1, h2, h3⟩ := h
  have hlt := box_lt h2
  have hs := hb.size
  have ho : ∀ g, v.ownBlock = some g → w.heap.size + 1 ≤ g := fun g hg' => (h3.own_lt g hg').1
  refine ⟨((h1.trans (hb.mono h1.size)).alloc (by omega) _).grown hgb (by simp; omega) (fun g hg' => by have := ho g hg'; omega), ?_, hg⟩
  exact (hgb.block _ (by simp; omega) (fun e => by have := ho _ e.symm; omega)).trans ((Below.heap_alloc _ _ _ (by omega)).trans ((hb.block _ hlt).trans h2))

end Go.Proofs.YtfhppajnnbbcjaaGreatDoor
end

section
namespace Go.Proofs.YtfhppajnnbbcjaaGreatDoor
open Go.RowKit

def KeysPost (j : J) (w : World) (e : Ending) (w' : World) : Prop := ∃ S, e = .returned S ∧ SlJ w' (Fresh w w') (keysJ j) S ∧ Below w.heap.size w w'

theorem KyRel.step {ks : List J} {w : World} {cs : Array Value} {v : Value} {wr w1 : World} {x : J} {ys : List Value} (h : KyRel ks w cs v wr) (hb : Below wr.heap.size wr w1)
    (hx : ∀ W D, SRep W D x ys) : GG EJ (w1.alloc (.cells ys.toArray 26)) (w.heap.size + 1) (fun b => w.heap.size + 1 ≤ b) v ks ∧
      SlAt (fun _ => True) [x].length (.slice (some ⟨w1.heap.size, 0, none⟩) 1 1) (fun b o => Row EJ (w1.alloc (.cells ys.toArray 26)) (But (fun b => w.heap.size + 1 ≤ b) (w1.alloc (.cells ys.toArray 26)) v) b [x] o) ∧ w.heap.size + 1 ≤ (w1.alloc (.cells ys.toArray 26)).heap.size :=
  ⟨(h.2.2.below hb).below ((Below.refl _ _).alloc (Nat.le_refl _) _), lit_one (E := EJ) (heap_alloc_new w1 _) (hx _ _), by have := hb.size; have := box_lt h.2.1; simp; omega⟩

set_option maxRecDepth 100000 in
theorem Keys_any (j : J) (D : Nat → Prop) (cj : List Value) (w : World) (wj : j.WF) (hj : SRep w D j cj) (hD : ∀ b, D b → All w b) : Calls Tryz.prog 63 #[.agg cj.toArray] w (KeysPost j w) := by
  obtain ⟨L, K, S, rfl, ⟨A1, c1, rfl, -⟩, ⟨A2, c2, rfl, hc2, hm2, hr2⟩, ⟨A3, c3, rfl, -⟩⟩ := hj.cells
  have hln : j.list.length ≤ 1048576 := by cases j <;> simp [J.list]; exact wj.1
  have hkn : j.keys.length ≤ 1048576 := by cases j <;> simp [J.keys]; exact wj.2.1
  obtain ⟨cs, hcs⟩ : ∃ cs : Array Value, #[Value.int .i64 j.kind, .int .i64 j.half, .string j.text, .slice A1 j.list.length c1, .slice A2 j.keys.length c2, .slice A3 j.vals.length c3] = cs := ⟨_, rfl⟩
  have hbox : (w.alloc (.cells #[.int .i64 j.kind, .int .i64 j.half, .string j.text, .slice A1 j.list.length c1, .slice A2 j.keys.length c2, .slice A3 j.vals.length c3] 26)).heap[w.heap.size]? = some (.cells cs 26 (0, 0)) := by rw [← hcs]; exact heap_alloc_new w _
  have HC4 : Hid (cs[4]? = some (.slice A2 j.keys.length c2)) := by show _ = _; rw [← hcs]; rfl
  have HB := Lib.hid (And.intro hbox (And.intro hr2 hD))
  clear hcs hbox hj wj hD hm2 hr2 hc2
  go_enter Tryz.func63, Tryz.ntmps63
  go_wp2_with fail
  go_loopw [3, 10] (fun v i wr => ∃ (k : Nat) (v0 : Value), v0 = v ∧ k ≤ j.list.length ∧ i = .int .i64 k ∧ Hid (KyRel (idxKeys (j.list.take k) 0) w cs v0 wr)) (fun _ i _ => j.list.length - (intOf i).toNat)
  case atStart => exact ⟨0, _, rfl, Nat.zero_le _, rfl, (Below.refl _ _).alloc (Nat.le_refl _) _, HB.out.1, by rw [List.take_zero]; exact GG.nil _ _ _ _⟩
  case round =>
    obtain ⟨k, v, rfl, hk, rfl, hR⟩ := hrel
    by_cases ha : k < j.list.length
    · have hnum := Num_any k wr (by omega) (by omega)
      have HN := Lib.hid hnum
      clear hnum
      go_wp2_with fail
      refine HN.out.mono ?_
      clear HN
      rintro e w1 ⟨rfl, hb1⟩
      have hst := hR.out.step hb1 (x := .num (2 * (k : Int))) (fun W D => SRep.num W D _)
      have HST := Lib.hid hst
      have HB1 := Lib.hid hb1
      clear hst hb1
      go_wp2_with (at_builtin; refine wpList_append_G rfl (.tmp 13) (.tmp 16) 23 rfl EJ Tryz.under23 (w.heap.size + 1) _ (idxKeys (j.list.take k) 0) [.num (2 * (k : Int))] v _ rfl rfl HST.out.1 HST.out.2.1 ?c1 ?c2 HST.out.2.2 ?_)
      case c1 => rw [idxKeys_length]; simp [maxLen]; omega
      case c2 => rw [idxKeys_length]; simp [EJ]; omega
      intro v' w2 hg hgb _
      have hx : j.list[k]? = some j.list[k] := List.getElem?_eq_getElem ha
      have HK := Lib.hid (show KyRel (idxKeys (j.list.take (k + 1)) 0) w cs v' w2 by
        rw [take_snoc' hx, idxKeys_snoc, List.length_take, Nat.zero_add, Nat.min_eq_left hk]
        exact hR.out.grow HB1.out hg hgb)
      clear hg hgb hx HST HB1 hR
      go_wp2_with fail
      go_roundw
      case rel => exact ⟨k + 1, v', rfl, by omega, by go_num, HK⟩
      case measure => simp [intOf]; omega
    · have hk' : k = j.list.length := by omega
      subst hk'
      have HR := Lib.hid (show KyRel (idxKeys j.list 0) w cs v wr by have := hR.out; rwa [List.take_length] at this)
      clear hR
      have p4 : wr.cell? ⟨w.heap.size, 4, none⟩ = some (.slice A2 j.keys.length c2) := by rw [box_cell HR.out.2.1]; exact HC4.out
      go_wp2_with fail
      clear p4
      go_loopw [3, 22] (fun v i wr => ∃ (k : Nat) (v0 : Value), v0 = v ∧ k ≤ j.keys.length ∧ i = .int .i64 k ∧ Hid (KyRel (idxKeys j.list 0 ++ (j.keys.take k).map .str) w cs v0 wr)) (fun _ i _ => j.keys.length - (intOf i).toNat)
      case atStart => exact ⟨0, _, rfl, Nat.zero_le _, rfl, by show KyRel _ _ _ _ _; simpa using HR.out⟩
      case round =>
        obtain ⟨k, v, rfl, hk, rfl, hR⟩ := hrel
        by_cases ha : k < j.keys.length
        · obtain ⟨b, o, rfl, hb, hrow⟩ := HB.out.2.1 (by omega)
          obtain ⟨s, hs⟩ : ∃ s, j.keys[k]? = some s := ⟨_, List.getElem?_eq_getElem ha⟩
          have hcell := (hrow.keep (Same.of_below hR.out.1 HB.out.2.2) hb) k s hs
          have HS := Lib.hid hs
          obtain ⟨ks, hks⟩ : ∃ ks : List J, idxKeys j.list 0 ++ (j.keys.take k).map .str = ks := ⟨_, rfl⟩
          have hlen : ks.length = j.list.length + k := by rw [← hks, List.length_append, idxKeys_length, List.length_map, List.length_take, Nat.min_eq_left hk]
          rw [hks] at hR
          have HKS := Lib.hid (And.intro hks hlen)
          have HN := Lib.hid (Str_any s wr)
          clear hks hlen
          clear hrow hs
          go_wp2_with fail
          refine HN.out.mono ?_
          clear HN
          rintro e w1 ⟨rfl, hb1⟩
          have hst := hR.out.step hb1 (x := .str s) (fun W D => SRep.str W D _)
          have HST := Lib.hid hst
          have HB1 := Lib.hid hb1
          clear hst hb1 hcell
          go_wp2_with (at_builtin; refine wpList_append_G rfl (.tmp 26) (.tmp 29) 23 rfl EJ Tryz.under23 (w.heap.size + 1) _ ks [.str s] v _ rfl rfl HST.out.1 HST.out.2.1 ?d1 ?d2 HST.out.2.2 ?_)
          case d1 => rw [HKS.out.2]; simp [maxLen]; omega
          case d2 => rw [HKS.out.2]; simp [EJ]; omega
          intro v' w2 hg hgb _
          have HK := Lib.hid (show KyRel (idxKeys j.list 0 ++ (j.keys.take (k + 1)).map .str) w cs v' w2 by
            rw [take_snoc' HS.out, List.map_append, ← List.append_assoc, HKS.out.1]
            exact hR.out.grow HB1.out hg hgb)
          clear hg hgb HST HB1 hR HS
          go_wp2_with fail
          go_roundw
          case rel => exact ⟨k + 1, v', rfl, by omega, by go_num, HK⟩
          case measure => simp [intOf]; omega
        · have hk' : k = j.keys.length := by omega
          subst hk'
          have HR := Lib.hid (show KyRel (keysJ j) w cs v wr by have := hR.out; rwa [List.take_length] at this)
          clear hR
          go_wp2_with fail
          go_ret
          exact ⟨_, rfl, sl_EJ.1 (HR.out.2.2.sl (fun b h1 h2 => ⟨by omega, h2⟩) (fun b h1 h2 => ⟨by omega, h2⟩)), HR.out.1⟩

end Go.Proofs.YtfhppajnnbbcjaaGreatDoor
end

section
namespace Go.Proofs.YtfhppajnnbbcjaaGreatDoor
open Go

section
variable {P : Program} {ops : Array Oper} {Q : Exit → Act → World → Prop} {md : Region.Mode}

/-- no operation waits for a later one -/
def lexB (md : Region.Mode) (ops : Array Oper) : Bool := (List.range ops.size).all fun i => match ops[i]? with
  | some o => o.after.all fun e => !Region.binds md e || decide (e.on < i)
  | none => true

theorem lexB_spec (h : lexB md ops = true) {i : Nat} {o : Oper} (ho : ops[i]? = some o) : ∀ e ∈ o.after, Region.binds md e = true → e.on < i := by
  intro e he hb
  have hi : i < ops.size := (Array.getElem?_eq_some_iff.1 ho).1
  have h1 := List.all_eq_true.1 h i (List.mem_range.2 hi)
  rw [ho] at h1
  have h2 := Array.all_eq_true_iff_forall_mem.1 h1 e he
  simpa [hb] using h2

/-- an operation of which all that it waits for has come up -/
theorem some_ready (hx : lexB md ops = true) {listed : Array Bool} : ∀ (i : Nat), i < ops.size → listed.getD i true = false → listed.size = ops.size → Region.ready md ops listed ≠ [] := by
  intro i
  induction i using Nat.strongRecOn with
  | _ i ih =>
    intro hi hun hsz hr
    obtain ⟨o, ho⟩ : ∃ o, ops[i]? = some o := ⟨_, Array.getElem?_eq_getElem hi⟩
    by_cases hall : ∀ e ∈ o.after, Region.binds md e = true → listed.getD e.on false = true
    · have : i ∈ Region.ready md ops listed := mem_ready.2 ⟨hun, o, ho, hall⟩
      rw [hr] at this
      cases this
    · apply hall
      intro e he hb
      have hlt := lexB_spec hx ho e he hb
      cases hl : listed.getD e.on false with
      | true => rfl
      | false => exact absurd hr (ih e.on hlt (by omega) (getD_in (by omega) hl) hsz)

def tailB (md : Region.Mode) (ops : Array Oper) (n : Nat) : Bool :=
  lexB md ops && decide (n < ops.size) && Region.sinkB md ops n && Region.chainB md ops n && Region.seqB md ops (ops.size - n) n (Array.replicate n true ++ Array.replicate (ops.size - n) false)

theorem countP_set {listed : Array Bool} {i n : Nat} (hi : i < n) (hun : listed.getD i true = false) (hsz : i < listed.size) :
    (List.range n).countP (fun j => !listed.getD j true) = (List.range n).countP (fun j => !(listed.setIfInBounds i true).getD j true) + 1 := by
  induction n with
  | zero => omega
  | succ n ih =>
    rw [List.range_succ, List.countP_append, List.countP_append]
    by_cases h : i = n
    · subst h
      have e1 : (List.range i).countP (fun j => !(listed.setIfInBounds i true).getD j true) = (List.range i).countP (fun j => !listed.getD j true) := by
        apply List.countP_congr
        intro j hj
        have : i ≠ j := by have := List.mem_range.1 hj; omega
        rw [getD_set_ne true this]
      have e2 : (listed.setIfInBounds i true).getD i true = true := by simp [hsz]
      rw [e1, List.countP_singleton, List.countP_singleton, hun, e2]
      simp
    · rw [ih (by omega), List.countP_singleton, List.countP_singleton, getD_set_ne true h]
      omega

abbrev Done (listed : Array Bool) : Nat → Prop := fun j => listed.getD j false = true

theorem wpAny_rg {n : Nat} (hB : tailB md ops n = true) (I : (Nat → Prop) → Act → World → Prop)
    (hstep : ∀ i, i < n → ∀ o, ops[i]? = some o → ∀ (d : Nat → Prop) a w, ¬ d i → (∀ e ∈ o.after, Region.binds md e = true → d e.on) → I d a w → wpOp P ops Q i (fun a' w' => I (fun j => d j ∨ j = i) a' w') a w)
    (hend : ∀ a w, I (fun j => j < n) a w → wpList P ops Q (ops.toList.drop n) a w) :
    ∀ (c : Nat) (listed : Array Bool) (a : Act) (w : World), HeadInv md ops n listed → (List.range n).countP (fun i => !listed.getD i true) = c → I (Done listed) a w → wpAny P md ops Q (c + (ops.size - n)) listed a w := by
  simp only [tailB, Bool.and_eq_true, decide_eq_true_eq] at hB
  obtain ⟨⟨⟨⟨hx, hn⟩, hs⟩, hc⟩, hseq⟩ := hB
  intro c
  induction c with
  | zero =>
    intro listed a w inv h0 hI
    have hall : ∀ i, i < n → listed.getD i true = true := fun i hi => by
      have := List.countP_eq_zero.1 h0 i (List.mem_range.2 hi)
      simpa using this
    have hall' : ∀ i, i < n → listed.getD i false = true := fun i hi => by
      have h1 := hall i hi
      have : i < listed.size := by rw [inv.size]; omega
      simp [this] at h1 ⊢
      exact h1
    have e : listed = Array.replicate n true ++ Array.replicate (ops.size - n) false := by
      apply Array.ext
      · simp [inv.size]; omega
      · intro i h1 h2
        by_cases hi : i < n
        · have := hall' i hi
          simp [h1] at this
          rw [this, Array.getElem_append_left (by simpa using hi)]
          simp
        · have := inv.tail i (by omega) (by rw [inv.size] at h1; exact h1)
          simp [h1] at this
          rw [this, Array.getElem_append_right (by simp; omega)]
          simp
    have ed : Done listed = fun j => j < n := by
      funext j
      apply propext
      constructor
      · intro hj
        apply Classical.byContradiction
        intro hjn
        by_cases hj' : j < ops.size
        · have := getD_both (inv.tail j (by omega) hj')
          rw [show listed.getD j false = true from hj] at this
          cases this
        · have hj2 : listed.getD j false = true := hj
          rw [show listed.getD j false = false by simp [Array.getElem?_eq_none (show listed.size ≤ j by rw [inv.size]; omega)]] at hj2
          cases hj2
      · exact hall' j
    rw [ed] at hI
    have hlen : (ops.toList.drop n).length = ops.size - n := by simp
    rw [Nat.zero_add, ← hlen]
    refine wpAny_of_seq (ops.toList.drop n) n listed a w (fun j => by simp) ?_ (hend a w hI)
    rw [hlen, e]
    exact hseq
  | succ c ih =>
    intro listed a w inv h0 hI
    obtain ⟨i, hi, hun⟩ : ∃ i, i < n ∧ listed.getD i true = false := by
      have : 0 < (List.range n).countP (fun i => !listed.getD i true) := by omega
      obtain ⟨i, hi, hp⟩ := List.countP_pos_iff.1 this
      exact ⟨i, List.mem_range.1 hi, by simpa using hp⟩
    rw [show c + 1 + (ops.size - n) = (c + (ops.size - n)) + 1 by omega]
    refine ⟨fun h => absurd h (some_ready hx i (by omega) hun inv.size), fun j hj => ?_⟩
    have hjn : j < n := by
      rcases Nat.lt_or_ge j n with h | h
      · exact h
      · exact absurd hj (tail_waits hs hc hn inv _ i rfl hi hun j h)
    obtain ⟨hjun, oj, hoj, hall⟩ := mem_ready.1 hj
    refine wpOp_mono (fun a' w' h' => ?_) (hstep j hjn oj hoj (Done listed) a w (by rw [show Done listed j = (listed.getD j false = true) from rfl, getD_both hjun]; simp) hall hI)
    have hjs : j < listed.size := by rw [inv.size]; exact (Array.getElem?_eq_some_iff.1 hoj).1
    refine ih _ a' w' (inv.set hj hjn) (by have := countP_set hjn hjun hjs; omega) ?_
    have : (fun k => Done listed k ∨ k = j) = Done (listed.setIfInBounds j true) := by
      funext k
      apply propext
      by_cases hk : j = k
      · subst hk
        simp [hjs]
      · have : ¬ k = j := fun e => hk e.symm
        simp only [Done, getD_set_ne false hk, this, or_false]
    rw [← this]
    exact h'

/-- all of a list's operations, each with its number -/
def AllSteps (S : Nat → Oper → Prop) : Nat → List Oper → Prop
  | _, [] => True
  | k, o :: l => S k o ∧ AllSteps S (k + 1) l

theorem AllSteps.get {S : Nat → Oper → Prop} : ∀ {l : List Oper} {k i : Nat} {o : Oper}, AllSteps S k l → l[i]? = some o → S (k + i) o
  | [], _, _, _, _, h => by simp at h
  | a :: l, k, 0, o, hS, h => by simp at h; subst h; exact hS.1
  | a :: l, k, i + 1, o, hS, h => by
    have := AllSteps.get (i := i) hS.2 (by simpa using h)
    rwa [show k + (i + 1) = k + 1 + i by omega]

/-- what an operation has to show -/
def StepOK (P : Program) (Q : Exit → Act → World → Prop) (l : List Oper) (I : (Nat → Prop) → Act → World → Prop) (i : Nat) (o : Oper) : Prop :=
  ∀ (d : Nat → Prop) (a : Act) (w : World), ¬ d i → (∀ e ∈ o.after.toList, Region.binds .any e = true → d e.on) → I d a w → ∀ K : Act → World → Prop, (∀ a' w', I (fun j => d j ∨ j = i) a' w' → K a' w') →
    if Region.wanted o (yielded l.toArray a.tmps) = true then o.wp P a w K Q else K (a.put o.dst undef) w

theorem wp_region_rg {id : Nat} {a : Act} {w : World} {l : List Oper} (n : Nat) (hm : P.follows .mixedOrders = true) (hB : tailB .any l.toArray n = true) (I : (Nat → Prop) → Act → World → Prop)
    (h0 : I (fun _ => False) a w.drew) (hstep : AllSteps (StepOK P Q l I) 0 (l.take n)) (hend : ∀ a w, I (fun j => j < n) a w → wpList P l.toArray Q (l.drop n) a w) : (Code.region id l.toArray true).wp P Q a w := by
  have hn : n < l.toArray.size := by
    simp only [tailB, Bool.and_eq_true, decide_eq_true_eq] at hB
    exact hB.1.1.1.2
  refine wp_region_any hm ?_
  have inv0 : HeadInv .any l.toArray n (Array.replicate l.toArray.size false) :=
    ⟨by simp, fun j oj _ hl => (by rw [getD_replicate_false] at hl; cases hl), fun t _ ht => getD_in (by simpa using ht) (getD_replicate_false _ _)⟩
  have hcnt : (List.range n).countP (fun i => !(Array.replicate l.toArray.size false).getD i true) = n := by
    rw [List.countP_eq_length.2, List.length_range]
    intro i hi
    have hi' : i < l.length := by have := List.mem_range.1 hi; have : l.toArray.size = l.length := by simp
                                  omega
    simp [hi']
  have h := wpAny_rg (Q := Q) hB I (fun i hi o ho d a w hd hdeps hI => by
    have ho' : (l.take n)[i]? = some o := by rw [List.getElem?_take, if_pos hi]; simpa using ho
    have hs := hstep.get ho'
    rw [Nat.zero_add] at hs
    have := hs d a w hd (fun e he => hdeps e (by simpa using he)) hI _ (fun _ _ h => h)
    unfold wpOp
    rw [ho]
    simp only
    split
    · rename_i hw; rw [if_pos hw] at this; exact .inl this
    · rename_i hw; rw [if_neg hw] at this; exact this) (by simpa using hend) n _ a w.drew inv0 hcnt (by
    have : Done (Array.replicate l.toArray.size false) = fun _ => False := by
      funext j
      apply propext
      simp only [Done, getD_replicate_false, iff_false]
      simp
    rw [this]
    exact h0)
  rwa [show n + (l.toArray.size - n) = l.toArray.size by omega] at h

/-- number i's value set -/
def upd (xs : Nat → Value) (i : Nat) (v : Value) : Nat → Value := fun j => if j = i then v else xs j

/-- the frame by the values of the region's operations -/
def frameOf (a0 : Act) : Nat → List Oper → (Nat → Value) → Act
  | _, [], _ => a0
  | k, o :: l, xs => (frameOf a0 (k + 1) l xs).put o.dst (xs k)

theorem frameOf_agree (a : Act) : ∀ (l : List Oper) (k : Nat) (xs ys : Nat → Value), (∀ i, k ≤ i → xs i = ys i) → frameOf a k l xs = frameOf a k l ys
  | [], _, _, _, _ => rfl
  | o :: l, k, xs, ys, h => by
    rw [frameOf, frameOf, frameOf_agree a l (k + 1) xs ys (fun i hi => h i (by omega)), h k (Nat.le_refl _)]

theorem frameOf_self (a : Act) : ∀ (l : List Oper) (k : Nat), ∃ xs, a = frameOf a k l xs
  | [], _ => ⟨fun _ => undef, rfl⟩
  | o :: l, k => by
    obtain ⟨xs, h⟩ := frameOf_self a l (k + 1)
    cases hd : o.dst with
    | none => exact ⟨xs, by rw [frameOf, hd]; exact h⟩
    | some t =>
      refine ⟨upd xs k (a.tmps.getD t undef), ?_⟩
      rw [frameOf, frameOf_agree a l (k + 1) _ xs (fun i hi => by simp [upd]; omega), ← h, hd]
      have : upd xs k (a.tmps.getD t undef) k = a.tmps.getD t undef := by simp [upd]
      rw [this]
      obtain ⟨tm, df⟩ := a
      unfold Act.put
      congr 1
      apply Array.ext
      · simp
      · intro i h1 h2
        by_cases hi : t = i
        · subst hi; simp [h1]
        · exact (Array.getElem_setIfInBounds_ne (by simpa using h1) hi).symm

/-- what an operation has to show, the invariant taken apart: the world (G), what each value that has been found is good for (F) -/
def StepRG (P : Program) (Q : Exit → Act → World → Prop) (l : List Oper) (frame : (Nat → Value) → Act) (G : World → Prop) (F : (Nat → Prop) → Nat → Value → World → Prop) (i : Nat) (o : Oper) : Prop :=
  ∀ (xs : Nat → Value) (d : Nat → Prop) (w : World), ¬ d i → (∀ e ∈ o.after.toList, Region.binds .any e = true → d e.on) → G w → (∀ j, d j → F d j (xs j) w) → ∀ K : Act → World → Prop,
    (∀ a' v w', a' = (frame xs).put o.dst v → G w' → (∀ j u, j ≠ i → d j → F d j u w → F (fun j => d j ∨ j = i) j u w') → F (fun j => d j ∨ j = i) i v w' → K a' w') →
    if Region.wanted o (yielded l.toArray (frame xs).tmps) = true then o.wp P (frame xs) w K Q else K ((frame xs).put o.dst undef) w

theorem wp_region_RG {id : Nat} {a : Act} {w : World} {l : List Oper} (n : Nat) (hm : P.follows .mixedOrders = true) (hB : tailB .any l.toArray n = true) (G : World → Prop) (F : (Nat → Prop) → Nat → Value → World → Prop) 
    (hcomm : AllSteps (fun i o => ∀ xs v, (frameOf a 0 (l.take n) xs).put o.dst v = frameOf a 0 (l.take n) (upd xs i v)) 0 (l.take n)) (hG : G w.drew)
    (hstep : AllSteps (StepRG P Q l (frameOf a 0 (l.take n)) G F) 0 (l.take n))
    (hend : ∀ xs w, G w → (∀ j, j < n → F (fun j => j < n) j (xs j) w) → wpList P l.toArray Q (l.drop n) (frameOf a 0 (l.take n) xs) w) : (Code.region id l.toArray true).wp P Q a w := by
  have key : ∀ (k : Nat) (m : List Oper), AllSteps (fun i o => ∀ xs v, (frameOf a 0 (l.take n) xs).put o.dst v = frameOf a 0 (l.take n) (upd xs i v)) k m → AllSteps (StepRG P Q l (frameOf a 0 (l.take n)) G F) k m →
      AllSteps (StepOK P Q l fun d a' w' => ∃ xs, a' = frameOf a 0 (l.take n) xs ∧ G w' ∧ ∀ j, d j → F d j (xs j) w') k m := by
    intro k m
    induction m generalizing k with
    | nil => intro _ _; trivial
    | cons o m ih =>
      intro h1 h2
      refine ⟨?_, ih (k + 1) h1.2 h2.2⟩
      rintro d a' w' hd hdeps ⟨xs, rfl, hg, hF⟩ K hK
      refine h2.1 xs d w' hd hdeps hg hF K fun a2 v w2 ha2 hg2 hk hv => hK _ _ ⟨upd xs k v, ha2.trans (h1.1 xs v), hg2, fun j hj => ?_⟩
      by_cases e : j = k
      · subst e
        have : upd xs j v j = v := by simp [upd]
        rw [this]
        exact hv
      · have : upd xs k v j = xs j := by simp [upd, e]
        rw [this]
        exact hk j _ e (hj.resolve_right e) (hF j (hj.resolve_right e))
  obtain ⟨xs0, ha⟩ := frameOf_self a (l.take n) 0
  refine wp_region_rg n hm hB _ ⟨xs0, ha, hG, fun j hj => hj.elim⟩ (key 0 _ hcomm hstep) ?_
  rintro a' w' ⟨xs, rfl, hg, hF⟩
  exact hend xs w' hg hF

/-- the same, where what a value is good for may depend on the others -/
def StepRGX (P : Program) (Q : Exit → Act → World → Prop) (l : List Oper) (frame : (Nat → Value) → Act) (G : World → Prop) (F : (Nat → Prop) → (Nat → Value) → Nat → World → Prop) (i : Nat) (o : Oper) : Prop :=
  ∀ (xs : Nat → Value) (d : Nat → Prop) (w : World), ¬ d i → (∀ e ∈ o.after.toList, Region.binds .any e = true → d e.on) → G w → (∀ j, d j → F d xs j w) → ∀ K : Act → World → Prop,
    (∀ a' v w', a' = (frame xs).put o.dst v → G w' → (∀ j, j ≠ i → d j → F d xs j w → F (fun j => d j ∨ j = i) (upd xs i v) j w') → F (fun j => d j ∨ j = i) (upd xs i v) i w' → K a' w') →
    if Region.wanted o (yielded l.toArray (frame xs).tmps) = true then o.wp P (frame xs) w K Q else K ((frame xs).put o.dst undef) w

theorem wp_region_RGX {id : Nat} {a : Act} {w : World} {l : List Oper} (n : Nat) (hm : P.follows .mixedOrders = true) (hB : tailB .any l.toArray n = true) (G : World → Prop) (F : (Nat → Prop) → (Nat → Value) → Nat → World → Prop) 
    (hcomm : AllSteps (fun i o => ∀ xs v, (frameOf a 0 (l.take n) xs).put o.dst v = frameOf a 0 (l.take n) (upd xs i v)) 0 (l.take n)) (hG : G w.drew)
    (hstep : AllSteps (StepRGX P Q l (frameOf a 0 (l.take n)) G F) 0 (l.take n))
    (hend : ∀ xs w, G w → (∀ j, j < n → F (fun j => j < n) xs j w) → wpList P l.toArray Q (l.drop n) (frameOf a 0 (l.take n) xs) w) : (Code.region id l.toArray true).wp P Q a w := by
  have key : ∀ (k : Nat) (m : List Oper), AllSteps (fun i o => ∀ xs v, (frameOf a 0 (l.take n) xs).put o.dst v = frameOf a 0 (l.take n) (upd xs i v)) k m → AllSteps (StepRGX P Q l (frameOf a 0 (l.take n)) G F) k m →
      AllSteps (StepOK P Q l fun d a' w' => ∃ xs, a' = frameOf a 0 (l.take n) xs ∧ G w' ∧ ∀ j, d j → F d xs j w') k m := by
    intro k m
    induction m generalizing k with
    | nil => intro _ _; trivial
    | cons o m ih =>
      intro h1 h2
      refine ⟨?_, ih (k + 1) h1.2 h2.2⟩
      rintro d a' w' hd hdeps ⟨xs, rfl, hg, hF⟩ K hK
      refine h2.1 xs d w' hd hdeps hg hF K fun a2 v w2 ha2 hg2 hk hv => hK _ _ ⟨upd xs k v, ha2.trans (h1.1 xs v), hg2, fun j hj => ?_⟩
      by_cases e : j = k
      · subst e
        exact hv
      · exact hk j e (hj.resolve_right e) (hF j (hj.resolve_right e))
  obtain ⟨xs0, ha⟩ := frameOf_self a (l.take n) 0
  refine wp_region_rg n hm hB _ ⟨xs0, ha, hG, fun j hj => hj.elim⟩ (key 0 _ hcomm hstep) ?_
  rintro a' w' ⟨xs, rfl, hg, hF⟩
  exact hend xs w' hg hF

end

end Go.Proofs.YtfhppajnnbbcjaaGreatDoor
end

section
namespace Go.Proofs.YtfhppajnnbbcjaaGreatDoor
open Go.RowKit

def SpotPost (D : Nat → Prop) (p : List J) (x : J) (w : World) (e : Ending) (w' : World) : Prop := ∃ cs, e = .returned (.agg cs.toArray) ∧ ES.rep w' (fun b => D b ∨ Fresh w w' b) (p, x) cs ∧ Below w.heap.size w w'

theorem alloc4 {w W0 : World} {o1 o2 o3 o4 : Obj} (h : (((w.alloc o1).alloc o2).alloc o3).alloc o4 = W0) : Below w.heap.size w W0 ∧ W0.heap.size = w.heap.size + 4 ∧ W0.heap[w.heap.size]? = some o1 ∧ W0.heap[w.heap.size + 1]? = some o2 ∧
    W0.heap[w.heap.size + 1 + 1]? = some o3 ∧ W0.heap[w.heap.size + 1 + 1 + 1]? = some o4 := by
  subst h
  refine ⟨((((Below.refl _ _).alloc (Nat.le_refl _) _).alloc (by simp) _).alloc (by simp; omega) _).alloc (by simp; omega) _, by simp, ?_, ?_, ?_, ?_⟩
  · rw [Below.heap_alloc _ _ _ (by simp; omega), Below.heap_alloc _ _ _ (by simp; omega), Below.heap_alloc _ _ _ (by simp)]; exact heap_alloc_new _ _
  · rw [Below.heap_alloc _ _ _ (by simp), Below.heap_alloc _ _ _ (by simp)]; exact heap_alloc_new1 _ _ _
  · rw [Below.heap_alloc _ _ _ (by simp)]; have := heap_alloc_new ((w.alloc o1).alloc o2) o3; rwa [World.size_alloc, World.size_alloc] at this
  · have := heap_alloc_new (((w.alloc o1).alloc o2).alloc o3) o4; rwa [World.size_alloc, World.size_alloc, World.size_alloc] at this

abbrev zSpot : Array Value := #[.slice none 0 0, .int .i64 0, .int .i64 0, .string ⟨#[]⟩, .slice none 0 0, .slice none 0 0, .slice none 0 0]

structure BwG (S : Value) (cy ck cx : List Value) (w W : World) : Prop where
  below : Below w.heap.size w W
  size : w.heap.size + 4 ≤ W.heap.size
  b0 : W.heap[w.heap.size]? = some (.cells (S :: cy).toArray 67 (0, 0))
  b1 : W.heap[w.heap.size + 1]? = some (.cells ck.toArray 26 (0, 0))
  b2 : W.heap[w.heap.size + 1 + 1]? = some (.cells cx.toArray 26 (0, 0))
  b3 : W.heap[w.heap.size + 1 + 1 + 1]? = some (.cells zSpot 67 (0, 0))

theorem BwG.grown {S : Value} {cy ck cx : List Value} {w W W' : World} {row : Option Nat} (h : BwG S cy ck cx w W) (hg : W.grownBy W' row) (hr : ∀ k, row = some k → w.heap.size + 4 ≤ k) : BwG S cy ck cx w W' where
  below := h.below.grown hg (by have := h.size; omega) fun k hk => by have := hr k hk; omega
  size := Nat.le_trans h.size hg.size
  b0 := (hg.block _ (by have := h.size; omega) (fun e => by have := hr _ e.symm; omega)).trans h.b0
  b1 := (hg.block _ (by have := h.size; omega) (fun e => by have := hr _ e.symm; omega)).trans h.b1
  b2 := (hg.block _ (by have := h.size; omega) (fun e => by have := hr _ e.symm; omega)).trans h.b2
  b3 := (hg.block _ (by have := h.size; omega) (fun e => by have := hr _ e.symm; omega)).trans h.b3
theorem grownBy_drew (w : World) (row : Option Nat) : w.grownBy w.drew row := ⟨rfl, rfl, rfl, Nat.le_refl _, fun _ _ _ => rfl⟩

/-- what the values found are good for -/
def BwF (p : List J) (k : J) (D : Nat → Prop) (S : Value) (ck cx : List Value) (B : Nat) (d : Nat → Prop) : Nat → Value → World → Prop
  | 0, u, _ => u = .slice none 0 0
  | 1, u, _ => u = .pointer (some ⟨B, 0, none⟩)
  | 2, u, _ => u = S
  | 3, u, W => ¬ d 6 → GG EJ W (B + 4) (fun b => D b ∨ B + 4 ≤ b) u p
  | 4, u, _ => u = .agg ck.toArray
  | 5, u, W => ¬ d 6 → ∃ g, u = .slice (some ⟨g, 0, none⟩) 1 1 ∧ W.heap[g]? = some (.cells ck.toArray 26 (0, 0))
  | 6, u, W => GG EJ W (B + 4) (fun b => D b ∨ B + 4 ≤ b) u (p ++ [k])
  | 7, u, _ => u = .agg cx.toArray
  | 8, u, W => d 6 ∧ ∃ S', u = .agg (S' :: cx).toArray ∧ GG EJ W (B + 4) (fun b => D b ∨ B + 4 ≤ b) S' (p ++ [k])
  | _, _, _ => True

theorem BwF.keep {p : List J} {k : J} {D : Nat → Prop} {S : Value} {ck cx : List Value} {B : Nat} {d d' : Nat → Prop} {j : Nat} {u : Value} {W W' : World} (h : BwF p k D S ck cx B d j u W) (hd : d 6 → d' 6) (hb : Below W.heap.size W W') : BwF p k D S ck cx B d' j u W' := by
  match j, h with
  | 0, h => exact h
  | 1, h => exact h
  | 2, h => exact h
  | 3, h => exact fun hn => (h fun h6 => hn (hd h6)).below hb
  | 4, h => exact h
  | 5, h =>
    intro hn
    obtain ⟨g, hg, hh⟩ := h fun h6 => hn (hd h6)
    exact ⟨g, hg, (hb.block _ (box_lt hh)).trans hh⟩
  | 6, h => exact GG.below h hb
  | 7, h => exact h
  | 8, h => obtain ⟨h6, S', e, hg⟩ := h; exact ⟨hd h6, S', e, hg.below hb⟩
  | n + 9, _ => trivial

set_option maxRecDepth 100000 in
theorem below_any (p : List J) (y k x : J) (D : Nat → Prop) (S : Value) (cy ck cx : List Value) (w : World) (hn : p.length ≤ 1048576) (hD : ∀ b, D b → All w b) (hS : SlJ w D p S) (hy : SRep w D y cy) (hk : SRep w D k ck) (hx : SRep w D x cx) :
    Calls Tryz.prog 150 #[.agg (S :: cy).toArray, .agg ck.toArray, .agg cx.toArray] w (SpotPost D (p ++ [k]) x w) := by
  have HX := Lib.hid (And.intro hS (And.intro hk (And.intro hx (And.intro hn hD))))
  obtain ⟨y0, y1, y2, y3, y4, y5, rfl⟩ := six_of hy.len6
  obtain ⟨k0, k1, k2, k3, k4, k5, rfl⟩ := six_of hk.len6
  obtain ⟨E1, e1, E2, e2, E3, e3, rfl⟩ := hx.six
  clear hS hy hk hx hn hD
  go_enter Tryz.func150, Tryz.ntmps150
  go_wp2_with fail
  generalize hW : (((World.alloc _ _).alloc _).alloc _).alloc _ = W0
  have h4 := alloc4 hW
  have HG : BwG S [y0, y1, y2, y3, y4, y5] [k0, k1, k2, k3, k4, k5] [.int .i64 x.kind, .int .i64 x.half, .string x.text, .slice E1 x.list.length e1, .slice E2 x.keys.length e2, .slice E3 x.vals.length e3] w W0 := ⟨h4.1, by omega, h4.2.2.1, h4.2.2.2.1, h4.2.2.2.2.1, h4.2.2.2.2.2⟩
  clear h4 hW
  refine wp_region_RG 9 (by kernel_rfl) (by kernel_rfl) (BwG S [y0, y1, y2, y3, y4, y5] [k0, k1, k2, k3, k4, k5] [.int .i64 x.kind, .int .i64 x.half, .string x.text, .slice E1 x.list.length e1, .slice E2 x.keys.length e2, .slice E3 x.vals.length e3] w) (BwF p k D S [k0, k1, k2, k3, k4, k5] [.int .i64 x.kind, .int .i64 x.half, .string x.text, .slice E1 x.list.length e1, .slice E2 x.keys.length e2, .slice E3 x.vals.length e3] w.heap.size) (by simp [AllSteps, frameOf, Act.put, upd]) (HG.grown (grownBy_drew _ none) (fun _ h => nomatch h)) ⟨?s0, ?s1, ?s2, ?s3, ?s4, ?s5, ?s6, ?s7, ?s8, trivial⟩ ?e
  case s0 =>
    intro xs d W hd hdeps hG hF K hK
    simp [Region.binds] at hdeps
    clear hdeps
    simp only [frameOf, List.take_succ_cons, List.take_zero, Act.put, List.setIfInBounds_toArray, List.set_cons_zero, List.set_cons_succ, Nat.zero_add, Nat.reduceAdd]
    go_simp
    exact hK _ _ _ (by simp only [frameOf, List.take_succ_cons, List.take_zero, Act.put, List.setIfInBounds_toArray, List.set_cons_zero, List.set_cons_succ, Nat.zero_add, Nat.reduceAdd]) hG (fun j u _ _ h => h.keep (fun h => .inl h) (Below.refl _ _)) rfl
  case s1 =>
    intro xs d W hd hdeps hG hF K hK
    simp [Region.binds] at hdeps
    clear hdeps
    simp only [frameOf, List.take_succ_cons, List.take_zero, Act.put, List.setIfInBounds_toArray, List.set_cons_zero, List.set_cons_succ, Nat.zero_add, Nat.reduceAdd]
    go_simp
    exact hK _ _ _ (by simp only [frameOf, List.take_succ_cons, List.take_zero, Act.put, List.setIfInBounds_toArray, List.set_cons_zero, List.set_cons_succ, Nat.zero_add, Nat.reduceAdd]) hG (fun j u _ _ h => h.keep (fun h => .inl h) (Below.refl _ _)) rfl
  case s2 =>
    intro xs d W hd hdeps hG hF K hK
    simp [Region.binds] at hdeps
    have f1 : xs 1 = _ := hF 1 hdeps
    have c := box_cell hG.b0 0
    simp at c
    simp only [frameOf, List.take_succ_cons, List.take_zero, Act.put, List.setIfInBounds_toArray, List.set_cons_zero, List.set_cons_succ, Nat.zero_add, Nat.reduceAdd]
    go_simp
    exact hK _ _ _ (by simp only [frameOf, List.take_succ_cons, List.take_zero, Act.put, List.setIfInBounds_toArray, List.set_cons_zero, List.set_cons_succ, Nat.zero_add, Nat.reduceAdd, f1]) hG (fun j u _ _ h => h.keep (fun h => .inl h) (Below.refl _ _)) rfl
  case s3 =>
    intro xs d W hd hdeps hG hF K hK
    simp [Region.binds] at hdeps
    have f0 : xs 0 = _ := hF 0 hdeps.1
    have f2 : xs 2 = _ := hF 2 hdeps.2
    have hS := (HX.out.1.keep (Same.of_below hG.below HX.out.2.2.2.2) (fun _ h => h))
    simp only [frameOf, List.take_succ_cons, List.take_zero, Act.put, List.setIfInBounds_toArray, List.set_cons_zero, List.set_cons_succ, Nat.zero_add, Nat.reduceAdd]
    refine step_append_G (by rfl) (.tmp 8) (.tmp 10) 23 (by rfl) EJ Tryz.under23 (w.heap.size + 4) (fun b => D b ∨ w.heap.size + 4 ≤ b) [] p (.slice none 0 0) S (by exact f0) (by exact f2) (GG.nil _ _ _ _) ((sl_EJ.2 hS).loose fun b hb => ⟨.inl hb, by have := HX.out.2.2.2.2 b hb; have := hG.size; omega, by simp [Value.ownBlock]⟩) (by have := HX.out.2.2.2.1; simp [maxLen]; omega) (by have := HX.out.2.2.2.1; simp [EJ]; omega) hG.size ?_
    intro v' W' hg hgb _
    simp only [List.nil_append] at hg
    refine hK _ v' _ (by simp only [frameOf, List.take_succ_cons, List.take_zero, Act.put, List.setIfInBounds_toArray, List.set_cons_zero, List.set_cons_succ, Nat.zero_add, Nat.reduceAdd]) (hG.grown hgb (fun k hk => by simp [Value.ownBlock] at hk)) (fun j u _ _ h => h.keep (fun h => .inl h) ?_) (fun _ => hg)
    exact ⟨hgb.os, hgb.tape, hgb.output, hgb.size, fun k hk => hgb.block k hk (by simp [Value.ownBlock])⟩
  case s4 =>
    intro xs d W hd hdeps hG hF K hK
    simp [Region.binds] at hdeps
    clear hdeps
    have c0 := box_cell hG.b1 0
    have c1 := box_cell hG.b1 1
    have c2 := box_cell hG.b1 2
    have c3 := box_cell hG.b1 3
    have c4 := box_cell hG.b1 4
    have c5 := box_cell hG.b1 5
    simp at c0 c1 c2 c3 c4 c5
    simp only [frameOf, List.take_succ_cons, List.take_zero, Act.put, List.setIfInBounds_toArray, List.set_cons_zero, List.set_cons_succ, Nat.zero_add, Nat.reduceAdd]
    go_simp
    exact hK _ _ _ (by simp only [frameOf, List.take_succ_cons, List.take_zero, Act.put, List.setIfInBounds_toArray, List.set_cons_zero, List.set_cons_succ, Nat.zero_add, Nat.reduceAdd]) hG (fun j u _ _ h => h.keep (fun h => .inl h) (Below.refl _ _)) rfl
  case s5 =>
    intro xs d W hd hdeps hG hF K hK
    simp [Region.binds] at hdeps
    have f4 : xs 4 = _ := hF 4 hdeps
    simp only [frameOf, List.take_succ_cons, List.take_zero, Act.put, List.setIfInBounds_toArray, List.set_cons_zero, List.set_cons_succ, Nat.zero_add, Nat.reduceAdd]
    go_simp
    exact hK _ _ _ (by simp only [frameOf, List.take_succ_cons, List.take_zero, Act.put, List.setIfInBounds_toArray, List.set_cons_zero, List.set_cons_succ, Nat.zero_add, Nat.reduceAdd, f4]) (hG.grown (World.grownBy_alloc _ _ none) (fun _ h => nomatch h)) (fun j u _ _ h => h.keep (fun h => .inl h) ((Below.refl _ _).alloc (Nat.le_refl _) _)) (fun _ => ⟨_, rfl, heap_alloc_new _ _⟩)
  case s6 =>
    intro xs d W hd hdeps hG hF K hK
    simp [Region.binds] at hdeps
    have f3 := hF 3 hdeps.1 hd
    obtain ⟨g, f5, hh⟩ := hF 5 hdeps.2.1 hd
    have hk := VRep.keep (Same.of_below hG.below HX.out.2.2.2.2) (fun _ h => h) _ _ HX.out.2.1
    simp only [frameOf, List.take_succ_cons, List.take_zero, Act.put, List.setIfInBounds_toArray, List.set_cons_zero, List.set_cons_succ, Nat.zero_add, Nat.reduceAdd]
    refine step_append_G (by rfl) (.tmp 11) (.tmp 13) 23 (by rfl) EJ Tryz.under23 (w.heap.size + 4) (fun b => D b ∨ w.heap.size + 4 ≤ b) p [k] (xs 3) (xs 5) (by rfl) (by rfl) f3 ?r0 (by have := HX.out.2.2.2.1; simp [maxLen]; omega) (by have := HX.out.2.2.2.1; simp [EJ]; omega) hG.size ?_
    case r0 => rw [f5]; exact lit_one (E := EJ) hh (VRep.keep (fun _ _ => rfl) (fun b hb => ⟨.inl hb, by have := HX.out.2.2.2.2 b hb; have := hG.size; omega, fun e => by have := (GG.own_lt f3 b e.symm).1; have := HX.out.2.2.2.2 b hb; omega⟩) _ _ hk)
    intro v' W' hg hgb _
    refine hK _ v' _ (by simp only [frameOf, List.take_succ_cons, List.take_zero, Act.put, List.setIfInBounds_toArray, List.set_cons_zero, List.set_cons_succ, Nat.zero_add, Nat.reduceAdd]) (hG.grown hgb (fun k hk => (GG.own_lt f3 k hk).1)) (fun j u hne _ h => ?_) hg
    match j, hne, h with
    | 0, _, h => exact h
    | 1, _, h => exact h
    | 2, _, h => exact h
    | 3, _, _ => exact fun hn => absurd (.inr rfl) hn
    | 4, _, h => exact h
    | 5, _, _ => exact fun hn => absurd (.inr rfl) hn
    | 6, hne, _ => exact absurd rfl hne
    | 7, _, h => exact h
    | 8, _, h => exact absurd h.1 hd
    | n + 9, _, _ => trivial
  case s7 =>
    intro xs d W hd hdeps hG hF K hK
    simp [Region.binds] at hdeps
    clear hdeps
    have c0 := box_cell hG.b2 0
    have c1 := box_cell hG.b2 1
    have c2 := box_cell hG.b2 2
    have c3 := box_cell hG.b2 3
    have c4 := box_cell hG.b2 4
    have c5 := box_cell hG.b2 5
    simp at c0 c1 c2 c3 c4 c5
    simp only [frameOf, List.take_succ_cons, List.take_zero, Act.put, List.setIfInBounds_toArray, List.set_cons_zero, List.set_cons_succ, Nat.zero_add, Nat.reduceAdd]
    go_simp
    exact hK _ _ _ (by simp only [frameOf, List.take_succ_cons, List.take_zero, Act.put, List.setIfInBounds_toArray, List.set_cons_zero, List.set_cons_succ, Nat.zero_add, Nat.reduceAdd]) hG (fun j u _ _ h => h.keep (fun h => .inl h) (Below.refl _ _)) rfl
  case s8 =>
    intro xs d W hd hdeps hG hF K hK
    simp [Region.binds] at hdeps
    have f6 := hF 6 hdeps.1
    have f7 : xs 7 = _ := hF 7 hdeps.2
    obtain ⟨A, c, f6'⟩ := GG.form f6
    rw [List.length_append, List.length_singleton] at f6'
    simp only [frameOf, List.take_succ_cons, List.take_zero, Act.put, List.setIfInBounds_toArray, List.set_cons_zero, List.set_cons_succ, Nat.zero_add, Nat.reduceAdd]
    go_simp
    refine hK _ (.agg #[.slice A (p.length + 1) c, .int .i64 x.kind, .int .i64 x.half, .string x.text, .slice E1 x.list.length e1, .slice E2 x.keys.length e2, .slice E3 x.vals.length e3]) _ (by simp only [frameOf, List.take_succ_cons, List.take_zero, Act.put, List.setIfInBounds_toArray, List.set_cons_zero, List.set_cons_succ, Nat.zero_add, Nat.reduceAdd, f7, f6']) hG (fun j u _ _ h => h.keep (fun h => .inl h) (Below.refl _ _)) ⟨.inl hdeps.1, _, rfl, ?_⟩
    rw [← f6']; exact f6
  case e =>
    intro xs W hG hF
    obtain ⟨-, S', f8, hg⟩ := hF 8 (by omega)
    obtain ⟨A, c, hS'⟩ := hg.form
    rw [List.length_append, List.length_singleton] at hS'
    subst hS'
    have c0 : W.cell? ⟨w.heap.size + 1 + 1 + 1, 0, none⟩ = _ := box_cell hG.b3 0
    have c1 : W.cell? ⟨w.heap.size + 1 + 1 + 1, 1, none⟩ = _ := box_cell hG.b3 1
    have c2 : W.cell? ⟨w.heap.size + 1 + 1 + 1, 2, none⟩ = _ := box_cell hG.b3 2
    have c3 : W.cell? ⟨w.heap.size + 1 + 1 + 1, 3, none⟩ = _ := box_cell hG.b3 3
    have c4 : W.cell? ⟨w.heap.size + 1 + 1 + 1, 4, none⟩ = _ := box_cell hG.b3 4
    have c5 : W.cell? ⟨w.heap.size + 1 + 1 + 1, 5, none⟩ = _ := box_cell hG.b3 5
    have c6 : W.cell? ⟨w.heap.size + 1 + 1 + 1, 6, none⟩ = _ := box_cell hG.b3 6
    have fz := box_frozen hG.b3
    simp only [frameOf, List.take_succ_cons, List.take_zero, List.drop_succ_cons, List.drop_zero, Act.put, List.setIfInBounds_toArray, List.set_cons_zero, List.set_cons_succ, Nat.zero_add, Nat.reduceAdd, f8]
    go_wp2_with fail
    refine bodyPost_ret (v := .agg #[.slice A (p.length + 1) c, .int .i64 x.kind, .int .i64 x.half, .string x.text, .slice E1 x.list.length e1, .slice E2 x.keys.length e2, .slice E3 x.vals.length e3]) (by simp [results, Tryz.results150, go_sem, c0, c1, c2, c3, c4, c5, c6]) rfl ?_
    have hne : ∀ b, D b ∨ w.heap.size + 4 ≤ b → b ≠ w.heap.size + 1 + 1 + 1 := fun b hb => by
      rcases hb with h | h
      · have := HX.out.2.2.2.2 b h; omega
      · omega
    refine ⟨_, rfl, ⟨_, _, rfl, ?_, ?_⟩, ?_⟩
    · refine SlJ.keep (w := W) (D := fun b => D b ∨ (w.heap.size + 4 ≤ b ∧ b < W.heap.size)) ?_ (fun b hb => ?_) (fun b hb => ?_)
      · have h := sl_EJ.1 (hg.sl (D := fun b => (D b ∨ w.heap.size + 4 ≤ b) ∧ b < W.heap.size) (fun b h1 h2 => ⟨h1, h2⟩) (fun b h1 h2 => ⟨.inr h1, h2⟩))
        exact h.keep (fun _ _ => rfl) fun b hb => by
          rcases hb.1 with h | h
          · exact .inl h
          · exact .inr ⟨h, hb.2⟩
      · iterate 7 rw [heap_setCell_other _ _ _ _ (hne b (hb.imp id And.left))]
      · exact hb.imp id fun h => ⟨by omega, by simp [World.setCell]; exact h.2⟩
    · refine VRep.keep (fun b hb => ?_) (fun b hb => .inl hb) _ _ HX.out.2.2.1
      iterate 7 rw [heap_setCell_other _ _ _ _ (hne b (.inl hb))]
      exact hG.below.block b (HX.out.2.2.2.2 b hb)
    · repeat (refine Below.setCell ?_ (by simp; omega) _)
      exact hG.below

end Go.Proofs.YtfhppajnnbbcjaaGreatDoor
end
