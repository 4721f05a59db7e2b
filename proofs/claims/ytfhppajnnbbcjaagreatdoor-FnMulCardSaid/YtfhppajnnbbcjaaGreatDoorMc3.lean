/- Walks: spec.With. -/
import Derived.Test.YtfhppajnnbbcjaaGreatDoorMc2
import Derived.Test.YtfhppajnnbbcjaaGreatDoorGy12
namespace Go.Proofs.YtfhppajnnbbcjaaGreatDoor
open Go.RowKit

def StepRGD (P : Program) (Q : Exit → Act → World → Prop) (l : List Oper) (frame : (Nat → Value) → Act) (G : (Nat → Prop) → World → Prop) (F : (Nat → Prop) → Nat → Value → World → Prop) (i : Nat) (o : Oper) : Prop :=
  ∀ (xs : Nat → Value) (d : Nat → Prop) (w : World), ¬ d i → (∀ e ∈ o.after.toList, Region.binds .any e = true → d e.on) → G d w → (∀ j, d j → F d j (xs j) w) → ∀ K : Act → World → Prop,
    (∀ a' v w', a' = (frame xs).put o.dst v → G (fun j => d j ∨ j = i) w' → (∀ j u, j ≠ i → d j → F d j u w → F (fun j => d j ∨ j = i) j u w') → F (fun j => d j ∨ j = i) i v w' → K a' w') →
    if Region.wanted o (yielded l.toArray (frame xs).tmps) = true then o.wp P (frame xs) w K Q else K ((frame xs).put o.dst undef) w

theorem wp_region_RGD {P : Program} {Q : Exit → Act → World → Prop} {id : Nat} {a : Act} {w : World} {l : List Oper} (n : Nat) (hm : P.follows .mixedOrders = true) (hB : tailB .any l.toArray n = true) (G : (Nat → Prop) → World → Prop) (F : (Nat → Prop) → Nat → Value → World → Prop)
    (hcomm : AllSteps (fun i o => ∀ xs v, (frameOf a 0 (l.take n) xs).put o.dst v = frameOf a 0 (l.take n) (upd xs i v)) 0 (l.take n)) (hG : G (fun _ => False) w.drew)
    (hstep : AllSteps (StepRGD P Q l (frameOf a 0 (l.take n)) G F) 0 (l.take n))
    (hend : ∀ xs w, G (fun j => j < n) w → (∀ j, j < n → F (fun j => j < n) j (xs j) w) → wpList P l.toArray Q (l.drop n) (frameOf a 0 (l.take n) xs) w) : (Code.region id l.toArray true).wp P Q a w := by
  have key : ∀ (k : Nat) (m : List Oper), AllSteps (fun i o => ∀ xs v, (frameOf a 0 (l.take n) xs).put o.dst v = frameOf a 0 (l.take n) (upd xs i v)) k m → AllSteps (StepRGD P Q l (frameOf a 0 (l.take n)) G F) k m →
      AllSteps (StepOK P Q l fun d a' w' => ∃ xs, a' = frameOf a 0 (l.take n) xs ∧ G d w' ∧ ∀ j, d j → F d j (xs j) w') k m := by
    intro k m
    induction m generalizing k with
    | nil => intro _ _; trivial
    | cons o m ih =>
      intro h1 h2
      refine ⟨?_, ih (k + 1) h1.2 h2.2⟩
      rintro d a' w' hd hdeps ⟨xs, rfl, hg, hF⟩ K hK
      refine h2.1 xs d w' hd hdeps hg hF K fun a2 v w2 ha2 hg2 hk hv => hK _ _ ⟨upd xs k v, ha2.trans (h1.1 xs v), hg2, fun j hj => ?_⟩
      by_cases e : j = k
      · subst e
        have : upd xs j v j = v := by simp [upd]
        rw [this]
        exact hv
      · have : upd xs k v j = xs j := by simp [upd, e]
        rw [this]
        exact hk j _ e (hj.resolve_right e) (hF j (hj.resolve_right e))
  obtain ⟨xs0, ha⟩ := frameOf_self a (l.take n) 0
  refine wp_region_rg n hm hB _ ⟨xs0, ha, hG, fun j hj => hj.elim⟩ (key 0 _ hcomm hstep) ?_
  rintro a' w' ⟨xs, rfl, hg, hF⟩
  exact hend xs w' hg hF

/-- the world in With: the boxes; out at O with its two rows -/
structure Wt (cm cv : List Value) (D : Nat → Prop) (O : Nat) (w : World) (u1 u2 : Value) (kl : List ByteArray) (vl : List J) (W : World) : Prop where
  below : Below w.heap.size w W
  lo : w.heap.size + 3 ≤ O
  bm : W.heap[w.heap.size]? = some (.cells cm.toArray 26 (0, 0))
  bv : W.heap[w.heap.size + 1]? = some (.cells cv.toArray 26 (0, 0))
  br : W.heap[w.heap.size + 1 + 1]? = some (.cells zsix.toArray 26 (0, 0))
  bo : W.heap[O]? = some (.cells #[.int .i64 6, .int .i64 0, .string ⟨#[]⟩, .slice none 0 0, u1, u2] 26 (0, 0))
  keys : GG EK W (O + 1) D u1 kl
  vals : GG EJ W (O + 1) D u2 vl
  apart : ∀ g, u1.ownBlock = some g → u2.ownBlock ≠ some g

variable {cm cv : List Value} {D : Nat → Prop} {O : Nat} {w W W2 : World} {u1 u2 u1' u2' : Value} {kl kl' : List ByteArray} {vl vl' : List J}

theorem Wt.set4 (h : Wt cm cv D O w u1 u2 kl vl W) (hD : ∀ b, D b → b < w.heap.size) (hg : W.grownBy W2 u1.ownBlock) (hk : GG EK W2 (O + 1) D u1' kl') (hat : ∀ g, u1'.ownBlock = some g → u1.ownBlock = some g ∨ W.heap.size ≤ g) :
    Wt cm cv D O w u1' u2 kl' vl (W2.setCell ⟨O, 4, none⟩ u1') := by
  have hO := box_lt h.bo
  have hlo := h.lo
  have hown : ∀ g, u1.ownBlock = some g → O + 1 ≤ g := fun g hg => (h.keys.own_lt g hg).1
  have hlow : ∀ b, b < O + 1 → W2.heap[b]? = W.heap[b]? := fun b hb => hg.block b (by omega) (fun e => by have := hown b e.symm; omega)
  have hne : ∀ b, b ≠ O → (W2.setCell ⟨O, 4, none⟩ u1').heap[b]? = W2.heap[b]? := fun b hb => heap_setCell_other _ _ _ _ hb
  refine ⟨(h.below.grown hg (by omega) (fun k hk => by have := hown k hk; omega)).setCell (by simp; omega) _, h.lo, ?_, ?_, ?_, ?_, ?_, ?_, ?_⟩
  · exact (hne _ (by omega)).trans ((hlow _ (by omega)).trans h.bm)
  · exact (hne _ (by omega)).trans ((hlow _ (by omega)).trans h.bv)
  · exact (hne _ (by omega)).trans ((hlow _ (by omega)).trans h.br)
  · rw [heap_setCell_same _ _ _ _ _ _ ((hlow O (by omega)).trans h.bo)]; rfl
  · exact hk.turn (fun g hg' => hne g (by have := (hk.own_lt g hg').1; omega)) (fun b hb _ => hne b (by have := hD b hb; omega)) (by simp [World.setCell])
  · exact (h.vals.turn (w' := W2) (fun g hg' => hg.block g (h.vals.own_lt g hg').2 (fun e => h.apart g e.symm hg')) (fun b hb _ => hlow b (by have := hD b hb; omega)) hg.size).turn
      (fun g hg' => hne g (by have := (h.vals.own_lt g hg').1; omega)) (fun b hb _ => hne b (by have := hD b hb; omega)) (by simp [World.setCell])
  · intro g hg1 hg2
    rcases hat g hg1 with e | e
    · exact h.apart g e hg2
    · have := (h.vals.own_lt g hg2).2; omega

theorem Wt.set5 (h : Wt cm cv D O w u1 u2 kl vl W) (hD : ∀ b, D b → b < w.heap.size) (hg : W.grownBy W2 u2.ownBlock) (hk : GG EJ W2 (O + 1) D u2' vl') (hat : ∀ g, u2'.ownBlock = some g → u2.ownBlock = some g ∨ W.heap.size ≤ g) :
    Wt cm cv D O w u1 u2' kl vl' (W2.setCell ⟨O, 5, none⟩ u2') := by
  have hO := box_lt h.bo
  have hlo := h.lo
  have hown : ∀ g, u2.ownBlock = some g → O + 1 ≤ g := fun g hg => (h.vals.own_lt g hg).1
  have hlow : ∀ b, b < O + 1 → W2.heap[b]? = W.heap[b]? := fun b hb => hg.block b (by omega) (fun e => by have := hown b e.symm; omega)
  have hne : ∀ b, b ≠ O → (W2.setCell ⟨O, 5, none⟩ u2').heap[b]? = W2.heap[b]? := fun b hb => heap_setCell_other _ _ _ _ hb
  refine ⟨(h.below.grown hg (by omega) (fun k hk => by have := hown k hk; omega)).setCell (by simp; omega) _, h.lo, ?_, ?_, ?_, ?_, ?_, ?_, ?_⟩
  · exact (hne _ (by omega)).trans ((hlow _ (by omega)).trans h.bm)
  · exact (hne _ (by omega)).trans ((hlow _ (by omega)).trans h.bv)
  · exact (hne _ (by omega)).trans ((hlow _ (by omega)).trans h.br)
  · rw [heap_setCell_same _ _ _ _ _ _ ((hlow O (by omega)).trans h.bo)]; rfl
  · exact (h.keys.turn (w' := W2) (fun g hg' => hg.block g (h.keys.own_lt g hg').2 (fun e => h.apart g hg' e.symm)) (fun b hb _ => hlow b (by have := hD b hb; omega)) hg.size).turn
      (fun g hg' => hne g (by have := (h.keys.own_lt g hg').1; omega)) (fun b hb _ => hne b (by have := hD b hb; omega)) (by simp [World.setCell])
  · exact hk.turn (fun g hg' => hne g (by have := (hk.own_lt g hg').1; omega)) (fun b hb _ => hne b (by have := hD b hb; omega)) (by simp [World.setCell])
  · intro g hg1 hg2
    rcases hat g hg2 with e | e
    · exact h.apart g hg1 e
    · have := (h.keys.own_lt g hg1).2; omega

theorem grown_none {W W2 : World} (h : Below W.heap.size W W2) (row : Option Nat) : W.grownBy W2 row := ⟨h.os, h.tape, h.output, h.size, fun k hk _ => h.block k hk⟩
theorem grown_after {W W2 W3 : World} {row : Option Nat} (h : Below W.heap.size W W2) (hg : W2.grownBy W3 row) : W.grownBy W3 row := ⟨hg.os.trans h.os, hg.tape.trans h.tape, hg.output.trans h.output, Nat.le_trans h.size hg.size, fun k hk hr => (hg.block k (Nat.lt_of_lt_of_le hk h.size) hr).trans (h.block k hk)⟩

/-- what the values of a row are good for that appends a part and one element to nothing -/
def WtF {X : Type} (E : El X) (u0 u2 u3 u5 u7 : Value) (i : Int) (D : Nat → Prop) (N : Nat) (pre : List X) (x : X) (cs : List Value) (d : Nat → Prop) : Nat → Value → World → Prop
  | 0, u, _ => u = u0
  | 1, u, _ => u = .slice none 0 0
  | 2, u, _ => u = u2
  | 3, u, _ => u = u3
  | 4, u, _ => u = .int .i64 i
  | 5, u, _ => u = u5
  | 6, u, W => ¬ d 9 → GG E W N D u pre
  | 7, u, _ => u = u7
  | 8, u, W => ¬ d 9 → ∃ g, u = .slice (some ⟨g, 0, none⟩) 1 1 ∧ W.heap[g]? = some (.cells cs.toArray E.ty (0, 0))
  | 9, u, W => GG E W N D u (pre ++ [x])
  | _, _, _ => True

theorem WtF.keep {X : Type} {E : El X} {u0 u2 u3 u5 u7 : Value} {i : Int} {D : Nat → Prop} {N : Nat} {pre : List X} {x : X} {cs : List Value} {d d' : Nat → Prop} {j : Nat} {u : Value} {W W' : World} (h : WtF E u0 u2 u3 u5 u7 i D N pre x cs d j u W) (hd : d 9 → d' 9) (hb : Below W.heap.size W W') :
    WtF E u0 u2 u3 u5 u7 i D N pre x cs d' j u W' := by
  match j, h with
  | 0, h => exact h
  | 1, h => exact h
  | 2, h => exact h
  | 3, h => exact h
  | 4, h => exact h
  | 5, h => exact h
  | 6, h => exact fun hn => (h fun h6 => hn (hd h6)).below hb
  | 7, h => exact h
  | 8, h =>
    intro hn
    obtain ⟨g, hg, hh⟩ := h fun h6 => hn (hd h6)
    exact ⟨g, hg, (hb.block _ (box_lt hh)).trans hh⟩
  | 9, h => exact GG.below h hb
  | n + 10, _ => trivial

/-- .. that appends a part -/
def WuF {X : Type} (E : El X) (u0 u1 u2 u3 u5 : Value) (i : Int) (D : Nat → Prop) (base N : Nat) (l : List X) : Nat → Value → World → Prop
  | 0, u, _ => u = u0
  | 1, u, _ => u = u1
  | 2, u, _ => u = u2
  | 3, u, _ => u = u3
  | 4, u, _ => u = .int .i64 i
  | 5, u, _ => u = u5
  | 6, u, W => GG E W base D u l ∧ ∀ g, u.ownBlock = some g → u1.ownBlock = some g ∨ N ≤ g
  | _, _, _ => True

theorem WuF.other {X : Type} {E : El X} {u0 u1 u2 u3 u5 : Value} {i : Int} {D : Nat → Prop} {base N : Nat} {l : List X} {j : Nat} {u : Value} {W W' : World} (h : WuF E u0 u1 u2 u3 u5 i D base N l j u W) (hj : j ≠ 6) : WuF E u0 u1 u2 u3 u5 i D base N l j u W' := by
  match j, h, hj with
  | 0, h, _ => exact h
  | 1, h, _ => exact h
  | 2, h, _ => exact h
  | 3, h, _ => exact h
  | 4, h, _ => exact h
  | 5, h, _ => exact h
  | 6, _, hj => exact absurd rfl hj
  | n + 7, _, _ => trivial


theorem grownBy_drewM (w : World) (row : Option Nat) : w.grownBy w.drew row := ⟨rfl, rfl, rfl, Nat.le_refl _, fun _ _ _ => rfl⟩

set_option maxRecDepth 100000 in
set_option maxHeartbeats 4000000 in
theorem with_true (ks : List ByteArray) (vs : List J) (k : ByteArray) (v : J) (D : Nat → Prop) (cm cv : List Value) (w : World) (hl : ks.length = vs.length) (hn : ks.length ≤ 4194304) (hb : isAt k ks = true) (hD : ∀ b, D b → All w b) (hm : SRep w D (.obj ks vs) cm) (hv : SRep w D v cv) :
    Calls Tryz.prog 91 #[.agg cm.toArray, .string k, .agg cv.toArray] w (ValD (.obj (insK k ks) (insV k v ks vs)) D w) := by
  have hk : ∀ W, Below w.heap.size w W → SRep W D (.obj ks vs) cm := fun W hb => VRep.keep (Same.of_below hb hD) (fun _ h => h) _ _ hm
  have HC := Lib.hid (fun W (hW : Below w.heap.size w W) => place_any (.obj ks vs) k D cm W (fun b hb => Nat.lt_of_lt_of_le (hD b hb) hW.size) (hk W hW) hn)
  have hi : plc k ks ≤ ks.length := plc_le k ks
  obtain ⟨L, K, S, rfl, hL, hK, hS⟩ := hm.cells
  obtain ⟨A1, c1, rfl⟩ := hL.form
  obtain ⟨A2, c2, rfl⟩ := hK.form
  obtain ⟨A3, c3, rfl⟩ := hS.form
  simp only [J.list, J.keys, J.vals, J.kind, J.half, J.text] at *
  have hK' : Sl EK w D ks (.slice A2 ks.length c2) := sl_EK.2 hK
  have hS' : Sl EJ w D vs (.slice A3 vs.length c3) := sl_EJ.2 hS
  obtain ⟨i, hpi⟩ : ∃ i : Nat, plc k ks = i := ⟨_, rfl⟩
  rw [hpi] at hi HC
  rw [hb] at HC
  obtain ⟨i', hi'⟩ : ∃ i' : Nat, i' = i + 1 := ⟨_, rfl⟩
  have hi1 : i' ≤ ks.length := by
    rw [hi']
    have := hb
    unfold isAt at this
    rw [hpi] at this
    have := (List.getElem?_eq_some_iff.1 (of_decide_eq_true this)).1
    omega
  obtain ⟨TK, ck, hrunK, hTK⟩ := sl_take Tryz.under24 hK' i hi
  obtain ⟨TV, cw, hrunV, hTV⟩ := sl_take Tryz.under23 hS' i (by omega)
  obtain ⟨SK, ek, hdK⟩ := sl_drop Tryz.under24 hK' i' hi1
  obtain ⟨SV, ew, hdV⟩ := sl_drop Tryz.under23 hS' i' (by omega)
  have hii : ((i' : Nat) : Int) = ((i : Int) + 1) := by omega
  rw [hii] at hdK hdV
  replace hrunK := Lib.hid hrunK
  replace hrunV := Lib.hid hrunV
  have HTK := Lib.hid hTK
  have HTV := Lib.hid hTV
  have HDK := Lib.hid hdK
  have HDV := Lib.hid hdV
  have HI := Lib.hid (And.intro hpi (And.intro hi (And.intro hi' hi1)))
  have HX := Lib.hid (And.intro hv (And.intro (show ks.length ≤ 4194304 ∧ ks.length = vs.length ∧ i ≤ ks.length from ⟨hn, hl, hi⟩) (And.intro hD hb)))
  obtain ⟨B1, d1, B2, d2, B3, d3, rfl⟩ := SRep.six hv
  clear hL hK hS hK' hS' hm hk hv hD hl hn hb hi hpi hi1 hTK hTV hdK hdV hii hi'
  go_enter Tryz.func91, Tryz.ntmps91
  go_wp2_with fail
  generalize hW : ((World.alloc _ _).alloc _).alloc _ = W0
  have H3 := Lib.hid (alloc3 hW)
  clear hW
  refine (HC.out W0 H3.out.1).mono ?_
  clear HC
  rintro e w1 ⟨rfl, hb1⟩
  have hW1 : w.heap.size + 3 ≤ w1.heap.size := by have := hb1.size; have := H3.out.2.1; omega
  have hwt : Wt [Value.int .i64 6, .int .i64 0, .string noText, .slice A1 0 c1, .slice A2 ks.length c2, .slice A3 vs.length c3] [Value.int .i64 v.kind, .int .i64 v.half, .string v.text, .slice B1 v.list.length d1, .slice B2 v.keys.length d2, .slice B3 v.vals.length d3] D w1.heap.size w (.slice none 0 0) (.slice none 0 0) [] [] (w1.alloc (.cells #[.int .i64 6, .int .i64 0, .string ⟨#[]⟩, .slice none 0 0, .slice none 0 0, .slice none 0 0] 26)) := by
    have hal : ∀ b, b < w1.heap.size → (w1.alloc (.cells #[.int .i64 6, .int .i64 0, .string ⟨#[]⟩, .slice none 0 0, .slice none 0 0, .slice none 0 0] 26)).heap[b]? = w1.heap[b]? := fun b hb => Below.heap_alloc _ _ _ hb
    refine ⟨(H3.out.1.trans (hb1.mono H3.out.1.size)).alloc (by omega) _, hW1, ?_, ?_, ?_, heap_alloc_new _ _, GG.nil _ _ _ _, GG.nil _ _ _ _, fun g hg => nomatch hg⟩
    · exact (hal _ (by omega)).trans ((hb1.block _ (box_lt H3.out.2.2.1)).trans H3.out.2.2.1)
    · exact (hal _ (by omega)).trans ((hb1.block _ (box_lt H3.out.2.2.2.1)).trans H3.out.2.2.2.1)
    · exact (hal _ (by omega)).trans ((hb1.block _ (box_lt H3.out.2.2.2.2)).trans H3.out.2.2.2.2)
  have HA := Lib.hid hwt
  clear hwt hb1 H3 hW1
  have hwr : IntKind.i64.wrap ((i : Int) + 1) = (i : Int) + 1 := by have := HI.out.2.1; have := HX.out.2.1.1; exact IntWalk.i64_in _ (by omega)
  go_wp2_with fail
  generalize hW2 : w1.alloc _ = W2 at HA ⊢
  clear hW2
  generalize w1.heap.size = O at HA ⊢
  clear w1
  refine wp_region_RG 10 (by kernel_rfl) (by kernel_rfl) (Below W2.heap.size W2) (WtF EK (.pointer (some ⟨O, 4, none⟩)) (.pointer (some ⟨w.heap.size, 4, none⟩)) (.slice A2 ks.length c2) (.slice TK i ck) (.string k) i D W2.heap.size (ks.take i) k [.string k]) (by simp [AllSteps, frameOf, Act.put, upd]) ((Below.refl _ _).drew) ⟨?s0, ?s1, ?s2, ?s3, ?s4, ?s5, ?s6, ?s7, ?s8, ?s9, trivial⟩ ?e
  case s0 =>
    intro xs d W hd hdeps hG hF K hK
    clear hdeps
    simp only [frameOf, List.take_succ_cons, List.take_zero, Act.put, List.setIfInBounds_toArray, List.set_cons_zero, List.set_cons_succ, Nat.zero_add, Nat.reduceAdd]
    go_simp
    exact hK _ _ _ (by simp only [frameOf, List.take_succ_cons, List.take_zero, Act.put, List.setIfInBounds_toArray, List.set_cons_zero, List.set_cons_succ, Nat.zero_add, Nat.reduceAdd]) hG (fun j u _ _ h => h.keep (fun h => .inl h) (Below.refl _ _)) rfl
  case s1 =>
    intro xs d W hd hdeps hG hF K hK
    simp [Region.binds] at hdeps
    have f0 : xs 0 = _ := hF 0 hdeps
    have hb := (hG.block _ (box_lt HA.out.bo)).trans HA.out.bo
    have c := box_cell hb 4
    simp at c
    clear hb
    simp only [frameOf, List.take_succ_cons, List.take_zero, Act.put, List.setIfInBounds_toArray, List.set_cons_zero, List.set_cons_succ, Nat.zero_add, Nat.reduceAdd]
    simp only [f0]
    go_simp
    exact hK _ _ _ (by simp only [frameOf, List.take_succ_cons, List.take_zero, Act.put, List.setIfInBounds_toArray, List.set_cons_zero, List.set_cons_succ, Nat.zero_add, Nat.reduceAdd, f0]) hG (fun j u _ _ h => h.keep (fun h => .inl h) (Below.refl _ _)) rfl
  case s2 =>
    intro xs d W hd hdeps hG hF K hK
    clear hdeps
    simp only [frameOf, List.take_succ_cons, List.take_zero, Act.put, List.setIfInBounds_toArray, List.set_cons_zero, List.set_cons_succ, Nat.zero_add, Nat.reduceAdd]
    go_simp
    exact hK _ _ _ (by simp only [frameOf, List.take_succ_cons, List.take_zero, Act.put, List.setIfInBounds_toArray, List.set_cons_zero, List.set_cons_succ, Nat.zero_add, Nat.reduceAdd]) hG (fun j u _ _ h => h.keep (fun h => .inl h) (Below.refl _ _)) rfl
  case s3 =>
    intro xs d W hd hdeps hG hF K hK
    simp [Region.binds] at hdeps
    have f2 : xs 2 = _ := hF 2 hdeps
    have hb := (hG.block _ (box_lt HA.out.bm)).trans HA.out.bm
    have c := box_cell hb 4
    simp at c
    clear hb
    simp only [frameOf, List.take_succ_cons, List.take_zero, Act.put, List.setIfInBounds_toArray, List.set_cons_zero, List.set_cons_succ, Nat.zero_add, Nat.reduceAdd]
    simp only [f2]
    go_simp
    exact hK _ _ _ (by simp only [frameOf, List.take_succ_cons, List.take_zero, Act.put, List.setIfInBounds_toArray, List.set_cons_zero, List.set_cons_succ, Nat.zero_add, Nat.reduceAdd, f2]) hG (fun j u _ _ h => h.keep (fun h => .inl h) (Below.refl _ _)) rfl
  case s4 =>
    intro xs d W hd hdeps hG hF K hK
    clear hdeps
    simp only [frameOf, List.take_succ_cons, List.take_zero, Act.put, List.setIfInBounds_toArray, List.set_cons_zero, List.set_cons_succ, Nat.zero_add, Nat.reduceAdd]
    go_simp
    exact hK _ _ _ (by simp only [frameOf, List.take_succ_cons, List.take_zero, Act.put, List.setIfInBounds_toArray, List.set_cons_zero, List.set_cons_succ, Nat.zero_add, Nat.reduceAdd]) hG (fun j u _ _ h => h.keep (fun h => .inl h) (Below.refl _ _)) rfl
  case s5 =>
    intro xs d W hd hdeps hG hF K hK
    simp [Region.binds] at hdeps
    have f3 : xs 3 = _ := hF 3 hdeps.1
    have f4 : xs 4 = _ := hF 4 hdeps.2
    have hr := hrunK.out
    simp only [frameOf, List.take_succ_cons, List.take_zero, Act.put, List.setIfInBounds_toArray, List.set_cons_zero, List.set_cons_succ, Nat.zero_add, Nat.reduceAdd]
    simp only [f3, f4]
    go_simp
    exact hK _ _ _ (by simp only [frameOf, List.take_succ_cons, List.take_zero, Act.put, List.setIfInBounds_toArray, List.set_cons_zero, List.set_cons_succ, Nat.zero_add, Nat.reduceAdd, f3, f4]) hG (fun j u _ _ h => h.keep (fun h => .inl h) (Below.refl _ _)) rfl
  case s6 =>
    intro xs d W hd hdeps hG hF K hK
    simp [Region.binds] at hdeps
    have f1 : xs 1 = _ := hF 1 hdeps.1
    have f5 : xs 5 = _ := hF 5 hdeps.2
    have hS := HTK.out.keep (Same.of_below (HA.out.below.trans (hG.mono HA.out.below.size)) HX.out.2.2.1) (fun _ h => h)
    simp only [frameOf, List.take_succ_cons, List.take_zero, Act.put, List.setIfInBounds_toArray, List.set_cons_zero, List.set_cons_succ, Nat.zero_add, Nat.reduceAdd]
    refine step_append_G (by rfl) (.tmp 18) (.tmp 22) 24 (by rfl) EK Tryz.under24 W2.heap.size D [] (ks.take i) (.slice none 0 0) (.slice TK i ck) (by exact f1) (by exact f5) (GG.nil _ _ _ _) (hS.loose fun b hb => ⟨hb, Nat.lt_of_lt_of_le (HX.out.2.2.1 b hb) (HA.out.below.trans (hG.mono HA.out.below.size)).size, by simp [Value.ownBlock]⟩) (by have := HX.out.2.1; simp [maxLen]; omega) (by have := HX.out.2.1; simp [EK]; omega) hG.size ?_
    intro v' W' hg hgb _
    simp only [List.nil_append] at hg
    have hbb : Below W.heap.size W W' := ⟨hgb.os, hgb.tape, hgb.output, hgb.size, fun k hk => hgb.block k hk (by simp [Value.ownBlock])⟩
    exact hK _ v' _ (by simp only [frameOf, List.take_succ_cons, List.take_zero, Act.put, List.setIfInBounds_toArray, List.set_cons_zero, List.set_cons_succ, Nat.zero_add, Nat.reduceAdd]) (hG.trans (hbb.mono hG.size)) (fun j u _ _ h => h.keep (fun h => .inl h) hbb) (fun _ => hg)
  case s7 =>
    intro xs d W hd hdeps hG hF K hK
    clear hdeps
    simp only [frameOf, List.take_succ_cons, List.take_zero, Act.put, List.setIfInBounds_toArray, List.set_cons_zero, List.set_cons_succ, Nat.zero_add, Nat.reduceAdd]
    go_simp
    exact hK _ _ _ (by simp only [frameOf, List.take_succ_cons, List.take_zero, Act.put, List.setIfInBounds_toArray, List.set_cons_zero, List.set_cons_succ, Nat.zero_add, Nat.reduceAdd]) hG (fun j u _ _ h => h.keep (fun h => .inl h) (Below.refl _ _)) rfl
  case s8 =>
    intro xs d W hd hdeps hG hF K hK
    simp [Region.binds] at hdeps
    have f7 : xs 7 = _ := hF 7 hdeps
    simp only [frameOf, List.take_succ_cons, List.take_zero, Act.put, List.setIfInBounds_toArray, List.set_cons_zero, List.set_cons_succ, Nat.zero_add, Nat.reduceAdd]
    simp only [f7]
    go_simp
    exact hK _ _ _ (by simp only [frameOf, List.take_succ_cons, List.take_zero, Act.put, List.setIfInBounds_toArray, List.set_cons_zero, List.set_cons_succ, Nat.zero_add, Nat.reduceAdd, f7]) (hG.trans (((Below.refl _ _).alloc (Nat.le_refl _) _).mono hG.size)) (fun j u _ _ h => h.keep (fun h => .inl h) ((Below.refl _ _).alloc (Nat.le_refl _) _)) (fun _ => ⟨_, rfl, heap_alloc_new _ _⟩)
  case s9 =>
    intro xs d W hd hdeps hG hF K hK
    simp [Region.binds] at hdeps
    have f6 := hF 6 hdeps.1 hd
    obtain ⟨g, f8, hh⟩ := hF 8 hdeps.2.1 hd
    simp only [frameOf, List.take_succ_cons, List.take_zero, Act.put, List.setIfInBounds_toArray, List.set_cons_zero, List.set_cons_succ, Nat.zero_add, Nat.reduceAdd]
    refine step_append_G (by rfl) (.tmp 23) (.tmp 25) 24 (by rfl) EK Tryz.under24 W2.heap.size D (ks.take i) [k] (xs 6) (xs 8) (by rfl) (by rfl) f6 ?r0 (by have := HX.out.2.1; simp [maxLen]; omega) (by have := HX.out.2.1; simp [EK]; omega) hG.size ?_
    case r0 => rw [f8]; exact lit_one (E := EK) hh rfl
    intro v' W' hg hgb _
    refine hK _ v' _ (by simp only [frameOf, List.take_succ_cons, List.take_zero, Act.put, List.setIfInBounds_toArray, List.set_cons_zero, List.set_cons_succ, Nat.zero_add, Nat.reduceAdd]) ⟨hgb.os.trans hG.os, hgb.tape.trans hG.tape, hgb.output.trans hG.output, Nat.le_trans hG.size hgb.size, fun b hb => (hgb.block b (Nat.lt_of_lt_of_le hb hG.size) (fun e => by have := (GG.own_lt f6 b e.symm).1; omega)).trans (hG.block b hb)⟩ (fun j u hne _ h => ?_) hg
    match j, hne, h with
    | 0, _, h => exact h
    | 1, _, h => exact h
    | 2, _, h => exact h
    | 3, _, h => exact h
    | 4, _, h => exact h
    | 5, _, h => exact h
    | 6, _, _ => exact fun hn => absurd (.inr rfl) hn
    | 7, _, h => exact h
    | 8, _, _ => exact fun hn => absurd (.inr rfl) hn
    | 9, hne, _ => exact absurd rfl hne
    | n + 10, _, _ => trivial
  case e =>
    intro xs W2x hG hF
    have hg := hF 9 (by omega)
    obtain ⟨U4, m4, n4, hU, hmn⟩ : ∃ U m n, xs 9 = .slice U m n ∧ m = (ks.take i ++ [k]).length := by
      obtain ⟨A, c, h⟩ := GG.form hg
      exact ⟨A, _, c, h, rfl⟩
    change GG EK W2x W2.heap.size D (xs 9) (ks.take i ++ [k]) at hg
    rw [hU] at hg
    have hbo := (hG.block _ (box_lt HA.out.bo)).trans HA.out.bo
    have c : W2x.cell? ⟨O, 4, none⟩ = _ := box_cell hbo 4
    have fz := box_frozen hbo
    have HAn := Lib.hid (HA.out.set4 HX.out.2.2.1 (grown_none hG _) (hg.base (by have := box_lt HA.out.bo; omega)) (fun g hg' => .inr (hg.own_lt g hg').1))
    clear hbo hmn hg hG hF HA
    simp only [frameOf, List.take_succ_cons, List.take_zero, List.drop_succ_cons, List.drop_zero, Act.put, List.setIfInBounds_toArray, List.set_cons_zero, List.set_cons_succ, Nat.zero_add, Nat.reduceAdd, hU]
    clear hU
    go_wp2_with fail
    clear c fz
    generalize W2x.setCell _ _ = W3 at HAn ⊢
    clear W2x
    refine wp_region_RG 10 (by kernel_rfl) (by kernel_rfl) (Below W3.heap.size W3) (WtF EJ (.pointer (some ⟨O, 5, none⟩)) (.pointer (some ⟨w.heap.size, 5, none⟩)) (.slice A3 vs.length c3) (.slice TV i cw) (.agg #[Value.int .i64 v.kind, .int .i64 v.half, .string v.text, .slice B1 v.list.length d1, .slice B2 v.keys.length d2, .slice B3 v.vals.length d3]) i D W3.heap.size (vs.take i) v [Value.int .i64 v.kind, .int .i64 v.half, .string v.text, .slice B1 v.list.length d1, .slice B2 v.keys.length d2, .slice B3 v.vals.length d3]) (by simp [AllSteps, frameOf, Act.put, upd]) ((Below.refl _ _).drew) ⟨?s0, ?s1, ?s2, ?s3, ?s4, ?s5, ?s6, ?s7, ?s8, ?s9, trivial⟩ ?e
    case s0 =>
      intro xs d W hd hdeps hG hF K hK
      clear hdeps
      simp only [frameOf, List.take_succ_cons, List.take_zero, Act.put, List.setIfInBounds_toArray, List.set_cons_zero, List.set_cons_succ, Nat.zero_add, Nat.reduceAdd]
      go_simp
      exact hK _ _ _ (by simp only [frameOf, List.take_succ_cons, List.take_zero, Act.put, List.setIfInBounds_toArray, List.set_cons_zero, List.set_cons_succ, Nat.zero_add, Nat.reduceAdd]) hG (fun j u _ _ h => h.keep (fun h => .inl h) (Below.refl _ _)) rfl
    case s1 =>
      intro xs d W hd hdeps hG hF K hK
      simp [Region.binds] at hdeps
      have f0 : xs 0 = _ := hF 0 hdeps
      have hb := (hG.block _ (box_lt HAn.out.bo)).trans HAn.out.bo
      have c := box_cell hb 5
      simp at c
      clear hb
      simp only [frameOf, List.take_succ_cons, List.take_zero, Act.put, List.setIfInBounds_toArray, List.set_cons_zero, List.set_cons_succ, Nat.zero_add, Nat.reduceAdd]
      simp only [f0]
      go_simp
      exact hK _ _ _ (by simp only [frameOf, List.take_succ_cons, List.take_zero, Act.put, List.setIfInBounds_toArray, List.set_cons_zero, List.set_cons_succ, Nat.zero_add, Nat.reduceAdd, f0]) hG (fun j u _ _ h => h.keep (fun h => .inl h) (Below.refl _ _)) rfl
    case s2 =>
      intro xs d W hd hdeps hG hF K hK
      clear hdeps
      simp only [frameOf, List.take_succ_cons, List.take_zero, Act.put, List.setIfInBounds_toArray, List.set_cons_zero, List.set_cons_succ, Nat.zero_add, Nat.reduceAdd]
      go_simp
      exact hK _ _ _ (by simp only [frameOf, List.take_succ_cons, List.take_zero, Act.put, List.setIfInBounds_toArray, List.set_cons_zero, List.set_cons_succ, Nat.zero_add, Nat.reduceAdd]) hG (fun j u _ _ h => h.keep (fun h => .inl h) (Below.refl _ _)) rfl
    case s3 =>
      intro xs d W hd hdeps hG hF K hK
      simp [Region.binds] at hdeps
      have f2 : xs 2 = _ := hF 2 hdeps
      have hb := (hG.block _ (box_lt HAn.out.bm)).trans HAn.out.bm
      have c := box_cell hb 5
      simp at c
      clear hb
      simp only [frameOf, List.take_succ_cons, List.take_zero, Act.put, List.setIfInBounds_toArray, List.set_cons_zero, List.set_cons_succ, Nat.zero_add, Nat.reduceAdd]
      simp only [f2]
      go_simp
      exact hK _ _ _ (by simp only [frameOf, List.take_succ_cons, List.take_zero, Act.put, List.setIfInBounds_toArray, List.set_cons_zero, List.set_cons_succ, Nat.zero_add, Nat.reduceAdd, f2]) hG (fun j u _ _ h => h.keep (fun h => .inl h) (Below.refl _ _)) rfl
    case s4 =>
      intro xs d W hd hdeps hG hF K hK
      clear hdeps
      simp only [frameOf, List.take_succ_cons, List.take_zero, Act.put, List.setIfInBounds_toArray, List.set_cons_zero, List.set_cons_succ, Nat.zero_add, Nat.reduceAdd]
      go_simp
      exact hK _ _ _ (by simp only [frameOf, List.take_succ_cons, List.take_zero, Act.put, List.setIfInBounds_toArray, List.set_cons_zero, List.set_cons_succ, Nat.zero_add, Nat.reduceAdd]) hG (fun j u _ _ h => h.keep (fun h => .inl h) (Below.refl _ _)) rfl
    case s5 =>
      intro xs d W hd hdeps hG hF K hK
      simp [Region.binds] at hdeps
      have f3 : xs 3 = _ := hF 3 hdeps.1
      have f4 : xs 4 = _ := hF 4 hdeps.2
      have hr := hrunV.out
      simp only [frameOf, List.take_succ_cons, List.take_zero, Act.put, List.setIfInBounds_toArray, List.set_cons_zero, List.set_cons_succ, Nat.zero_add, Nat.reduceAdd]
      simp only [f3, f4]
      go_simp
      exact hK _ _ _ (by simp only [frameOf, List.take_succ_cons, List.take_zero, Act.put, List.setIfInBounds_toArray, List.set_cons_zero, List.set_cons_succ, Nat.zero_add, Nat.reduceAdd, f3, f4]) hG (fun j u _ _ h => h.keep (fun h => .inl h) (Below.refl _ _)) rfl
    case s6 =>
      intro xs d W hd hdeps hG hF K hK
      simp [Region.binds] at hdeps
      have f1 : xs 1 = _ := hF 1 hdeps.1
      have f5 : xs 5 = _ := hF 5 hdeps.2
      have hS := HTV.out.keep (Same.of_below (HAn.out.below.trans (hG.mono HAn.out.below.size)) HX.out.2.2.1) (fun _ h => h)
      simp only [frameOf, List.take_succ_cons, List.take_zero, Act.put, List.setIfInBounds_toArray, List.set_cons_zero, List.set_cons_succ, Nat.zero_add, Nat.reduceAdd]
      refine step_append_G (by rfl) (.tmp 29) (.tmp 33) 23 (by rfl) EJ Tryz.under23 W3.heap.size D [] (vs.take i) (.slice none 0 0) (.slice TV i cw) (by exact f1) (by exact f5) (GG.nil _ _ _ _) (hS.loose fun b hb => ⟨hb, Nat.lt_of_lt_of_le (HX.out.2.2.1 b hb) (HAn.out.below.trans (hG.mono HAn.out.below.size)).size, by simp [Value.ownBlock]⟩) (by have := HX.out.2.1; simp [maxLen]; omega) (by have := HX.out.2.1; simp [EJ]; omega) hG.size ?_
      intro v' W' hg hgb _
      simp only [List.nil_append] at hg
      have hbb : Below W.heap.size W W' := ⟨hgb.os, hgb.tape, hgb.output, hgb.size, fun k hk => hgb.block k hk (by simp [Value.ownBlock])⟩
      exact hK _ v' _ (by simp only [frameOf, List.take_succ_cons, List.take_zero, Act.put, List.setIfInBounds_toArray, List.set_cons_zero, List.set_cons_succ, Nat.zero_add, Nat.reduceAdd]) (hG.trans (hbb.mono hG.size)) (fun j u _ _ h => h.keep (fun h => .inl h) hbb) (fun _ => hg)
    case s7 =>
      intro xs d W hd hdeps hG hF K hK
      clear hdeps
      have hb := (hG.block _ (box_lt HAn.out.bv)).trans HAn.out.bv
      have c0 := box_cell hb 0
      have c1 := box_cell hb 1
      have c2 := box_cell hb 2
      have c3 := box_cell hb 3
      have c4 := box_cell hb 4
      have c5 := box_cell hb 5
      simp at c0 c1 c2 c3 c4 c5
      clear hb
      simp only [frameOf, List.take_succ_cons, List.take_zero, Act.put, List.setIfInBounds_toArray, List.set_cons_zero, List.set_cons_succ, Nat.zero_add, Nat.reduceAdd]
      go_simp
      exact hK _ _ _ (by simp only [frameOf, List.take_succ_cons, List.take_zero, Act.put, List.setIfInBounds_toArray, List.set_cons_zero, List.set_cons_succ, Nat.zero_add, Nat.reduceAdd]) hG (fun j u _ _ h => h.keep (fun h => .inl h) (Below.refl _ _)) rfl
    case s8 =>
      intro xs d W hd hdeps hG hF K hK
      simp [Region.binds] at hdeps
      have f7 : xs 7 = _ := hF 7 hdeps
      simp only [frameOf, List.take_succ_cons, List.take_zero, Act.put, List.setIfInBounds_toArray, List.set_cons_zero, List.set_cons_succ, Nat.zero_add, Nat.reduceAdd]
      simp only [f7]
      go_simp
      exact hK _ _ _ (by simp only [frameOf, List.take_succ_cons, List.take_zero, Act.put, List.setIfInBounds_toArray, List.set_cons_zero, List.set_cons_succ, Nat.zero_add, Nat.reduceAdd, f7]) (hG.trans (((Below.refl _ _).alloc (Nat.le_refl _) _).mono hG.size)) (fun j u _ _ h => h.keep (fun h => .inl h) ((Below.refl _ _).alloc (Nat.le_refl _) _)) (fun _ => ⟨_, rfl, heap_alloc_new _ _⟩)
    case s9 =>
      intro xs d W hd hdeps hG hF K hK
      simp [Region.binds] at hdeps
      have f6 := hF 6 hdeps.1 hd
      obtain ⟨g, f8, hh⟩ := hF 8 hdeps.2.1 hd
      simp only [frameOf, List.take_succ_cons, List.take_zero, Act.put, List.setIfInBounds_toArray, List.set_cons_zero, List.set_cons_succ, Nat.zero_add, Nat.reduceAdd]
      refine step_append_G (by rfl) (.tmp 34) (.tmp 36) 23 (by rfl) EJ Tryz.under23 W3.heap.size D (vs.take i) [v] (xs 6) (xs 8) (by rfl) (by rfl) f6 ?r0 (by have := HX.out.2.1; simp [maxLen]; omega) (by have := HX.out.2.1; simp [EJ]; omega) hG.size ?_
      case r0 => rw [f8]; exact lit_one (E := EJ) hh (VRep.keep (Same.of_below (HAn.out.below.trans (hG.mono HAn.out.below.size)) HX.out.2.2.1) (fun b hb => ⟨hb, Nat.lt_of_lt_of_le (HX.out.2.2.1 b hb) (HAn.out.below.trans (hG.mono HAn.out.below.size)).size, fun e => by have := (GG.own_lt f6 b e.symm).1; have := HX.out.2.2.1 b hb; have := HAn.out.below.size; omega⟩) _ _ HX.out.1)
      intro v' W' hg hgb _
      refine hK _ v' _ (by simp only [frameOf, List.take_succ_cons, List.take_zero, Act.put, List.setIfInBounds_toArray, List.set_cons_zero, List.set_cons_succ, Nat.zero_add, Nat.reduceAdd]) ⟨hgb.os.trans hG.os, hgb.tape.trans hG.tape, hgb.output.trans hG.output, Nat.le_trans hG.size hgb.size, fun b hb => (hgb.block b (Nat.lt_of_lt_of_le hb hG.size) (fun e => by have := (GG.own_lt f6 b e.symm).1; omega)).trans (hG.block b hb)⟩ (fun j u hne _ h => ?_) hg
      match j, hne, h with
      | 0, _, h => exact h
      | 1, _, h => exact h
      | 2, _, h => exact h
      | 3, _, h => exact h
      | 4, _, h => exact h
      | 5, _, h => exact h
      | 6, _, _ => exact fun hn => absurd (.inr rfl) hn
      | 7, _, h => exact h
      | 8, _, _ => exact fun hn => absurd (.inr rfl) hn
      | 9, hne, _ => exact absurd rfl hne
      | n + 10, _, _ => trivial
    case e =>
      intro xs W3x hG hF
      have hg := hF 9 (by omega)
      obtain ⟨U5, m5, n5, hU, hmn⟩ : ∃ U m n, xs 9 = .slice U m n ∧ m = (vs.take i ++ [v]).length := by
        obtain ⟨A, c, h⟩ := GG.form hg
        exact ⟨A, _, c, h, rfl⟩
      change GG EJ W3x W3.heap.size D (xs 9) (vs.take i ++ [v]) at hg
      rw [hU] at hg
      have hbo := (hG.block _ (box_lt HAn.out.bo)).trans HAn.out.bo
      have c : W3x.cell? ⟨O, 5, none⟩ = _ := box_cell hbo 5
      have fz := box_frozen hbo
      have HAnn := Lib.hid (HAn.out.set5 HX.out.2.2.1 (grown_none hG _) (hg.base (by have := box_lt HAn.out.bo; omega)) (fun g hg' => .inr (hg.own_lt g hg').1))
      clear hbo hmn hg hG hF HAn
      simp only [frameOf, List.take_succ_cons, List.take_zero, List.drop_succ_cons, List.drop_zero, Act.put, List.setIfInBounds_toArray, List.set_cons_zero, List.set_cons_succ, Nat.zero_add, Nat.reduceAdd, hU]
      clear hU
      go_wp2_with fail
      clear c fz
      generalize W3x.setCell _ _ = W4 at HAnn ⊢
      clear W3x
      refine wp_region_RGD 7 (by kernel_rfl) (by kernel_rfl) (fun d W => W4.grownBy W (Value.ownBlock (.slice U4 m4 n4)) ∧ (¬ d 6 → Below W4.heap.size W4 W)) (fun _ => WuF EK (.pointer (some ⟨O, 4, none⟩)) (.slice U4 m4 n4) (.pointer (some ⟨w.heap.size, 4, none⟩)) (.slice A2 ks.length c2) (.slice SK (ks.length - i') ek) ((i : Int) + 1) D (O + 1) W4.heap.size ((ks.take i ++ [k]) ++ ks.drop i')) (by simp [AllSteps, frameOf, Act.put, upd]) ⟨grownBy_drewM _ _, fun _ => (Below.refl _ _).drew⟩ ⟨?s0, ?s1, ?s2, ?s3, ?s4, ?s5, ?s6, trivial⟩ ?e
      case s0 =>
        intro xs d W hd hdeps hG hF K hK
        clear hdeps
        simp only [frameOf, List.take_succ_cons, List.take_zero, Act.put, List.setIfInBounds_toArray, List.set_cons_zero, List.set_cons_succ, Nat.zero_add, Nat.reduceAdd]
        go_simp
        exact hK _ _ _ (by simp only [frameOf, List.take_succ_cons, List.take_zero, Act.put, List.setIfInBounds_toArray, List.set_cons_zero, List.set_cons_succ, Nat.zero_add, Nat.reduceAdd]) ⟨hG.1, fun h => hG.2 fun h6 => h (.inl h6)⟩ (fun j u _ _ h => h) rfl
      case s1 =>
        intro xs d W hd hdeps hG hF K hK
        simp [Region.binds] at hdeps
        have f0 : xs 0 = _ := hF 0 hdeps
        have hb := (hG.1.block _ (box_lt HAnn.out.bo) (fun e => by have := (HAnn.out.keys.own_lt _ e.symm).1; have := HAnn.out.lo; omega)).trans HAnn.out.bo
        have c := box_cell hb 4
        simp at c
        clear hb
        simp only [frameOf, List.take_succ_cons, List.take_zero, Act.put, List.setIfInBounds_toArray, List.set_cons_zero, List.set_cons_succ, Nat.zero_add, Nat.reduceAdd]
        simp only [f0]
        go_simp
        exact hK _ _ _ (by simp only [frameOf, List.take_succ_cons, List.take_zero, Act.put, List.setIfInBounds_toArray, List.set_cons_zero, List.set_cons_succ, Nat.zero_add, Nat.reduceAdd, f0]) ⟨hG.1, fun h => hG.2 fun h6 => h (.inl h6)⟩ (fun j u _ _ h => h) rfl
      case s2 =>
        intro xs d W hd hdeps hG hF K hK
        clear hdeps
        simp only [frameOf, List.take_succ_cons, List.take_zero, Act.put, List.setIfInBounds_toArray, List.set_cons_zero, List.set_cons_succ, Nat.zero_add, Nat.reduceAdd]
        go_simp
        exact hK _ _ _ (by simp only [frameOf, List.take_succ_cons, List.take_zero, Act.put, List.setIfInBounds_toArray, List.set_cons_zero, List.set_cons_succ, Nat.zero_add, Nat.reduceAdd]) ⟨hG.1, fun h => hG.2 fun h6 => h (.inl h6)⟩ (fun j u _ _ h => h) rfl
      case s3 =>
        intro xs d W hd hdeps hG hF K hK
        simp [Region.binds] at hdeps
        have f2 : xs 2 = _ := hF 2 hdeps
        have hb := (hG.1.block _ (box_lt HAnn.out.bm) (fun e => by have := (HAnn.out.keys.own_lt _ e.symm).1; have := HAnn.out.lo; omega)).trans HAnn.out.bm
        have c := box_cell hb 4
        simp at c
        clear hb
        simp only [frameOf, List.take_succ_cons, List.take_zero, Act.put, List.setIfInBounds_toArray, List.set_cons_zero, List.set_cons_succ, Nat.zero_add, Nat.reduceAdd]
        simp only [f2]
        go_simp
        exact hK _ _ _ (by simp only [frameOf, List.take_succ_cons, List.take_zero, Act.put, List.setIfInBounds_toArray, List.set_cons_zero, List.set_cons_succ, Nat.zero_add, Nat.reduceAdd, f2]) ⟨hG.1, fun h => hG.2 fun h6 => h (.inl h6)⟩ (fun j u _ _ h => h) rfl
      case s4 =>
        intro xs d W hd hdeps hG hF K hK
        clear hdeps
        simp only [frameOf, List.take_succ_cons, List.take_zero, Act.put, List.setIfInBounds_toArray, List.set_cons_zero, List.set_cons_succ, Nat.zero_add, Nat.reduceAdd]
        go_simp
        exact hK _ _ _ (by simp only [frameOf, List.take_succ_cons, List.take_zero, Act.put, List.setIfInBounds_toArray, List.set_cons_zero, List.set_cons_succ, Nat.zero_add, Nat.reduceAdd]) ⟨hG.1, fun h => hG.2 fun h6 => h (.inl h6)⟩ (fun j u _ _ h => h) rfl
      case s5 =>
        intro xs d W hd hdeps hG hF K hK
        simp [Region.binds] at hdeps
        have f3 : xs 3 = _ := hF 3 hdeps.1
        have f4 : xs 4 = _ := hF 4 hdeps.2
        have hr := HDK.out.1
        simp only [frameOf, List.take_succ_cons, List.take_zero, Act.put, List.setIfInBounds_toArray, List.set_cons_zero, List.set_cons_succ, Nat.zero_add, Nat.reduceAdd]
        simp only [f3, f4]
        go_simp
        exact hK _ _ _ (by simp only [frameOf, List.take_succ_cons, List.take_zero, Act.put, List.setIfInBounds_toArray, List.set_cons_zero, List.set_cons_succ, Nat.zero_add, Nat.reduceAdd, f3, f4]) ⟨hG.1, fun h => hG.2 fun h6 => h (.inl h6)⟩ (fun j u _ _ h => h) rfl
      case s6 =>
        intro xs d W hd hdeps hG hF K hK
        simp [Region.binds] at hdeps
        have f1 : xs 1 = _ := hF 1 hdeps.1
        have f5 : xs 5 = _ := hF 5 hdeps.2
        have hbl := hG.2 hd
        have hgg := GG.below HAnn.out.keys hbl
        have hS := HDK.out.2.keep (Same.of_below (HAnn.out.below.trans (hbl.mono HAnn.out.below.size)) HX.out.2.2.1) (fun _ h => h)
        simp only [frameOf, List.take_succ_cons, List.take_zero, Act.put, List.setIfInBounds_toArray, List.set_cons_zero, List.set_cons_succ, Nat.zero_add, Nat.reduceAdd]
        refine step_append_G (by rfl) (.tmp 43) (.tmp 47) 24 (by rfl) EK Tryz.under24 (O + 1) D (ks.take i ++ [k]) (ks.drop i') (.slice U4 m4 n4) (.slice SK (ks.length - i') ek) (by exact f1) (by exact f5) hgg (hS.loose fun b hb => ⟨hb, Nat.lt_of_lt_of_le (HX.out.2.2.1 b hb) (HAnn.out.below.trans (hbl.mono HAnn.out.below.size)).size, fun e => by have := (hgg.own_lt b e.symm).1; have := HX.out.2.2.1 b hb; have := HAnn.out.lo; omega⟩) (by have := HX.out.2.1; simp [maxLen]; omega) (by have := HX.out.2.1; simp [EK]; omega) (by have := box_lt HAnn.out.bo; have := hbl.size; omega) ?_
        intro v' W' hg hgb hat
        refine hK _ v' _ (by simp only [frameOf, List.take_succ_cons, List.take_zero, Act.put, List.setIfInBounds_toArray, List.set_cons_zero, List.set_cons_succ, Nat.zero_add, Nat.reduceAdd]) ⟨grown_after hbl hgb, fun h => absurd (.inr rfl) h⟩ (fun j u hne _ h => h.other hne) ⟨hg, fun g hg' => ?_⟩
        rcases hat with e | e
        · exact .inl (e ▸ hg')
        · rw [e] at hg'; have := Option.some.inj hg'; have := hbl.size; exact .inr (by omega)
      case e =>
        intro xs W4x hG hF
        obtain ⟨hg, hat⟩ := hF 6 (by omega)
        obtain ⟨U4', m4', n4', hU, hmn⟩ : ∃ U m n, xs 6 = .slice U m n ∧ m = ((ks.take i ++ [k]) ++ ks.drop i').length := by
          obtain ⟨A, c, h⟩ := GG.form hg
          exact ⟨A, _, c, h, rfl⟩
        rw [hU] at hg hat
        have hbo := (hG.1.block _ (box_lt HAnn.out.bo) (fun e => by have := (HAnn.out.keys.own_lt _ e.symm).1; have := HAnn.out.lo; omega)).trans HAnn.out.bo
        have c : W4x.cell? ⟨O, 4, none⟩ = _ := box_cell hbo 4
        have fz := box_frozen hbo
        have HAnnn := Lib.hid (HAnn.out.set4 HX.out.2.2.1 hG.1 hg hat)
        clear hbo hmn hg hat hG hF HAnn
        simp only [frameOf, List.take_succ_cons, List.take_zero, List.drop_succ_cons, List.drop_zero, Act.put, List.setIfInBounds_toArray, List.set_cons_zero, List.set_cons_succ, Nat.zero_add, Nat.reduceAdd, hU]
        clear hU
        go_wp2_with fail
        clear c fz
        generalize W4x.setCell _ _ = W5 at HAnnn ⊢
        clear W4x
        refine wp_region_RGD 7 (by kernel_rfl) (by kernel_rfl) (fun d W => W5.grownBy W (Value.ownBlock (.slice U5 m5 n5)) ∧ (¬ d 6 → Below W5.heap.size W5 W)) (fun _ => WuF EJ (.pointer (some ⟨O, 5, none⟩)) (.slice U5 m5 n5) (.pointer (some ⟨w.heap.size, 5, none⟩)) (.slice A3 vs.length c3) (.slice SV (vs.length - i') ew) ((i : Int) + 1) D (O + 1) W5.heap.size ((vs.take i ++ [v]) ++ vs.drop i')) (by simp [AllSteps, frameOf, Act.put, upd]) ⟨grownBy_drewM _ _, fun _ => (Below.refl _ _).drew⟩ ⟨?s0, ?s1, ?s2, ?s3, ?s4, ?s5, ?s6, trivial⟩ ?e
        case s0 =>
          intro xs d W hd hdeps hG hF K hK
          clear hdeps
          simp only [frameOf, List.take_succ_cons, List.take_zero, Act.put, List.setIfInBounds_toArray, List.set_cons_zero, List.set_cons_succ, Nat.zero_add, Nat.reduceAdd]
          go_simp
          exact hK _ _ _ (by simp only [frameOf, List.take_succ_cons, List.take_zero, Act.put, List.setIfInBounds_toArray, List.set_cons_zero, List.set_cons_succ, Nat.zero_add, Nat.reduceAdd]) ⟨hG.1, fun h => hG.2 fun h6 => h (.inl h6)⟩ (fun j u _ _ h => h) rfl
        case s1 =>
          intro xs d W hd hdeps hG hF K hK
          simp [Region.binds] at hdeps
          have f0 : xs 0 = _ := hF 0 hdeps
          have hb := (hG.1.block _ (box_lt HAnnn.out.bo) (fun e => by have := (HAnnn.out.vals.own_lt _ e.symm).1; have := HAnnn.out.lo; omega)).trans HAnnn.out.bo
          have c := box_cell hb 5
          simp at c
          clear hb
          simp only [frameOf, List.take_succ_cons, List.take_zero, Act.put, List.setIfInBounds_toArray, List.set_cons_zero, List.set_cons_succ, Nat.zero_add, Nat.reduceAdd]
          simp only [f0]
          go_simp
          exact hK _ _ _ (by simp only [frameOf, List.take_succ_cons, List.take_zero, Act.put, List.setIfInBounds_toArray, List.set_cons_zero, List.set_cons_succ, Nat.zero_add, Nat.reduceAdd, f0]) ⟨hG.1, fun h => hG.2 fun h6 => h (.inl h6)⟩ (fun j u _ _ h => h) rfl
        case s2 =>
          intro xs d W hd hdeps hG hF K hK
          clear hdeps
          simp only [frameOf, List.take_succ_cons, List.take_zero, Act.put, List.setIfInBounds_toArray, List.set_cons_zero, List.set_cons_succ, Nat.zero_add, Nat.reduceAdd]
          go_simp
          exact hK _ _ _ (by simp only [frameOf, List.take_succ_cons, List.take_zero, Act.put, List.setIfInBounds_toArray, List.set_cons_zero, List.set_cons_succ, Nat.zero_add, Nat.reduceAdd]) ⟨hG.1, fun h => hG.2 fun h6 => h (.inl h6)⟩ (fun j u _ _ h => h) rfl
        case s3 =>
          intro xs d W hd hdeps hG hF K hK
          simp [Region.binds] at hdeps
          have f2 : xs 2 = _ := hF 2 hdeps
          have hb := (hG.1.block _ (box_lt HAnnn.out.bm) (fun e => by have := (HAnnn.out.vals.own_lt _ e.symm).1; have := HAnnn.out.lo; omega)).trans HAnnn.out.bm
          have c := box_cell hb 5
          simp at c
          clear hb
          simp only [frameOf, List.take_succ_cons, List.take_zero, Act.put, List.setIfInBounds_toArray, List.set_cons_zero, List.set_cons_succ, Nat.zero_add, Nat.reduceAdd]
          simp only [f2]
          go_simp
          exact hK _ _ _ (by simp only [frameOf, List.take_succ_cons, List.take_zero, Act.put, List.setIfInBounds_toArray, List.set_cons_zero, List.set_cons_succ, Nat.zero_add, Nat.reduceAdd, f2]) ⟨hG.1, fun h => hG.2 fun h6 => h (.inl h6)⟩ (fun j u _ _ h => h) rfl
        case s4 =>
          intro xs d W hd hdeps hG hF K hK
          clear hdeps
          simp only [frameOf, List.take_succ_cons, List.take_zero, Act.put, List.setIfInBounds_toArray, List.set_cons_zero, List.set_cons_succ, Nat.zero_add, Nat.reduceAdd]
          go_simp
          exact hK _ _ _ (by simp only [frameOf, List.take_succ_cons, List.take_zero, Act.put, List.setIfInBounds_toArray, List.set_cons_zero, List.set_cons_succ, Nat.zero_add, Nat.reduceAdd]) ⟨hG.1, fun h => hG.2 fun h6 => h (.inl h6)⟩ (fun j u _ _ h => h) rfl
        case s5 =>
          intro xs d W hd hdeps hG hF K hK
          simp [Region.binds] at hdeps
          have f3 : xs 3 = _ := hF 3 hdeps.1
          have f4 : xs 4 = _ := hF 4 hdeps.2
          have hr := HDV.out.1
          simp only [frameOf, List.take_succ_cons, List.take_zero, Act.put, List.setIfInBounds_toArray, List.set_cons_zero, List.set_cons_succ, Nat.zero_add, Nat.reduceAdd]
          simp only [f3, f4]
          go_simp
          exact hK _ _ _ (by simp only [frameOf, List.take_succ_cons, List.take_zero, Act.put, List.setIfInBounds_toArray, List.set_cons_zero, List.set_cons_succ, Nat.zero_add, Nat.reduceAdd, f3, f4]) ⟨hG.1, fun h => hG.2 fun h6 => h (.inl h6)⟩ (fun j u _ _ h => h) rfl
        case s6 =>
          intro xs d W hd hdeps hG hF K hK
          simp [Region.binds] at hdeps
          have f1 : xs 1 = _ := hF 1 hdeps.1
          have f5 : xs 5 = _ := hF 5 hdeps.2
          have hbl := hG.2 hd
          have hgg := GG.below HAnnn.out.vals hbl
          have hS := HDV.out.2.keep (Same.of_below (HAnnn.out.below.trans (hbl.mono HAnnn.out.below.size)) HX.out.2.2.1) (fun _ h => h)
          simp only [frameOf, List.take_succ_cons, List.take_zero, Act.put, List.setIfInBounds_toArray, List.set_cons_zero, List.set_cons_succ, Nat.zero_add, Nat.reduceAdd]
          refine step_append_G (by rfl) (.tmp 51) (.tmp 55) 23 (by rfl) EJ Tryz.under23 (O + 1) D (vs.take i ++ [v]) (vs.drop i') (.slice U5 m5 n5) (.slice SV (vs.length - i') ew) (by exact f1) (by exact f5) hgg (hS.loose fun b hb => ⟨hb, Nat.lt_of_lt_of_le (HX.out.2.2.1 b hb) (HAnnn.out.below.trans (hbl.mono HAnnn.out.below.size)).size, fun e => by have := (hgg.own_lt b e.symm).1; have := HX.out.2.2.1 b hb; have := HAnnn.out.lo; omega⟩) (by have := HX.out.2.1; simp [maxLen]; omega) (by have := HX.out.2.1; simp [EJ]; omega) (by have := box_lt HAnnn.out.bo; have := hbl.size; omega) ?_
          intro v' W' hg hgb hat
          refine hK _ v' _ (by simp only [frameOf, List.take_succ_cons, List.take_zero, Act.put, List.setIfInBounds_toArray, List.set_cons_zero, List.set_cons_succ, Nat.zero_add, Nat.reduceAdd]) ⟨grown_after hbl hgb, fun h => absurd (.inr rfl) h⟩ (fun j u hne _ h => h.other hne) ⟨hg, fun g hg' => ?_⟩
          rcases hat with e | e
          · exact .inl (e ▸ hg')
          · rw [e] at hg'; have := Option.some.inj hg'; have := hbl.size; exact .inr (by omega)
        case e =>
          intro xs W5x hG hF
          obtain ⟨hg, hat⟩ := hF 6 (by omega)
          obtain ⟨U5', m5', n5', hU, hmn⟩ : ∃ U m n, xs 6 = .slice U m n ∧ m = ((vs.take i ++ [v]) ++ vs.drop i').length := by
            obtain ⟨A, c, h⟩ := GG.form hg
            exact ⟨A, _, c, h, rfl⟩
          rw [hU] at hg hat
          have hbo := (hG.1.block _ (box_lt HAnnn.out.bo) (fun e => by have := (HAnnn.out.vals.own_lt _ e.symm).1; have := HAnnn.out.lo; omega)).trans HAnnn.out.bo
          have c : W5x.cell? ⟨O, 5, none⟩ = _ := box_cell hbo 5
          have fz := box_frozen hbo
          have hbr := (hG.1.block _ (box_lt HAnnn.out.br) (fun e => by have := (HAnnn.out.vals.own_lt _ e.symm).1; have := HAnnn.out.lo; omega)).trans HAnnn.out.br
          have c0 : W5x.cell? ⟨O, 0, none⟩ = _ := box_cell hbo 0
          have c1 : W5x.cell? ⟨O, 1, none⟩ = _ := box_cell hbo 1
          have c2 : W5x.cell? ⟨O, 2, none⟩ = _ := box_cell hbo 2
          have c3 : W5x.cell? ⟨O, 3, none⟩ = _ := box_cell hbo 3
          have c4 : W5x.cell? ⟨O, 4, none⟩ = _ := box_cell hbo 4
          have r0 : W5x.cell? ⟨w.heap.size + 1 + 1, 0, none⟩ = _ := box_cell hbr 0
          have r1 : W5x.cell? ⟨w.heap.size + 1 + 1, 1, none⟩ = _ := box_cell hbr 1
          have r2 : W5x.cell? ⟨w.heap.size + 1 + 1, 2, none⟩ = _ := box_cell hbr 2
          have r3 : W5x.cell? ⟨w.heap.size + 1 + 1, 3, none⟩ = _ := box_cell hbr 3
          have r4 : W5x.cell? ⟨w.heap.size + 1 + 1, 4, none⟩ = _ := box_cell hbr 4
          have r5 : W5x.cell? ⟨w.heap.size + 1 + 1, 5, none⟩ = _ := box_cell hbr 5
          have fzr := box_frozen hbr
          have hlo := HAnnn.out.lo
          clear hbr
          have HAnnnn := Lib.hid (HAnnn.out.set5 HX.out.2.2.1 hG.1 hg hat)
          clear hbo hmn hg hat hG hF HAnnn
          simp only [frameOf, List.take_succ_cons, List.take_zero, List.drop_succ_cons, List.drop_zero, Act.put, List.setIfInBounds_toArray, List.set_cons_zero, List.set_cons_succ, Nat.zero_add, Nat.reduceAdd, hU]
          clear hU
          go_wp2_with fail
          refine bodyPost_ret (v := .agg #[.int .i64 6, .int .i64 0, .string ⟨#[]⟩, .slice none 0 0, .slice U4' m4' n4', .slice U5' m5' n5']) (by simp [results, Tryz.results91, go_sem, zsix, r0, r1, r2, r3, r4, r5]) rfl ?_
          refine ⟨[.int .i64 6, .int .i64 0, .string ⟨#[]⟩, .slice none 0 0, .slice U4' m4' n4', .slice U5' m5' n5'], rfl, ?_, ?_⟩
          · have hS : SRep (W5x.setCell ⟨O, 5, none⟩ (.slice U5' m5' n5')) (fun b => D b ∨ (O + 1 ≤ b ∧ b < W5x.heap.size)) (.obj (insK k ks) (insV k v ks vs)) [.int .i64 6, .int .i64 0, .string ⟨#[]⟩, .slice none 0 0, .slice U4' m4' n4', .slice U5' m5' n5'] := by
              have e1 : insK k ks = (ks.take i ++ [k]) ++ ks.drop i' := by rw [plc_insK, HI.out.1, HX.out.2.2.2, if_pos rfl, ← HI.out.2.2.1]
              have e2 : insV k v ks vs = (vs.take i ++ [v]) ++ vs.drop i' := by rw [plc_insV HX.out.2.1.2.1, HI.out.1, HX.out.2.2.2, if_pos rfl, ← HI.out.2.2.1]
              rw [e1, e2]
              refine ⟨_, _, _, rfl, emp _ _, ?_, ?_⟩
              · exact sl_EK.1 (HAnnnn.out.keys.sl (fun b h1 _ => .inl h1) (fun b h1 h2 => .inr ⟨h1, by simpa [World.setCell] using h2⟩))
              · rw [toVL_length]; exact sl_EJ.1 (HAnnnn.out.vals.sl (fun b h1 _ => .inl h1) (fun b h1 h2 => .inr ⟨h1, by simpa [World.setCell] using h2⟩))
            refine VRep.keep (fun b hb => ?_) (fun b hb => hb.imp id fun h => ⟨by omega, by have := h.2; simp [World.setCell]; omega⟩) _ _ hS
            have hne : b ≠ w.heap.size + 1 + 1 := by
              rcases hb with h | h
              · have := HX.out.2.2.1 b h; omega
              · omega
            iterate 6 rw [heap_setCell_other _ _ _ _ hne]
          · iterate 6 refine Below.setCell ?_ (by simp; omega) _
            exact HAnnnn.out.below

set_option maxRecDepth 100000 in
set_option maxHeartbeats 4000000 in
theorem with_false (ks : List ByteArray) (vs : List J) (k : ByteArray) (v : J) (D : Nat → Prop) (cm cv : List Value) (w : World) (hl : ks.length = vs.length) (hn : ks.length ≤ 4194304) (hb : isAt k ks = false) (hD : ∀ b, D b → All w b) (hm : SRep w D (.obj ks vs) cm) (hv : SRep w D v cv) :
    Calls Tryz.prog 91 #[.agg cm.toArray, .string k, .agg cv.toArray] w (ValD (.obj (insK k ks) (insV k v ks vs)) D w) := by
  have hk : ∀ W, Below w.heap.size w W → SRep W D (.obj ks vs) cm := fun W hb => VRep.keep (Same.of_below hb hD) (fun _ h => h) _ _ hm
  have HC := Lib.hid (fun W (hW : Below w.heap.size w W) => place_any (.obj ks vs) k D cm W (fun b hb => Nat.lt_of_lt_of_le (hD b hb) hW.size) (hk W hW) hn)
  have hi : plc k ks ≤ ks.length := plc_le k ks
  obtain ⟨L, K, S, rfl, hL, hK, hS⟩ := hm.cells
  obtain ⟨A1, c1, rfl⟩ := hL.form
  obtain ⟨A2, c2, rfl⟩ := hK.form
  obtain ⟨A3, c3, rfl⟩ := hS.form
  simp only [J.list, J.keys, J.vals, J.kind, J.half, J.text] at *
  have hK' : Sl EK w D ks (.slice A2 ks.length c2) := sl_EK.2 hK
  have hS' : Sl EJ w D vs (.slice A3 vs.length c3) := sl_EJ.2 hS
  obtain ⟨i, hpi⟩ : ∃ i : Nat, plc k ks = i := ⟨_, rfl⟩
  rw [hpi] at hi HC
  rw [hb] at HC
  obtain ⟨i', hi'⟩ : ∃ i' : Nat, i' = i := ⟨_, rfl⟩
  have hi1 : i' ≤ ks.length := by
    rw [hi']
    exact hi
  obtain ⟨TK, ck, hrunK, hTK⟩ := sl_take Tryz.under24 hK' i hi
  obtain ⟨TV, cw, hrunV, hTV⟩ := sl_take Tryz.under23 hS' i (by omega)
  obtain ⟨SK, ek, hdK⟩ := sl_drop Tryz.under24 hK' i' hi1
  obtain ⟨SV, ew, hdV⟩ := sl_drop Tryz.under23 hS' i' (by omega)
  have hii : ((i' : Nat) : Int) = (i : Int) := by omega
  rw [hii] at hdK hdV
  replace hrunK := Lib.hid hrunK
  replace hrunV := Lib.hid hrunV
  have HTK := Lib.hid hTK
  have HTV := Lib.hid hTV
  have HDK := Lib.hid hdK
  have HDV := Lib.hid hdV
  have HI := Lib.hid (And.intro hpi (And.intro hi (And.intro hi' hi1)))
  have HX := Lib.hid (And.intro hv (And.intro (show ks.length ≤ 4194304 ∧ ks.length = vs.length ∧ i ≤ ks.length from ⟨hn, hl, hi⟩) (And.intro hD hb)))
  obtain ⟨B1, d1, B2, d2, B3, d3, rfl⟩ := SRep.six hv
  clear hL hK hS hK' hS' hm hk hv hD hl hn hb hi hpi hi1 hTK hTV hdK hdV hii hi'
  go_enter Tryz.func91, Tryz.ntmps91
  go_wp2_with fail
  generalize hW : ((World.alloc _ _).alloc _).alloc _ = W0
  have H3 := Lib.hid (alloc3 hW)
  clear hW
  refine (HC.out W0 H3.out.1).mono ?_
  clear HC
  rintro e w1 ⟨rfl, hb1⟩
  have hW1 : w.heap.size + 3 ≤ w1.heap.size := by have := hb1.size; have := H3.out.2.1; omega
  have hwt : Wt [Value.int .i64 6, .int .i64 0, .string noText, .slice A1 0 c1, .slice A2 ks.length c2, .slice A3 vs.length c3] [Value.int .i64 v.kind, .int .i64 v.half, .string v.text, .slice B1 v.list.length d1, .slice B2 v.keys.length d2, .slice B3 v.vals.length d3] D w1.heap.size w (.slice none 0 0) (.slice none 0 0) [] [] (w1.alloc (.cells #[.int .i64 6, .int .i64 0, .string ⟨#[]⟩, .slice none 0 0, .slice none 0 0, .slice none 0 0] 26)) := by
    have hal : ∀ b, b < w1.heap.size → (w1.alloc (.cells #[.int .i64 6, .int .i64 0, .string ⟨#[]⟩, .slice none 0 0, .slice none 0 0, .slice none 0 0] 26)).heap[b]? = w1.heap[b]? := fun b hb => Below.heap_alloc _ _ _ hb
    refine ⟨(H3.out.1.trans (hb1.mono H3.out.1.size)).alloc (by omega) _, hW1, ?_, ?_, ?_, heap_alloc_new _ _, GG.nil _ _ _ _, GG.nil _ _ _ _, fun g hg => nomatch hg⟩
    · exact (hal _ (by omega)).trans ((hb1.block _ (box_lt H3.out.2.2.1)).trans H3.out.2.2.1)
    · exact (hal _ (by omega)).trans ((hb1.block _ (box_lt H3.out.2.2.2.1)).trans H3.out.2.2.2.1)
    · exact (hal _ (by omega)).trans ((hb1.block _ (box_lt H3.out.2.2.2.2)).trans H3.out.2.2.2.2)
  have HA := Lib.hid hwt
  clear hwt hb1 H3 hW1
  go_wp2_with fail
  generalize hW2 : w1.alloc _ = W2 at HA ⊢
  clear hW2
  generalize w1.heap.size = O at HA ⊢
  clear w1
  refine wp_region_RG 10 (by kernel_rfl) (by kernel_rfl) (Below W2.heap.size W2) (WtF EK (.pointer (some ⟨O, 4, none⟩)) (.pointer (some ⟨w.heap.size, 4, none⟩)) (.slice A2 ks.length c2) (.slice TK i ck) (.string k) i D W2.heap.size (ks.take i) k [.string k]) (by simp [AllSteps, frameOf, Act.put, upd]) ((Below.refl _ _).drew) ⟨?s0, ?s1, ?s2, ?s3, ?s4, ?s5, ?s6, ?s7, ?s8, ?s9, trivial⟩ ?e
  case s0 =>
    intro xs d W hd hdeps hG hF K hK
    clear hdeps
    simp only [frameOf, List.take_succ_cons, List.take_zero, Act.put, List.setIfInBounds_toArray, List.set_cons_zero, List.set_cons_succ, Nat.zero_add, Nat.reduceAdd]
    go_simp
    exact hK _ _ _ (by simp only [frameOf, List.take_succ_cons, List.take_zero, Act.put, List.setIfInBounds_toArray, List.set_cons_zero, List.set_cons_succ, Nat.zero_add, Nat.reduceAdd]) hG (fun j u _ _ h => h.keep (fun h => .inl h) (Below.refl _ _)) rfl
  case s1 =>
    intro xs d W hd hdeps hG hF K hK
    simp [Region.binds] at hdeps
    have f0 : xs 0 = _ := hF 0 hdeps
    have hb := (hG.block _ (box_lt HA.out.bo)).trans HA.out.bo
    have c := box_cell hb 4
    simp at c
    clear hb
    simp only [frameOf, List.take_succ_cons, List.take_zero, Act.put, List.setIfInBounds_toArray, List.set_cons_zero, List.set_cons_succ, Nat.zero_add, Nat.reduceAdd]
    simp only [f0]
    go_simp
    exact hK _ _ _ (by simp only [frameOf, List.take_succ_cons, List.take_zero, Act.put, List.setIfInBounds_toArray, List.set_cons_zero, List.set_cons_succ, Nat.zero_add, Nat.reduceAdd, f0]) hG (fun j u _ _ h => h.keep (fun h => .inl h) (Below.refl _ _)) rfl
  case s2 =>
    intro xs d W hd hdeps hG hF K hK
    clear hdeps
    simp only [frameOf, List.take_succ_cons, List.take_zero, Act.put, List.setIfInBounds_toArray, List.set_cons_zero, List.set_cons_succ, Nat.zero_add, Nat.reduceAdd]
    go_simp
    exact hK _ _ _ (by simp only [frameOf, List.take_succ_cons, List.take_zero, Act.put, List.setIfInBounds_toArray, List.set_cons_zero, List.set_cons_succ, Nat.zero_add, Nat.reduceAdd]) hG (fun j u _ _ h => h.keep (fun h => .inl h) (Below.refl _ _)) rfl
  case s3 =>
    intro xs d W hd hdeps hG hF K hK
    simp [Region.binds] at hdeps
    have f2 : xs 2 = _ := hF 2 hdeps
    have hb := (hG.block _ (box_lt HA.out.bm)).trans HA.out.bm
    have c := box_cell hb 4
    simp at c
    clear hb
    simp only [frameOf, List.take_succ_cons, List.take_zero, Act.put, List.setIfInBounds_toArray, List.set_cons_zero, List.set_cons_succ, Nat.zero_add, Nat.reduceAdd]
    simp only [f2]
    go_simp
    exact hK _ _ _ (by simp only [frameOf, List.take_succ_cons, List.take_zero, Act.put, List.setIfInBounds_toArray, List.set_cons_zero, List.set_cons_succ, Nat.zero_add, Nat.reduceAdd, f2]) hG (fun j u _ _ h => h.keep (fun h => .inl h) (Below.refl _ _)) rfl
  case s4 =>
    intro xs d W hd hdeps hG hF K hK
    clear hdeps
    simp only [frameOf, List.take_succ_cons, List.take_zero, Act.put, List.setIfInBounds_toArray, List.set_cons_zero, List.set_cons_succ, Nat.zero_add, Nat.reduceAdd]
    go_simp
    exact hK _ _ _ (by simp only [frameOf, List.take_succ_cons, List.take_zero, Act.put, List.setIfInBounds_toArray, List.set_cons_zero, List.set_cons_succ, Nat.zero_add, Nat.reduceAdd]) hG (fun j u _ _ h => h.keep (fun h => .inl h) (Below.refl _ _)) rfl
  case s5 =>
    intro xs d W hd hdeps hG hF K hK
    simp [Region.binds] at hdeps
    have f3 : xs 3 = _ := hF 3 hdeps.1
    have f4 : xs 4 = _ := hF 4 hdeps.2
    have hr := hrunK.out
    simp only [frameOf, List.take_succ_cons, List.take_zero, Act.put, List.setIfInBounds_toArray, List.set_cons_zero, List.set_cons_succ, Nat.zero_add, Nat.reduceAdd]
    simp only [f3, f4]
    go_simp
    exact hK _ _ _ (by simp only [frameOf, List.take_succ_cons, List.take_zero, Act.put, List.setIfInBounds_toArray, List.set_cons_zero, List.set_cons_succ, Nat.zero_add, Nat.reduceAdd, f3, f4]) hG (fun j u _ _ h => h.keep (fun h => .inl h) (Below.refl _ _)) rfl
  case s6 =>
    intro xs d W hd hdeps hG hF K hK
    simp [Region.binds] at hdeps
    have f1 : xs 1 = _ := hF 1 hdeps.1
    have f5 : xs 5 = _ := hF 5 hdeps.2
    have hS := HTK.out.keep (Same.of_below (HA.out.below.trans (hG.mono HA.out.below.size)) HX.out.2.2.1) (fun _ h => h)
    simp only [frameOf, List.take_succ_cons, List.take_zero, Act.put, List.setIfInBounds_toArray, List.set_cons_zero, List.set_cons_succ, Nat.zero_add, Nat.reduceAdd]
    refine step_append_G (by rfl) (.tmp 18) (.tmp 22) 24 (by rfl) EK Tryz.under24 W2.heap.size D [] (ks.take i) (.slice none 0 0) (.slice TK i ck) (by exact f1) (by exact f5) (GG.nil _ _ _ _) (hS.loose fun b hb => ⟨hb, Nat.lt_of_lt_of_le (HX.out.2.2.1 b hb) (HA.out.below.trans (hG.mono HA.out.below.size)).size, by simp [Value.ownBlock]⟩) (by have := HX.out.2.1; simp [maxLen]; omega) (by have := HX.out.2.1; simp [EK]; omega) hG.size ?_
    intro v' W' hg hgb _
    simp only [List.nil_append] at hg
    have hbb : Below W.heap.size W W' := ⟨hgb.os, hgb.tape, hgb.output, hgb.size, fun k hk => hgb.block k hk (by simp [Value.ownBlock])⟩
    exact hK _ v' _ (by simp only [frameOf, List.take_succ_cons, List.take_zero, Act.put, List.setIfInBounds_toArray, List.set_cons_zero, List.set_cons_succ, Nat.zero_add, Nat.reduceAdd]) (hG.trans (hbb.mono hG.size)) (fun j u _ _ h => h.keep (fun h => .inl h) hbb) (fun _ => hg)
  case s7 =>
    intro xs d W hd hdeps hG hF K hK
    clear hdeps
    simp only [frameOf, List.take_succ_cons, List.take_zero, Act.put, List.setIfInBounds_toArray, List.set_cons_zero, List.set_cons_succ, Nat.zero_add, Nat.reduceAdd]
    go_simp
    exact hK _ _ _ (by simp only [frameOf, List.take_succ_cons, List.take_zero, Act.put, List.setIfInBounds_toArray, List.set_cons_zero, List.set_cons_succ, Nat.zero_add, Nat.reduceAdd]) hG (fun j u _ _ h => h.keep (fun h => .inl h) (Below.refl _ _)) rfl
  case s8 =>
    intro xs d W hd hdeps hG hF K hK
    simp [Region.binds] at hdeps
    have f7 : xs 7 = _ := hF 7 hdeps
    simp only [frameOf, List.take_succ_cons, List.take_zero, Act.put, List.setIfInBounds_toArray, List.set_cons_zero, List.set_cons_succ, Nat.zero_add, Nat.reduceAdd]
    simp only [f7]
    go_simp
    exact hK _ _ _ (by simp only [frameOf, List.take_succ_cons, List.take_zero, Act.put, List.setIfInBounds_toArray, List.set_cons_zero, List.set_cons_succ, Nat.zero_add, Nat.reduceAdd, f7]) (hG.trans (((Below.refl _ _).alloc (Nat.le_refl _) _).mono hG.size)) (fun j u _ _ h => h.keep (fun h => .inl h) ((Below.refl _ _).alloc (Nat.le_refl _) _)) (fun _ => ⟨_, rfl, heap_alloc_new _ _⟩)
  case s9 =>
    intro xs d W hd hdeps hG hF K hK
    simp [Region.binds] at hdeps
    have f6 := hF 6 hdeps.1 hd
    obtain ⟨g, f8, hh⟩ := hF 8 hdeps.2.1 hd
    simp only [frameOf, List.take_succ_cons, List.take_zero, Act.put, List.setIfInBounds_toArray, List.set_cons_zero, List.set_cons_succ, Nat.zero_add, Nat.reduceAdd]
    refine step_append_G (by rfl) (.tmp 23) (.tmp 25) 24 (by rfl) EK Tryz.under24 W2.heap.size D (ks.take i) [k] (xs 6) (xs 8) (by rfl) (by rfl) f6 ?r0 (by have := HX.out.2.1; simp [maxLen]; omega) (by have := HX.out.2.1; simp [EK]; omega) hG.size ?_
    case r0 => rw [f8]; exact lit_one (E := EK) hh rfl
    intro v' W' hg hgb _
    refine hK _ v' _ (by simp only [frameOf, List.take_succ_cons, List.take_zero, Act.put, List.setIfInBounds_toArray, List.set_cons_zero, List.set_cons_succ, Nat.zero_add, Nat.reduceAdd]) ⟨hgb.os.trans hG.os, hgb.tape.trans hG.tape, hgb.output.trans hG.output, Nat.le_trans hG.size hgb.size, fun b hb => (hgb.block b (Nat.lt_of_lt_of_le hb hG.size) (fun e => by have := (GG.own_lt f6 b e.symm).1; omega)).trans (hG.block b hb)⟩ (fun j u hne _ h => ?_) hg
    match j, hne, h with
    | 0, _, h => exact h
    | 1, _, h => exact h
    | 2, _, h => exact h
    | 3, _, h => exact h
    | 4, _, h => exact h
    | 5, _, h => exact h
    | 6, _, _ => exact fun hn => absurd (.inr rfl) hn
    | 7, _, h => exact h
    | 8, _, _ => exact fun hn => absurd (.inr rfl) hn
    | 9, hne, _ => exact absurd rfl hne
    | n + 10, _, _ => trivial
  case e =>
    intro xs W2x hG hF
    have hg := hF 9 (by omega)
    obtain ⟨U4, m4, n4, hU, hmn⟩ : ∃ U m n, xs 9 = .slice U m n ∧ m = (ks.take i ++ [k]).length := by
      obtain ⟨A, c, h⟩ := GG.form hg
      exact ⟨A, _, c, h, rfl⟩
    change GG EK W2x W2.heap.size D (xs 9) (ks.take i ++ [k]) at hg
    rw [hU] at hg
    have hbo := (hG.block _ (box_lt HA.out.bo)).trans HA.out.bo
    have c : W2x.cell? ⟨O, 4, none⟩ = _ := box_cell hbo 4
    have fz := box_frozen hbo
    have HAn := Lib.hid (HA.out.set4 HX.out.2.2.1 (grown_none hG _) (hg.base (by have := box_lt HA.out.bo; omega)) (fun g hg' => .inr (hg.own_lt g hg').1))
    clear hbo hmn hg hG hF HA
    simp only [frameOf, List.take_succ_cons, List.take_zero, List.drop_succ_cons, List.drop_zero, Act.put, List.setIfInBounds_toArray, List.set_cons_zero, List.set_cons_succ, Nat.zero_add, Nat.reduceAdd, hU]
    clear hU
    go_wp2_with fail
    clear c fz
    generalize W2x.setCell _ _ = W3 at HAn ⊢
    clear W2x
    refine wp_region_RG 10 (by kernel_rfl) (by kernel_rfl) (Below W3.heap.size W3) (WtF EJ (.pointer (some ⟨O, 5, none⟩)) (.pointer (some ⟨w.heap.size, 5, none⟩)) (.slice A3 vs.length c3) (.slice TV i cw) (.agg #[Value.int .i64 v.kind, .int .i64 v.half, .string v.text, .slice B1 v.list.length d1, .slice B2 v.keys.length d2, .slice B3 v.vals.length d3]) i D W3.heap.size (vs.take i) v [Value.int .i64 v.kind, .int .i64 v.half, .string v.text, .slice B1 v.list.length d1, .slice B2 v.keys.length d2, .slice B3 v.vals.length d3]) (by simp [AllSteps, frameOf, Act.put, upd]) ((Below.refl _ _).drew) ⟨?s0, ?s1, ?s2, ?s3, ?s4, ?s5, ?s6, ?s7, ?s8, ?s9, trivial⟩ ?e
    case s0 =>
      intro xs d W hd hdeps hG hF K hK
      clear hdeps
      simp only [frameOf, List.take_succ_cons, List.take_zero, Act.put, List.setIfInBounds_toArray, List.set_cons_zero, List.set_cons_succ, Nat.zero_add, Nat.reduceAdd]
      go_simp
      exact hK _ _ _ (by simp only [frameOf, List.take_succ_cons, List.take_zero, Act.put, List.setIfInBounds_toArray, List.set_cons_zero, List.set_cons_succ, Nat.zero_add, Nat.reduceAdd]) hG (fun j u _ _ h => h.keep (fun h => .inl h) (Below.refl _ _)) rfl
    case s1 =>
      intro xs d W hd hdeps hG hF K hK
      simp [Region.binds] at hdeps
      have f0 : xs 0 = _ := hF 0 hdeps
      have hb := (hG.block _ (box_lt HAn.out.bo)).trans HAn.out.bo
      have c := box_cell hb 5
      simp at c
      clear hb
      simp only [frameOf, List.take_succ_cons, List.take_zero, Act.put, List.setIfInBounds_toArray, List.set_cons_zero, List.set_cons_succ, Nat.zero_add, Nat.reduceAdd]
      simp only [f0]
      go_simp
      exact hK _ _ _ (by simp only [frameOf, List.take_succ_cons, List.take_zero, Act.put, List.setIfInBounds_toArray, List.set_cons_zero, List.set_cons_succ, Nat.zero_add, Nat.reduceAdd, f0]) hG (fun j u _ _ h => h.keep (fun h => .inl h) (Below.refl _ _)) rfl
    case s2 =>
      intro xs d W hd hdeps hG hF K hK
      clear hdeps
      simp only [frameOf, List.take_succ_cons, List.take_zero, Act.put, List.setIfInBounds_toArray, List.set_cons_zero, List.set_cons_succ, Nat.zero_add, Nat.reduceAdd]
      go_simp
      exact hK _ _ _ (by simp only [frameOf, List.take_succ_cons, List.take_zero, Act.put, List.setIfInBounds_toArray, List.set_cons_zero, List.set_cons_succ, Nat.zero_add, Nat.reduceAdd]) hG (fun j u _ _ h => h.keep (fun h => .inl h) (Below.refl _ _)) rfl
    case s3 =>
      intro xs d W hd hdeps hG hF K hK
      simp [Region.binds] at hdeps
      have f2 : xs 2 = _ := hF 2 hdeps
      have hb := (hG.block _ (box_lt HAn.out.bm)).trans HAn.out.bm
      have c := box_cell hb 5
      simp at c
      clear hb
      simp only [frameOf, List.take_succ_cons, List.take_zero, Act.put, List.setIfInBounds_toArray, List.set_cons_zero, List.set_cons_succ, Nat.zero_add, Nat.reduceAdd]
      simp only [f2]
      go_simp
      exact hK _ _ _ (by simp only [frameOf, List.take_succ_cons, List.take_zero, Act.put, List.setIfInBounds_toArray, List.set_cons_zero, List.set_cons_succ, Nat.zero_add, Nat.reduceAdd, f2]) hG (fun j u _ _ h => h.keep (fun h => .inl h) (Below.refl _ _)) rfl
    case s4 =>
      intro xs d W hd hdeps hG hF K hK
      clear hdeps
      simp only [frameOf, List.take_succ_cons, List.take_zero, Act.put, List.setIfInBounds_toArray, List.set_cons_zero, List.set_cons_succ, Nat.zero_add, Nat.reduceAdd]
      go_simp
      exact hK _ _ _ (by simp only [frameOf, List.take_succ_cons, List.take_zero, Act.put, List.setIfInBounds_toArray, List.set_cons_zero, List.set_cons_succ, Nat.zero_add, Nat.reduceAdd]) hG (fun j u _ _ h => h.keep (fun h => .inl h) (Below.refl _ _)) rfl
    case s5 =>
      intro xs d W hd hdeps hG hF K hK
      simp [Region.binds] at hdeps
      have f3 : xs 3 = _ := hF 3 hdeps.1
      have f4 : xs 4 = _ := hF 4 hdeps.2
      have hr := hrunV.out
      simp only [frameOf, List.take_succ_cons, List.take_zero, Act.put, List.setIfInBounds_toArray, List.set_cons_zero, List.set_cons_succ, Nat.zero_add, Nat.reduceAdd]
      simp only [f3, f4]
      go_simp
      exact hK _ _ _ (by simp only [frameOf, List.take_succ_cons, List.take_zero, Act.put, List.setIfInBounds_toArray, List.set_cons_zero, List.set_cons_succ, Nat.zero_add, Nat.reduceAdd, f3, f4]) hG (fun j u _ _ h => h.keep (fun h => .inl h) (Below.refl _ _)) rfl
    case s6 =>
      intro xs d W hd hdeps hG hF K hK
      simp [Region.binds] at hdeps
      have f1 : xs 1 = _ := hF 1 hdeps.1
      have f5 : xs 5 = _ := hF 5 hdeps.2
      have hS := HTV.out.keep (Same.of_below (HAn.out.below.trans (hG.mono HAn.out.below.size)) HX.out.2.2.1) (fun _ h => h)
      simp only [frameOf, List.take_succ_cons, List.take_zero, Act.put, List.setIfInBounds_toArray, List.set_cons_zero, List.set_cons_succ, Nat.zero_add, Nat.reduceAdd]
      refine step_append_G (by rfl) (.tmp 29) (.tmp 33) 23 (by rfl) EJ Tryz.under23 W3.heap.size D [] (vs.take i) (.slice none 0 0) (.slice TV i cw) (by exact f1) (by exact f5) (GG.nil _ _ _ _) (hS.loose fun b hb => ⟨hb, Nat.lt_of_lt_of_le (HX.out.2.2.1 b hb) (HAn.out.below.trans (hG.mono HAn.out.below.size)).size, by simp [Value.ownBlock]⟩) (by have := HX.out.2.1; simp [maxLen]; omega) (by have := HX.out.2.1; simp [EJ]; omega) hG.size ?_
      intro v' W' hg hgb _
      simp only [List.nil_append] at hg
      have hbb : Below W.heap.size W W' := ⟨hgb.os, hgb.tape, hgb.output, hgb.size, fun k hk => hgb.block k hk (by simp [Value.ownBlock])⟩
      exact hK _ v' _ (by simp only [frameOf, List.take_succ_cons, List.take_zero, Act.put, List.setIfInBounds_toArray, List.set_cons_zero, List.set_cons_succ, Nat.zero_add, Nat.reduceAdd]) (hG.trans (hbb.mono hG.size)) (fun j u _ _ h => h.keep (fun h => .inl h) hbb) (fun _ => hg)
    case s7 =>
      intro xs d W hd hdeps hG hF K hK
      clear hdeps
      have hb := (hG.block _ (box_lt HAn.out.bv)).trans HAn.out.bv
      have c0 := box_cell hb 0
      have c1 := box_cell hb 1
      have c2 := box_cell hb 2
      have c3 := box_cell hb 3
      have c4 := box_cell hb 4
      have c5 := box_cell hb 5
      simp at c0 c1 c2 c3 c4 c5
      clear hb
      simp only [frameOf, List.take_succ_cons, List.take_zero, Act.put, List.setIfInBounds_toArray, List.set_cons_zero, List.set_cons_succ, Nat.zero_add, Nat.reduceAdd]
      go_simp
      exact hK _ _ _ (by simp only [frameOf, List.take_succ_cons, List.take_zero, Act.put, List.setIfInBounds_toArray, List.set_cons_zero, List.set_cons_succ, Nat.zero_add, Nat.reduceAdd]) hG (fun j u _ _ h => h.keep (fun h => .inl h) (Below.refl _ _)) rfl
    case s8 =>
      intro xs d W hd hdeps hG hF K hK
      simp [Region.binds] at hdeps
      have f7 : xs 7 = _ := hF 7 hdeps
      simp only [frameOf, List.take_succ_cons, List.take_zero, Act.put, List.setIfInBounds_toArray, List.set_cons_zero, List.set_cons_succ, Nat.zero_add, Nat.reduceAdd]
      simp only [f7]
      go_simp
      exact hK _ _ _ (by simp only [frameOf, List.take_succ_cons, List.take_zero, Act.put, List.setIfInBounds_toArray, List.set_cons_zero, List.set_cons_succ, Nat.zero_add, Nat.reduceAdd, f7]) (hG.trans (((Below.refl _ _).alloc (Nat.le_refl _) _).mono hG.size)) (fun j u _ _ h => h.keep (fun h => .inl h) ((Below.refl _ _).alloc (Nat.le_refl _) _)) (fun _ => ⟨_, rfl, heap_alloc_new _ _⟩)
    case s9 =>
      intro xs d W hd hdeps hG hF K hK
      simp [Region.binds] at hdeps
      have f6 := hF 6 hdeps.1 hd
      obtain ⟨g, f8, hh⟩ := hF 8 hdeps.2.1 hd
      simp only [frameOf, List.take_succ_cons, List.take_zero, Act.put, List.setIfInBounds_toArray, List.set_cons_zero, List.set_cons_succ, Nat.zero_add, Nat.reduceAdd]
      refine step_append_G (by rfl) (.tmp 34) (.tmp 36) 23 (by rfl) EJ Tryz.under23 W3.heap.size D (vs.take i) [v] (xs 6) (xs 8) (by rfl) (by rfl) f6 ?r0 (by have := HX.out.2.1; simp [maxLen]; omega) (by have := HX.out.2.1; simp [EJ]; omega) hG.size ?_
      case r0 => rw [f8]; exact lit_one (E := EJ) hh (VRep.keep (Same.of_below (HAn.out.below.trans (hG.mono HAn.out.below.size)) HX.out.2.2.1) (fun b hb => ⟨hb, Nat.lt_of_lt_of_le (HX.out.2.2.1 b hb) (HAn.out.below.trans (hG.mono HAn.out.below.size)).size, fun e => by have := (GG.own_lt f6 b e.symm).1; have := HX.out.2.2.1 b hb; have := HAn.out.below.size; omega⟩) _ _ HX.out.1)
      intro v' W' hg hgb _
      refine hK _ v' _ (by simp only [frameOf, List.take_succ_cons, List.take_zero, Act.put, List.setIfInBounds_toArray, List.set_cons_zero, List.set_cons_succ, Nat.zero_add, Nat.reduceAdd]) ⟨hgb.os.trans hG.os, hgb.tape.trans hG.tape, hgb.output.trans hG.output, Nat.le_trans hG.size hgb.size, fun b hb => (hgb.block b (Nat.lt_of_lt_of_le hb hG.size) (fun e => by have := (GG.own_lt f6 b e.symm).1; omega)).trans (hG.block b hb)⟩ (fun j u hne _ h => ?_) hg
      match j, hne, h with
      | 0, _, h => exact h
      | 1, _, h => exact h
      | 2, _, h => exact h
      | 3, _, h => exact h
      | 4, _, h => exact h
      | 5, _, h => exact h
      | 6, _, _ => exact fun hn => absurd (.inr rfl) hn
      | 7, _, h => exact h
      | 8, _, _ => exact fun hn => absurd (.inr rfl) hn
      | 9, hne, _ => exact absurd rfl hne
      | n + 10, _, _ => trivial
    case e =>
      intro xs W3x hG hF
      have hg := hF 9 (by omega)
      obtain ⟨U5, m5, n5, hU, hmn⟩ : ∃ U m n, xs 9 = .slice U m n ∧ m = (vs.take i ++ [v]).length := by
        obtain ⟨A, c, h⟩ := GG.form hg
        exact ⟨A, _, c, h, rfl⟩
      change GG EJ W3x W3.heap.size D (xs 9) (vs.take i ++ [v]) at hg
      rw [hU] at hg
      have hbo := (hG.block _ (box_lt HAn.out.bo)).trans HAn.out.bo
      have c : W3x.cell? ⟨O, 5, none⟩ = _ := box_cell hbo 5
      have fz := box_frozen hbo
      have HAnn := Lib.hid (HAn.out.set5 HX.out.2.2.1 (grown_none hG _) (hg.base (by have := box_lt HAn.out.bo; omega)) (fun g hg' => .inr (hg.own_lt g hg').1))
      clear hbo hmn hg hG hF HAn
      simp only [frameOf, List.take_succ_cons, List.take_zero, List.drop_succ_cons, List.drop_zero, Act.put, List.setIfInBounds_toArray, List.set_cons_zero, List.set_cons_succ, Nat.zero_add, Nat.reduceAdd, hU]
      clear hU
      go_wp2_with fail
      clear c fz
      generalize W3x.setCell _ _ = W4 at HAnn ⊢
      clear W3x
      refine wp_region_RGD 7 (by kernel_rfl) (by kernel_rfl) (fun d W => W4.grownBy W (Value.ownBlock (.slice U4 m4 n4)) ∧ (¬ d 6 → Below W4.heap.size W4 W)) (fun _ => WuF EK (.pointer (some ⟨O, 4, none⟩)) (.slice U4 m4 n4) (.pointer (some ⟨w.heap.size, 4, none⟩)) (.slice A2 ks.length c2) (.slice SK (ks.length - i') ek) (i : Int) D (O + 1) W4.heap.size ((ks.take i ++ [k]) ++ ks.drop i')) (by simp [AllSteps, frameOf, Act.put, upd]) ⟨grownBy_drewM _ _, fun _ => (Below.refl _ _).drew⟩ ⟨?s0, ?s1, ?s2, ?s3, ?s4, ?s5, ?s6, trivial⟩ ?e
      case s0 =>
        intro xs d W hd hdeps hG hF K hK
        clear hdeps
        simp only [frameOf, List.take_succ_cons, List.take_zero, Act.put, List.setIfInBounds_toArray, List.set_cons_zero, List.set_cons_succ, Nat.zero_add, Nat.reduceAdd]
        go_simp
        exact hK _ _ _ (by simp only [frameOf, List.take_succ_cons, List.take_zero, Act.put, List.setIfInBounds_toArray, List.set_cons_zero, List.set_cons_succ, Nat.zero_add, Nat.reduceAdd]) ⟨hG.1, fun h => hG.2 fun h6 => h (.inl h6)⟩ (fun j u _ _ h => h) rfl
      case s1 =>
        intro xs d W hd hdeps hG hF K hK
        simp [Region.binds] at hdeps
        have f0 : xs 0 = _ := hF 0 hdeps
        have hb := (hG.1.block _ (box_lt HAnn.out.bo) (fun e => by have := (HAnn.out.keys.own_lt _ e.symm).1; have := HAnn.out.lo; omega)).trans HAnn.out.bo
        have c := box_cell hb 4
        simp at c
        clear hb
        simp only [frameOf, List.take_succ_cons, List.take_zero, Act.put, List.setIfInBounds_toArray, List.set_cons_zero, List.set_cons_succ, Nat.zero_add, Nat.reduceAdd]
        simp only [f0]
        go_simp
        exact hK _ _ _ (by simp only [frameOf, List.take_succ_cons, List.take_zero, Act.put, List.setIfInBounds_toArray, List.set_cons_zero, List.set_cons_succ, Nat.zero_add, Nat.reduceAdd, f0]) ⟨hG.1, fun h => hG.2 fun h6 => h (.inl h6)⟩ (fun j u _ _ h => h) rfl
      case s2 =>
        intro xs d W hd hdeps hG hF K hK
        clear hdeps
        simp only [frameOf, List.take_succ_cons, List.take_zero, Act.put, List.setIfInBounds_toArray, List.set_cons_zero, List.set_cons_succ, Nat.zero_add, Nat.reduceAdd]
        go_simp
        exact hK _ _ _ (by simp only [frameOf, List.take_succ_cons, List.take_zero, Act.put, List.setIfInBounds_toArray, List.set_cons_zero, List.set_cons_succ, Nat.zero_add, Nat.reduceAdd]) ⟨hG.1, fun h => hG.2 fun h6 => h (.inl h6)⟩ (fun j u _ _ h => h) rfl
      case s3 =>
        intro xs d W hd hdeps hG hF K hK
        simp [Region.binds] at hdeps
        have f2 : xs 2 = _ := hF 2 hdeps
        have hb := (hG.1.block _ (box_lt HAnn.out.bm) (fun e => by have := (HAnn.out.keys.own_lt _ e.symm).1; have := HAnn.out.lo; omega)).trans HAnn.out.bm
        have c := box_cell hb 4
        simp at c
        clear hb
        simp only [frameOf, List.take_succ_cons, List.take_zero, Act.put, List.setIfInBounds_toArray, List.set_cons_zero, List.set_cons_succ, Nat.zero_add, Nat.reduceAdd]
        simp only [f2]
        go_simp
        exact hK _ _ _ (by simp only [frameOf, List.take_succ_cons, List.take_zero, Act.put, List.setIfInBounds_toArray, List.set_cons_zero, List.set_cons_succ, Nat.zero_add, Nat.reduceAdd, f2]) ⟨hG.1, fun h => hG.2 fun h6 => h (.inl h6)⟩ (fun j u _ _ h => h) rfl
      case s4 =>
        intro xs d W hd hdeps hG hF K hK
        clear hdeps
        simp only [frameOf, List.take_succ_cons, List.take_zero, Act.put, List.setIfInBounds_toArray, List.set_cons_zero, List.set_cons_succ, Nat.zero_add, Nat.reduceAdd]
        go_simp
        exact hK _ _ _ (by simp only [frameOf, List.take_succ_cons, List.take_zero, Act.put, List.setIfInBounds_toArray, List.set_cons_zero, List.set_cons_succ, Nat.zero_add, Nat.reduceAdd]) ⟨hG.1, fun h => hG.2 fun h6 => h (.inl h6)⟩ (fun j u _ _ h => h) rfl
      case s5 =>
        intro xs d W hd hdeps hG hF K hK
        simp [Region.binds] at hdeps
        have f3 : xs 3 = _ := hF 3 hdeps.1
        have f4 : xs 4 = _ := hF 4 hdeps.2
        have hr := HDK.out.1
        simp only [frameOf, List.take_succ_cons, List.take_zero, Act.put, List.setIfInBounds_toArray, List.set_cons_zero, List.set_cons_succ, Nat.zero_add, Nat.reduceAdd]
        simp only [f3, f4]
        go_simp
        exact hK _ _ _ (by simp only [frameOf, List.take_succ_cons, List.take_zero, Act.put, List.setIfInBounds_toArray, List.set_cons_zero, List.set_cons_succ, Nat.zero_add, Nat.reduceAdd, f3, f4]) ⟨hG.1, fun h => hG.2 fun h6 => h (.inl h6)⟩ (fun j u _ _ h => h) rfl
      case s6 =>
        intro xs d W hd hdeps hG hF K hK
        simp [Region.binds] at hdeps
        have f1 : xs 1 = _ := hF 1 hdeps.1
        have f5 : xs 5 = _ := hF 5 hdeps.2
        have hbl := hG.2 hd
        have hgg := GG.below HAnn.out.keys hbl
        have hS := HDK.out.2.keep (Same.of_below (HAnn.out.below.trans (hbl.mono HAnn.out.below.size)) HX.out.2.2.1) (fun _ h => h)
        simp only [frameOf, List.take_succ_cons, List.take_zero, Act.put, List.setIfInBounds_toArray, List.set_cons_zero, List.set_cons_succ, Nat.zero_add, Nat.reduceAdd]
        refine step_append_G (by rfl) (.tmp 43) (.tmp 47) 24 (by rfl) EK Tryz.under24 (O + 1) D (ks.take i ++ [k]) (ks.drop i') (.slice U4 m4 n4) (.slice SK (ks.length - i') ek) (by exact f1) (by exact f5) hgg (hS.loose fun b hb => ⟨hb, Nat.lt_of_lt_of_le (HX.out.2.2.1 b hb) (HAnn.out.below.trans (hbl.mono HAnn.out.below.size)).size, fun e => by have := (hgg.own_lt b e.symm).1; have := HX.out.2.2.1 b hb; have := HAnn.out.lo; omega⟩) (by have := HX.out.2.1; simp [maxLen]; omega) (by have := HX.out.2.1; simp [EK]; omega) (by have := box_lt HAnn.out.bo; have := hbl.size; omega) ?_
        intro v' W' hg hgb hat
        refine hK _ v' _ (by simp only [frameOf, List.take_succ_cons, List.take_zero, Act.put, List.setIfInBounds_toArray, List.set_cons_zero, List.set_cons_succ, Nat.zero_add, Nat.reduceAdd]) ⟨grown_after hbl hgb, fun h => absurd (.inr rfl) h⟩ (fun j u hne _ h => h.other hne) ⟨hg, fun g hg' => ?_⟩
        rcases hat with e | e
        · exact .inl (e ▸ hg')
        · rw [e] at hg'; have := Option.some.inj hg'; have := hbl.size; exact .inr (by omega)
      case e =>
        intro xs W4x hG hF
        obtain ⟨hg, hat⟩ := hF 6 (by omega)
        obtain ⟨U4', m4', n4', hU, hmn⟩ : ∃ U m n, xs 6 = .slice U m n ∧ m = ((ks.take i ++ [k]) ++ ks.drop i').length := by
          obtain ⟨A, c, h⟩ := GG.form hg
          exact ⟨A, _, c, h, rfl⟩
        rw [hU] at hg hat
        have hbo := (hG.1.block _ (box_lt HAnn.out.bo) (fun e => by have := (HAnn.out.keys.own_lt _ e.symm).1; have := HAnn.out.lo; omega)).trans HAnn.out.bo
        have c : W4x.cell? ⟨O, 4, none⟩ = _ := box_cell hbo 4
        have fz := box_frozen hbo
        have HAnnn := Lib.hid (HAnn.out.set4 HX.out.2.2.1 hG.1 hg hat)
        clear hbo hmn hg hat hG hF HAnn
        simp only [frameOf, List.take_succ_cons, List.take_zero, List.drop_succ_cons, List.drop_zero, Act.put, List.setIfInBounds_toArray, List.set_cons_zero, List.set_cons_succ, Nat.zero_add, Nat.reduceAdd, hU]
        clear hU
        go_wp2_with fail
        clear c fz
        generalize W4x.setCell _ _ = W5 at HAnnn ⊢
        clear W4x
        refine wp_region_RGD 7 (by kernel_rfl) (by kernel_rfl) (fun d W => W5.grownBy W (Value.ownBlock (.slice U5 m5 n5)) ∧ (¬ d 6 → Below W5.heap.size W5 W)) (fun _ => WuF EJ (.pointer (some ⟨O, 5, none⟩)) (.slice U5 m5 n5) (.pointer (some ⟨w.heap.size, 5, none⟩)) (.slice A3 vs.length c3) (.slice SV (vs.length - i') ew) (i : Int) D (O + 1) W5.heap.size ((vs.take i ++ [v]) ++ vs.drop i')) (by simp [AllSteps, frameOf, Act.put, upd]) ⟨grownBy_drewM _ _, fun _ => (Below.refl _ _).drew⟩ ⟨?s0, ?s1, ?s2, ?s3, ?s4, ?s5, ?s6, trivial⟩ ?e
        case s0 =>
          intro xs d W hd hdeps hG hF K hK
          clear hdeps
          simp only [frameOf, List.take_succ_cons, List.take_zero, Act.put, List.setIfInBounds_toArray, List.set_cons_zero, List.set_cons_succ, Nat.zero_add, Nat.reduceAdd]
          go_simp
          exact hK _ _ _ (by simp only [frameOf, List.take_succ_cons, List.take_zero, Act.put, List.setIfInBounds_toArray, List.set_cons_zero, List.set_cons_succ, Nat.zero_add, Nat.reduceAdd]) ⟨hG.1, fun h => hG.2 fun h6 => h (.inl h6)⟩ (fun j u _ _ h => h) rfl
        case s1 =>
          intro xs d W hd hdeps hG hF K hK
          simp [Region.binds] at hdeps
          have f0 : xs 0 = _ := hF 0 hdeps
          have hb := (hG.1.block _ (box_lt HAnnn.out.bo) (fun e => by have := (HAnnn.out.vals.own_lt _ e.symm).1; have := HAnnn.out.lo; omega)).trans HAnnn.out.bo
          have c := box_cell hb 5
          simp at c
          clear hb
          simp only [frameOf, List.take_succ_cons, List.take_zero, Act.put, List.setIfInBounds_toArray, List.set_cons_zero, List.set_cons_succ, Nat.zero_add, Nat.reduceAdd]
          simp only [f0]
          go_simp
          exact hK _ _ _ (by simp only [frameOf, List.take_succ_cons, List.take_zero, Act.put, List.setIfInBounds_toArray, List.set_cons_zero, List.set_cons_succ, Nat.zero_add, Nat.reduceAdd, f0]) ⟨hG.1, fun h => hG.2 fun h6 => h (.inl h6)⟩ (fun j u _ _ h => h) rfl
        case s2 =>
          intro xs d W hd hdeps hG hF K hK
          clear hdeps
          simp only [frameOf, List.take_succ_cons, List.take_zero, Act.put, List.setIfInBounds_toArray, List.set_cons_zero, List.set_cons_succ, Nat.zero_add, Nat.reduceAdd]
          go_simp
          exact hK _ _ _ (by simp only [frameOf, List.take_succ_cons, List.take_zero, Act.put, List.setIfInBounds_toArray, List.set_cons_zero, List.set_cons_succ, Nat.zero_add, Nat.reduceAdd]) ⟨hG.1, fun h => hG.2 fun h6 => h (.inl h6)⟩ (fun j u _ _ h => h) rfl
        case s3 =>
          intro xs d W hd hdeps hG hF K hK
          simp [Region.binds] at hdeps
          have f2 : xs 2 = _ := hF 2 hdeps
          have hb := (hG.1.block _ (box_lt HAnnn.out.bm) (fun e => by have := (HAnnn.out.vals.own_lt _ e.symm).1; have := HAnnn.out.lo; omega)).trans HAnnn.out.bm
          have c := box_cell hb 5
          simp at c
          clear hb
          simp only [frameOf, List.take_succ_cons, List.take_zero, Act.put, List.setIfInBounds_toArray, List.set_cons_zero, List.set_cons_succ, Nat.zero_add, Nat.reduceAdd]
          simp only [f2]
          go_simp
          exact hK _ _ _ (by simp only [frameOf, List.take_succ_cons, List.take_zero, Act.put, List.setIfInBounds_toArray, List.set_cons_zero, List.set_cons_succ, Nat.zero_add, Nat.reduceAdd, f2]) ⟨hG.1, fun h => hG.2 fun h6 => h (.inl h6)⟩ (fun j u _ _ h => h) rfl
        case s4 =>
          intro xs d W hd hdeps hG hF K hK
          clear hdeps
          simp only [frameOf, List.take_succ_cons, List.take_zero, Act.put, List.setIfInBounds_toArray, List.set_cons_zero, List.set_cons_succ, Nat.zero_add, Nat.reduceAdd]
          go_simp
          exact hK _ _ _ (by simp only [frameOf, List.take_succ_cons, List.take_zero, Act.put, List.setIfInBounds_toArray, List.set_cons_zero, List.set_cons_succ, Nat.zero_add, Nat.reduceAdd]) ⟨hG.1, fun h => hG.2 fun h6 => h (.inl h6)⟩ (fun j u _ _ h => h) rfl
        case s5 =>
          intro xs d W hd hdeps hG hF K hK
          simp [Region.binds] at hdeps
          have f3 : xs 3 = _ := hF 3 hdeps.1
          have f4 : xs 4 = _ := hF 4 hdeps.2
          have hr := HDV.out.1
          simp only [frameOf, List.take_succ_cons, List.take_zero, Act.put, List.setIfInBounds_toArray, List.set_cons_zero, List.set_cons_succ, Nat.zero_add, Nat.reduceAdd]
          simp only [f3, f4]
          go_simp
          exact hK _ _ _ (by simp only [frameOf, List.take_succ_cons, List.take_zero, Act.put, List.setIfInBounds_toArray, List.set_cons_zero, List.set_cons_succ, Nat.zero_add, Nat.reduceAdd, f3, f4]) ⟨hG.1, fun h => hG.2 fun h6 => h (.inl h6)⟩ (fun j u _ _ h => h) rfl
        case s6 =>
          intro xs d W hd hdeps hG hF K hK
          simp [Region.binds] at hdeps
          have f1 : xs 1 = _ := hF 1 hdeps.1
          have f5 : xs 5 = _ := hF 5 hdeps.2
          have hbl := hG.2 hd
          have hgg := GG.below HAnnn.out.vals hbl
          have hS := HDV.out.2.keep (Same.of_below (HAnnn.out.below.trans (hbl.mono HAnnn.out.below.size)) HX.out.2.2.1) (fun _ h => h)
          simp only [frameOf, List.take_succ_cons, List.take_zero, Act.put, List.setIfInBounds_toArray, List.set_cons_zero, List.set_cons_succ, Nat.zero_add, Nat.reduceAdd]
          refine step_append_G (by rfl) (.tmp 51) (.tmp 55) 23 (by rfl) EJ Tryz.under23 (O + 1) D (vs.take i ++ [v]) (vs.drop i') (.slice U5 m5 n5) (.slice SV (vs.length - i') ew) (by exact f1) (by exact f5) hgg (hS.loose fun b hb => ⟨hb, Nat.lt_of_lt_of_le (HX.out.2.2.1 b hb) (HAnnn.out.below.trans (hbl.mono HAnnn.out.below.size)).size, fun e => by have := (hgg.own_lt b e.symm).1; have := HX.out.2.2.1 b hb; have := HAnnn.out.lo; omega⟩) (by have := HX.out.2.1; simp [maxLen]; omega) (by have := HX.out.2.1; simp [EJ]; omega) (by have := box_lt HAnnn.out.bo; have := hbl.size; omega) ?_
          intro v' W' hg hgb hat
          refine hK _ v' _ (by simp only [frameOf, List.take_succ_cons, List.take_zero, Act.put, List.setIfInBounds_toArray, List.set_cons_zero, List.set_cons_succ, Nat.zero_add, Nat.reduceAdd]) ⟨grown_after hbl hgb, fun h => absurd (.inr rfl) h⟩ (fun j u hne _ h => h.other hne) ⟨hg, fun g hg' => ?_⟩
          rcases hat with e | e
          · exact .inl (e ▸ hg')
          · rw [e] at hg'; have := Option.some.inj hg'; have := hbl.size; exact .inr (by omega)
        case e =>
          intro xs W5x hG hF
          obtain ⟨hg, hat⟩ := hF 6 (by omega)
          obtain ⟨U5', m5', n5', hU, hmn⟩ : ∃ U m n, xs 6 = .slice U m n ∧ m = ((vs.take i ++ [v]) ++ vs.drop i').length := by
            obtain ⟨A, c, h⟩ := GG.form hg
            exact ⟨A, _, c, h, rfl⟩
          rw [hU] at hg hat
          have hbo := (hG.1.block _ (box_lt HAnnn.out.bo) (fun e => by have := (HAnnn.out.vals.own_lt _ e.symm).1; have := HAnnn.out.lo; omega)).trans HAnnn.out.bo
          have c : W5x.cell? ⟨O, 5, none⟩ = _ := box_cell hbo 5
          have fz := box_frozen hbo
          have hbr := (hG.1.block _ (box_lt HAnnn.out.br) (fun e => by have := (HAnnn.out.vals.own_lt _ e.symm).1; have := HAnnn.out.lo; omega)).trans HAnnn.out.br
          have c0 : W5x.cell? ⟨O, 0, none⟩ = _ := box_cell hbo 0
          have c1 : W5x.cell? ⟨O, 1, none⟩ = _ := box_cell hbo 1
          have c2 : W5x.cell? ⟨O, 2, none⟩ = _ := box_cell hbo 2
          have c3 : W5x.cell? ⟨O, 3, none⟩ = _ := box_cell hbo 3
          have c4 : W5x.cell? ⟨O, 4, none⟩ = _ := box_cell hbo 4
          have r0 : W5x.cell? ⟨w.heap.size + 1 + 1, 0, none⟩ = _ := box_cell hbr 0
          have r1 : W5x.cell? ⟨w.heap.size + 1 + 1, 1, none⟩ = _ := box_cell hbr 1
          have r2 : W5x.cell? ⟨w.heap.size + 1 + 1, 2, none⟩ = _ := box_cell hbr 2
          have r3 : W5x.cell? ⟨w.heap.size + 1 + 1, 3, none⟩ = _ := box_cell hbr 3
          have r4 : W5x.cell? ⟨w.heap.size + 1 + 1, 4, none⟩ = _ := box_cell hbr 4
          have r5 : W5x.cell? ⟨w.heap.size + 1 + 1, 5, none⟩ = _ := box_cell hbr 5
          have fzr := box_frozen hbr
          have hlo := HAnnn.out.lo
          clear hbr
          have HAnnnn := Lib.hid (HAnnn.out.set5 HX.out.2.2.1 hG.1 hg hat)
          clear hbo hmn hg hat hG hF HAnnn
          simp only [frameOf, List.take_succ_cons, List.take_zero, List.drop_succ_cons, List.drop_zero, Act.put, List.setIfInBounds_toArray, List.set_cons_zero, List.set_cons_succ, Nat.zero_add, Nat.reduceAdd, hU]
          clear hU
          go_wp2_with fail
          refine bodyPost_ret (v := .agg #[.int .i64 6, .int .i64 0, .string ⟨#[]⟩, .slice none 0 0, .slice U4' m4' n4', .slice U5' m5' n5']) (by simp [results, Tryz.results91, go_sem, zsix, r0, r1, r2, r3, r4, r5]) rfl ?_
          refine ⟨[.int .i64 6, .int .i64 0, .string ⟨#[]⟩, .slice none 0 0, .slice U4' m4' n4', .slice U5' m5' n5'], rfl, ?_, ?_⟩
          · have hS : SRep (W5x.setCell ⟨O, 5, none⟩ (.slice U5' m5' n5')) (fun b => D b ∨ (O + 1 ≤ b ∧ b < W5x.heap.size)) (.obj (insK k ks) (insV k v ks vs)) [.int .i64 6, .int .i64 0, .string ⟨#[]⟩, .slice none 0 0, .slice U4' m4' n4', .slice U5' m5' n5'] := by
              have e1 : insK k ks = (ks.take i ++ [k]) ++ ks.drop i' := by rw [plc_insK, HI.out.1, HX.out.2.2.2, if_neg Bool.false_ne_true, ← HI.out.2.2.1]
              have e2 : insV k v ks vs = (vs.take i ++ [v]) ++ vs.drop i' := by rw [plc_insV HX.out.2.1.2.1, HI.out.1, HX.out.2.2.2, if_neg Bool.false_ne_true, ← HI.out.2.2.1]
              rw [e1, e2]
              refine ⟨_, _, _, rfl, emp _ _, ?_, ?_⟩
              · exact sl_EK.1 (HAnnnn.out.keys.sl (fun b h1 _ => .inl h1) (fun b h1 h2 => .inr ⟨h1, by simpa [World.setCell] using h2⟩))
              · rw [toVL_length]; exact sl_EJ.1 (HAnnnn.out.vals.sl (fun b h1 _ => .inl h1) (fun b h1 h2 => .inr ⟨h1, by simpa [World.setCell] using h2⟩))
            refine VRep.keep (fun b hb => ?_) (fun b hb => hb.imp id fun h => ⟨by omega, by have := h.2; simp [World.setCell]; omega⟩) _ _ hS
            have hne : b ≠ w.heap.size + 1 + 1 := by
              rcases hb with h | h
              · have := HX.out.2.2.1 b h; omega
              · omega
            iterate 6 rw [heap_setCell_other _ _ _ _ hne]
          · iterate 6 refine Below.setCell ?_ (by simp; omega) _
            exact HAnnnn.out.below
end Go.Proofs.YtfhppajnnbbcjaaGreatDoor
