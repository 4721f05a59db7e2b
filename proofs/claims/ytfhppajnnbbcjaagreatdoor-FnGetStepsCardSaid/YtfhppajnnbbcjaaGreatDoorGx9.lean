/- Walks: spec.within.
   Walks: spec.spots.
   Walks: spec.Ways.
   The plain law of spec.Ways: its paths are JSON values, and not long.
   Walks: impl.GetPath, whole. -/
import Derived.Test.YtfhppajnnbbcjaaGreatDoorGx8
import Derived.Test.YtfhppajnnbbcjaaGreatDoorGx1
import Derived.Test.YtfhppajnnbbcjaaGreatDoorGx7
import Derived.Test.YtfhppajnnbbcjaaGreatDoorGx3

section
namespace Go.Proofs.YtfhppajnnbbcjaaGreatDoor
open Go.RowKit

/-- the elements, with their paths -/
def withinJ (p : List J) (v : J) : List (List J × J) := ((keysJ v).zip (eachJ v)).map fun x => (p ++ [x.1], x.2)

theorem keysJ_length {v : J} (h : v.WF) : (keysJ v).length = (eachJ v).length := by
  cases v with
  | arr l => simp [keysJ, eachJ, J.list, J.keys, J.vals, idxKeys_length]
  | obj ks vs => simp [keysJ, eachJ, J.list, J.keys, J.vals, idxKeys]; exact h.1
  | _ => simp [keysJ, eachJ, J.list, J.keys, J.vals, idxKeys]

theorem withinJ_get {p : List J} {v k x : J} {i : Nat} (hk : (keysJ v)[i]? = some k) (hx : (eachJ v)[i]? = some x) : (withinJ p v)[i]? = some (p ++ [k], x) := by
  have : ((keysJ v).zip (eachJ v))[i]? = some (k, x) := List.getElem?_zip_eq_some.2 ⟨hk, hx⟩
  simp [withinJ, this]
theorem withinJ_length {p : List J} {v : J} (h : v.WF) : (withinJ p v).length = (keysJ v).length := by
  simp [withinJ, keysJ_length h]

theorem eachJ_le {v : J} (h : v.WF) : (eachJ v).length ≤ 1048576 := by
  cases v with
  | arr l => simp [eachJ, J.list, J.vals]; exact h.1
  | obj ks vs => simp [eachJ, J.list, J.vals]; have := h.1; have := h.2.1; omega
  | _ => simp [eachJ, J.list, J.vals]

def SpotsPost (D : Nat → Prop) (R : List (List J × J)) (w : World) (e : Ending) (w' : World) : Prop := ∃ S, e = .returned S ∧ Sl ES w' (fun b => D b ∨ Fresh w w' b) R S ∧ Below w.heap.size w w'

/-- spots collected -/
def WiRel (D : Nat → Prop) (R : List (List J × J)) (w w2 : World) (v : Value) (wr : World) : Prop := Below w2.heap.size w2 wr ∧ GG ES wr w2.heap.size (fun b => D b ∨ w.heap.size < b) v R

/-- what the values found are good for -/
def WiF (q : List J) (x : J) (Dn : Nat → Prop) (u : Value) (sp kc xc : Array Value) (Lv : Value) (k : Nat) (P5 : Value) (_d : Nat → Prop) : Nat → Value → World → Prop
  | 0, v, _ => v = u
  | 1, v, _ => v = .agg sp
  | 2, v, _ => v = .agg kc
  | 3, v, _ => v = Lv
  | 4, v, _ => v = .int .i64 k
  | 5, v, _ => v = P5
  | 6, v, _ => v = .agg xc
  | 7, v, W => ∃ cs, v = .agg cs.toArray ∧ ES.rep W (fun b => Dn b ∧ b < W.heap.size) (q, x) cs
  | 8, v, W => ∃ g cs, v = .slice (some ⟨g, 0, none⟩) 1 1 ∧ W.heap[g]? = some (.cells cs.toArray 67 (0, 0)) ∧ ES.rep W (fun b => Dn b ∧ b < W.heap.size) (q, x) cs
  | _, _, _ => True

theorem WiF.keep {q : List J} {x : J} {Dn : Nat → Prop} {u : Value} {sp kc xc : Array Value} {Lv : Value} {k : Nat} {P5 : Value} {d d' : Nat → Prop} {j : Nat} {v : Value} {W W' : World} (h : WiF q x Dn u sp kc xc Lv k P5 d j v W) (hb : Below W.heap.size W W') : WiF q x Dn u sp kc xc Lv k P5 d' j v W' := by
  match j, h with
  | 0, h => exact h
  | 1, h => exact h
  | 2, h => exact h
  | 3, h => exact h
  | 4, h => exact h
  | 5, h => exact h
  | 6, h => exact h
  | 7, h =>
    obtain ⟨cs, hv, hr⟩ := h
    exact ⟨cs, hv, ES.keep (fun b hb' => hb.block b hb'.2) (fun b hb' => ⟨hb'.1, Nat.lt_of_lt_of_le hb'.2 hb.size⟩) hr⟩
  | 8, h =>
    obtain ⟨g, cs, hv, hh, hr⟩ := h
    exact ⟨g, cs, hv, (hb.block _ (box_lt hh)).trans hh, ES.keep (fun b hb' => hb.block b hb'.2) (fun b hb' => ⟨hb'.1, Nat.lt_of_lt_of_le hb'.2 hb.size⟩) hr⟩
  | n + 9, _ => trivial

theorem seven_of {cs : List Value} (h : cs.length = 7) : ∃ c0 c1 c2 c3 c4 c5 c6, cs = [c0, c1, c2, c3, c4, c5, c6] := by
  match cs, h with
  | [c0, c1, c2, c3, c4, c5, c6], _ => exact ⟨_, _, _, _, _, _, _, rfl⟩

set_option maxRecDepth 100000 in
theorem within_any (p : List J) (v : J) (D : Nat → Prop) (S : Value) (cv : List Value) (w : World) (wv : v.WF) (hn : p.length ≤ 1048576) (hD : ∀ b, D b → All w b) (hS : SlJ w D p S) (hv : SRep w D v cv) :
    Calls Tryz.prog 97 #[.agg (S :: cv).toArray] w (SpotsPost D (withinJ p v) w) := by
  obtain ⟨V1, v1, V2, v2, V3, v3, rfl⟩ := hv.six
  obtain ⟨A, c, rfl⟩ := hS.form
  obtain ⟨cs, hcs⟩ : ∃ cs : Array Value, #[Value.slice A p.length c, .int .i64 v.kind, .int .i64 v.half, .string v.text, .slice V1 v.list.length v1, .slice V2 v.keys.length v2, .slice V3 v.vals.length v3] = cs := ⟨_, rfl⟩
  have hb0 : Below w.heap.size w (w.alloc (.cells #[Value.slice A p.length c, .int .i64 v.kind, .int .i64 v.half, .string v.text, .slice V1 v.list.length v1, .slice V2 v.keys.length v2, .slice V3 v.vals.length v3] 67)) := (Below.refl _ _).alloc (Nat.le_refl _) _
  have hbox : (w.alloc (.cells #[Value.slice A p.length c, .int .i64 v.kind, .int .i64 v.half, .string v.text, .slice V1 v.list.length v1, .slice V2 v.keys.length v2, .slice V3 v.vals.length v3] 67)).heap[w.heap.size]? = some (.cells cs 67 (0, 0)) := by rw [← hcs]; exact heap_alloc_new w _
  have hkeep : ∀ W, Below w.heap.size w W → SlJ W D p (.slice A p.length c) ∧ SRep W D v [.int .i64 v.kind, .int .i64 v.half, .string v.text, .slice V1 v.list.length v1, .slice V2 v.keys.length v2, .slice V3 v.vals.length v3] := fun W hb => ⟨hS.keep (Same.of_below hb hD) (fun _ h => h), VRep.keep (Same.of_below hb hD) (fun _ h => h) _ _ hv⟩
  have HE := Lib.hid (Each_any v D _ _ (hkeep _ hb0).2 (fun b hb => Nat.lt_of_lt_of_le (hD b hb) hb0.size))
  have HX := Lib.hid (And.intro hkeep (And.intro wv (And.intro hn (And.intro hD (And.intro hb0 (And.intro hbox hcs))))))
  clear hS hv wv hn hD hb0 hbox hkeep hcs
  go_enter Tryz.func97, Tryz.ntmps97
  go_wp2_with fail
  refine HE.out.mono ?_
  clear HE
  rintro e w1 ⟨L, h, rfl, hL, hb1⟩
  obtain ⟨AL, cL, rfl⟩ := hL.form
  have hB1 := HX.out.2.2.2.2.1.trans (hb1.mono (by simp))
  have hbox1 := (hb1.block _ (by simp)).trans HX.out.2.2.2.2.2.1
  have HK := Lib.hid (Keys_any v D _ w1 HX.out.2.1 (HX.out.1 w1 hB1).2 (fun b hb => Nat.lt_of_lt_of_le (HX.out.2.2.2.1 b hb) hB1.size))
  rw [← HX.out.2.2.2.2.2.2] at hbox1
  have q1 : w1.cell? ⟨w.heap.size, 1, none⟩ = _ := box_cell hbox1 1
  have q2 : w1.cell? ⟨w.heap.size, 2, none⟩ = _ := box_cell hbox1 2
  have q3 : w1.cell? ⟨w.heap.size, 3, none⟩ = _ := box_cell hbox1 3
  have q4 : w1.cell? ⟨w.heap.size, 4, none⟩ = _ := box_cell hbox1 4
  have q5 : w1.cell? ⟨w.heap.size, 5, none⟩ = _ := box_cell hbox1 5
  have q6 : w1.cell? ⟨w.heap.size, 6, none⟩ = _ := box_cell hbox1 6
  have H1 := Lib.hid (And.intro hB1 (And.intro hL hbox1))
  clear hb1 hB1 hL hbox1
  go_wp2_with fail
  refine HK.out.mono ?_
  clear HK q1 q2 q3 q4 q5 q6
  rintro e w2 ⟨K, rfl, hK, hb2⟩
  obtain ⟨AK, cK, rfl⟩ := hK.form
  have H2 := Lib.hid (And.intro hK hb2)
  clear hK hb2
  go_wp2_with fail
  have hH : Hid (WiRel D ((withinJ p v).take 0) w w2 (.slice none 0 0) w2) := ⟨Below.refl _ _, by rw [List.take_zero]; exact GG.nil _ _ _ _⟩
  go_loopw [3, 18] (fun u i wr => ∃ (k : Nat) (u0 : Value), u0 = u ∧ k ≤ (keysJ v).length ∧ i = .int .i64 k ∧ Hid (WiRel D ((withinJ p v).take k) w w2 u0 wr)) (fun _ i _ => (keysJ v).length - (intOf i).toNat)
  case atStart => exact ⟨0, _, rfl, Nat.zero_le _, rfl, hH⟩
  case round =>
    obtain ⟨k, u, rfl, hk, rfl, hR⟩ := hrel
    clear hH
    have hlen := keysJ_length HX.out.2.1
    have hle := eachJ_le HX.out.2.1
    have hs1 := H1.out.1.size
    have hs2 := H2.out.2.size
    have hB2 : Below w.heap.size w w2 := H1.out.1.trans (H2.out.2.mono hs1)
    by_cases ha : k < (keysJ v).length
    · obtain ⟨h1, h4⟩ := hR.out
      have hbx := (h1.block _ (by have := box_lt H1.out.2.2; omega)).trans ((H2.out.2.block _ (box_lt H1.out.2.2)).trans H1.out.2.2)
      have hk1 := H2.out.1.keep (w' := wr) (fun b hb => h1.block b hb.2) (fun _ h => h)
      have hl1 := (H1.out.2.1.keep (w' := w2) (fun b hb => H2.out.2.block b (Nat.lt_of_lt_of_le (HX.out.2.2.2.1 b hb) hs1)) (fun _ h => h)).keep (w' := wr) (fun b hb => h1.block b (Nat.lt_of_lt_of_le (Nat.lt_of_lt_of_le (HX.out.2.2.2.1 b hb) hs1) hs2)) (fun _ h => h)
      obtain ⟨kx, hkx⟩ : ∃ kx, (keysJ v)[k]? = some kx := ⟨_, List.getElem?_eq_getElem ha⟩
      obtain ⟨x, hx⟩ : ∃ x, (eachJ v)[k]? = some x := ⟨_, List.getElem?_eq_getElem (by omega)⟩
      obtain ⟨A', c', e1, -, hm1, hr1⟩ := hk1
      obtain ⟨A'', c'', e2, -, hm2, hr2⟩ := hl1
      simp only [Value.slice.injEq] at e1 e2
      obtain ⟨rfl, -, rfl⟩ := e1
      obtain ⟨rfl, -, rfl⟩ := e2
      obtain ⟨bk, ok, rfl, hbk, hrk⟩ := hr1 (by omega)
      obtain ⟨bl, ol, rfl, hbl, hrl⟩ := hr2 (by omega)
      obtain ⟨ck, lk, hck, hkr⟩ := VRow.get hrk (toVL_get hkx)
      obtain ⟨cx, lx, hcx, hxr⟩ := VRow.get hrl (toVL_get hx)
      obtain ⟨K1, y1, K2, y2, K3, y3, rfl⟩ := SRep.six hkr
      obtain ⟨X1, z1, X2, z2, X3, z3, rfl⟩ := SRep.six hxr
      have hbk2 : bk < wr.heap.size := by have := hbk.2; have := h1.size; omega
      have hbl2 : bl < wr.heap.size := by have := HX.out.2.2.2.1 bl hbl; have := h1.size; omega
      have hbx2 := box_lt hbx
      --REG
      have q0 : wr.cell? ⟨bk, ok + k * 6, none⟩ = some _ := hck 0 _ rfl
      have q1 := hck 1 _ rfl
      have q2 := hck 2 _ rfl
      have q3 := hck 3 _ rfl
      have q4 := hck 4 _ rfl
      have q5 := hck 5 _ rfl
      have hDc : ∀ b, (D b ∨ (w.heap.size < b ∧ b < w2.heap.size)) → b < wr.heap.size := fun b hb => by
        have := h1.size
        rcases hb with h | h
        · have := HX.out.2.2.2.1 b h; omega
        · omega
      have HC : Hid (∀ W, Below wr.heap.size wr W → Calls Tryz.prog 150 #[.agg #[Value.slice A p.length c, .int .i64 v.kind, .int .i64 v.half, .string v.text, .slice V1 v.list.length v1, .slice V2 v.keys.length v2, .slice V3 v.vals.length v3], .agg #[Value.int .i64 kx.kind, .int .i64 kx.half, .string kx.text, .slice K1 kx.list.length y1, .slice K2 kx.keys.length y2, .slice K3 kx.vals.length y3], .agg #[Value.int .i64 x.kind, .int .i64 x.half, .string x.text, .slice X1 x.list.length z1, .slice X2 x.keys.length z2, .slice X3 x.vals.length z3]] W (SpotPost (fun b => D b ∨ (w.heap.size < b ∧ b < w2.heap.size)) (p ++ [kx]) x W)) := fun W hW => by
        have hWw := (hB2.trans (h1.mono (by omega))).trans (hW.mono (by have := h1.size; omega))
        have hkW := HX.out.1 W hWw
        exact below_any p v kx x _ _ _ _ _ W HX.out.2.2.1 (fun b hb => Nat.lt_of_lt_of_le (hDc b hb) hW.size) (hkW.1.keep (fun _ _ => rfl) (fun b hb => .inl hb)) (VRep.keep (fun _ _ => rfl) (fun b hb => .inl hb) _ _ hkW.2)
          (VRep.keep (Same.of_below hW (fun b hb => by have := hb.2; have := h1.size; omega)) (fun b hb => .inr ⟨by have := hb.1; have := box_lt H1.out.2.2; omega, hb.2⟩) _ _ hkr) (VRep.keep (Same.of_below hW (fun b hb => by have := HX.out.2.2.2.1 b hb; have := h1.size; omega)) (fun b hb => .inl hb) _ _ hxr)
      have hae : k < (eachJ v).length := by omega
      have hdn : ∀ b, (D b ∨ (w.heap.size < b ∧ b < w2.heap.size)) → (D b ∨ w.heap.size < b) ∧ some b ≠ u.ownBlock := fun b hb => by
        refine ⟨hb.imp id And.left, fun e => ?_⟩
        have h5 := (h4.own_lt b e.symm).1
        rcases hb with h | h
        · have := HX.out.2.2.2.1 b h; omega
        · omega
      have HDN := Lib.hid hdn
      clear hdn
      have hbx0 := Below.heap_alloc wr (.cells #[Value.int .i64 kx.kind, .int .i64 kx.half, .string kx.text, .slice K1 kx.list.length y1, .slice K2 kx.keys.length y2, .slice K3 kx.vals.length y3] 26) _ hbx2
      have hbW0 : Below wr.heap.size wr (wr.alloc (.cells #[Value.int .i64 kx.kind, .int .i64 kx.half, .string kx.text, .slice K1 kx.list.length y1, .slice K2 kx.keys.length y2, .slice K3 kx.vals.length y3] 26)) := (Below.refl _ _).alloc (Nat.le_refl _) _
      have HY := Lib.hid (And.intro hkx (And.intro hx (And.intro hB2 (And.intro hDc (And.intro h1 h4)))))
      have HZ := Lib.hid (And.intro hbW0 (And.intro (hbx0.trans hbx) (And.intro (heap_alloc_new wr (.cells #[Value.int .i64 kx.kind, .int .i64 kx.half, .string kx.text, .slice K1 kx.list.length y1, .slice K2 kx.keys.length y2, .slice K3 kx.vals.length y3] 26)) (And.intro hcx hbl2))))
      clear hkx hx hB2 hDc h1 h4 hkr hxr hck hcx hrk hrl hr1 hr2 hlen hbx lk lx hm1 hm2 hbx0 hbW0 hR
      go_wp2_with fail
      have hsz0 : (wr.alloc (.cells #[Value.int .i64 kx.kind, .int .i64 kx.half, .string kx.text, .slice K1 kx.list.length y1, .slice K2 kx.keys.length y2, .slice K3 kx.vals.length y3] 26)).heap.size = wr.heap.size + 1 := World.size_alloc _ _
      generalize World.alloc wr _ = W0 at HZ hsz0 ⊢
      clear q0 q1 q2 q3 q4 q5
      refine wp_region_RG 9 (by kernel_rfl) (by kernel_rfl) (Below W0.heap.size W0) (WiF (p ++ [kx]) x (fun b => (D b ∨ w.heap.size < b) ∧ some b ≠ u.ownBlock) u #[Value.slice A p.length c, .int .i64 v.kind, .int .i64 v.half, .string v.text, .slice V1 v.list.length v1, .slice V2 v.keys.length v2, .slice V3 v.vals.length v3] #[Value.int .i64 kx.kind, .int .i64 kx.half, .string kx.text, .slice K1 kx.list.length y1, .slice K2 kx.keys.length y2, .slice K3 kx.vals.length y3] #[Value.int .i64 x.kind, .int .i64 x.half, .string x.text, .slice X1 x.list.length z1, .slice X2 x.keys.length z2, .slice X3 x.vals.length z3] (.slice (some ⟨bl, ol, none⟩) (eachJ v).length cL) k (.pointer (some ⟨bl, ol + k * 6, none⟩))) (by simp [AllSteps, frameOf, Act.put, upd]) ((Below.refl _ _).drew) ⟨?s0, ?s1, ?s2, ?s3, ?s4, ?s5, ?s6, ?s7, ?s8, trivial⟩ ?e
      case s0 =>
        intro xs d W hd hdeps hG hF K hK
        clear hdeps
        simp only [frameOf, List.take_succ_cons, List.take_zero, Act.put, List.setIfInBounds_toArray, List.set_cons_zero, List.set_cons_succ, Nat.zero_add, Nat.reduceAdd]
        go_simp
        exact hK _ _ _ (by simp only [frameOf, List.take_succ_cons, List.take_zero, Act.put, List.setIfInBounds_toArray, List.set_cons_zero, List.set_cons_succ, Nat.zero_add, Nat.reduceAdd]) hG (fun j u _ _ h => h.keep (Below.refl _ _)) rfl
      case s1 =>
        intro xs d W hd hdeps hG hF K hK
        clear hdeps
        have hb := (hG.block _ (box_lt HZ.out.2.1)).trans HZ.out.2.1
        have b0 := box_cell hb 0
        have b1 := box_cell hb 1
        have b2 := box_cell hb 2
        have b3 := box_cell hb 3
        have b4 := box_cell hb 4
        have b5 := box_cell hb 5
        have b6 := box_cell hb 6
        simp at b0 b1 b2 b3 b4 b5 b6
        simp only [frameOf, List.take_succ_cons, List.take_zero, Act.put, List.setIfInBounds_toArray, List.set_cons_zero, List.set_cons_succ, Nat.zero_add, Nat.reduceAdd]
        go_simp
        exact hK _ _ _ (by simp only [frameOf, List.take_succ_cons, List.take_zero, Act.put, List.setIfInBounds_toArray, List.set_cons_zero, List.set_cons_succ, Nat.zero_add, Nat.reduceAdd]) hG (fun j u _ _ h => h.keep (Below.refl _ _)) rfl
      case s2 =>
        intro xs d W hd hdeps hG hF K hK
        clear hdeps
        have hb := (hG.block _ (box_lt HZ.out.2.2.1)).trans HZ.out.2.2.1
        have b0 := box_cell hb 0
        have b1 := box_cell hb 1
        have b2 := box_cell hb 2
        have b3 := box_cell hb 3
        have b4 := box_cell hb 4
        have b5 := box_cell hb 5
        simp at b0 b1 b2 b3 b4 b5
        simp only [frameOf, List.take_succ_cons, List.take_zero, Act.put, List.setIfInBounds_toArray, List.set_cons_zero, List.set_cons_succ, Nat.zero_add, Nat.reduceAdd]
        go_simp
        exact hK _ _ _ (by simp only [frameOf, List.take_succ_cons, List.take_zero, Act.put, List.setIfInBounds_toArray, List.set_cons_zero, List.set_cons_succ, Nat.zero_add, Nat.reduceAdd]) hG (fun j u _ _ h => h.keep (Below.refl _ _)) rfl
      case s3 =>
        intro xs d W hd hdeps hG hF K hK
        clear hdeps
        simp only [frameOf, List.take_succ_cons, List.take_zero, Act.put, List.setIfInBounds_toArray, List.set_cons_zero, List.set_cons_succ, Nat.zero_add, Nat.reduceAdd]
        go_simp
        exact hK _ _ _ (by simp only [frameOf, List.take_succ_cons, List.take_zero, Act.put, List.setIfInBounds_toArray, List.set_cons_zero, List.set_cons_succ, Nat.zero_add, Nat.reduceAdd]) hG (fun j u _ _ h => h.keep (Below.refl _ _)) rfl
      case s4 =>
        intro xs d W hd hdeps hG hF K hK
        clear hdeps
        simp only [frameOf, List.take_succ_cons, List.take_zero, Act.put, List.setIfInBounds_toArray, List.set_cons_zero, List.set_cons_succ, Nat.zero_add, Nat.reduceAdd]
        go_simp
        exact hK _ _ _ (by simp only [frameOf, List.take_succ_cons, List.take_zero, Act.put, List.setIfInBounds_toArray, List.set_cons_zero, List.set_cons_succ, Nat.zero_add, Nat.reduceAdd]) hG (fun j u _ _ h => h.keep (Below.refl _ _)) rfl
      case s5 =>
        intro xs d W hd hdeps hG hF K hK
        simp [Region.binds] at hdeps
        have f3 : xs 3 = _ := hF 3 hdeps.1
        have f4 : xs 4 = _ := hF 4 hdeps.2
        simp only [frameOf, List.take_succ_cons, List.take_zero, Act.put, List.setIfInBounds_toArray, List.set_cons_zero, List.set_cons_succ, Nat.zero_add, Nat.reduceAdd]
        go_simp
        exact hK _ _ _ (by simp only [frameOf, List.take_succ_cons, List.take_zero, Act.put, List.setIfInBounds_toArray, List.set_cons_zero, List.set_cons_succ, Nat.zero_add, Nat.reduceAdd, f3, f4]) hG (fun j u _ _ h => h.keep (Below.refl _ _)) rfl
      case s6 =>
        intro xs d W hd hdeps hG hF K hK
        simp [Region.binds] at hdeps
        have f5 : xs 5 = _ := hF 5 hdeps
        have hbw := HZ.out.1.trans (hG.mono (by omega))
        have p0 := (hbw.cell (p := ⟨bl, ol + k * 6, none⟩) HZ.out.2.2.2.2).trans (HZ.out.2.2.2.1 0 _ rfl)
        have p1 := (hbw.cell (p := ⟨bl, ol + k * 6 + 1, none⟩) HZ.out.2.2.2.2).trans (HZ.out.2.2.2.1 1 _ rfl)
        have p2 := (hbw.cell (p := ⟨bl, ol + k * 6 + 2, none⟩) HZ.out.2.2.2.2).trans (HZ.out.2.2.2.1 2 _ rfl)
        have p3 := (hbw.cell (p := ⟨bl, ol + k * 6 + 3, none⟩) HZ.out.2.2.2.2).trans (HZ.out.2.2.2.1 3 _ rfl)
        have p4 := (hbw.cell (p := ⟨bl, ol + k * 6 + 4, none⟩) HZ.out.2.2.2.2).trans (HZ.out.2.2.2.1 4 _ rfl)
        have p5 := (hbw.cell (p := ⟨bl, ol + k * 6 + 5, none⟩) HZ.out.2.2.2.2).trans (HZ.out.2.2.2.1 5 _ rfl)
        clear hbw
        simp only [frameOf, List.take_succ_cons, List.take_zero, Act.put, List.setIfInBounds_toArray, List.set_cons_zero, List.set_cons_succ, Nat.zero_add, Nat.reduceAdd]
        go_simp
        exact hK _ _ _ (by simp only [frameOf, List.take_succ_cons, List.take_zero, Act.put, List.setIfInBounds_toArray, List.set_cons_zero, List.set_cons_succ, Nat.zero_add, Nat.reduceAdd, f5]) hG (fun j u _ _ h => h.keep (Below.refl _ _)) rfl
      case s7 =>
        intro xs d W hd hdeps hG hF K hK
        simp [Region.binds] at hdeps
        have f1 : xs 1 = _ := hF 1 hdeps.1
        have f2 : xs 2 = _ := hF 2 hdeps.2.1
        have f6 : xs 6 = _ := hF 6 hdeps.2.2
        have HCW := Lib.hid (HC.out W (HZ.out.1.trans (hG.mono (by omega))))
        have HG2 := Lib.hid (And.intro hG hK)
        clear hG hK hF
        simp only [frameOf, List.take_succ_cons, List.take_zero, Act.put, List.setIfInBounds_toArray, List.set_cons_zero, List.set_cons_succ, Nat.zero_add, Nat.reduceAdd]
        go_simp
        go_wp2_with fail
        refine HCW.out.mono ?_
        rintro e w3 ⟨cs, rfl, hcs, hb3⟩
        obtain ⟨hG, hK⟩ := HG2.out
        clear HCW HG2
        skip
        refine hK _ _ _ (by simp only [frameOf, List.take_succ_cons, List.take_zero, Act.put, List.setIfInBounds_toArray, List.set_cons_zero, List.set_cons_succ, Nat.zero_add, Nat.reduceAdd, f1, f2, f6]) (hG.trans (hb3.mono hG.size)) (fun j u _ _ h => h.keep hb3) ⟨cs, rfl, ES.keep (fun _ _ => rfl) (fun b hb => ?_) hcs⟩
        have hsW := hG.size
        have hs3 := hb3.size
        rcases hb with hb | hb
        · exact ⟨HDN.out b hb, by have := HY.out.2.2.2.1 b hb; omega⟩
        · exact ⟨⟨.inr (by have := hb.1; omega), fun e => by have := (HY.out.2.2.2.2.2.own_lt b e.symm).2; have := hb.1; omega⟩, hb.2⟩
      case s8 =>
        intro xs d W hd hdeps hG hF K hK
        simp [Region.binds] at hdeps
        obtain ⟨cs, f7, hcs⟩ := hF 7 hdeps
        obtain ⟨c0, c1, c2, c3, c4, c5, c6, rfl⟩ : ∃ c0 c1 c2 c3 c4 c5 c6, cs = [c0, c1, c2, c3, c4, c5, c6] := seven_of (ES.len hcs)
        simp only [frameOf, List.take_succ_cons, List.take_zero, Act.put, List.setIfInBounds_toArray, List.set_cons_zero, List.set_cons_succ, Nat.zero_add, Nat.reduceAdd]
        go_simp
        exact hK _ _ _ (by simp only [frameOf, List.take_succ_cons, List.take_zero, Act.put, List.setIfInBounds_toArray, List.set_cons_zero, List.set_cons_succ, Nat.zero_add, Nat.reduceAdd, f7]) (hG.alloc hG.size _) (fun j u _ _ h => h.keep ((Below.refl _ _).alloc (Nat.le_refl _) _)) ⟨_, _, rfl, heap_alloc_new _ _, ES.keep (fun b hb => Below.heap_alloc _ _ _ hb.2) (fun b hb => ⟨hb.1, by have := hb.2; simp; omega⟩) hcs⟩
      case e =>
        intro xs W hG hF
        have f0 : xs 0 = u := hF 0 (by omega)
        obtain ⟨g, cs, f8, hh, hcs⟩ := hF 8 (by omega)
        have hbW := HZ.out.1.trans (hG.mono (by omega))
        have hgg := HY.out.2.2.2.2.2.below hbW
        have hlen2 : ((withinJ p v).take k).length = k := by rw [List.length_take, withinJ_length HX.out.2.1]; omega
        have hsrc := lit_one (E := ES) (D := But (fun b => D b ∨ w.heap.size < b) W u) hh (ES.keep (fun _ _ => rfl) (fun b hb => ⟨hb.1.1, hb.2, hb.1.2⟩) hcs)
        rw [← f8] at hsrc
        have HS := Lib.hid (And.intro hgg (And.intro hsrc (And.intro hlen2 (And.intro hbW (And.intro hh hG)))))
        simp only [frameOf, List.take_succ_cons, List.take_zero, List.drop_succ_cons, List.drop_zero, Act.put, List.setIfInBounds_toArray, List.set_cons_zero, List.set_cons_succ, Nat.zero_add, Nat.reduceAdd]
        clear hgg hsrc hlen2 hbW hh hG hcs f8 hF HC HZ
        refine wpList_append_G (by rfl) (.tmp 23) (.tmp 31) 64 (by rfl) ES Tryz.under64 w2.heap.size (fun b => D b ∨ w.heap.size < b) ((withinJ p v).take k) [(p ++ [kx], x)] u (xs 8) (by exact f0) (by rfl) HS.out.1 HS.out.2.1 ?c1 ?c2 ?c3 ?_
        case c1 => rw [HS.out.2.2.1]; simp [maxLen]; omega
        case c2 => rw [HS.out.2.2.1]; simp [ES]; omega
        case c3 => exact Nat.le_trans HY.out.2.2.2.2.1.size HS.out.2.2.2.1.size
        intro v' w4 hg4 hgb4 _
        have HN := Lib.hid (show WiRel D ((withinJ p v).take (k + 1)) w w2 v' w4 by
          rw [take_snoc' (withinJ_get HY.out.1 HY.out.2.1)]
          exact ⟨((HY.out.2.2.2.2.1.trans (HS.out.2.2.2.1.mono HY.out.2.2.2.2.1.size)).grown hgb4 (Nat.le_trans HY.out.2.2.2.2.1.size HS.out.2.2.2.1.size) (fun k hk => (HS.out.1.own_lt k hk).1)), hg4⟩)
        clear hg4 hgb4 HS
        simp only [Act.put, List.setIfInBounds_toArray, List.set_cons_zero, List.set_cons_succ]
        go_wp2_with fail
        go_roundw
        case rel => exact ⟨k + 1, v', rfl, by omega, by go_num, HN⟩
        case measure => simp [intOf]; omega
    · have hk' : k = (keysJ v).length := by omega
      have HF := Lib.hid (And.intro hB2 hR.out)
      have hL0 : (withinJ p v).length ≤ k := by rw [withinJ_length HX.out.2.1]; omega
      have HL0 := Lib.hid hL0
      subst hk'
      clear hlen hB2 hR hL0
      go_wp2_with fail
      go_ret
      obtain ⟨hB, h1, h4⟩ := HF.out
      rw [List.take_of_length_le HL0.out] at h4
      exact ⟨_, rfl, h4.sl (fun b hb hlt => hb.imp id fun h => ⟨Nat.le_of_lt h, hlt⟩) (fun b hb hlt => .inr ⟨by omega, hlt⟩), hB.trans (h1.mono (by omega))⟩

end Go.Proofs.YtfhppajnnbbcjaaGreatDoor
end

section
namespace Go.Proofs.YtfhppajnnbbcjaaGreatDoor
open Go.RowKit

/-- the paths below one of the elements -/
abbrev belowW (s : List J × J) : List (List J) := waysJ s.1 s.2

theorem waysL_zip (p : List J) : ∀ (l : List J) (i : Nat), waysL p l i = (((idxKeys l i).zip l).map fun x => (p ++ [x.1], x.2)).flatMap belowW
  | [], _ => rfl
  | x :: l, i => by simp [waysL, idxKeys, waysL_zip p l (i + 1)]
theorem waysK_zip (p : List J) : ∀ (ks : List ByteArray) (l : List J), ks.length = l.length → waysK p ks l = (((ks.map .str).zip l).map fun x => (p ++ [x.1], x.2)).flatMap belowW
  | [], [], _ => rfl
  | [], _ :: _, h => by simp at h
  | _ :: _, [], h => by simp at h
  | k :: ks, x :: l, h => by
    have := waysK_zip p ks l (by simpa using h)
    simp [waysK, this]

theorem ways_within (p : List J) (v : J) (h : v.WF) : waysJ p v = p :: (withinJ p v).flatMap belowW := by
  cases v with
  | arr l => simp [waysJ, withinJ, keysJ, eachJ, J.list, J.keys, J.vals, waysL_zip]
  | obj ks vs => simp [waysJ, withinJ, keysJ, eachJ, J.list, J.keys, J.vals, idxKeys, waysK_zip p ks vs h.1]
  | _ => simp [waysJ, withinJ, keysJ, eachJ, J.list, J.keys, J.vals, idxKeys]

mutual
theorem waysJ_length : ∀ (v : J) (p : List J), v.WF → (waysJ p v).length = v.parts
  | .null, _, _ => rfl
  | .bool _, _, _ => rfl
  | .num _, _, _ => rfl
  | .str _, _, _ => rfl
  | .arr l, p, h => by simp only [waysJ, List.length_cons, J.parts, waysL_length l p 0 h.2]; omega
  | .obj ks vs, p, h => by simp only [waysJ, List.length_cons, J.parts, waysK_length vs p ks h.1 h.2.2.2.2]; omega
theorem waysL_length : ∀ (l : List J) (p : List J) (i : Nat), WFL l → (waysL p l i).length = partsL l
  | [], _, _, _ => rfl
  | x :: l, p, i, h => by simp only [waysL, List.length_append, partsL, waysJ_length x _ h.1, waysL_length l p (i + 1) h.2]
theorem waysK_length : ∀ (l : List J) (p : List J) (ks : List ByteArray), ks.length = l.length → WFL l → (waysK p ks l).length = partsL l
  | [], _, [], _, _ => rfl
  | [], _, _ :: _, h, _ => by simp at h
  | _ :: _, _, [], h, _ => by simp at h
  | x :: l, p, k :: ks, h, hw => by simp only [waysK, List.length_append, partsL, waysJ_length x _ hw.1, waysK_length l p ks (by simpa using h) hw.2]
end

theorem each_mem {p : List J} {v : J} {s : List J × J} (h : s ∈ withinJ p v) : s.2 ∈ eachJ v ∧ s.1.length = p.length + 1 := by
  obtain ⟨x, hx, rfl⟩ := List.mem_map.1 h
  exact ⟨(List.of_mem_zip hx).2, by simp⟩
theorem each_WF {v x : J} (h : v.WF) (hx : x ∈ eachJ v) : x.WF := by
  rcases List.mem_append.1 hx with h1 | h1
  · exact WFL_iff.1 (WF_list h) x h1
  · exact WFL_iff.1 (WF_vals h) x h1
theorem partsL_mem {x : J} : ∀ {l : List J}, x ∈ l → x.parts ≤ partsL l
  | [], h => by simp at h
  | a :: l, h => by
    rcases List.mem_cons.1 h with rfl | h
    · simp [partsL]
    · have := partsL_mem h; simp [partsL]; omega
theorem each_parts {v x : J} (hx : x ∈ eachJ v) : 1 + x.parts ≤ v.parts := by
  cases v with
  | arr l => simp [eachJ, J.list, J.vals] at hx; have := partsL_mem hx; simp [J.parts]; omega
  | obj ks vs => simp [eachJ, J.list, J.vals] at hx; have := partsL_mem hx; simp [J.parts]; omega
  | _ => simp [eachJ, J.list, J.vals] at hx

theorem take_flat {α β : Type} {f : α → List β} {l : List α} {k : Nat} {s : α} (h : l[k]? = some s) : (l.take (k + 1)).flatMap f = (l.take k).flatMap f ++ f s := by
  rw [take_snoc' h, List.flatMap_append]; simp
theorem take_flat_le {α β : Type} {f : α → List β} (l : List α) (k : Nat) : ((l.take k).flatMap f).length ≤ (l.flatMap f).length := by
  conv => rhs; rw [← List.take_append_drop k l, List.flatMap_append, List.length_append]
  omega

def SpotsOK (v : J) : Prop := ∀ (p : List J) (D : Nat → Prop) (S : Value) (cv : List Value) (w : World), v.WF → p.length + v.parts ≤ 1048576 → (∀ b, D b → All w b) → SlJ w D p S → SRep w D v cv →
  Calls Tryz.prog 52 #[.agg (S :: cv).toArray] w fun e w' => ∃ R, SpotsPost D R w e w' ∧ R.map Prod.fst = waysJ p v

/-- spots collected -/
def SpRel (p : List J) (v : J) (k : Nat) (D : Nat → Prop) (w w2 : World) (u : Value) (wr : World) : Prop := w2.grownBy wr (some (w.heap.size + 1)) ∧ ∃ R, GG ES wr (w.heap.size + 1) (fun b => D b ∨ w.heap.size + 1 < b) u R ∧
  R.map Prod.fst = p :: ((withinJ p v).take k).flatMap belowW ∧ (∀ g, u.ownBlock = some g → g = w.heap.size + 1 ∨ w2.heap.size ≤ g)

theorem alloc2 {w W0 : World} {o1 o2 : Obj} (h : (w.alloc o1).alloc o2 = W0) : Below w.heap.size w W0 ∧ W0.heap.size = w.heap.size + 2 ∧ W0.heap[w.heap.size]? = some o1 ∧ W0.heap[w.heap.size + 1]? = some o2 := by
  subst h
  refine ⟨((Below.refl _ _).alloc (Nat.le_refl _) _).alloc (by simp) _, by simp, ?_, ?_⟩
  · rw [Below.heap_alloc _ _ _ (by simp)]; exact heap_alloc_new _ _
  · exact heap_alloc_new1 _ _ _

set_option maxRecDepth 100000 in
theorem spots_of (v : J) (hel : ∀ x ∈ eachJ v, SpotsOK x) : SpotsOK v := by
  intro p D S cv w wv hn hD hS hv
  obtain ⟨V1, v1, V2, v2, V3, v3, rfl⟩ := hv.six
  obtain ⟨A, c, rfl⟩ := hS.form
  obtain ⟨W1, hW1⟩ : ∃ W1, (w.alloc (.cells #[Value.slice A p.length c, .int .i64 v.kind, .int .i64 v.half, .string v.text, .slice V1 v.list.length v1, .slice V2 v.keys.length v2, .slice V3 v.vals.length v3] 67)).alloc (.cells #[Value.slice A p.length c, .int .i64 v.kind, .int .i64 v.half, .string v.text, .slice V1 v.list.length v1, .slice V2 v.keys.length v2, .slice V3 v.vals.length v3] 67) = W1 := ⟨_, rfl⟩
  have h2 := alloc2 hW1
  have hk : ∀ W, Below w.heap.size w W → SlJ W D p (.slice A p.length c) ∧ SRep W D v [.int .i64 v.kind, .int .i64 v.half, .string v.text, .slice V1 v.list.length v1, .slice V2 v.keys.length v2, .slice V3 v.vals.length v3] := fun W hb => ⟨hS.keep (Same.of_below hb hD) (fun _ h => h), VRep.keep (Same.of_below hb hD) (fun _ h => h) _ _ hv⟩
  have hpp := v.parts_pos
  have HC := Lib.hid (within_any p v D _ _ W1 wv (by omega) (fun b hb => Nat.lt_of_lt_of_le (hD b hb) h2.1.size) (hk W1 h2.1).1 (hk W1 h2.1).2)
  have HX := Lib.hid (And.intro hk (And.intro wv (And.intro hn (And.intro hD (And.intro hel (And.intro h2 hW1))))))
  rw [← hW1] at HC
  clear hk wv hn hD hel h2 hS hv hpp hW1
  go_enter Tryz.func52, Tryz.ntmps52
  go_wp2_with fail
  refine HC.out.mono ?_
  clear HC
  rintro e w2 ⟨S2, rfl, hS2, hb2⟩
  rw [HX.out.2.2.2.2.2.2] at hS2 hb2
  obtain ⟨A2, c2, rfl, hc2, hm2, hr2⟩ := hS2
  have H2 := Lib.hid (And.intro hb2 hr2)
  clear hb2 hr2
  have hlw : (withinJ p v).length ≤ 1048576 := by rw [withinJ_length HX.out.2.1, keysJ_length HX.out.2.1]; exact eachJ_le HX.out.2.1
  go_wp2_with fail
  have hH : Hid (SpRel p v 0 D w w2 (.slice (some ⟨w.heap.size + 1, 0, none⟩) 1 1) w2) := by
    obtain ⟨hk, wv, hn, hD, hel, h2, hW1⟩ := HX.out
    have hs := H2.out.1.size
    refine ⟨⟨rfl, rfl, rfl, Nat.le_refl _, fun _ _ _ => rfl⟩, [(p, v)], ?_, by simp, fun g hg => .inl (by simpa [Value.ownBlock] using hg.symm)⟩
    have hk2 := hk w2 (h2.1.trans (H2.out.1.mono h2.1.size))
    exact GG.lit (E := ES) (l := [(p, v)]) (Nat.le_refl _) ((H2.out.1.block _ (by omega)).trans h2.2.2.2) (by simp [maxLen]) ⟨_, [], (List.append_nil _).symm, ⟨_, _, rfl, hk2.1.keep (fun _ _ => rfl) (fun b hb => ⟨.inl hb, by have := hD b hb; omega, by have := hD b hb; omega⟩), VRep.keep (fun _ _ => rfl) (fun b hb => ⟨.inl hb, by have := hD b hb; omega, by have := hD b hb; omega⟩) _ _ hk2.2⟩, rfl⟩
  go_loopw [3, 11] (fun u i wr => ∃ (k : Nat) (u0 : Value), u0 = u ∧ k ≤ (withinJ p v).length ∧ i = .int .i64 k ∧ Hid (SpRel p v k D w w2 u0 wr)) (fun _ i _ => (withinJ p v).length - (intOf i).toNat)
  case atStart => exact ⟨0, _, rfl, Nat.zero_le _, rfl, hH⟩
  case round =>
    obtain ⟨k, u, rfl, hk, rfl, hR⟩ := hrel
    clear hH
    by_cases ha : k < (withinJ p v).length
    · obtain ⟨hg, R, hgg, hmap, hown⟩ := hR.out
      obtain ⟨b1, o1, rfl, hb1, hrow⟩ := H2.out.2 (by omega)
      obtain ⟨s, hs⟩ : ∃ s, (withinJ p v)[k]? = some s := ⟨_, List.getElem?_eq_getElem ha⟩
      have hD1 : ∀ b, (D b ∨ Fresh W1 w2 b) → b < w2.heap.size ∧ b ≠ w.heap.size + 1 := fun b hb => by
        obtain ⟨-, -, -, hD, -, h2, -⟩ := HX.out
        have := H2.out.1.size
        rcases hb with h | h
        · have := hD b h; exact ⟨by omega, by omega⟩
        · have := h.1; exact ⟨h.2, by omega⟩
      have hrow' := Row.keep (w' := wr) (fun b hb => hg.block b (hD1 b hb).1 (by have := (hD1 b hb).2; simpa using this)) (fun _ h => h) _ _ _ hb1 hrow
      obtain ⟨cs, hcs, Sx, rx, rfl, hSx, hrx⟩ := hrow'.get hs
      obtain ⟨Ax, cx, rfl⟩ := hSx.form
      obtain ⟨X1, z1, X2, z2, X3, z3, rfl⟩ := hrx.six
      have p0 : wr.cell? ⟨b1, o1 + k * 7, none⟩ = some _ := hcs 0 _ rfl
      have p1 : wr.cell? ⟨b1, o1 + k * 7 + 1, none⟩ = some _ := hcs 1 _ rfl
      have p2 : wr.cell? ⟨b1, o1 + k * 7 + 2, none⟩ = some _ := hcs 2 _ rfl
      have p3 : wr.cell? ⟨b1, o1 + k * 7 + 3, none⟩ = some _ := hcs 3 _ rfl
      have p4 : wr.cell? ⟨b1, o1 + k * 7 + 4, none⟩ = some _ := hcs 4 _ rfl
      have p5 : wr.cell? ⟨b1, o1 + k * 7 + 5, none⟩ = some _ := hcs 5 _ rfl
      have p6 : wr.cell? ⟨b1, o1 + k * 7 + 6, none⟩ = some _ := hcs 6 _ rfl
      have hmem := List.mem_of_getElem? hs
      have hsm := each_mem hmem
      have hpar := each_parts hsm.1
      have HI := Lib.hid (fun W (hW : Below wr.heap.size wr W) => HX.out.2.2.2.2.1 s.2 hsm.1 s.1 (fun b => D b ∨ Fresh W1 w2 b) _ _ W (each_WF HX.out.2.1 hsm.1) (by have := HX.out.2.2.1; omega) (fun b hb => Nat.lt_of_lt_of_le (hD1 b hb).1 (Nat.le_trans hg.size hW.size))
        (hSx.keep (Same.of_below hW (fun b hb => Nat.lt_of_lt_of_le (hD1 b hb).1 hg.size)) (fun _ h => h)) (VRep.keep (Same.of_below hW (fun b hb => Nat.lt_of_lt_of_le (hD1 b hb).1 hg.size)) (fun _ h => h) _ _ hrx))
      have HY := Lib.hid (And.intro hg (And.intro hgg (And.intro hmap (And.intro hown (And.intro hs hD1)))))
      clear hg hgg hmap hown hs hD1 hrow hrow' hcs hSx hrx hR hmem hsm hpar hb1
      go_wp2_with fail
      refine (HI.out _ ((Below.refl _ _).alloc (Nat.le_refl _) _)).mono ?_
      clear HI p0 p1 p2 p3 p4 p5 p6
      rintro e w3 ⟨R2, ⟨S3, rfl, hS3, hb3⟩, hmap2⟩
      have hwl := waysJ_length v p HX.out.2.1
      have hpw := ways_within p v HX.out.2.1
      have htf := take_flat (f := belowW) HY.out.2.2.2.2.1
      have htl := take_flat_le (f := belowW) (withinJ p v) (k + 1)
      have hlR : R.length + R2.length ≤ v.parts := by
        have e1 := congrArg List.length HY.out.2.2.1
        have e2 := congrArg List.length hmap2
        have e3 := congrArg List.length htf
        have e4 := congrArg List.length hpw
        simp only [List.length_map, List.length_cons, List.length_append] at e1 e2 e3 e4
        have : (belowW s).length = (waysJ s.1 s.2).length := rfl
        omega
      have hsz3 := hb3.size
      simp only [World.size_alloc] at hsz3
      have hbw : Below wr.heap.size wr w3 := ((Below.refl _ _).alloc (Nat.le_refl _) _).trans (hb3.mono (by simp))
      have hgg3 := HY.out.2.1.below hbw
      have hsrc := hS3.loose (D' := But (fun b => D b ∨ w.heap.size + 1 < b) w3 u) (fun b hb => by
        obtain ⟨hg, hgg, -, hown, -, hD1⟩ := HY.out
        have h2 := HX.out.2.2.2.2.2.1
        have hgs := hg.size
        rcases hb with hb | hb
        · have h6 := hD1 b hb
          refine ⟨hb.imp id fun h => by have := h.1; omega, by omega, fun e => ?_⟩
          rcases hown b e.symm with h | h <;> omega
        · have h7 := hb.1
          simp only [World.size_alloc] at h7
          have hws := hgg.own_lt
          refine ⟨.inr (by have := H2.out.1.size; omega), hb.2, fun e => ?_⟩
          have := (hws b e.symm).2
          omega)
      have HS := Lib.hid (And.intro hgg3 (And.intro hsrc (And.intro hlR (And.intro hbw hmap2))))
      have hbs : w.heap.size + 1 ≤ w3.heap.size := by
        have h2 := HX.out.2.2.2.2.2.1
        have := HY.out.1.size
        have := H2.out.1.size
        omega
      have hnp := HX.out.2.2.1
      clear hgg3 hsrc hS3 hb3 hwl hpw htf htl hlR hbw hmap2 hsz3
      go_wp2_with (at_builtin; refine wpList_append_G (by rfl) (.tmp 15) (.tmp 17) 64 (by rfl) ES Tryz.under64 (w.heap.size + 1) (fun b => D b ∨ w.heap.size + 1 < b) R R2 u S3 (by rfl) (by rfl) HS.out.1 HS.out.2.1 ?c1 ?c2 hbs ?_)
      case c1 => have := HS.out.2.2.1; simp [maxLen]; omega
      case c2 => have := HS.out.2.2.1; simp [ES]; omega
      intro v' w4 hg4 hgb4 hat4
      have HN := Lib.hid (show SpRel p v (k + 1) D w w2 v' w4 by
        obtain ⟨hg, hgg, hmap, hown, hs, hD1⟩ := HY.out
        have hbw := HS.out.2.2.2.1
        refine ⟨⟨hgb4.os.trans (hbw.os.trans hg.os), hgb4.tape.trans (hbw.tape.trans hg.tape), hgb4.output.trans (hbw.output.trans hg.output), Nat.le_trans hg.size (Nat.le_trans hbw.size hgb4.size), fun b hb hne => ?_⟩, R ++ R2, hg4, ?_, fun g hgv => ?_⟩
        · refine (hgb4.block b (Nat.lt_of_lt_of_le hb (Nat.le_trans hg.size hbw.size)) fun e => ?_).trans ((hbw.block b (Nat.lt_of_lt_of_le hb hg.size)).trans (hg.block b hb hne))
          rcases hown b e.symm with h | h
          · exact hne (by rw [h])
          · omega
        · rw [List.map_append, hmap, HS.out.2.2.2.2, take_flat hs]
          simp
        · rcases hat4 with e | e
          · exact hown g (e ▸ hgv)
          · rw [e] at hgv
            have := Option.some.inj hgv
            have := hbw.size
            have := hg.size
            exact .inr (by omega))
      clear hg4 hgb4 hat4 HS hbs
      go_wp2_with fail
      go_roundw
      case rel => exact ⟨k + 1, v', rfl, by omega, by go_num, HN⟩
      case measure => simp [intOf]; omega
    · have hk' : k = (withinJ p v).length := by omega
      have hL : Hid ((withinJ p v).take k = withinJ p v) := by show _ = _; rw [hk']; exact List.take_length
      subst hk'
      go_wp2_with fail
      go_ret
      obtain ⟨hg, R, hgg, hmap, hown⟩ := hR.out
      obtain ⟨-, wv, -, hD, -, h2, -⟩ := HX.out
      have hs := H2.out.1.size
      refine ⟨R, ⟨_, rfl, hgg.sl (fun b hb hlt => hb.imp id fun h => ⟨by omega, hlt⟩) (fun b hb hlt => .inr ⟨by omega, hlt⟩), ?_⟩, ?_⟩
      · exact (h2.1.trans (H2.out.1.mono h2.1.size)).grown hg (by omega) (fun k hk => by have := Option.some.inj hk; omega)
      · rw [hmap, hL.out, ways_within p v wv]

theorem each_arr {l : List J} {x : J} (h : x ∈ eachJ (.arr l)) : x ∈ l := by simpa [eachJ, J.list, J.vals] using h
theorem each_obj {ks : List ByteArray} {vs : List J} {x : J} (h : x ∈ eachJ (.obj ks vs)) : x ∈ vs := by simpa [eachJ, J.list, J.vals] using h

mutual
theorem spots_all : ∀ v : J, SpotsOK v
  | .arr l => spots_of (.arr l) fun x h => spots_alls l x (each_arr h)
  | .obj ks vs => spots_of (.obj ks vs) fun x h => spots_alls vs x (each_obj h)
  | .null => spots_of .null fun x h => by simp [eachJ, J.list, J.vals] at h
  | .bool b => spots_of (.bool b) fun x h => by simp [eachJ, J.list, J.vals] at h
  | .num h => spots_of (.num h) fun x h => by simp [eachJ, J.list, J.vals] at h
  | .str s => spots_of (.str s) fun x h => by simp [eachJ, J.list, J.vals] at h
theorem spots_alls : ∀ l : List J, ∀ x ∈ l, SpotsOK x
  | [], _, h => absurd h (by simp)
  | a :: l, x, h => (List.mem_cons.1 h).elim (fun e => e ▸ spots_all a) (spots_alls l x)
end

end Go.Proofs.YtfhppajnnbbcjaaGreatDoor
end

section
namespace Go.Proofs.YtfhppajnnbbcjaaGreatDoor
open Go.RowKit

def WaysPost (D : Nat → Prop) (v : J) (w : World) (e : Ending) (w' : World) : Prop := ∃ S, e = .returned S ∧ Sl EP w' (fun b => D b ∨ Fresh w w' b) (waysJ [] v) S ∧ Below w.heap.size w w'

/-- paths collected -/
def WyRel (D : Nat → Prop) (R : List (List J)) (w w2 : World) (u : Value) (wr : World) : Prop := Below w2.heap.size w2 wr ∧ GG EP wr w2.heap.size (fun b => D b ∨ w.heap.size < b) u R

set_option maxRecDepth 100000 in
theorem Ways_any (v : J) (D : Nat → Prop) (cv : List Value) (w : World) (wv : v.WF) (hn : v.parts ≤ 1048576) (hD : ∀ b, D b → All w b) (hv : SRep w D v cv) : Calls Tryz.prog 19 #[.agg cv.toArray] w (WaysPost D v w) := by
  obtain ⟨V1, v1, V2, v2, V3, v3, rfl⟩ := hv.six
  have hb0 : Below w.heap.size w (w.alloc (.cells #[Value.int .i64 v.kind, .int .i64 v.half, .string v.text, .slice V1 v.list.length v1, .slice V2 v.keys.length v2, .slice V3 v.vals.length v3] 26)) := (Below.refl _ _).alloc (Nat.le_refl _) _
  have HC := Lib.hid (spots_all v [] D (.slice none 0 0) _ (w.alloc (.cells #[Value.int .i64 v.kind, .int .i64 v.half, .string v.text, .slice V1 v.list.length v1, .slice V2 v.keys.length v2, .slice V3 v.vals.length v3] 26)) wv (by simpa using hn) (fun b hb => Nat.lt_of_lt_of_le (hD b hb) hb0.size) (SlJ.nil _ _) (VRep.keep (Same.of_below hb0 hD) (fun _ h => h) _ _ hv))
  have hwl := waysJ_length v [] wv
  have HX := Lib.hid (And.intro hb0 (And.intro hn (And.intro hD hwl)))
  clear hb0 hn hD hv wv hwl
  go_enter Tryz.func19, Tryz.ntmps19
  go_wp2_with fail
  refine HC.out.mono ?_
  clear HC
  rintro e w2 ⟨R, ⟨S2, rfl, hS2, hb2⟩, hmap⟩
  have hB2 := HX.out.1.trans (hb2.mono (by simp))
  obtain ⟨A2, c2, rfl, hc2, hm2, hr2⟩ := hS2
  have hlR : R.length = v.parts := by
    have := congrArg List.length hmap
    rw [List.length_map, HX.out.2.2.2] at this
    exact this
  have hs2 := hb2.size
  simp only [World.size_alloc] at hs2
  have H2 := Lib.hid (And.intro hB2 (And.intro hr2 (And.intro hmap hlR)))
  have hle : R.length ≤ 1048576 := by rw [hlR]; exact HX.out.2.1
  clear hb2 hr2 hmap hlR hB2
  go_wp2_with fail
  go_loopw [3, 10] (fun u i wr => ∃ (k : Nat) (u0 : Value), u0 = u ∧ k ≤ R.length ∧ i = .int .i64 k ∧ Hid (WyRel D ((R.map Prod.fst).take k) w w2 u0 wr)) (fun _ i _ => R.length - (intOf i).toNat)
  case atStart => exact ⟨0, _, rfl, Nat.zero_le _, rfl, Below.refl _ _, by rw [List.take_zero]; exact GG.nil _ _ _ _⟩
  case round =>
    obtain ⟨k, u, rfl, hk, rfl, hR⟩ := hrel
    by_cases ha : k < R.length
    · obtain ⟨hb, hgg⟩ := hR.out
      obtain ⟨b1, o1, rfl, hb1, hrow⟩ := H2.out.2.1 (by omega)
      obtain ⟨s, hs⟩ : ∃ s, R[k]? = some s := ⟨_, List.getElem?_eq_getElem ha⟩
      have hD1 : ∀ b, (D b ∨ Fresh (w.alloc (.cells #[Value.int .i64 v.kind, .int .i64 v.half, .string v.text, .slice V1 v.list.length v1, .slice V2 v.keys.length v2, .slice V3 v.vals.length v3] 26)) w2 b) → b < w2.heap.size ∧ (D b ∨ w.heap.size < b) := fun b hb => by
        rcases hb with h | h
        · have := HX.out.2.2.1 b h; exact ⟨by omega, .inl h⟩
        · have h1 := h.1; have h2 := h.2; simp only [World.size_alloc] at h1; exact ⟨by omega, .inr (by omega)⟩
      obtain ⟨cs, hcs, Sx, rx, rfl, hSx, hrx⟩ := (Row.keep (w' := wr) (fun b hb' => hb.block b (hD1 b hb').1) (fun _ h => h) _ _ _ hb1 hrow).get hs
      obtain ⟨Ax, cx, rfl⟩ := hSx.form
      obtain ⟨X1, z1, X2, z2, X3, z3, rfl⟩ := hrx.six
      have p0 : wr.cell? ⟨b1, o1 + k * 7, none⟩ = some _ := hcs 0 _ rfl
      have p1 : wr.cell? ⟨b1, o1 + k * 7 + 1, none⟩ = some _ := hcs 1 _ rfl
      have p2 : wr.cell? ⟨b1, o1 + k * 7 + 2, none⟩ = some _ := hcs 2 _ rfl
      have p3 : wr.cell? ⟨b1, o1 + k * 7 + 3, none⟩ = some _ := hcs 3 _ rfl
      have p4 : wr.cell? ⟨b1, o1 + k * 7 + 4, none⟩ = some _ := hcs 4 _ rfl
      have p5 : wr.cell? ⟨b1, o1 + k * 7 + 5, none⟩ = some _ := hcs 5 _ rfl
      have p6 : wr.cell? ⟨b1, o1 + k * 7 + 6, none⟩ = some _ := hcs 6 _ rfl
      have hbw : ∀ o1 o2, Below wr.heap.size wr ((wr.alloc o1).alloc o2) := fun o1 o2 => ((Below.refl _ _).alloc (Nat.le_refl _) _).alloc (by simp) _
      have HS := Lib.hid (fun o1 => And.intro (hgg.below (hbw o1 (.cells #[.slice Ax s.1.length cx] 23))) (lit_one (E := EP) (D := But (fun b => D b ∨ w.heap.size < b) ((wr.alloc o1).alloc (.cells #[.slice Ax s.1.length cx] 23)) u) (x := s.1) (cs := [.slice Ax s.1.length cx]) (heap_alloc_new1 wr o1 (.cells #[.slice Ax s.1.length cx] 23)) ⟨_, rfl, SlJ.keep (hSx.keep (D' := fun b => D b ∨ Fresh (w.alloc (.cells #[Value.int .i64 v.kind, .int .i64 v.half, .string v.text, .slice V1 v.list.length v1, .slice V2 v.keys.length v2, .slice V3 v.vals.length v3] 26)) w2 b) (fun _ _ => rfl) (fun _ h => h)) (fun b hb' => (hbw o1 _).block b (Nat.lt_of_lt_of_le (hD1 b hb').1 hb.size))
        (fun b hb' => ⟨(hD1 b hb').2, by have := (hD1 b hb').1; have := hb.size; simp; omega, fun e => by have := (hgg.own_lt b e.symm).1; have := (hD1 b hb').1; omega⟩)⟩))
      have HY := Lib.hid (And.intro hb (And.intro hgg (And.intro hs hbw)))
      have hlt : ((R.map Prod.fst).take k).length = k := by rw [List.length_take, List.length_map, Nat.min_eq_left hk]
      have HL := Lib.hid hlt
      have hsz := hb.size
      clear hb hgg hs hD1 hrow hcs hSx hrx hR hb1 hbw hlt
      go_wp2_with (at_builtin; refine wpList_append_G (by rfl) (.tmp 14) (.tmp 17) 41 (by rfl) EP Tryz.under41 w2.heap.size (fun b => D b ∨ w.heap.size < b) ((R.map Prod.fst).take k) [s.1] u _ (by rfl) (by rfl) (HS.out _).1 (HS.out _).2 ?c1 ?c2 ?c3 ?_)
      case c1 => rw [HL.out]; simp [maxLen]; omega
      case c2 => rw [HL.out]; simp [EP]; omega
      case c3 => simp; omega
      intro v' w4 hg4 hgb4 _
      have HN := Lib.hid (show WyRel D ((R.map Prod.fst).take (k + 1)) w w2 v' w4 by
        obtain ⟨hb, hgg, hs, hbw⟩ := HY.out
        rw [take_snoc' (show (R.map Prod.fst)[k]? = some s.1 by simp [hs])]
        exact ⟨(hb.trans ((hbw _ _).mono hb.size)).grown hgb4 (by simp; omega) (fun k hk => (hgg.own_lt k hk).1), hg4⟩)
      clear hg4 hgb4 HS
      go_wp2_with fail
      go_roundw
      case rel => exact ⟨k + 1, v', rfl, by omega, by go_num, HN⟩
      case measure => simp [intOf]; omega
    · have hk' : k = R.length := by omega
      subst hk'
      go_wp2_with fail
      go_ret
      obtain ⟨hb, hgg⟩ := hR.out
      rw [List.take_of_length_le (by simp), H2.out.2.2.1] at hgg
      exact ⟨_, rfl, hgg.sl (fun b hb hlt => hb.imp id fun h => ⟨by omega, hlt⟩) (fun b hb hlt => .inr ⟨by omega, hlt⟩), H2.out.1.trans (hb.mono (by omega))⟩

end Go.Proofs.YtfhppajnnbbcjaaGreatDoor
end

section
namespace Go.Proofs.YtfhppajnnbbcjaaGreatDoor
open Go.RowKit

/-- q is p and at most m keys more, all well formed -/
def PathWF (p : List J) (m : Nat) (q : List J) : Prop := ∃ r, q = p ++ r ∧ (∀ k ∈ r, k.WF) ∧ r.length < m

theorem PathWF.here (p : List J) {m : Nat} (h : 0 < m) : PathWF p m p := ⟨[], by simp, by simp, h⟩
theorem PathWF.below {p q : List J} {k : J} {m n : Nat} (hk : k.WF) (hm : m + 1 ≤ n) (h : PathWF (p ++ [k]) m q) : PathWF p n q := by
  obtain ⟨r, rfl, hr, hl⟩ := h
  refine ⟨k :: r, by simp, fun k' hk' => ?_, by simp; omega⟩
  rcases List.mem_cons.1 hk' with rfl | hk'
  · exact hk
  · exact hr k' hk'
theorem PathWF.mono {p q : List J} {m n : Nat} (hm : m ≤ n) (h : PathWF p m q) : PathWF p n q := by
  obtain ⟨r, rfl, hr, hl⟩ := h
  exact ⟨r, rfl, hr, by omega⟩

mutual
theorem ways_WF : ∀ (v : J) (p : List J), v.WF → ∀ q, q ∈ waysJ p v → PathWF p v.parts q
  | .null, _, _, q, h => by simp only [waysJ, List.mem_singleton] at h; subst h; exact PathWF.here _ (by simp [J.parts])
  | .bool b, _, _, q, h => by simp only [waysJ, List.mem_singleton] at h; subst h; exact PathWF.here _ (by simp [J.parts])
  | .num n, _, _, q, h => by simp only [waysJ, List.mem_singleton] at h; subst h; exact PathWF.here _ (by simp [J.parts])
  | .str s, _, _, q, h => by simp only [waysJ, List.mem_singleton] at h; subst h; exact PathWF.here _ (by simp [J.parts])
  | .arr l, p, hw, q, h => by
    simp only [waysJ, List.mem_cons] at h
    rcases h with rfl | h
    · exact PathWF.here _ (by simp [J.parts]; omega)
    · exact (ways_WFL l p 0 (by have := hw.1; omega) hw.2 q h).mono (by simp [J.parts])
  | .obj ks vs, p, hw, q, h => by
    simp only [waysJ, List.mem_cons] at h
    rcases h with rfl | h
    · exact PathWF.here _ (by simp [J.parts]; omega)
    · exact (ways_WFK vs p ks hw.2.2.1 hw.2.2.2.2 q h).mono (by simp [J.parts])
theorem ways_WFL : ∀ (l : List J) (p : List J) (i : Nat), i + l.length ≤ 1048576 → WFL l → ∀ q, q ∈ waysL p l i → PathWF p (1 + partsL l) q
  | [], _, _, _, _, q, h => by simp [waysL] at h
  | x :: l, p, i, hi, hw, q, h => by
    simp only [List.length_cons] at hi
    simp only [waysL, List.mem_append] at h
    rcases h with h | h
    · refine PathWF.below (k := .num (2 * i)) ?_ ?_ (ways_WF x _ hw.1 q h)
      · simp only [J.WF]; omega
      · simp [partsL]; omega
    · exact (ways_WFL l p (i + 1) (by omega) hw.2 q h).mono (by simp [partsL])
theorem ways_WFK : ∀ (vs : List J) (p : List J) (ks : List ByteArray), (∀ s ∈ ks, s.size ≤ 1048576) → WFL vs → ∀ q, q ∈ waysK p ks vs → PathWF p (1 + partsL vs) q
  | [], _, ks, _, _, q, h => by cases ks <;> simp [waysK] at h
  | x :: vs, p, [], _, _, q, h => by simp [waysK] at h
  | x :: vs, p, k :: ks, hz, hw, q, h => by
    simp only [waysK, List.mem_append] at h
    rcases h with h | h
    · refine PathWF.below (k := .str k) ?_ ?_ (ways_WF x _ hw.1 q h)
      · exact hz k (by simp)
      · simp [partsL]; omega
    · exact (ways_WFK vs p ks (fun s hs => hz s (by simp [hs])) hw.2 q h).mono (by simp [partsL])
end

/-- what is needed of a way -/
theorem way_ok {v : J} (hw : v.WF) {q : List J} (h : q ∈ waysJ [] v) : (∀ k ∈ q, Key k) ∧ (∀ k ∈ q, k.WF) ∧ q.length < v.parts ∧ ∃ y, getp v q = some y := by
  obtain ⟨r, y, e, hk, hg⟩ := ways_in v [] hw q h
  obtain ⟨r', e', hk', hl⟩ := ways_WF v [] hw q h
  simp at e e'
  subst e
  subst e'
  exact ⟨hk, hk', hl, y, hg⟩

end Go.Proofs.YtfhppajnnbbcjaaGreatDoor
end

section
namespace Go.Proofs.YtfhppajnnbbcjaaGreatDoor
open Go.RowKit

abbrev zRes : Array Value := #[.int .i64 0, .int .i64 0, .string ⟨#[]⟩, .slice none 0 0, .slice none 0 0, .slice none 0 0, .int .i64 0]

set_option maxHeartbeats 1000000 in
set_option maxRecDepth 100000 in
theorem GetPath_any (x : J) (ps : List J) (D : Nat → Prop) (cx cp : List Value) (w : World) (wx : x.WF) (wp : (J.arr ps).WF) (hps : ∀ k ∈ ps, Key k) (hD : ∀ b, D b → All w b) (hx : SRep w D x cx) (hp : SRep w D (.arr ps) cp) :
    Calls Tryz.prog 20 #[.agg cx.toArray, .agg cp.toArray] w (GPPost x ps w) := by
  have hb0 : Below w.heap.size w (((w.alloc (.cells cx.toArray 26)).alloc (.cells cp.toArray 26)).alloc (.cells zRes 34)) := (((Below.refl _ _).alloc (Nat.le_refl _) _).alloc (by simp) _).alloc (by simp; omega) _
  have hsz0 : (((w.alloc (.cells cx.toArray 26)).alloc (.cells cp.toArray 26)).alloc (.cells zRes 34)).heap.size = w.heap.size + 3 := by simp
  have HC1 := Lib.hid (toGo_all x D cx _ wx (fun b hb => Nat.lt_of_lt_of_le (hD b hb) hb0.size) (VRep.keep (Same.of_below hb0 hD) (fun _ h => h) _ _ hx))
  have HC2 : Hid (∀ W, Below w.heap.size w W → Calls Tryz.prog 42 #[.agg cp.toArray] W (ToGoPost (.arr ps) W)) := fun W hb => toGo_all (.arr ps) D cp W wp (fun b hb' => Nat.lt_of_lt_of_le (hD b hb') hb.size) (VRep.keep (Same.of_below hb hD) (fun _ h => h) _ _ hp)
  obtain ⟨A1, c1, A2, c2, A3, c3, rfl⟩ := SRep.six hx
  obtain ⟨B1, d1, B2, d2, B3, d3, rfl⟩ := SRep.six hp
  have hbx1 := heap_alloc_new1 w (.cells [Value.int .i64 x.kind, .int .i64 x.half, .string x.text, .slice A1 x.list.length c1, .slice A2 x.keys.length c2, .slice A3 x.vals.length c3].toArray 26) (.cells [Value.int .i64 (J.arr ps).kind, .int .i64 (J.arr ps).half, .string (J.arr ps).text, .slice B1 (J.arr ps).list.length d1, .slice B2 (J.arr ps).keys.length d2, .slice B3 (J.arr ps).vals.length d3].toArray 26)
  have hbx2 : (((w.alloc (.cells [Value.int .i64 x.kind, .int .i64 x.half, .string x.text, .slice A1 x.list.length c1, .slice A2 x.keys.length c2, .slice A3 x.vals.length c3].toArray 26)).alloc (.cells [Value.int .i64 (J.arr ps).kind, .int .i64 (J.arr ps).half, .string (J.arr ps).text, .slice B1 (J.arr ps).list.length d1, .slice B2 (J.arr ps).keys.length d2, .slice B3 (J.arr ps).vals.length d3].toArray 26)).alloc (.cells zRes 34)).heap[w.heap.size + 1]? = some (.cells [Value.int .i64 (J.arr ps).kind, .int .i64 (J.arr ps).half, .string (J.arr ps).text, .slice B1 (J.arr ps).list.length d1, .slice B2 (J.arr ps).keys.length d2, .slice B3 (J.arr ps).vals.length d3].toArray 26 (0, 0)) := (Below.heap_alloc _ _ _ (by simp)).trans hbx1
  have hbx3 : (((w.alloc (.cells [Value.int .i64 x.kind, .int .i64 x.half, .string x.text, .slice A1 x.list.length c1, .slice A2 x.keys.length c2, .slice A3 x.vals.length c3].toArray 26)).alloc (.cells [Value.int .i64 (J.arr ps).kind, .int .i64 (J.arr ps).half, .string (J.arr ps).text, .slice B1 (J.arr ps).list.length d1, .slice B2 (J.arr ps).keys.length d2, .slice B3 (J.arr ps).vals.length d3].toArray 26)).alloc (.cells zRes 34)).heap[w.heap.size + 2]? = some (.cells zRes 34 (0, 0)) := by
    have := heap_alloc_new ((w.alloc (.cells [Value.int .i64 x.kind, .int .i64 x.half, .string x.text, .slice A1 x.list.length c1, .slice A2 x.keys.length c2, .slice A3 x.vals.length c3].toArray 26)).alloc (.cells [Value.int .i64 (J.arr ps).kind, .int .i64 (J.arr ps).half, .string (J.arr ps).text, .slice B1 (J.arr ps).list.length d1, .slice B2 (J.arr ps).keys.length d2, .slice B3 (J.arr ps).vals.length d3].toArray 26)) (.cells zRes 34)
    rwa [World.size_alloc, World.size_alloc] at this
  have HB := Lib.hid (And.intro hb0 (And.intro hsz0 (And.intro hbx2 hbx3)))
  have HW := Lib.hid (And.intro wx (And.intro wp (And.intro hps hD)))
  clear hx hp hb0 hsz0 wx wp hps hD hbx1 hbx2 hbx3
  go_enter Tryz.func20, Tryz.ntmps20
  go_wp2_with fail
  refine HC1.out.mono ?_
  clear HC1
  rintro e w1 ⟨v1, rfl, hv1, hb1⟩
  obtain ⟨W0, hA, hs0, hbp, hbr, hv1, hb1⟩ : ∃ W0 : World, Below w.heap.size w W0 ∧ W0.heap.size = w.heap.size + 3 ∧ W0.heap[w.heap.size + 1]? = some (.cells [Value.int .i64 (J.arr ps).kind, .int .i64 (J.arr ps).half, .string (J.arr ps).text, .slice B1 (J.arr ps).list.length d1, .slice B2 (J.arr ps).keys.length d2, .slice B3 (J.arr ps).vals.length d3].toArray 26 (0, 0)) ∧ W0.heap[w.heap.size + 2]? = some (.cells zRes 34 (0, 0)) ∧
    ARep w1 (Fresh W0 w1) x v1 ∧ Below W0.heap.size W0 w1 := ⟨_, HB.out.1, HB.out.2.1, HB.out.2.2.1, HB.out.2.2.2, hv1, hb1⟩
  clear HB
  have hsz1 := hb1.size
  have hbp1 := (hb1.block _ (by omega)).trans hbp
  have hbr1 := (hb1.block _ (by omega)).trans hbr
  have hA1 : Below w.heap.size w w1 := hA.trans (hb1.mono (by omega))
  have q0 : w1.cell? ⟨w.heap.size + 1, 0, none⟩ = _ := box_cell hbp1 0
  have q1 : w1.cell? ⟨w.heap.size + 1, 1, none⟩ = _ := box_cell hbp1 1
  have q2 : w1.cell? ⟨w.heap.size + 1, 2, none⟩ = _ := box_cell hbp1 2
  have q3 : w1.cell? ⟨w.heap.size + 1, 3, none⟩ = _ := box_cell hbp1 3
  have q4 : w1.cell? ⟨w.heap.size + 1, 4, none⟩ = _ := box_cell hbp1 4
  have q5 : w1.cell? ⟨w.heap.size + 1, 5, none⟩ = _ := box_cell hbp1 5
  have HC := Lib.hid (HC2.out w1 hA1)
  have HV := Lib.hid (And.intro hv1 (And.intro hs0 (And.intro hsz1 (And.intro hbr1 hA1))))
  clear HC2 hv1 hb1 hA hs0 hbp hbr hsz1 hbp1 hbr1 hA1
  go_wp2_with fail
  refine HC.out.mono ?_
  clear HC
  rintro e w2 ⟨v2, rfl, hv2, hb2⟩
  obtain ⟨S, rfl, hS⟩ := hv2
  have hsz2 := hb2.size
  obtain ⟨hv1, hs0, hsz1, hbr1, hA1⟩ := HV.out
  have hv1' : ARep w2 (fun b => w.heap.size + 3 ≤ b ∧ b < w2.heap.size) x v1 := ARep.keep (fun b hb => hb2.block b hb.2) (fun b hb => ⟨by have := hb.1; omega, Nat.lt_of_lt_of_le hb.2 hsz2⟩) _ _ hv1
  have hS' : SlAt (fun b => w.heap.size + 3 ≤ b ∧ b < w2.heap.size) ps.length S (fun b o => ARow w2 (fun b => w.heap.size + 3 ≤ b ∧ b < w2.heap.size) b ps o) :=
    hS.mono (fun b hb => ⟨by have := hb.1; omega, hb.2⟩) fun b o hb hr => ARow.keep (fun _ _ => rfl) (fun b hb => ⟨by have := hb.1; omega, hb.2⟩) _ _ _ hb hr
  have HG := Lib.hid (zzGetPath_any x ps _ v1 S w2 HW.out.1 HW.out.2.2.1 HW.out.2.1.1 hv1' hS')
  have HD := Lib.hid (And.intro (hA1.trans (hb2.mono (by omega))) (And.intro ((hb2.block _ (by omega)).trans hbr1) (show w.heap.size + 3 ≤ w2.heap.size by omega)))
  clear hv1' hS' hS hv1 hs0 hsz1 hbr1 hA1 HV hb2 hsz2 q0 q1 q2 q3 q4 q5
  go_wp2_with fail
  refine HG.out.mono ?_
  clear HG
  intro e w3 hpost
  unfold GetpPost at hpost
  cases hg : getp x ps with
  | some y =>
    rw [hg] at hpost
    obtain ⟨v, rfl, hv, rfl⟩ := hpost
    have HR := Lib.hid (result_val y _ v w3 (getp_WF hg HW.out.1) (fun b hb => hb.2) hv)
    have HY := Lib.hid hg
    clear hv hg
    go_wp2_with fail
    refine HR.out.mono ?_
    clear HR
    rintro e w4 ⟨E1, e1, E2, e2, E3, e3, rfl, hr4, hb4⟩
    have hbr4 := (hb4.block _ (box_lt HD.out.2.1)).trans HD.out.2.1
    have r0 : w4.cell? ⟨w.heap.size + 2, 0, none⟩ = _ := box_cell hbr4 0
    have r1 : w4.cell? ⟨w.heap.size + 2, 1, none⟩ = _ := box_cell hbr4 1
    have r2 : w4.cell? ⟨w.heap.size + 2, 2, none⟩ = _ := box_cell hbr4 2
    have r3 : w4.cell? ⟨w.heap.size + 2, 3, none⟩ = _ := box_cell hbr4 3
    have r4 : w4.cell? ⟨w.heap.size + 2, 4, none⟩ = _ := box_cell hbr4 4
    have r5 : w4.cell? ⟨w.heap.size + 2, 5, none⟩ = _ := box_cell hbr4 5
    have r6 : w4.cell? ⟨w.heap.size + 2, 6, none⟩ = _ := box_cell hbr4 6
    have fz := box_frozen hbr4
    have HF := Lib.hid (And.intro hr4 hb4)
    clear hr4 hb4 hbr4
    go_wp2_with fail
    refine bodyPost_ret (v := .agg #[.int .i64 y.kind, .int .i64 y.half, .string y.text, .slice E1 y.list.length e1, .slice E2 y.keys.length e2, .slice E3 y.vals.length e3, .int .i64 0]) (by simp [results, Tryz.results20, go_sem, r0, r1, r2, r3, r4, r5, r6]) rfl ?_
    unfold GPPost
    rw [HY.out]
    refine ⟨E1, e1, E2, e2, E3, e3, rfl, ?_, ?_⟩
    · refine VRep.keep (D := Fresh w3 w4) (fun b hb => ?_) (fun b hb => ⟨by have := hb.1; have := HD.out.2.2; omega, by have := hb.2; simp [World.setCell]; omega⟩) _ _ HF.out.1
      have hne : b ≠ w.heap.size + 2 := by have := hb.1; have := HD.out.2.2; omega
      iterate 7 rw [heap_setCell_other _ _ _ _ hne]
    · repeat (refine Below.setCell ?_ (by simp; omega) _)
      exact HD.out.1.trans (HF.out.2.mono (by have := HD.out.2.2; omega))
  | none =>
    rw [hg] at hpost
    obtain ⟨T, v, rfl, hT, hb3⟩ := hpost
    have hTe : ∀ (x : TypeId) (W : World), (Instr.typeAssert (.iface T v) x 95 true).run Tryz.prog W = .ok (.tuple #[.iface T v, .bool true]) W := by
      rcases hT with rfl | rfl
      · exact fun x W => te_159 x v W
      · exact fun x W => te_162 x v W
    have HR := Lib.hid (result_err T v w3 hTe)
    have HY := Lib.hid (And.intro hg hb3)
    clear hTe hT hg hb3
    go_wp2_with fail
    refine HR.out.mono ?_
    clear HR
    rintro e w4 ⟨rfl, hb4⟩
    have hbr4 := (hb4.block _ (Nat.lt_of_lt_of_le (box_lt HD.out.2.1) HY.out.2.size)).trans ((HY.out.2.block _ (box_lt HD.out.2.1)).trans HD.out.2.1)
    have r0 : w4.cell? ⟨w.heap.size + 2, 0, none⟩ = _ := box_cell hbr4 0
    have r1 : w4.cell? ⟨w.heap.size + 2, 1, none⟩ = _ := box_cell hbr4 1
    have r2 : w4.cell? ⟨w.heap.size + 2, 2, none⟩ = _ := box_cell hbr4 2
    have r3 : w4.cell? ⟨w.heap.size + 2, 3, none⟩ = _ := box_cell hbr4 3
    have r4 : w4.cell? ⟨w.heap.size + 2, 4, none⟩ = _ := box_cell hbr4 4
    have r5 : w4.cell? ⟨w.heap.size + 2, 5, none⟩ = _ := box_cell hbr4 5
    have r6 : w4.cell? ⟨w.heap.size + 2, 6, none⟩ = _ := box_cell hbr4 6
    have fz := box_frozen hbr4
    have HF := Lib.hid hb4
    clear hb4 hbr4
    go_wp2_with fail
    refine bodyPost_ret (v := .agg #[.int .i64 0, .int .i64 0, .string ⟨#[]⟩, .slice none 0 0, .slice none 0 0, .slice none 0 0, .int .i64 1]) (by simp [results, Tryz.results20, go_sem, r0, r1, r2, r3, r4, r5, r6]) rfl ?_
    unfold GPPost
    rw [HY.out.1]
    refine ⟨rfl, ?_⟩
    repeat (refine Below.setCell ?_ (by simp; omega) _)
    have := HD.out.2.2
    have := HY.out.2.size
    exact (HD.out.1.trans (HY.out.2.mono (by omega))).trans (HF.out.mono (by omega))

end Go.Proofs.YtfhppajnnbbcjaaGreatDoor
end
