/- Walks: the law FnGetSteps. -/
import Derived.Test.YtfhppajnnbbcjaaGreatDoorGx7
import Derived.Test.YtfhppajnnbbcjaaGreatDoorGx9
import Derived.Test.YtfhppajnnbbcjaaGreatDoorGx10

section
namespace Go.Proofs.YtfhppajnnbbcjaaGreatDoor
open Go.RowKit

/-- the answer is true; nothing that was there has turned -/
def TruePost (w : World) (e : Ending) (w' : World) : Prop := e = .returned (.bool true) ∧ Below w.heap.size w w'

/-- what the values of 'r := impl.GetPath(v, array(p))' are good for -/
def F7 (cva Sp pva : Value) (y : J) (B : Nat) (d : Nat → Prop) (xs : Nat → Value) : Nat → World → Prop
  | 0, _ => xs 0 = cva
  | 1, _ => xs 1 = Sp
  | 2, _ => xs 2 = pva
  | 3, W => ∃ E1 e1 E2 e2 E3 e3, xs 3 = .agg #[.int .i64 y.kind, .int .i64 y.half, .string y.text, .slice E1 y.list.length e1, .slice E2 y.keys.length e2, .slice E3 y.vals.length e3, .int .i64 0] ∧
      SRep W (fun b => (B ≤ b ∧ b < W.heap.size) ∧ (d 4 → xs 4 ≠ .pointer (some ⟨b, 0, none⟩))) y [.int .i64 y.kind, .int .i64 y.half, .string y.text, .slice E1 y.list.length e1, .slice E2 y.keys.length e2, .slice E3 y.vals.length e3]
  | 4, W => ∃ g, xs 4 = .pointer (some ⟨g, 0, none⟩) ∧ W.heap[g]? = some (.cells zRes 34 (0, 0)) ∧ B ≤ g
  | _, _ => True

theorem F7.keep {cva Sp pva : Value} {y : J} {B : Nat} {d : Nat → Prop} {xs : Nat → Value} {i j : Nat} {v : Value} {W W' : World} (h : F7 cva Sp pva y B d xs j W) (hji : j ≠ i) (hi : i = 4 → v = .pointer (some ⟨W.heap.size, 0, none⟩)) (hb : Below W.heap.size W W') :
    F7 cva Sp pva y B (fun j => d j ∨ j = i) (upd xs i v) j W' := by
  match j, hji, h with
  | 0, hj, h => exact (upd_ne hj).trans h
  | 1, hj, h => exact (upd_ne hj).trans h
  | 2, hj, h => exact (upd_ne hj).trans h
  | 3, hj, h =>
    obtain ⟨E1, e1, E2, e2, E3, e3, hx, hr⟩ := h
    refine ⟨E1, e1, E2, e2, E3, e3, (upd_ne hj).trans hx, VRep.keep (fun b hb' => hb.block b hb'.1.2) (fun b hb' => ⟨⟨hb'.1.1, Nat.lt_of_lt_of_le hb'.1.2 hb.size⟩, fun hd => ?_⟩) _ _ hr⟩
    by_cases h4 : i = 4
    · rw [← h4, upd_eq, hi h4]
      have := hb'.1.2
      intro e
      simp at e
      try omega
    · rw [upd_ne (Ne.symm h4)]
      exact hb'.2 (hd.resolve_right (Ne.symm h4))
  | 4, hj, h =>
    obtain ⟨g, hx, hh, hg⟩ := h
    exact ⟨g, (upd_ne hj).trans hx, (hb.block _ (box_lt hh)).trans hh, hg⟩
  | n + 5, _, _ => trivial

theorem skey_key {k : J} (h : SKey k) (hw : k.WF) : Key k := by
  cases k with
  | str s => exact hw
  | num h' => exact ⟨h.1, h.2.1⟩
  | _ => exact h.elim

theorem lit_vrow2 {W : World} {D : Nat → Prop} {a b : V} {ca cb : List Value} {g : Nat} {T : TypeId} (hh : W.heap[g]? = some (.cells (ca ++ cb).toArray T (0, 0))) (ha : VRep W D a ca) (hb : VRep W D b cb) (la : ca.length = 6) (lb : cb.length = 6) (hg : D g) :
    SlAt D [a, b].length (.slice (some ⟨g, 0, none⟩) 2 2) (fun x o => VRow W D x [a, b] o) :=
  ⟨_, _, rfl, Nat.le_refl _, by unfold maxLen; omega, fun _ => ⟨g, 0, rfl, hg, ⟨⟨ca, la, fun i v hi => by
      rw [box_cell hh, Nat.zero_add]
      have : i < ca.length := (List.getElem?_eq_some_iff.1 hi).1
      simpa [List.getElem?_append_left this] using hi, ha⟩, ⟨cb, lb, fun i v hi => by
      rw [box_cell hh, Nat.zero_add]
      have : (ca ++ cb)[6 + i]? = cb[i]? := by rw [List.getElem?_append_right (by omega), la]; congr 1; omega
      simpa [this] using hi, hb⟩, trivial⟩⟩⟩

theorem arr_of {j : J} {q : List V} (h : V.mk 5 0 noText q [] [] = j.toV) : ∃ l, j = .arr l ∧ q = toVL l := by
  cases j with
  | bool b => cases b <;> simp [J.toV] at h
  | arr l => simp only [J.toV, V.mk.injEq] at h; exact ⟨l, rfl, h.2.2.2.1⟩
  | _ => simp [J.toV] at h

set_option maxHeartbeats 2000000 in
set_option maxRecDepth 100000 in
theorem GetSteps_any (v : V) (q : List V) (n : Nat) (D : Nat → Prop) (cv : List Value) (Q : Value) (w : World) (hv : VRep w D v cv) (hq : SlAt D q.length Q (fun b o => VRow w D b q o)) (hD : ∀ b, D b → All w b) (hU : U8 w) (hsv : v.Small) (hsq : SmallL q) (hn : n < 65536) :
    Calls Tryz.prog 5 #[.agg cv.toArray, .int .u16 n, Q] w (TruePost w) := by
  have hk : ∀ W, Below w.heap.size w W → VRep W D v cv ∧ SlAt D q.length Q (fun b o => VRow W D b q o) := fun W hb => ⟨VRep.keep (Same.of_below hb hD) (fun _ h => h) _ _ hv, hq.mono (fun _ h => h) fun b o hb' hr => VRow.keep (Same.of_below hb hD) (fun _ h => h) _ _ _ hb' hr⟩
  have hb0 : Below w.heap.size w (w.alloc (.cells cv.toArray 26)) := (Below.refl _ _).alloc (Nat.le_refl _) _
  have HC := Lib.hid (zzFits1_any v D cv _ (hk _ hb0).1 (fun b hb => Nat.lt_of_lt_of_le (hD b hb) hb0.size) hsv)
  obtain ⟨vk, vh, vt, vl, vks, vvs⟩ := v
  obtain ⟨L, K, S, rfl, hL, hK, hS⟩ := hv
  obtain ⟨A1, c1, rfl⟩ := hL.form
  obtain ⟨A2, c2, rfl⟩ := hK.form
  obtain ⟨A3, c3, rfl⟩ := hS.form
  obtain ⟨AQ, cQ, rfl, hcq, hmq, -⟩ := hq
  have hbd : q.length ≤ 9223372036854775807 := by unfold maxLen at hmq; omega
  have HX := Lib.hid (And.intro hk (And.intro hD (And.intro hU (And.intro hsv (And.intro hsq (And.intro hn (heap_alloc_new w (.cells #[Value.int .i64 vk, .int .i64 vh, .string vt, .slice A1 vl.length c1, .slice A2 vks.length c2, .slice A3 vvs.length c3] 26))))))))
  have HB0 := Lib.hid hb0
  clear hk hD hU hsv hsq hL hK hS hmq hcq hb0
  go_enter Tryz.func5, Tryz.ntmps5
  go_wp2_with fail
  refine HC.out.mono ?_
  clear HC
  rintro e w1 ⟨b, rfl, hb1⟩
  have HB1 := Lib.hid (HB0.out.trans (hb1.mono HB0.out.size))
  have HBX := Lib.hid ((hb1.block _ (by simp)).trans HX.out.2.2.2.2.2.2)
  clear hb1 HB0
  cases b with
  | false =>
    go_wp2_with fail
    go_ret
    exact ⟨rfl, HB1.out⟩
  | true =>
    by_cases hql : (q.length : Int) > 2147483647
    · go_wp2_with fail
      go_ret
      exact ⟨rfl, HB1.out⟩
    · go_wp2_with fail
      refine wp_region_RG 3 (by kernel_rfl) (by kernel_rfl) (Below w1.heap.size w1) (fun _ j v _ => match j with | 0 => v = .agg #[Value.int .i64 vk, .int .i64 vh, .string vt, .slice A1 vl.length c1, .slice A2 vks.length c2, .slice A3 vvs.length c3] | 1 => v = .slice AQ q.length cQ | 2 => v = .agg #[Value.int .i64 5, .int .i64 0, .string noText, .slice AQ q.length cQ, .slice none 0 0, .slice none 0 0] | _ => True) (by simp [AllSteps, frameOf, Act.put, upd]) ((Below.refl _ _).drew) ⟨?s0, ?s1, ?s2, trivial⟩ ?e
      case s0 =>
        intro xs d W hd hdeps hG hF K hK
        clear hdeps
        have hb := (hG.block _ (box_lt HBX.out)).trans HBX.out
        have b0 := box_cell hb 0
        have b1 := box_cell hb 1
        have b2 := box_cell hb 2
        have b3 := box_cell hb 3
        have b4 := box_cell hb 4
        have b5 := box_cell hb 5
        simp at b0 b1 b2 b3 b4 b5
        simp only [frameOf, List.take_succ_cons, List.take_zero, Act.put, List.setIfInBounds_toArray, List.set_cons_zero, List.set_cons_succ, Nat.zero_add, Nat.reduceAdd]
        go_simp
        exact hK _ _ _ (by simp only [frameOf, List.take_succ_cons, List.take_zero, Act.put, List.setIfInBounds_toArray, List.set_cons_zero, List.set_cons_succ, Nat.zero_add, Nat.reduceAdd]) hG (fun j u _ _ h => h) rfl
      case s1 =>
        intro xs d W hd hdeps hG hF K hK
        clear hdeps
        simp only [frameOf, List.take_succ_cons, List.take_zero, Act.put, List.setIfInBounds_toArray, List.set_cons_zero, List.set_cons_succ, Nat.zero_add, Nat.reduceAdd]
        go_simp
        exact hK _ _ _ (by simp only [frameOf, List.take_succ_cons, List.take_zero, Act.put, List.setIfInBounds_toArray, List.set_cons_zero, List.set_cons_succ, Nat.zero_add, Nat.reduceAdd]) hG (fun j u _ _ h => h) rfl
      case s2 =>
        intro xs d W hd hdeps hG hF K hK
        simp [Region.binds] at hdeps
        have f1 : xs 1 = _ := hF 1 hdeps
        have hbw := HB1.out.trans (hG.mono HB1.out.size)
        have HA := Lib.hid (array_any q D _ W (HX.out.1 W hbw).2 (fun b hb => Nat.lt_of_lt_of_le (HX.out.2.1 b hb) hbw.size))
        have HG2 := Lib.hid (And.intro hG hK)
        clear hG hK hF hbw
        simp only [frameOf, List.take_succ_cons, List.take_zero, Act.put, List.setIfInBounds_toArray, List.set_cons_zero, List.set_cons_succ, Nat.zero_add, Nat.reduceAdd]
        go_simp
        go_wp2_with fail
        refine HA.out.mono ?_
        rintro e w3 ⟨rfl, -, hb3⟩
        obtain ⟨hG, hK⟩ := HG2.out
        exact hK _ _ _ (by simp only [frameOf, List.take_succ_cons, List.take_zero, Act.put, List.setIfInBounds_toArray, List.set_cons_zero, List.set_cons_succ, Nat.zero_add, Nat.reduceAdd, f1]) (hG.trans (hb3.mono hG.size)) (fun j u _ _ h => h) rfl
      case e =>
        intro xs W hG hF
        have f0 : xs 0 = _ := hF 0 (by omega)
        have f2 : xs 2 = _ := hF 2 (by omega)
        have hbW := HB1.out.trans (hG.mono HB1.out.size)
        have hbA : Below W.heap.size W (W.alloc (.cells ([Value.int .i64 vk, .int .i64 vh, .string vt, .slice A1 vl.length c1, .slice A2 vks.length c2, .slice A3 vvs.length c3] ++ [Value.int .i64 5, .int .i64 0, .string noText, .slice AQ q.length cQ, .slice none 0 0, .slice none 0 0]).toArray 26)) := (Below.refl _ _).alloc (Nat.le_refl _) _
        have hbw2 := hbW.trans (hbA.mono hbW.size)
        have hkk := HX.out.1 _ hbw2
        have hsl := lit_vrow2 (heap_alloc_new W (.cells ([Value.int .i64 vk, .int .i64 vh, .string vt, .slice A1 vl.length c1, .slice A2 vks.length c2, .slice A3 vvs.length c3] ++ [Value.int .i64 5, .int .i64 0, .string noText, .slice AQ q.length cQ, .slice none 0 0, .slice none 0 0]).toArray 26)) (VRep.keep (D' := fun b => D b ∨ b = W.heap.size) (fun _ _ => rfl) (fun b hb => .inl hb) _ _ hkk.1)
          (a := .mk vk vh vt vl vks vvs) (b := .mk 5 0 noText q [] []) (cb := [Value.int .i64 5, .int .i64 0, .string noText, .slice AQ q.length cQ, .slice none 0 0, .slice none 0 0]) ⟨_, _, _, rfl, hkk.2.mono (fun _ h => .inl h) fun b o hb hr => VRow.keep (fun _ _ => rfl) (fun b hb => .inl hb) _ _ _ hb hr, emp _ _, emp _ _⟩ rfl rfl (.inr rfl)
        have HFT := Lib.hid (fits_any _ _ _ _ hsl (fun b hb => by
          rcases hb with h | h
          · exact Nat.lt_of_lt_of_le (HX.out.2.1 b h) hbw2.size
          · subst h; simp) (HX.out.2.2.1.below hbw2 HX.out.2.2.1.size) ⟨HX.out.2.2.2.1, ⟨by decide, by simp, HX.out.2.2.2.2.1, trivial⟩, trivial⟩)
        have HW := Lib.hid (And.intro hbw2 ((hbA.block _ (by have := hG.size; have := box_lt HBX.out; omega)).trans ((hG.block _ (box_lt HBX.out)).trans HBX.out)))
        clear hbW hbA hbw2 hkk hsl hG hF
        simp only [frameOf, List.take_succ_cons, List.take_zero, List.drop_succ_cons, List.drop_zero, Act.put, List.setIfInBounds_toArray, List.set_cons_zero, List.set_cons_succ, Nat.zero_add, Nat.reduceAdd, f0, f2]
        clear f0 f2
        go_wp2_with fail
        refine HFT.out.mono ?_
        clear HFT
        rintro e w3 ⟨b, rfl, hgood, hb3⟩
        have HB3 := Lib.hid (HW.out.1.trans (hb3.mono HW.out.1.size))
        have HBX3 := Lib.hid ((hb3.block _ (box_lt HW.out.2)).trans HW.out.2)
        clear hb3 HW HBX HB1
        cases b with
        | false =>
          clear hgood
          go_wp2_with fail
          go_ret
          exact ⟨rfl, HB3.out⟩
        | true =>
          obtain ⟨jv, hjv, gv⟩ := hgood rfl (.mk vk vh vt vl vks vvs) (by simp)
          obtain ⟨jq, hjq, gq⟩ := hgood rfl (.mk 5 0 noText q [] []) (by simp)
          obtain ⟨l, rfl, hql2⟩ := arr_of hjq
          have hll : q.length = l.length := by rw [hql2, toVL_length]
          have hJ : ∀ W, Below w.heap.size w W → SRep W D jv [Value.int .i64 vk, .int .i64 vh, .string vt, .slice A1 vl.length c1, .slice A2 vks.length c2, .slice A3 vvs.length c3] ∧ SlJ W D l (.slice AQ q.length cQ) := fun W hb => by
            obtain ⟨h1, h2⟩ := HX.out.1 W hb
            refine ⟨by rw [hjv] at h1; exact h1, ?_⟩
            rw [hql2] at h2 ⊢
            rw [toVL_length] at h2 ⊢
            exact h2
          have HJ := Lib.hid (And.intro hJ (And.intro gv (And.intro gq hll)))
          have HST := Lib.hid (straight_any l D _ w3 (hJ w3 HB3.out).2 (fun b hb => Nat.lt_of_lt_of_le (HX.out.2.1 b hb) HB3.out.size))
          clear hgood hJ hll gv gq hjv hjq hql2
          go_wp2_with fail
          refine HST.out.mono ?_
          clear HST
          rintro e w4 ⟨b, rfl, hst, hb4⟩
          have HB4 := Lib.hid (HB3.out.trans (hb4.mono HB3.out.size))
          have HBX4 := Lib.hid ((hb4.block _ (box_lt HBX3.out)).trans HBX3.out)
          clear hb4 HBX3 HB3
          cases b with
          | false =>
            clear hst
            go_wp2_with fail
            go_ret
            exact ⟨rfl, HB4.out⟩
          | true =>
            have HSK := Lib.hid (hst rfl)
            clear hst
            have b0 := box_cell HBX4.out 0
            have b1 := box_cell HBX4.out 1
            have b2 := box_cell HBX4.out 2
            have b3 := box_cell HBX4.out 3
            have b4 := box_cell HBX4.out 4
            have b5 := box_cell HBX4.out 5
            simp at b0 b1 b2 b3 b4 b5
            go_wp2_with fail
            have HWY := Lib.hid (Ways_any jv D _ w4 HJ.out.2.1.wf (by have := HJ.out.2.1.parts; omega) (fun b hb => Nat.lt_of_lt_of_le (HX.out.2.1 b hb) HB4.out.size) (HJ.out.1 w4 HB4.out).1)
            clear b0 b1 b2 b3 b4 b5
            refine HWY.out.mono ?_
            clear HWY
            rintro e w5 ⟨S5, rfl, hS5, hb5⟩
            have hlen := waysJ_length jv [] HJ.out.2.1.wf
            have hwok := fun (q : List J) (h : q ∈ waysJ [] jv) => way_ok HJ.out.2.1.wf h
            obtain ⟨ps, hps⟩ : ∃ ps, waysJ [] jv = ps := ⟨_, rfl⟩
            rw [hps] at hS5 hlen hwok
            have hpos : 0 < ps.length := by rw [hlen]; exact jv.parts_pos
            have hmod := Nat.mod_lt n hpos
            obtain ⟨p, hp⟩ : ∃ p, ps[n % ps.length]? = some p := ⟨_, List.getElem?_eq_getElem hmod⟩
            have hpok := hwok p (List.mem_of_getElem? hp)
            obtain ⟨A5, c5, rfl, hc5, hm5, hr5⟩ := hS5
            obtain ⟨b5, o5, rfl, hb5', hrow5⟩ := hr5 hpos
            obtain ⟨cs5, hcs5, Sp, rfl, hSp⟩ := hrow5.get hp
            have p0 : w5.cell? ⟨b5, o5 + n % ps.length, none⟩ = some Sp := by
              have := hcs5 0 Sp rfl
              simpa [EP] using this
            have hp5 : ps.length ≤ 400 := by rw [hlen]; have := HJ.out.2.1.parts; omega
            have HB5 := Lib.hid (HB4.out.trans (hb5.mono HB4.out.size))
            have HBX5 := Lib.hid ((hb5.block _ (box_lt HBX4.out)).trans HBX4.out)
            have hlt5 : ∀ b, (D b ∨ Fresh w4 w5 b) → b < w5.heap.size := fun b hb => by
              rcases hb with h | h
              · have := HX.out.2.1 b h; have := HB5.out.size; omega
              · exact h.2
            have HP := Lib.hid (And.intro hpok (And.intro hSp hlt5))
            clear hb5 HB4 HBX4 hpok hSp hlt5 hcs5 hrow5 hr5 hwok hps hlen hm5 hc5 hb5' hp
            go_wp2_with fail
            obtain ⟨hkp, hwp, hlp, y, hy⟩ := HP.out.1
            have HY := Lib.hid (And.intro hkp (And.intro hwp (And.intro hlp hy)))
            clear hkp hwp hlp hy
            refine wp_region_RGX 5 (by kernel_rfl) (by kernel_rfl) (Below w5.heap.size w5) (F7 (.agg #[Value.int .i64 vk, .int .i64 vh, .string vt, .slice A1 vl.length c1, .slice A2 vks.length c2, .slice A3 vvs.length c3]) Sp (.agg #[Value.int .i64 5, .int .i64 0, .string noText, Sp, .slice none 0 0, .slice none 0 0]) y w5.heap.size) (by simp [AllSteps, frameOf, Act.put, upd]) ((Below.refl _ _).drew) ⟨?s0, ?s1, ?s2, ?s3, ?s4, trivial⟩ ?e
            case s0 =>
              intro xs d W hd hdeps hG hF K hK
              clear hdeps
              have hb := (hG.block _ (box_lt HBX5.out)).trans HBX5.out
              have b0 := box_cell hb 0
              have b1 := box_cell hb 1
              have b2 := box_cell hb 2
              have b3 := box_cell hb 3
              have b4 := box_cell hb 4
              have b5 := box_cell hb 5
              simp at b0 b1 b2 b3 b4 b5
              simp only [frameOf, List.take_succ_cons, List.take_zero, Act.put, List.setIfInBounds_toArray, List.set_cons_zero, List.set_cons_succ, Nat.zero_add, Nat.reduceAdd]
              go_simp
              exact hK _ _ _ (by simp only [frameOf, List.take_succ_cons, List.take_zero, Act.put, List.setIfInBounds_toArray, List.set_cons_zero, List.set_cons_succ, Nat.zero_add, Nat.reduceAdd]) hG (fun j hj _ h => h.keep hj (fun h => nomatch h) (Below.refl _ _)) upd_eq
            case s1 =>
              intro xs d W hd hdeps hG hF K hK
              clear hdeps
              simp only [frameOf, List.take_succ_cons, List.take_zero, Act.put, List.setIfInBounds_toArray, List.set_cons_zero, List.set_cons_succ, Nat.zero_add, Nat.reduceAdd]
              go_simp
              exact hK _ _ _ (by simp only [frameOf, List.take_succ_cons, List.take_zero, Act.put, List.setIfInBounds_toArray, List.set_cons_zero, List.set_cons_succ, Nat.zero_add, Nat.reduceAdd]) hG (fun j hj _ h => h.keep hj (fun h => nomatch h) (Below.refl _ _)) upd_eq
            case s2 =>
              intro xs d W hd hdeps hG hF K hK
              simp [Region.binds] at hdeps
              have f1 : xs 1 = _ := hF 1 hdeps
              have hbw := HB5.out.trans (hG.mono HB5.out.size)
              have HA := Lib.hid (array_any (toVL p) (fun b => D b ∨ Fresh w4 w5 b) Sp W (by have h := HP.out.2.1.keep (Same.of_below hG (fun b hb => HP.out.2.2 b hb)) (fun _ h => h); rw [toVL_length]; exact h) (fun b hb => Nat.lt_of_lt_of_le (HP.out.2.2 b hb) hG.size))
              have HG2 := Lib.hid (And.intro hG hK)
              clear hG hK hF hbw
              simp only [frameOf, List.take_succ_cons, List.take_zero, Act.put, List.setIfInBounds_toArray, List.set_cons_zero, List.set_cons_succ, Nat.zero_add, Nat.reduceAdd]
              rw [f1]
              go_simp
              go_wp2_with fail
              refine HA.out.mono ?_
              rintro e w6 ⟨rfl, -, hb6⟩
              obtain ⟨hG, hK⟩ := HG2.out
              exact hK _ _ _ (by simp only [frameOf, List.take_succ_cons, List.take_zero, Act.put, List.setIfInBounds_toArray, List.set_cons_zero, List.set_cons_succ, Nat.zero_add, Nat.reduceAdd, f1]) (hG.trans (hb6.mono hG.size)) (fun j hj _ h => h.keep hj (fun h => nomatch h) hb6) upd_eq
            case s3 =>
              intro xs d W hd hdeps hG hF K hK
              simp [Region.binds] at hdeps
              have f0 : xs 0 = _ := hF 0 hdeps.1
              have f2 : xs 2 = _ := hF 2 hdeps.2
              have hbw := HB5.out.trans (hG.mono HB5.out.size)
              have hSpW : SRep W (fun b => D b ∨ Fresh w4 w5 b) (.arr p) [Value.int .i64 5, .int .i64 0, .string noText, Sp, .slice none 0 0, .slice none 0 0] := ⟨_, _, _, rfl, by rw [toVL_length]; exact HP.out.2.1.keep (Same.of_below hG (fun b hb => HP.out.2.2 b hb)) (fun _ h => h), emp _ _, emp _ _⟩
              have HA := Lib.hid (GetPath_any jv p (fun b => D b ∨ Fresh w4 w5 b) _ _ W HJ.out.2.1.wf ⟨by have := HJ.out.2.1.parts; have := HY.out.2.2.1; omega, WFL_iff.2 HY.out.2.1⟩ HY.out.1 (fun b hb => Nat.lt_of_lt_of_le (HP.out.2.2 b hb) hG.size) (VRep.keep (fun _ _ => rfl) (fun b hb => .inl hb) _ _ (HJ.out.1 W hbw).1) hSpW)
              have H4 := Lib.hid (fun (hd : d 4) => hF 4 hd)
              have HG2 := Lib.hid (And.intro hG hK)
              clear hG hK hF hbw hSpW
              simp only [frameOf, List.take_succ_cons, List.take_zero, Act.put, List.setIfInBounds_toArray, List.set_cons_zero, List.set_cons_succ, Nat.zero_add, Nat.reduceAdd]
              rw [f0, f2]
              go_simp
              go_wp2_with fail
              refine HA.out.mono ?_
              intro e w6 hpost
              unfold GPPost at hpost
              rw [HY.out.2.2.2] at hpost
              obtain ⟨E1, e1, E2, e2, E3, e3, rfl, hyr, hb6⟩ := hpost
              obtain ⟨hG, hK⟩ := HG2.out
              refine hK _ _ _ (by simp only [frameOf, List.take_succ_cons, List.take_zero, Act.put, List.setIfInBounds_toArray, List.set_cons_zero, List.set_cons_succ, Nat.zero_add, Nat.reduceAdd, f0, f2]) (hG.trans (hb6.mono hG.size)) (fun j hj _ h => h.keep hj (fun h => nomatch h) hb6) ⟨E1, e1, E2, e2, E3, e3, upd_eq, VRep.keep (fun _ _ => rfl) (fun b hb => ⟨⟨by have := hb.1; have := hG.size; omega, hb.2⟩, fun hd e => ?_⟩) _ _ hyr⟩
              rw [upd_ne (by decide)] at e
              obtain ⟨g, hx, hh, -⟩ := H4.out (hd.resolve_right (by decide))
              rw [hx] at e
              have h1 := box_lt hh
              have h2 := hb.1
              simp at e
              try omega
            case s4 =>
              intro xs d W hd hdeps hG hF K hK
              clear hdeps
              simp only [frameOf, List.take_succ_cons, List.take_zero, Act.put, List.setIfInBounds_toArray, List.set_cons_zero, List.set_cons_succ, Nat.zero_add, Nat.reduceAdd]
              go_simp
              exact hK _ _ _ (by simp only [frameOf, List.take_succ_cons, List.take_zero, Act.put, List.setIfInBounds_toArray, List.set_cons_zero, List.set_cons_succ, Nat.zero_add, Nat.reduceAdd]) (hG.alloc hG.size _) (fun j hj _ h => h.keep hj (fun _ => rfl) ((Below.refl _ _).alloc (Nat.le_refl _) _)) ⟨_, upd_eq, heap_alloc_new _ _, hG.size⟩
            case e =>
              intro xs W hG hF
              obtain ⟨E1, e1, E2, e2, E3, e3, f3, hyr⟩ := hF 3 (by omega)
              obtain ⟨g, f4, hh, hg⟩ := hF 4 (by omega)
              simp only [f4] at hyr
              simp only [frameOf, List.take_succ_cons, List.take_zero, List.drop_succ_cons, List.drop_zero, Act.put, List.setIfInBounds_toArray, List.set_cons_zero, List.set_cons_succ, Nat.zero_add, Nat.reduceAdd, f3, f4]
              have fz := box_frozen hh
              have z0 := box_cell hh 0
              have z1 := box_cell hh 1
              have z2 := box_cell hh 2
              have z3 := box_cell hh 3
              have z4 := box_cell hh 4
              have z5 := box_cell hh 5
              have z6 := box_cell hh 6
              simp at z0 z1 z2 z3 z4 z5 z6
              have HR := Lib.hid (And.intro hyr (And.intro hh (And.intro hg hG)))
              clear hyr hh hg hG hF f3 f4
              go_wp2_with fail
              have hst := store7 HR.out.2.1 rfl (.int .i64 y.kind) (.int .i64 y.half) (.string y.text) (.slice E1 y.list.length e1) (.slice E2 y.keys.length e2) (.slice E3 y.vals.length e3) (.int .i64 0)
              have hbs : Below w5.heap.size w5 (((((((W.setCell ⟨g, 0, none⟩ (.int .i64 y.kind)).setCell ⟨g, 1, none⟩ (.int .i64 y.half)).setCell ⟨g, 2, none⟩ (.string y.text)).setCell ⟨g, 3, none⟩ (.slice E1 y.list.length e1)).setCell ⟨g, 4, none⟩ (.slice E2 y.keys.length e2)).setCell ⟨g, 5, none⟩ (.slice E3 y.vals.length e3)).setCell ⟨g, 6, none⟩ (.int .i64 0)) := by
                repeat (refine Below.setCell ?_ HR.out.2.2.1 _)
                exact HR.out.2.2.2
              have hot : ∀ b, b ≠ g → (((((((W.setCell ⟨g, 0, none⟩ (.int .i64 y.kind)).setCell ⟨g, 1, none⟩ (.int .i64 y.half)).setCell ⟨g, 2, none⟩ (.string y.text)).setCell ⟨g, 3, none⟩ (.slice E1 y.list.length e1)).setCell ⟨g, 4, none⟩ (.slice E2 y.keys.length e2)).setCell ⟨g, 5, none⟩ (.slice E3 y.vals.length e3)).setCell ⟨g, 6, none⟩ (.int .i64 0)).heap[b]? = W.heap[b]? := fun b hb => by iterate 7 rw [heap_setCell_other _ _ _ _ hb]
              generalize ((((((W.setCell ⟨g, 0, none⟩ (.int .i64 y.kind)).setCell ⟨g, 1, none⟩ (.int .i64 y.half)).setCell ⟨g, 2, none⟩ (.string y.text)).setCell ⟨g, 3, none⟩ (.slice E1 y.list.length e1)).setCell ⟨g, 4, none⟩ (.slice E2 y.keys.length e2)).setCell ⟨g, 5, none⟩ (.slice E3 y.vals.length e3)).setCell ⟨g, 6, none⟩ (.int .i64 0) = W7 at hst hbs hot ⊢
              obtain ⟨r, hr⟩ : ∃ r, getp y l = r := ⟨_, rfl⟩
              have hyw : y.WF := getp_WF HY.out.2.2.2 HJ.out.2.1.wf
              have H7 : Hid (SRep W7 (fun b => b < W7.heap.size) y [Value.int .i64 y.kind, .int .i64 y.half, .string y.text, .slice E1 y.list.length e1, .slice E2 y.keys.length e2, .slice E3 y.vals.length e3] ∧ SlJ W7 (fun b => b < W7.heap.size) p Sp ∧ Below w.heap.size w W7 ∧ W7.heap[g]? = some (.cells #[.int .i64 y.kind, .int .i64 y.half, .string y.text, .slice E1 y.list.length e1, .slice E2 y.keys.length e2, .slice E3 y.vals.length e3, .int .i64 0] 34 (0, 0)) ∧ W7.heap[w.heap.size]? = some (.cells #[Value.int .i64 vk, .int .i64 vh, .string vt, .slice A1 vl.length c1, .slice A2 vks.length c2, .slice A3 vvs.length c3] 26 (0, 0)) ∧ getp y l = r ∧ y.WF) := by
                refine ⟨VRep.keep (fun b hb => hot b fun e => hb.2 (by decide) (by rw [e])) (fun b hb => ?_) _ _ HR.out.1, HP.out.2.1.keep (fun b hb => hbs.block b (HP.out.2.2 b hb)) (fun b hb => Nat.lt_of_lt_of_le (HP.out.2.2 b hb) hbs.size), HB5.out.trans (hbs.mono HB5.out.size), hst, (hbs.block _ (box_lt HBX5.out)).trans HBX5.out, hr, hyw⟩
                have hne : b ≠ g := fun e => hb.2 (by decide) (by rw [e])
                have h1 := hot b hne
                exact (Array.getElem?_eq_some_iff.1 (h1.trans (Array.getElem?_eq_getElem hb.1.2))).1
              clear hst hbs hot hr hyw HR HBX5 z0 z1 z2 z3 z4 z5 z6 fz
              refine wp_region_RGX 15 (by kernel_rfl) (by kernel_rfl) (Below W7.heap.size W7) (F10 g (.agg #[Value.int .i64 y.kind, .int .i64 y.half, .string y.text, .slice E1 y.list.length e1, .slice E2 y.keys.length e2, .slice E3 y.vals.length e3]) (.slice AQ q.length cQ) (.agg #[Value.int .i64 5, .int .i64 0, .string noText, .slice AQ q.length cQ, .slice none 0 0, .slice none 0 0]) (.agg #[Value.int .i64 vk, .int .i64 vh, .string vt, .slice A1 vl.length c1, .slice A2 vks.length c2, .slice A3 vvs.length c3]) Sp p l r W7.heap.size) (by simp [AllSteps, frameOf, Act.put, upd]) ((Below.refl _ _).drew) ⟨?s0, ?s1, ?s2, ?s3, ?s4, ?s5, ?s6, ?s7, ?s8, ?s9, ?s10, ?s11, ?s12, ?s13, ?s14, trivial⟩ ?e
              case s0 =>
                intro xs d W hd hdeps hG hF K hK
                clear hdeps
                simp only [frameOf, List.take_succ_cons, List.take_zero, Act.put, List.setIfInBounds_toArray, List.set_cons_zero, List.set_cons_succ, Nat.zero_add, Nat.reduceAdd]
                go_simp
                exact hK _ _ _ (by simp only [frameOf, List.take_succ_cons, List.take_zero, Act.put, List.setIfInBounds_toArray, List.set_cons_zero, List.set_cons_succ, Nat.zero_add, Nat.reduceAdd]) hG (fun j hj _ h => h.keep (Tr.below (Below.refl _ _) (by decide) (by decide) (by decide) (by decide)) hd hj) upd_eq
              case s1 =>
                intro xs d W hd hdeps hG hF K hK
                simp [Region.binds] at hdeps
                have f0 : xs 0 = _ := hF 0 hdeps
                have hb := (hG.block _ (box_lt H7.out.2.2.2.1)).trans H7.out.2.2.2.1
                have b0 := box_cell hb 0
                have b1 := box_cell hb 1
                have b2 := box_cell hb 2
                have b3 := box_cell hb 3
                have b4 := box_cell hb 4
                have b5 := box_cell hb 5
                simp at b0 b1 b2 b3 b4 b5
                simp only [frameOf, List.take_succ_cons, List.take_zero, Act.put, List.setIfInBounds_toArray, List.set_cons_zero, List.set_cons_succ, Nat.zero_add, Nat.reduceAdd]
                go_simp
                exact hK _ _ _ (by simp only [frameOf, List.take_succ_cons, List.take_zero, Act.put, List.setIfInBounds_toArray, List.set_cons_zero, List.set_cons_succ, Nat.zero_add, Nat.reduceAdd, f0]) hG (fun j hj _ h => h.keep (Tr.below (Below.refl _ _) (by decide) (by decide) (by decide) (by decide)) hd hj) upd_eq
              case s2 =>
                intro xs d W hd hdeps hG hF K hK
                clear hdeps
                simp only [frameOf, List.take_succ_cons, List.take_zero, Act.put, List.setIfInBounds_toArray, List.set_cons_zero, List.set_cons_succ, Nat.zero_add, Nat.reduceAdd]
                go_simp
                exact hK _ _ _ (by simp only [frameOf, List.take_succ_cons, List.take_zero, Act.put, List.setIfInBounds_toArray, List.set_cons_zero, List.set_cons_succ, Nat.zero_add, Nat.reduceAdd]) hG (fun j hj _ h => h.keep (Tr.below (Below.refl _ _) (by decide) (by decide) (by decide) (by decide)) hd hj) upd_eq
              case s3 =>
                intro xs d W hd hdeps hG hF K hK
                simp [Region.binds] at hdeps
                have f2 : xs 2 = _ := hF 2 hdeps
                have hbw := H7.out.2.2.1.trans (hG.mono H7.out.2.2.1.size)
                have HA := Lib.hid (array_any q D _ W (HX.out.1 W hbw).2 (fun b hb => Nat.lt_of_lt_of_le (HX.out.2.1 b hb) hbw.size))
                have HG2 := Lib.hid (And.intro hG (And.intro hK hd))
                clear hG hK hF hbw hd
                simp only [frameOf, List.take_succ_cons, List.take_zero, Act.put, List.setIfInBounds_toArray, List.set_cons_zero, List.set_cons_succ, Nat.zero_add, Nat.reduceAdd]
                rw [f2]
                go_simp
                go_wp2_with fail
                refine HA.out.mono ?_
                rintro e w6 ⟨rfl, -, hb6⟩
                obtain ⟨hG, hK, hd⟩ := HG2.out
                exact hK _ _ _ (by simp only [frameOf, List.take_succ_cons, List.take_zero, Act.put, List.setIfInBounds_toArray, List.set_cons_zero, List.set_cons_succ, Nat.zero_add, Nat.reduceAdd, f2]) (hG.trans (hb6.mono hG.size)) (fun j hj _ h => h.keep (Tr.below hb6 (by decide) (by decide) (by decide) (by decide)) hd hj) upd_eq
              case s4 =>
                intro xs d W hd hdeps hG hF K hK
                simp [Region.binds] at hdeps
                have f1 : xs 1 = _ := hF 1 hdeps.1
                have f3 : xs 3 = _ := hF 3 hdeps.2
                have hbw := H7.out.2.2.1.trans (hG.mono H7.out.2.2.1.size)
                have hq' : SRep W (fun b => b < W7.heap.size) (.arr l) [Value.int .i64 5, .int .i64 0, .string noText, .slice AQ q.length cQ, .slice none 0 0, .slice none 0 0] := ⟨_, _, _, rfl, by rw [toVL_length]; have h := (HJ.out.1 W hbw).2; exact h.mono (fun b hb => by have := HX.out.2.1 b hb; have := H7.out.2.2.1.size; omega) fun b o hb hr => VRow.keep (fun _ _ => rfl) (fun b hb => by have := HX.out.2.1 b hb; have := H7.out.2.2.1.size; omega) _ _ _ hb hr, emp _ _, emp _ _⟩
                have hkl : ∀ k ∈ l, Key k := fun k hk => skey_key (HSK.out.1 k hk) (WFL_iff.1 HJ.out.2.2.1.wf.2 k hk)
                have HA := Lib.hid (GetPath_any y l (fun b => b < W7.heap.size) _ _ W H7.out.2.2.2.2.2.2 HJ.out.2.2.1.wf hkl (fun b hb => Nat.lt_of_lt_of_le hb hG.size) (VRep.keep (fun b hb => hG.block b hb) (fun _ h => h) _ _ H7.out.1) hq')
                have HG2 := Lib.hid (And.intro hG (And.intro hK (And.intro hd hF)))
                clear hG hK hF hbw hq' hkl hd
                simp only [frameOf, List.take_succ_cons, List.take_zero, Act.put, List.setIfInBounds_toArray, List.set_cons_zero, List.set_cons_succ, Nat.zero_add, Nat.reduceAdd]
                rw [f1, f3]
                go_simp
                go_wp2_with fail
                refine HA.out.mono ?_
                intro e w6 hpost
                obtain ⟨hG, hK, hd, hF⟩ := HG2.out
                have hrv : ∃ u, e = .returned u ∧ ResV r u w6 (Fresh W w6) ∧ Below W.heap.size W w6 := by
                  unfold GPPost at hpost
                  rw [H7.out.2.2.2.2.2.1] at hpost
                  cases r with
                  | none => exact ⟨_, hpost.1, rfl, hpost.2⟩
                  | some z => obtain ⟨E1, e1, E2, e2, E3, e3, he, hyr, hb6⟩ := hpost; exact ⟨_, he, ⟨E1, e1, E2, e2, E3, e3, rfl, hyr⟩, hb6⟩
                obtain ⟨u, rfl, hu, hb6⟩ := hrv
                have hfr := ResV.fresh hF hG.size (.inl rfl) hu
                exact hK _ _ _ (by simp only [frameOf, List.take_succ_cons, List.take_zero, Act.put, List.setIfInBounds_toArray, List.set_cons_zero, List.set_cons_succ, Nat.zero_add, Nat.reduceAdd, f1, f3]) (hG.trans (hb6.mono hG.size)) (fun j hj _ h => h.keep (Tr.below hb6 (by decide) (by decide) (by decide) (by decide)) hd hj) hfr
              case s5 =>
                intro xs d W hd hdeps hG hF K hK
                clear hdeps
                have hb := (hG.block _ (box_lt H7.out.2.2.2.2.1)).trans H7.out.2.2.2.2.1
                have b0 := box_cell hb 0
                have b1 := box_cell hb 1
                have b2 := box_cell hb 2
                have b3 := box_cell hb 3
                have b4 := box_cell hb 4
                have b5 := box_cell hb 5
                simp at b0 b1 b2 b3 b4 b5
                simp only [frameOf, List.take_succ_cons, List.take_zero, Act.put, List.setIfInBounds_toArray, List.set_cons_zero, List.set_cons_succ, Nat.zero_add, Nat.reduceAdd]
                go_simp
                exact hK _ _ _ (by simp only [frameOf, List.take_succ_cons, List.take_zero, Act.put, List.setIfInBounds_toArray, List.set_cons_zero, List.set_cons_succ, Nat.zero_add, Nat.reduceAdd]) hG (fun j hj _ h => h.keep (Tr.below (Below.refl _ _) (by decide) (by decide) (by decide) (by decide)) hd hj) upd_eq
              case s6 =>
                intro xs d W hd hdeps hG hF K hK
                clear hdeps
                simp only [frameOf, List.take_succ_cons, List.take_zero, Act.put, List.setIfInBounds_toArray, List.set_cons_zero, List.set_cons_succ, Nat.zero_add, Nat.reduceAdd]
                go_simp
                refine hK _ (.slice (some ⟨W.heap.size, 0, none⟩) 0 0) _ (by simp only [frameOf, List.take_succ_cons, List.take_zero, Act.put, List.setIfInBounds_toArray, List.set_cons_zero, List.set_cons_succ, Nat.zero_add, Nat.reduceAdd]) (hG.alloc hG.size _) (fun j hj _ h => h.keep ⟨by simp, fun b h => .inl (Below.heap_alloc _ _ _ h), (fun h => nomatch h), (fun h => nomatch h), fun _ => rfl, (fun h => nomatch h)⟩ hd hj) ?_
                show (∀ k, (upd xs 6 _ 6).ownBlock = some k → _) ∧ (_ → GG EJ _ _ _ (upd xs 6 _ 6) _)
                rw [upd_eq]
                exact ⟨fun k hk => by have := Option.some.inj hk; subst this; exact ⟨hG.size, by simp⟩, fun _ => GG.lit (E := EJ) (l := []) (cs := []) hG.size (heap_alloc_new _ _) (by simp [maxLen]) rfl⟩
              case s7 =>
                intro xs d W hd hdeps hG hF K hK
                clear hdeps
                simp only [frameOf, List.take_succ_cons, List.take_zero, Act.put, List.setIfInBounds_toArray, List.set_cons_zero, List.set_cons_succ, Nat.zero_add, Nat.reduceAdd]
                go_simp
                exact hK _ _ _ (by simp only [frameOf, List.take_succ_cons, List.take_zero, Act.put, List.setIfInBounds_toArray, List.set_cons_zero, List.set_cons_succ, Nat.zero_add, Nat.reduceAdd]) hG (fun j hj _ h => h.keep (Tr.below (Below.refl _ _) (by decide) (by decide) (by decide) (by decide)) hd hj) upd_eq
              case s8 =>
                intro xs d W hd hdeps hG hF K hK
                simp [Region.binds] at hdeps
                have f6 := hF 6 hdeps.1
                have f7 : xs 7 = Sp := hF 7 hdeps.2.1
                have f6' := f6.2 hd
                have hsp := H7.out.2.1.keep (w' := W) (fun b hb => hG.block b hb) (fun _ h => h)
                simp only [frameOf, List.take_succ_cons, List.take_zero, Act.put, List.setIfInBounds_toArray, List.set_cons_zero, List.set_cons_succ, Nat.zero_add, Nat.reduceAdd]
                refine step_append_G (by rfl) (.tmp 54) (.tmp 55) 23 (by rfl) EJ Tryz.under23 W7.heap.size (fun _ => True) [] p (xs 6) Sp (by rfl) (by exact f7) f6' ((sl_EJ.2 hsp).loose fun b hb => ⟨trivial, Nat.lt_of_lt_of_le hb hG.size, fun e => by have := (f6.1 b e.symm).1; omega⟩) (by have := HJ.out.2.1.parts; have := HY.out.2.2.1; simp [maxLen]; omega) (by have := HJ.out.2.1.parts; have := HY.out.2.2.1; simp [EJ]; omega) hG.size ?_
                intro v' W' hg hgb hat
                simp only [List.nil_append] at hg
                refine hK _ v' _ (by simp only [frameOf, List.take_succ_cons, List.take_zero, Act.put, List.setIfInBounds_toArray, List.set_cons_zero, List.set_cons_succ, Nat.zero_add, Nat.reduceAdd]) (hG.grown hgb hG.size (fun k hk => (f6.1 k hk).1)) (fun j hj _ h => h.keep ⟨hgb.size, fun b hb => ?_, (fun h => nomatch h), (fun h => nomatch h), (fun h => nomatch h), fun _ => ⟨hdeps.1, hat⟩⟩ hd hj) ?_
                · by_cases e : (xs 6).ownBlock = some b
                  · exact .inr (.inl ⟨rfl, hdeps.1, e⟩)
                  · exact .inl (hgb.block b hb (Ne.symm e))
                · show (∀ k, (upd xs 8 _ 8).ownBlock = some k → _) ∧ (_ → GG EJ _ _ _ (upd xs 8 _ 8) _)
                  rw [upd_eq]
                  exact ⟨fun k hk => hg.own_lt k hk, fun _ => hg⟩
              case s9 =>
                intro xs d W hd hdeps hG hF K hK
                clear hdeps
                simp only [frameOf, List.take_succ_cons, List.take_zero, Act.put, List.setIfInBounds_toArray, List.set_cons_zero, List.set_cons_succ, Nat.zero_add, Nat.reduceAdd]
                go_simp
                exact hK _ _ _ (by simp only [frameOf, List.take_succ_cons, List.take_zero, Act.put, List.setIfInBounds_toArray, List.set_cons_zero, List.set_cons_succ, Nat.zero_add, Nat.reduceAdd]) hG (fun j hj _ h => h.keep (Tr.below (Below.refl _ _) (by decide) (by decide) (by decide) (by decide)) hd hj) upd_eq
              case s10 =>
                intro xs d W hd hdeps hG hF K hK
                simp [Region.binds] at hdeps
                have f8 := hF 8 hdeps.1
                have f9 : xs 9 = .slice AQ q.length cQ := hF 9 hdeps.2.1
                have f8' := f8.2 hd
                have hbw := H7.out.2.2.1.trans (hG.mono H7.out.2.2.1.size)
                have hsl := (HJ.out.1 W hbw).2
                simp only [frameOf, List.take_succ_cons, List.take_zero, Act.put, List.setIfInBounds_toArray, List.set_cons_zero, List.set_cons_succ, Nat.zero_add, Nat.reduceAdd]
                refine step_append_G (by rfl) (.tmp 56) (.tmp 57) 23 (by rfl) EJ Tryz.under23 W7.heap.size (fun _ => True) p l (xs 8) (.slice AQ q.length cQ) (by rfl) (by exact f9) f8' ((sl_EJ.2 hsl).loose fun b hb => ⟨trivial, Nat.lt_of_lt_of_le (HX.out.2.1 b hb) hbw.size, fun e => by have := (f8.1 b e.symm).1; have := HX.out.2.1 b hb; have := H7.out.2.2.1.size; omega⟩) (by have := HJ.out.2.1.parts; have := HY.out.2.2.1; have := HSK.out.2; simp [maxLen]; omega) (by have := HJ.out.2.1.parts; have := HY.out.2.2.1; have := HSK.out.2; simp [EJ]; omega) hG.size ?_
                intro v' W' hg hgb hat
                refine hK _ v' _ (by simp only [frameOf, List.take_succ_cons, List.take_zero, Act.put, List.setIfInBounds_toArray, List.set_cons_zero, List.set_cons_succ, Nat.zero_add, Nat.reduceAdd]) (hG.grown hgb hG.size (fun k hk => (f8.1 k hk).1)) (fun j hj _ h => h.keep ⟨hgb.size, fun b hb => ?_, (fun h => nomatch h), (fun h => nomatch h), (fun h => nomatch h), (fun h => nomatch h)⟩ hd hj) ?_
                · by_cases e : (xs 8).ownBlock = some b
                  · exact .inr (.inr ⟨rfl, hdeps.1, e⟩)
                  · exact .inl (hgb.block b hb (Ne.symm e))
                · refine ⟨.inl hdeps.1, ?_⟩
                  rw [upd_eq]
                  exact hg
              case s11 =>
                intro xs d W hd hdeps hG hF K hK
                simp [Region.binds] at hdeps
                have f10 := hF 10 hdeps
                have hsl := sl_EJ.1 (f10.2.sl (D := fun b => b < W.heap.size) (fun b _ h => h) (fun b _ h => h))
                have HA := Lib.hid (array_any (toVL (p ++ l)) (fun b => b < W.heap.size) (xs 10) W (by rw [toVL_length]; exact hsl) (fun b hb => hb))
                have HG2 := Lib.hid (And.intro hG (And.intro hK (And.intro hd (And.intro f10 (And.intro hsl hdeps)))))
                clear hG hK hF hd f10 hsl hdeps
                simp only [frameOf, List.take_succ_cons, List.take_zero, Act.put, List.setIfInBounds_toArray, List.set_cons_zero, List.set_cons_succ, Nat.zero_add, Nat.reduceAdd]
                go_simp
                go_wp2_with fail
                refine HA.out.mono ?_
                rintro e w6 ⟨rfl, -, hb6⟩
                obtain ⟨hG, hK, hd, f10, hsl, hdeps⟩ := HG2.out
                refine hK _ (.agg #[.int .i64 5, .int .i64 0, .string noText, xs 10, .slice none 0 0, .slice none 0 0]) _ (by simp only [frameOf, List.take_succ_cons, List.take_zero, Act.put, List.setIfInBounds_toArray, List.set_cons_zero, List.set_cons_succ, Nat.zero_add, Nat.reduceAdd]) (hG.trans (hb6.mono hG.size)) (fun j hj _ h => h.keep (Tr.below hb6 (by decide) (by decide) (by decide) (by decide)) hd hj) ⟨.inl f10.1, .inl hdeps, ?_, ?_⟩
                · rw [upd_ne (show (10 : Nat) ≠ 11 by decide)]; exact upd_eq
                · rw [upd_ne (by decide)]; exact hsl.keep (fun b hb => hb6.block b hb) (fun b hb => Nat.lt_of_lt_of_le hb hb6.size)
              case s12 =>
                intro xs d W hd hdeps hG hF K hK
                simp [Region.binds] at hdeps
                have f5 : xs 5 = _ := hF 5 hdeps.1
                have f11 := hF 11 hdeps.2
                have hbw := H7.out.2.2.1.trans (hG.mono H7.out.2.2.1.size)
                have hq' : SRep W (fun b => b < W.heap.size) (.arr (p ++ l)) [.int .i64 5, .int .i64 0, .string noText, xs 10, .slice none 0 0, .slice none 0 0] := ⟨_, _, _, rfl, by rw [toVL_length]; exact f11.2.2.2, emp _ _, emp _ _⟩
                have hkl : ∀ k ∈ p ++ l, Key k := fun k hk => (List.mem_append.1 hk).elim (HY.out.1 k) fun h => skey_key (HSK.out.1 k h) (WFL_iff.1 HJ.out.2.2.1.wf.2 k h)
                have hpw : (J.arr (p ++ l)).WF := ⟨by have := HJ.out.2.1.parts; have := HY.out.2.2.1; have := HSK.out.2; simp; omega, WFL_iff.2 fun k hk => (List.mem_append.1 hk).elim (HY.out.2.1 k) fun h => WFL_iff.1 HJ.out.2.2.1.wf.2 k h⟩
                have hgp : getp jv (p ++ l) = r := by rw [getp_append, HY.out.2.2.2]; exact H7.out.2.2.2.2.2.1
                have HA := Lib.hid (GetPath_any jv (p ++ l) (fun b => b < W.heap.size) _ _ W HJ.out.2.1.wf hpw hkl (fun b hb => hb) (VRep.keep (fun _ _ => rfl) (fun b hb => Nat.lt_of_lt_of_le (HX.out.2.1 b hb) hbw.size) _ _ (HJ.out.1 W hbw).1) hq')
                have f11' := f11.2.2.1
                have HG2 := Lib.hid (And.intro hG (And.intro hK (And.intro hd (And.intro hF hgp))))
                clear hG hK hF hbw hq' hkl hd f11 hpw hgp
                simp only [frameOf, List.take_succ_cons, List.take_zero, Act.put, List.setIfInBounds_toArray, List.set_cons_zero, List.set_cons_succ, Nat.zero_add, Nat.reduceAdd]
                rw [f5, f11']
                go_simp
                go_wp2_with fail
                refine HA.out.mono ?_
                intro e w6 hpost
                obtain ⟨hG, hK, hd, hF, hgp⟩ := HG2.out
                have hrv : ∃ u, e = .returned u ∧ ResV r u w6 (Fresh W w6) ∧ Below W.heap.size W w6 := by
                  unfold GPPost at hpost
                  rw [hgp] at hpost
                  cases r with
                  | none => exact ⟨_, hpost.1, rfl, hpost.2⟩
                  | some z => obtain ⟨E1, e1, E2, e2, E3, e3, he, hyr, hb6⟩ := hpost; exact ⟨_, he, ⟨E1, e1, E2, e2, E3, e3, rfl, hyr⟩, hb6⟩
                obtain ⟨u, rfl, hu, hb6⟩ := hrv
                have hfr := ResV.fresh hF hG.size (.inr rfl) hu
                exact hK _ _ _ (by simp only [frameOf, List.take_succ_cons, List.take_zero, Act.put, List.setIfInBounds_toArray, List.set_cons_zero, List.set_cons_succ, Nat.zero_add, Nat.reduceAdd, f5, f11']) (hG.trans (hb6.mono hG.size)) (fun j hj _ h => h.keep (Tr.below hb6 (by decide) (by decide) (by decide) (by decide)) hd hj) hfr
              case s13 =>
                intro xs d W hd hdeps hG hF K hK
                clear hdeps
                simp only [frameOf, List.take_succ_cons, List.take_zero, Act.put, List.setIfInBounds_toArray, List.set_cons_zero, List.set_cons_succ, Nat.zero_add, Nat.reduceAdd]
                go_simp
                exact hK _ (ptr W.heap.size) _ (by simp only [frameOf, List.take_succ_cons, List.take_zero, Act.put, List.setIfInBounds_toArray, List.set_cons_zero, List.set_cons_succ, Nat.zero_add, Nat.reduceAdd]) (hG.alloc hG.size _) (fun j hj _ h => h.keep ⟨by simp, fun b h => .inl (Below.heap_alloc _ _ _ h), (fun _ => rfl), (fun h => nomatch h), (fun h => nomatch h), (fun h => nomatch h)⟩ hd hj) ⟨_, upd_eq, VarAt.new hF hG.size (.inl ⟨rfl, rfl⟩)⟩
              case s14 =>
                intro xs d W hd hdeps hG hF K hK
                clear hdeps
                simp only [frameOf, List.take_succ_cons, List.take_zero, Act.put, List.setIfInBounds_toArray, List.set_cons_zero, List.set_cons_succ, Nat.zero_add, Nat.reduceAdd]
                go_simp
                exact hK _ (ptr W.heap.size) _ (by simp only [frameOf, List.take_succ_cons, List.take_zero, Act.put, List.setIfInBounds_toArray, List.set_cons_zero, List.set_cons_succ, Nat.zero_add, Nat.reduceAdd]) (hG.alloc hG.size _) (fun j hj _ h => h.keep ⟨by simp, fun b h => .inl (Below.heap_alloc _ _ _ h), (fun h => nomatch h), (fun _ => rfl), (fun h => nomatch h), (fun h => nomatch h)⟩ hd hj) ⟨_, upd_eq, VarAt.new hF hG.size (.inr ⟨rfl, rfl⟩)⟩
              case e =>
                intro xs W hG hF
                have f4 := hF 4 (by omega)
                have f12 := hF 12 (by omega)
                obtain ⟨ga, f13, hga, hgaB, hab, -, -⟩ := hF 13 (by omega)
                obtain ⟨gb, f14, hgb, hgbB, -, -, -⟩ := hF 14 (by omega)
                have hne : ga ≠ gb := fun e => hab (by omega) (by rw [f14, e])
                have hbw := H7.out.2.2.1.trans (hG.mono H7.out.2.2.1.size)
                have hbx := (hG.block _ (box_lt H7.out.2.2.2.2.1)).trans H7.out.2.2.2.2.1
                have hx4 : ∀ b, ¬ Ex (fun j => j < 15) xs b → b ≠ ga ∧ b ≠ gb := fun b hb => ⟨fun e => hb (.inl ⟨by omega, by rw [f13, e]⟩), fun e => hb (.inr (.inl ⟨by omega, by rw [f14, e]⟩))⟩
                have HE := Lib.hid (And.intro hga (And.intro hgb (And.intro hne (And.intro hbw (And.intro hbx (And.intro hgaB hgbB))))))
                have hsz7 := H7.out.2.2.1.size
                clear hF hbw hbx hG hab
                cases r with
                | none =>
                  have f4' : xs 4 = _ := f4
                  have f12' : xs 12 = _ := f12
                  have f13' : xs 13 = .pointer (some ⟨ga, 0, none⟩) := f13
                  have f14' : xs 14 = .pointer (some ⟨gb, 0, none⟩) := f14
                  simp only [frameOf, List.take_succ_cons, List.take_zero, List.drop_succ_cons, List.drop_zero, Act.put, List.setIfInBounds_toArray, List.set_cons_zero, List.set_cons_succ, Nat.zero_add, Nat.reduceAdd, f4', f12', f13', f14']
                  obtain ⟨W8, hW8, hA2, hB, hot, hbl⟩ := two_stores hga hgb hne (.int .i64 0) (.int .i64 0) (.string ⟨#[]⟩) (.slice none 0 0) (.slice none 0 0) (.slice none 0 0) (.int .i64 1) (.int .i64 0) (.int .i64 0) (.string ⟨#[]⟩) (.slice none 0 0) (.slice none 0 0) (.slice none 0 0) (.int .i64 1)
                  have hbel := hbl _ _ HE.out.2.2.2.1 (by omega) (by omega)
                  have hbox8 := (hot w.heap.size (by have := box_lt H7.out.2.2.2.2.1; omega) (by have := box_lt H7.out.2.2.2.2.1; omega)).trans HE.out.2.2.2.2.1
                  have fza := box_frozen hga
                  have fzb := box_frozen hgb
                  have za0 := box_cell hga 0
                  have za1 := box_cell hga 1
                  have za2 := box_cell hga 2
                  have za3 := box_cell hga 3
                  have za4 := box_cell hga 4
                  have za5 := box_cell hga 5
                  have za6 := box_cell hga 6
                  simp at za0 za1 za2 za3 za4 za5 za6
                  have zb0 := box_cell hgb 0
                  have zb1 := box_cell hgb 1
                  have zb2 := box_cell hgb 2
                  have zb3 := box_cell hgb 3
                  have zb4 := box_cell hgb 4
                  have zb5 := box_cell hgb 5
                  have zb6 := box_cell hgb 6
                  simp at zb0 zb1 zb2 zb3 zb4 zb5 zb6
                  have H8 := Lib.hid (And.intro hA2 (And.intro hB (And.intro hbel (And.intro hbox8 trivial))))
                  have HW8 := Lib.hid hW8
                  clear hA2 hB hot hbl hbel hbox8 hga hgb hx4 HE hW8
                  go_wp2_with fail
                  have hW8 := HW8.out
                  rw [HW8.out]
                  clear za0 za1 za2 za3 za4 za5 za6 zb0 zb1 zb2 zb3 zb4 zb5 zb6 fza fzb HW8
                  skip
                  have HKP : Hid (∀ (j : Nat) (u : Value) (W W' : World), Below W.heap.size W W' → (fun (_ : Nat → Prop) (j : Nat) (v : Value) (W8' : World) => match j with | 0 => v = .agg #[Value.int .i64 vk, .int .i64 vh, .string vt, .slice A1 vl.length c1, .slice A2 vks.length c2, .slice A3 vvs.length c3] | 1 => v = .agg #[Value.int .i64 5, .int .i64 0, .string noText, .slice none 0 0, .slice none 0 0, .slice none 0 0] | 2 => ResV (some jv) v W8' fun b => b < W8'.heap.size | 3 => v = .agg #[Value.int .i64 vk, .int .i64 vh, .string vt, .slice A1 vl.length c1, .slice A2 vks.length c2, .slice A3 vvs.length c3] | 4 => v = .bool true | 5 => v = .bool true | 6 => v = .pointer (some ⟨ga, 6, none⟩) | 7 => v = .int .i64 1 | 8 => v = .pointer (some ⟨gb, 6, none⟩) | 9 => v = .int .i64 1 | 10 => v = .bool true | 11 => v = .bool true | 12 => v = .bool true | 13 => v = .pointer (some ⟨ga, 6, none⟩) | 14 => v = .int .i64 1 | 15 => v = .bool true | 16 => v = .bool true | 17 => v = undef | 18 => v = undef | 19 => v = undef | 20 => v = undef | 21 => v = .bool true | 22 => v = .bool true | _ => True) (fun _ => True) j u W → (fun (_ : Nat → Prop) (j : Nat) (v : Value) (W8' : World) => match j with | 0 => v = .agg #[Value.int .i64 vk, .int .i64 vh, .string vt, .slice A1 vl.length c1, .slice A2 vks.length c2, .slice A3 vvs.length c3] | 1 => v = .agg #[Value.int .i64 5, .int .i64 0, .string noText, .slice none 0 0, .slice none 0 0, .slice none 0 0] | 2 => ResV (some jv) v W8' fun b => b < W8'.heap.size | 3 => v = .agg #[Value.int .i64 vk, .int .i64 vh, .string vt, .slice A1 vl.length c1, .slice A2 vks.length c2, .slice A3 vvs.length c3] | 4 => v = .bool true | 5 => v = .bool true | 6 => v = .pointer (some ⟨ga, 6, none⟩) | 7 => v = .int .i64 1 | 8 => v = .pointer (some ⟨gb, 6, none⟩) | 9 => v = .int .i64 1 | 10 => v = .bool true | 11 => v = .bool true | 12 => v = .bool true | 13 => v = .pointer (some ⟨ga, 6, none⟩) | 14 => v = .int .i64 1 | 15 => v = .bool true | 16 => v = .bool true | 17 => v = undef | 18 => v = undef | 19 => v = undef | 20 => v = undef | 21 => v = .bool true | 22 => v = .bool true | _ => True) (fun _ => True) j u W') := by
                    intro j u W W' hb h
                    match j, h with
                    | 0, h => exact h
                    | 1, h => exact h
                    | 2, h => exact h.keep (fun b hb' => hb.block b hb') (fun b hb' => Nat.lt_of_lt_of_le hb' hb.size)
                    | 3, h => exact h
                    | 4, h => exact h
                    | 5, h => exact h
                    | 6, h => exact h
                    | 7, h => exact h
                    | 8, h => exact h
                    | 9, h => exact h
                    | 10, h => exact h
                    | 11, h => exact h
                    | 12, h => exact h
                    | 13, h => exact h
                    | 14, h => exact h
                    | 15, h => exact h
                    | 16, h => exact h
                    | 17, h => exact h
                    | 18, h => exact h
                    | 19, h => exact h
                    | 20, h => exact h
                    | 21, h => exact h
                    | 22, h => exact h
                    | n + 23, _ => exact trivial
                  refine wp_region_RG 23 (by kernel_rfl) (by kernel_rfl) (Below W8.heap.size W8) (fun (_ : Nat → Prop) (j : Nat) (v : Value) (W8' : World) => match j with | 0 => v = .agg #[Value.int .i64 vk, .int .i64 vh, .string vt, .slice A1 vl.length c1, .slice A2 vks.length c2, .slice A3 vvs.length c3] | 1 => v = .agg #[Value.int .i64 5, .int .i64 0, .string noText, .slice none 0 0, .slice none 0 0, .slice none 0 0] | 2 => ResV (some jv) v W8' fun b => b < W8'.heap.size | 3 => v = .agg #[Value.int .i64 vk, .int .i64 vh, .string vt, .slice A1 vl.length c1, .slice A2 vks.length c2, .slice A3 vvs.length c3] | 4 => v = .bool true | 5 => v = .bool true | 6 => v = .pointer (some ⟨ga, 6, none⟩) | 7 => v = .int .i64 1 | 8 => v = .pointer (some ⟨gb, 6, none⟩) | 9 => v = .int .i64 1 | 10 => v = .bool true | 11 => v = .bool true | 12 => v = .bool true | 13 => v = .pointer (some ⟨ga, 6, none⟩) | 14 => v = .int .i64 1 | 15 => v = .bool true | 16 => v = .bool true | 17 => v = undef | 18 => v = undef | 19 => v = undef | 20 => v = undef | 21 => v = .bool true | 22 => v = .bool true | _ => True) (by simp [AllSteps, frameOf, Act.put, upd]) ((Below.refl _ _).drew) ⟨?s0, ?s1, ?s2, ?s3, ?s4, ?s5, ?s6, ?s7, ?s8, ?s9, ?s10, ?s11, ?s12, ?s13, ?s14, ?s15, ?s16, ?s17, ?s18, ?s19, ?s20, ?s21, ?s22, trivial⟩ ?e
                  case s0 =>
                    intro xs d W hd hdeps hG hF K hK
                    clear hdeps
                    have hb := (hG.block _ (box_lt H8.out.2.2.2.1)).trans H8.out.2.2.2.1
                    have b0 := box_cell hb 0
                    have b1 := box_cell hb 1
                    have b2 := box_cell hb 2
                    have b3 := box_cell hb 3
                    have b4 := box_cell hb 4
                    have b5 := box_cell hb 5
                    simp at b0 b1 b2 b3 b4 b5
                    simp only [frameOf, List.take_succ_cons, List.take_zero, Act.put, List.setIfInBounds_toArray, List.set_cons_zero, List.set_cons_succ, Nat.zero_add, Nat.reduceAdd]
                    go_simp
                    exact hK _ _ _ (by simp only [frameOf, List.take_succ_cons, List.take_zero, Act.put, List.setIfInBounds_toArray, List.set_cons_zero, List.set_cons_succ, Nat.zero_add, Nat.reduceAdd]) hG (fun j u _ _ h => HKP.out j u _ _ (Below.refl _ _) h) rfl
                  case s1 =>
                    intro xs d W hd hdeps hG hF K hK
                    clear hdeps
                    have HA := Lib.hid (array_any [] (fun b => b < W.heap.size) (.slice none 0 0) W (emp _ _) (fun b hb => hb))
                    have HG2 := Lib.hid (And.intro hG hK)
                    clear hG hK hF
                    simp only [frameOf, List.take_succ_cons, List.take_zero, Act.put, List.setIfInBounds_toArray, List.set_cons_zero, List.set_cons_succ, Nat.zero_add, Nat.reduceAdd]
                    go_simp
                    go_wp2_with fail
                    refine HA.out.mono ?_
                    rintro e w6 ⟨rfl, -, hb6⟩
                    obtain ⟨hG, hK⟩ := HG2.out
                    exact hK _ _ _ (by simp only [frameOf, List.take_succ_cons, List.take_zero, Act.put, List.setIfInBounds_toArray, List.set_cons_zero, List.set_cons_succ, Nat.zero_add, Nat.reduceAdd]) (hG.trans (hb6.mono hG.size)) (fun j u _ _ h => HKP.out j u _ _ hb6 h) rfl
                  case s2 =>
                    intro xs d W hd hdeps hG hF K hK
                    simp [Region.binds] at hdeps
                    have f0 : xs 0 = _ := hF 0 hdeps.1
                    have f1 : xs 1 = _ := hF 1 hdeps.2
                    have hbw := H8.out.2.2.1.trans (hG.mono H8.out.2.2.1.size)
                    have HA := Lib.hid (GetPath_any jv [] (fun b => b < W.heap.size) _ _ W HJ.out.2.1.wf ⟨by simp, trivial⟩ (fun k hk => by simp at hk) (fun b hb => hb) (VRep.keep (fun _ _ => rfl) (fun b hb => Nat.lt_of_lt_of_le (HX.out.2.1 b hb) hbw.size) _ _ (HJ.out.1 W hbw).1) ⟨_, _, _, rfl, emp _ _, emp _ _, emp _ _⟩)
                    have HG2 := Lib.hid (And.intro hG hK)
                    clear hG hK hF hbw
                    simp only [frameOf, List.take_succ_cons, List.take_zero, Act.put, List.setIfInBounds_toArray, List.set_cons_zero, List.set_cons_succ, Nat.zero_add, Nat.reduceAdd]
                    rw [f0, f1]
                    go_simp
                    go_wp2_with fail
                    refine HA.out.mono ?_
                    intro e w6 hpost
                    unfold GPPost at hpost
                    simp only [getp] at hpost
                    obtain ⟨E1, e1, E2, e2, E3, e3, rfl, hyr, hb6⟩ := hpost
                    obtain ⟨hG, hK⟩ := HG2.out
                    exact hK _ _ _ (by simp only [frameOf, List.take_succ_cons, List.take_zero, Act.put, List.setIfInBounds_toArray, List.set_cons_zero, List.set_cons_succ, Nat.zero_add, Nat.reduceAdd, f0, f1]) (hG.trans (hb6.mono hG.size)) (fun j u _ _ h => HKP.out j u _ _ hb6 h) ⟨E1, e1, E2, e2, E3, e3, rfl, VRep.keep (fun _ _ => rfl) (fun b hb => hb.2) _ _ hyr⟩
                  case s3 =>
                    intro xs d W hd hdeps hG hF K hK
                    clear hdeps
                    have hb := (hG.block _ (box_lt H8.out.2.2.2.1)).trans H8.out.2.2.2.1
                    have b0 := box_cell hb 0
                    have b1 := box_cell hb 1
                    have b2 := box_cell hb 2
                    have b3 := box_cell hb 3
                    have b4 := box_cell hb 4
                    have b5 := box_cell hb 5
                    simp at b0 b1 b2 b3 b4 b5
                    simp only [frameOf, List.take_succ_cons, List.take_zero, Act.put, List.setIfInBounds_toArray, List.set_cons_zero, List.set_cons_succ, Nat.zero_add, Nat.reduceAdd]
                    go_simp
                    exact hK _ _ _ (by simp only [frameOf, List.take_succ_cons, List.take_zero, Act.put, List.setIfInBounds_toArray, List.set_cons_zero, List.set_cons_succ, Nat.zero_add, Nat.reduceAdd]) hG (fun j u _ _ h => HKP.out j u _ _ (Below.refl _ _) h) rfl
                  case s4 =>
                    intro xs d W hd hdeps hG hF K hK
                    simp [Region.binds] at hdeps
                    obtain ⟨E1, e1, E2, e2, E3, e3, f2, hyr⟩ := hF 2 hdeps.1
                    have f3 : xs 3 = _ := hF 3 hdeps.2.1
                    have hbw := H8.out.2.2.1.trans (hG.mono H8.out.2.2.1.size)
                    have HA := Lib.hid (given_fine jv jv (fun b => b < W.heap.size) E1 E2 E3 e1 e2 e3 _ W HJ.out.2.1.wf HJ.out.2.1.wf (fun b hb => hb) hyr (VRep.keep (fun _ _ => rfl) (fun b hb => Nat.lt_of_lt_of_le (HX.out.2.1 b hb) hbw.size) _ _ (HJ.out.1 W hbw).1))
                    have HG2 := Lib.hid (And.intro hG hK)
                    clear hG hK hF hbw hyr
                    simp only [frameOf, List.take_succ_cons, List.take_zero, Act.put, List.setIfInBounds_toArray, List.set_cons_zero, List.set_cons_succ, Nat.zero_add, Nat.reduceAdd]
                    rw [f2, f3]
                    go_simp
                    go_wp2_with fail
                    refine HA.out.mono ?_
                    rintro e w6 ⟨rfl, hb6⟩
                    rw [show (cmpJ jv jv == 0) = true by rw [cmpJ_self]; rfl]
                    obtain ⟨hG, hK⟩ := HG2.out
                    exact hK _ _ _ (by simp only [frameOf, List.take_succ_cons, List.take_zero, Act.put, List.setIfInBounds_toArray, List.set_cons_zero, List.set_cons_succ, Nat.zero_add, Nat.reduceAdd, f2, f3]) (hG.trans (hb6.mono hG.size)) (fun j u _ _ h => HKP.out j u _ _ hb6 h) rfl
                  case s5 =>
                    intro xs d W hd hdeps hG hF K hK
                    simp [Region.binds] at hdeps
                    have f4 : xs 4 = _ := hF 4 hdeps
                    simp only [frameOf, List.take_succ_cons, List.take_zero, Act.put, List.setIfInBounds_toArray, List.set_cons_zero, List.set_cons_succ, Nat.zero_add, Nat.reduceAdd]
                    go_simp
                    exact hK _ _ _ (by simp only [frameOf, List.take_succ_cons, List.take_zero, Act.put, List.setIfInBounds_toArray, List.set_cons_zero, List.set_cons_succ, Nat.zero_add, Nat.reduceAdd, f4]) hG (fun j u _ _ h => HKP.out j u _ _ (Below.refl _ _) h) rfl
                  case s6 =>
                    intro xs d W hd hdeps hG hF K hK
                    simp [Region.binds] at hdeps
                    have f5 : xs 5 = _ := hF 5 hdeps
                    simp only [frameOf, List.take_succ_cons, List.take_zero, Act.put, List.setIfInBounds_toArray, List.set_cons_zero, List.set_cons_succ, Nat.zero_add, Nat.reduceAdd]
                    go_simp
                    exact hK _ _ _ (by simp only [frameOf, List.take_succ_cons, List.take_zero, Act.put, List.setIfInBounds_toArray, List.set_cons_zero, List.set_cons_succ, Nat.zero_add, Nat.reduceAdd, f5]) hG (fun j u _ _ h => HKP.out j u _ _ (Below.refl _ _) h) rfl
                  case s7 =>
                    intro xs d W hd hdeps hG hF K hK
                    simp [Region.binds] at hdeps
                    have f6 : xs 6 = _ := hF 6 hdeps.1
                    have f5 : xs 5 = _ := hF 5 hdeps.2
                    have hb := (hG.block _ (box_lt H8.out.1)).trans H8.out.1
                    have b0 := box_cell hb 0
                    have b1 := box_cell hb 1
                    have b2 := box_cell hb 2
                    have b3 := box_cell hb 3
                    have b4 := box_cell hb 4
                    have b5 := box_cell hb 5
                    have b6 := box_cell hb 6
                    simp at b0 b1 b2 b3 b4 b5 b6
                    simp only [frameOf, List.take_succ_cons, List.take_zero, Act.put, List.setIfInBounds_toArray, List.set_cons_zero, List.set_cons_succ, Nat.zero_add, Nat.reduceAdd]
                    go_simp
                    exact hK _ _ _ (by simp only [frameOf, List.take_succ_cons, List.take_zero, Act.put, List.setIfInBounds_toArray, List.set_cons_zero, List.set_cons_succ, Nat.zero_add, Nat.reduceAdd, f6, f5]) hG (fun j u _ _ h => HKP.out j u _ _ (Below.refl _ _) h) rfl
                  case s8 =>
                    intro xs d W hd hdeps hG hF K hK
                    simp [Region.binds] at hdeps
                    have f5 : xs 5 = _ := hF 5 hdeps
                    simp only [frameOf, List.take_succ_cons, List.take_zero, Act.put, List.setIfInBounds_toArray, List.set_cons_zero, List.set_cons_succ, Nat.zero_add, Nat.reduceAdd]
                    go_simp
                    exact hK _ _ _ (by simp only [frameOf, List.take_succ_cons, List.take_zero, Act.put, List.setIfInBounds_toArray, List.set_cons_zero, List.set_cons_succ, Nat.zero_add, Nat.reduceAdd, f5]) hG (fun j u _ _ h => HKP.out j u _ _ (Below.refl _ _) h) rfl
                  case s9 =>
                    intro xs d W hd hdeps hG hF K hK
                    simp [Region.binds] at hdeps
                    have f8 : xs 8 = _ := hF 8 hdeps.1
                    have f5 : xs 5 = _ := hF 5 hdeps.2
                    have hb := (hG.block _ (box_lt H8.out.2.1)).trans H8.out.2.1
                    have b0 := box_cell hb 0
                    have b1 := box_cell hb 1
                    have b2 := box_cell hb 2
                    have b3 := box_cell hb 3
                    have b4 := box_cell hb 4
                    have b5 := box_cell hb 5
                    have b6 := box_cell hb 6
                    simp at b0 b1 b2 b3 b4 b5 b6
                    simp only [frameOf, List.take_succ_cons, List.take_zero, Act.put, List.setIfInBounds_toArray, List.set_cons_zero, List.set_cons_succ, Nat.zero_add, Nat.reduceAdd]
                    go_simp
                    exact hK _ _ _ (by simp only [frameOf, List.take_succ_cons, List.take_zero, Act.put, List.setIfInBounds_toArray, List.set_cons_zero, List.set_cons_succ, Nat.zero_add, Nat.reduceAdd, f8, f5]) hG (fun j u _ _ h => HKP.out j u _ _ (Below.refl _ _) h) rfl
                  case s10 =>
                    intro xs d W hd hdeps hG hF K hK
                    simp [Region.binds] at hdeps
                    have f7 : xs 7 = _ := hF 7 hdeps.1
                    have f9 : xs 9 = _ := hF 9 hdeps.2.1
                    have f5 : xs 5 = _ := hF 5 hdeps.2.2
                    simp only [frameOf, List.take_succ_cons, List.take_zero, Act.put, List.setIfInBounds_toArray, List.set_cons_zero, List.set_cons_succ, Nat.zero_add, Nat.reduceAdd]
                    go_simp
                    exact hK _ _ _ (by simp only [frameOf, List.take_succ_cons, List.take_zero, Act.put, List.setIfInBounds_toArray, List.set_cons_zero, List.set_cons_succ, Nat.zero_add, Nat.reduceAdd, f7, f9, f5]) hG (fun j u _ _ h => HKP.out j u _ _ (Below.refl _ _) h) rfl
                  case s11 =>
                    intro xs d W hd hdeps hG hF K hK
                    simp [Region.binds] at hdeps
                    have f5 : xs 5 = _ := hF 5 hdeps.1
                    have f10 : xs 10 = _ := hF 10 hdeps.2
                    simp only [frameOf, List.take_succ_cons, List.take_zero, Act.put, List.setIfInBounds_toArray, List.set_cons_zero, List.set_cons_succ, Nat.zero_add, Nat.reduceAdd]
                    go_simp
                    exact hK _ _ _ (by simp only [frameOf, List.take_succ_cons, List.take_zero, Act.put, List.setIfInBounds_toArray, List.set_cons_zero, List.set_cons_succ, Nat.zero_add, Nat.reduceAdd, f5, f10]) hG (fun j u _ _ h => HKP.out j u _ _ (Below.refl _ _) h) rfl
                  case s12 =>
                    intro xs d W hd hdeps hG hF K hK
                    simp [Region.binds] at hdeps
                    have f11 : xs 11 = _ := hF 11 hdeps.1
                    simp only [frameOf, List.take_succ_cons, List.take_zero, Act.put, List.setIfInBounds_toArray, List.set_cons_zero, List.set_cons_succ, Nat.zero_add, Nat.reduceAdd]
                    go_simp
                    exact hK _ _ _ (by simp only [frameOf, List.take_succ_cons, List.take_zero, Act.put, List.setIfInBounds_toArray, List.set_cons_zero, List.set_cons_succ, Nat.zero_add, Nat.reduceAdd, f11]) hG (fun j u _ _ h => HKP.out j u _ _ (Below.refl _ _) h) rfl
                  case s13 =>
                    intro xs d W hd hdeps hG hF K hK
                    simp [Region.binds] at hdeps
                    have f12 : xs 12 = _ := hF 12 hdeps
                    simp only [frameOf, List.take_succ_cons, List.take_zero, Act.put, List.setIfInBounds_toArray, List.set_cons_zero, List.set_cons_succ, Nat.zero_add, Nat.reduceAdd]
                    go_simp
                    exact hK _ _ _ (by simp only [frameOf, List.take_succ_cons, List.take_zero, Act.put, List.setIfInBounds_toArray, List.set_cons_zero, List.set_cons_succ, Nat.zero_add, Nat.reduceAdd, f12]) hG (fun j u _ _ h => HKP.out j u _ _ (Below.refl _ _) h) rfl
                  case s14 =>
                    intro xs d W hd hdeps hG hF K hK
                    simp [Region.binds] at hdeps
                    have f13 : xs 13 = _ := hF 13 hdeps.1
                    have f12 : xs 12 = _ := hF 12 hdeps.2
                    have hb := (hG.block _ (box_lt H8.out.1)).trans H8.out.1
                    have b0 := box_cell hb 0
                    have b1 := box_cell hb 1
                    have b2 := box_cell hb 2
                    have b3 := box_cell hb 3
                    have b4 := box_cell hb 4
                    have b5 := box_cell hb 5
                    have b6 := box_cell hb 6
                    simp at b0 b1 b2 b3 b4 b5 b6
                    simp only [frameOf, List.take_succ_cons, List.take_zero, Act.put, List.setIfInBounds_toArray, List.set_cons_zero, List.set_cons_succ, Nat.zero_add, Nat.reduceAdd]
                    go_simp
                    exact hK _ _ _ (by simp only [frameOf, List.take_succ_cons, List.take_zero, Act.put, List.setIfInBounds_toArray, List.set_cons_zero, List.set_cons_succ, Nat.zero_add, Nat.reduceAdd, f13, f12]) hG (fun j u _ _ h => HKP.out j u _ _ (Below.refl _ _) h) rfl
                  case s15 =>
                    intro xs d W hd hdeps hG hF K hK
                    simp [Region.binds] at hdeps
                    have f14 : xs 14 = _ := hF 14 hdeps.1
                    have f12 : xs 12 = _ := hF 12 hdeps.2
                    simp only [frameOf, List.take_succ_cons, List.take_zero, Act.put, List.setIfInBounds_toArray, List.set_cons_zero, List.set_cons_succ, Nat.zero_add, Nat.reduceAdd]
                    go_simp
                    exact hK _ _ _ (by simp only [frameOf, List.take_succ_cons, List.take_zero, Act.put, List.setIfInBounds_toArray, List.set_cons_zero, List.set_cons_succ, Nat.zero_add, Nat.reduceAdd, f14, f12]) hG (fun j u _ _ h => HKP.out j u _ _ (Below.refl _ _) h) rfl
                  case s16 =>
                    intro xs d W hd hdeps hG hF K hK
                    simp [Region.binds] at hdeps
                    have f15 : xs 15 = _ := hF 15 hdeps.1
                    have f12 : xs 12 = _ := hF 12 hdeps.2
                    simp only [frameOf, List.take_succ_cons, List.take_zero, Act.put, List.setIfInBounds_toArray, List.set_cons_zero, List.set_cons_succ, Nat.zero_add, Nat.reduceAdd]
                    go_simp
                    exact hK _ _ _ (by simp only [frameOf, List.take_succ_cons, List.take_zero, Act.put, List.setIfInBounds_toArray, List.set_cons_zero, List.set_cons_succ, Nat.zero_add, Nat.reduceAdd, f15, f12]) hG (fun j u _ _ h => HKP.out j u _ _ (Below.refl _ _) h) rfl
                  case s17 =>
                    intro xs d W hd hdeps hG hF K hK
                    simp [Region.binds] at hdeps
                    have f16 : xs 16 = _ := hF 16 hdeps
                    simp only [frameOf, List.take_succ_cons, List.take_zero, Act.put, List.setIfInBounds_toArray, List.set_cons_zero, List.set_cons_succ, Nat.zero_add, Nat.reduceAdd]
                    go_simp
                    exact hK _ _ _ (by simp only [frameOf, List.take_succ_cons, List.take_zero, Act.put, List.setIfInBounds_toArray, List.set_cons_zero, List.set_cons_succ, Nat.zero_add, Nat.reduceAdd, f16]) hG (fun j u _ _ h => HKP.out j u _ _ (Below.refl _ _) h) rfl
                  case s18 =>
                    intro xs d W hd hdeps hG hF K hK
                    simp [Region.binds] at hdeps
                    have f16 : xs 16 = _ := hF 16 hdeps
                    simp only [frameOf, List.take_succ_cons, List.take_zero, Act.put, List.setIfInBounds_toArray, List.set_cons_zero, List.set_cons_succ, Nat.zero_add, Nat.reduceAdd]
                    go_simp
                    exact hK _ _ _ (by simp only [frameOf, List.take_succ_cons, List.take_zero, Act.put, List.setIfInBounds_toArray, List.set_cons_zero, List.set_cons_succ, Nat.zero_add, Nat.reduceAdd, f16]) hG (fun j u _ _ h => HKP.out j u _ _ (Below.refl _ _) h) rfl
                  case s19 =>
                    intro xs d W hd hdeps hG hF K hK
                    simp [Region.binds] at hdeps
                    have f18 : xs 18 = _ := hF 18 hdeps.1
                    have f16 : xs 16 = _ := hF 16 hdeps.2
                    simp only [frameOf, List.take_succ_cons, List.take_zero, Act.put, List.setIfInBounds_toArray, List.set_cons_zero, List.set_cons_succ, Nat.zero_add, Nat.reduceAdd]
                    go_simp
                    exact hK _ _ _ (by simp only [frameOf, List.take_succ_cons, List.take_zero, Act.put, List.setIfInBounds_toArray, List.set_cons_zero, List.set_cons_succ, Nat.zero_add, Nat.reduceAdd, f18, f16]) hG (fun j u _ _ h => HKP.out j u _ _ (Below.refl _ _) h) rfl
                  case s20 =>
                    intro xs d W hd hdeps hG hF K hK
                    simp [Region.binds] at hdeps
                    have f17 : xs 17 = _ := hF 17 hdeps.1
                    have f19 : xs 19 = _ := hF 19 hdeps.2.1
                    have f16 : xs 16 = _ := hF 16 hdeps.2.2
                    simp only [frameOf, List.take_succ_cons, List.take_zero, Act.put, List.setIfInBounds_toArray, List.set_cons_zero, List.set_cons_succ, Nat.zero_add, Nat.reduceAdd]
                    go_simp
                    exact hK _ _ _ (by simp only [frameOf, List.take_succ_cons, List.take_zero, Act.put, List.setIfInBounds_toArray, List.set_cons_zero, List.set_cons_succ, Nat.zero_add, Nat.reduceAdd, f17, f19, f16]) hG (fun j u _ _ h => HKP.out j u _ _ (Below.refl _ _) h) rfl
                  case s21 =>
                    intro xs d W hd hdeps hG hF K hK
                    simp [Region.binds] at hdeps
                    have f16 : xs 16 = _ := hF 16 hdeps.1
                    have f20 : xs 20 = _ := hF 20 hdeps.2.1
                    have f12 : xs 12 = _ := hF 12 hdeps.2.2
                    simp only [frameOf, List.take_succ_cons, List.take_zero, Act.put, List.setIfInBounds_toArray, List.set_cons_zero, List.set_cons_succ, Nat.zero_add, Nat.reduceAdd]
                    go_simp
                    exact hK _ _ _ (by simp only [frameOf, List.take_succ_cons, List.take_zero, Act.put, List.setIfInBounds_toArray, List.set_cons_zero, List.set_cons_succ, Nat.zero_add, Nat.reduceAdd, f16, f20, f12]) hG (fun j u _ _ h => HKP.out j u _ _ (Below.refl _ _) h) rfl
                  case s22 =>
                    intro xs d W hd hdeps hG hF K hK
                    simp [Region.binds] at hdeps
                    have f12 : xs 12 = _ := hF 12 hdeps.1
                    have f21 : xs 21 = _ := hF 21 hdeps.2
                    simp only [frameOf, List.take_succ_cons, List.take_zero, Act.put, List.setIfInBounds_toArray, List.set_cons_zero, List.set_cons_succ, Nat.zero_add, Nat.reduceAdd]
                    go_simp
                    exact hK _ _ _ (by simp only [frameOf, List.take_succ_cons, List.take_zero, Act.put, List.setIfInBounds_toArray, List.set_cons_zero, List.set_cons_succ, Nat.zero_add, Nat.reduceAdd, f12, f21]) hG (fun j u _ _ h => HKP.out j u _ _ (Below.refl _ _) h) rfl
                  case e =>
                    intro xs W hG hF
                    have f22 : xs 22 = _ := hF 22 (by omega)
                    have HF := Lib.hid (H8.out.2.2.1.trans (hG.mono H8.out.2.2.1.size))
                    clear hG hF
                    simp only [frameOf, List.take_succ_cons, List.take_zero, List.drop_succ_cons, List.drop_zero, Act.put, List.setIfInBounds_toArray, List.set_cons_zero, List.set_cons_succ, Nat.zero_add, Nat.reduceAdd, f22]
                    go_wp2_with fail
                    go_ret
                    exact ⟨rfl, HF.out⟩
                | some z =>
                  obtain ⟨Z1, z1, Z2, z2, Z3, z3, f4', hz⟩ := f4
                  obtain ⟨Y1, y1, Y2, y2, Y3, y3, f12', hz2⟩ := f12
                  have f13' : xs 13 = .pointer (some ⟨ga, 0, none⟩) := f13
                  have f14' : xs 14 = .pointer (some ⟨gb, 0, none⟩) := f14
                  simp only [frameOf, List.take_succ_cons, List.take_zero, List.drop_succ_cons, List.drop_zero, Act.put, List.setIfInBounds_toArray, List.set_cons_zero, List.set_cons_succ, Nat.zero_add, Nat.reduceAdd, f4', f12', f13', f14']
                  obtain ⟨W8, hW8, hA2, hB, hot, hbl⟩ := two_stores hga hgb hne (.int .i64 z.kind) (.int .i64 z.half) (.string z.text) (.slice Z1 z.list.length z1) (.slice Z2 z.keys.length z2) (.slice Z3 z.vals.length z3) (.int .i64 0) (.int .i64 z.kind) (.int .i64 z.half) (.string z.text) (.slice Y1 z.list.length y1) (.slice Y2 z.keys.length y2) (.slice Y3 z.vals.length y3) (.int .i64 0)
                  have hbel := hbl _ _ HE.out.2.2.2.1 (by omega) (by omega)
                  have hbox8 := (hot w.heap.size (by have := box_lt H7.out.2.2.2.2.1; omega) (by have := box_lt H7.out.2.2.2.2.1; omega)).trans HE.out.2.2.2.2.1
                  have hzA := VRep.keep (w' := W8) (D' := fun b => b < W8.heap.size) (fun b hb => hot b (hx4 b hb.2).1 (hx4 b hb.2).2) (fun b hb => by have h1 := hot b (hx4 b hb.2).1 (hx4 b hb.2).2; exact (Array.getElem?_eq_some_iff.1 (h1.trans (Array.getElem?_eq_getElem hb.1.2))).1) _ _ hz
                  have hzB := VRep.keep (w' := W8) (D' := fun b => b < W8.heap.size) (fun b hb => hot b (hx4 b hb.2).1 (hx4 b hb.2).2) (fun b hb => by have h1 := hot b (hx4 b hb.2).1 (hx4 b hb.2).2; exact (Array.getElem?_eq_some_iff.1 (h1.trans (Array.getElem?_eq_getElem hb.1.2))).1) _ _ hz2
                  have fza := box_frozen hga
                  have fzb := box_frozen hgb
                  have za0 := box_cell hga 0
                  have za1 := box_cell hga 1
                  have za2 := box_cell hga 2
                  have za3 := box_cell hga 3
                  have za4 := box_cell hga 4
                  have za5 := box_cell hga 5
                  have za6 := box_cell hga 6
                  simp at za0 za1 za2 za3 za4 za5 za6
                  have zb0 := box_cell hgb 0
                  have zb1 := box_cell hgb 1
                  have zb2 := box_cell hgb 2
                  have zb3 := box_cell hgb 3
                  have zb4 := box_cell hgb 4
                  have zb5 := box_cell hgb 5
                  have zb6 := box_cell hgb 6
                  simp at zb0 zb1 zb2 zb3 zb4 zb5 zb6
                  have H8 := Lib.hid (And.intro hA2 (And.intro hB (And.intro hbel (And.intro hbox8 (And.intro hzA hzB)))))
                  have HW8 := Lib.hid hW8
                  clear hA2 hB hot hbl hbel hbox8 hga hgb hx4 HE hW8 hzA hzB hz hz2
                  go_wp2_with fail
                  have hW8 := HW8.out
                  rw [HW8.out]
                  clear za0 za1 za2 za3 za4 za5 za6 zb0 zb1 zb2 zb3 zb4 zb5 zb6 fza fzb HW8
                  skip
                  have HKP : Hid (∀ (j : Nat) (u : Value) (W W' : World), Below W.heap.size W W' → (fun (_ : Nat → Prop) (j : Nat) (v : Value) (W8' : World) => match j with | 0 => v = .agg #[Value.int .i64 vk, .int .i64 vh, .string vt, .slice A1 vl.length c1, .slice A2 vks.length c2, .slice A3 vvs.length c3] | 1 => v = .agg #[Value.int .i64 5, .int .i64 0, .string noText, .slice none 0 0, .slice none 0 0, .slice none 0 0] | 2 => ResV (some jv) v W8' fun b => b < W8'.heap.size | 3 => v = .agg #[Value.int .i64 vk, .int .i64 vh, .string vt, .slice A1 vl.length c1, .slice A2 vks.length c2, .slice A3 vvs.length c3] | 4 => v = .bool true | 5 => v = .bool true | 6 => v = .pointer (some ⟨ga, 6, none⟩) | 7 => v = .int .i64 0 | 8 => v = .pointer (some ⟨gb, 6, none⟩) | 9 => v = .int .i64 0 | 10 => v = .bool true | 11 => v = .bool true | 12 => v = .bool true | 13 => v = .pointer (some ⟨ga, 6, none⟩) | 14 => v = .int .i64 0 | 15 => v = .bool false | 16 => v = .bool false | 17 => v = .agg #[Value.int .i64 z.kind, .int .i64 z.half, .string z.text, .slice Y1 z.list.length y1, .slice Y2 z.keys.length y2, .slice Y3 z.vals.length y3, .int .i64 0] | 18 => v = .pointer (some ⟨ga, 0, none⟩) | 19 => v = .agg #[Value.int .i64 z.kind, .int .i64 z.half, .string z.text, .slice Z1 z.list.length z1, .slice Z2 z.keys.length z2, .slice Z3 z.vals.length z3] | 20 => v = .bool true | 21 => v = .bool true | 22 => v = .bool true | _ => True) (fun _ => True) j u W → (fun (_ : Nat → Prop) (j : Nat) (v : Value) (W8' : World) => match j with | 0 => v = .agg #[Value.int .i64 vk, .int .i64 vh, .string vt, .slice A1 vl.length c1, .slice A2 vks.length c2, .slice A3 vvs.length c3] | 1 => v = .agg #[Value.int .i64 5, .int .i64 0, .string noText, .slice none 0 0, .slice none 0 0, .slice none 0 0] | 2 => ResV (some jv) v W8' fun b => b < W8'.heap.size | 3 => v = .agg #[Value.int .i64 vk, .int .i64 vh, .string vt, .slice A1 vl.length c1, .slice A2 vks.length c2, .slice A3 vvs.length c3] | 4 => v = .bool true | 5 => v = .bool true | 6 => v = .pointer (some ⟨ga, 6, none⟩) | 7 => v = .int .i64 0 | 8 => v = .pointer (some ⟨gb, 6, none⟩) | 9 => v = .int .i64 0 | 10 => v = .bool true | 11 => v = .bool true | 12 => v = .bool true | 13 => v = .pointer (some ⟨ga, 6, none⟩) | 14 => v = .int .i64 0 | 15 => v = .bool false | 16 => v = .bool false | 17 => v = .agg #[Value.int .i64 z.kind, .int .i64 z.half, .string z.text, .slice Y1 z.list.length y1, .slice Y2 z.keys.length y2, .slice Y3 z.vals.length y3, .int .i64 0] | 18 => v = .pointer (some ⟨ga, 0, none⟩) | 19 => v = .agg #[Value.int .i64 z.kind, .int .i64 z.half, .string z.text, .slice Z1 z.list.length z1, .slice Z2 z.keys.length z2, .slice Z3 z.vals.length z3] | 20 => v = .bool true | 21 => v = .bool true | 22 => v = .bool true | _ => True) (fun _ => True) j u W') := by
                    intro j u W W' hb h
                    match j, h with
                    | 0, h => exact h
                    | 1, h => exact h
                    | 2, h => exact h.keep (fun b hb' => hb.block b hb') (fun b hb' => Nat.lt_of_lt_of_le hb' hb.size)
                    | 3, h => exact h
                    | 4, h => exact h
                    | 5, h => exact h
                    | 6, h => exact h
                    | 7, h => exact h
                    | 8, h => exact h
                    | 9, h => exact h
                    | 10, h => exact h
                    | 11, h => exact h
                    | 12, h => exact h
                    | 13, h => exact h
                    | 14, h => exact h
                    | 15, h => exact h
                    | 16, h => exact h
                    | 17, h => exact h
                    | 18, h => exact h
                    | 19, h => exact h
                    | 20, h => exact h
                    | 21, h => exact h
                    | 22, h => exact h
                    | n + 23, _ => exact trivial
                  refine wp_region_RG 23 (by kernel_rfl) (by kernel_rfl) (Below W8.heap.size W8) (fun (_ : Nat → Prop) (j : Nat) (v : Value) (W8' : World) => match j with | 0 => v = .agg #[Value.int .i64 vk, .int .i64 vh, .string vt, .slice A1 vl.length c1, .slice A2 vks.length c2, .slice A3 vvs.length c3] | 1 => v = .agg #[Value.int .i64 5, .int .i64 0, .string noText, .slice none 0 0, .slice none 0 0, .slice none 0 0] | 2 => ResV (some jv) v W8' fun b => b < W8'.heap.size | 3 => v = .agg #[Value.int .i64 vk, .int .i64 vh, .string vt, .slice A1 vl.length c1, .slice A2 vks.length c2, .slice A3 vvs.length c3] | 4 => v = .bool true | 5 => v = .bool true | 6 => v = .pointer (some ⟨ga, 6, none⟩) | 7 => v = .int .i64 0 | 8 => v = .pointer (some ⟨gb, 6, none⟩) | 9 => v = .int .i64 0 | 10 => v = .bool true | 11 => v = .bool true | 12 => v = .bool true | 13 => v = .pointer (some ⟨ga, 6, none⟩) | 14 => v = .int .i64 0 | 15 => v = .bool false | 16 => v = .bool false | 17 => v = .agg #[Value.int .i64 z.kind, .int .i64 z.half, .string z.text, .slice Y1 z.list.length y1, .slice Y2 z.keys.length y2, .slice Y3 z.vals.length y3, .int .i64 0] | 18 => v = .pointer (some ⟨ga, 0, none⟩) | 19 => v = .agg #[Value.int .i64 z.kind, .int .i64 z.half, .string z.text, .slice Z1 z.list.length z1, .slice Z2 z.keys.length z2, .slice Z3 z.vals.length z3] | 20 => v = .bool true | 21 => v = .bool true | 22 => v = .bool true | _ => True) (by simp [AllSteps, frameOf, Act.put, upd]) ((Below.refl _ _).drew) ⟨?s0, ?s1, ?s2, ?s3, ?s4, ?s5, ?s6, ?s7, ?s8, ?s9, ?s10, ?s11, ?s12, ?s13, ?s14, ?s15, ?s16, ?s17, ?s18, ?s19, ?s20, ?s21, ?s22, trivial⟩ ?e
                  case s0 =>
                    intro xs d W hd hdeps hG hF K hK
                    clear hdeps
                    have hb := (hG.block _ (box_lt H8.out.2.2.2.1)).trans H8.out.2.2.2.1
                    have b0 := box_cell hb 0
                    have b1 := box_cell hb 1
                    have b2 := box_cell hb 2
                    have b3 := box_cell hb 3
                    have b4 := box_cell hb 4
                    have b5 := box_cell hb 5
                    simp at b0 b1 b2 b3 b4 b5
                    simp only [frameOf, List.take_succ_cons, List.take_zero, Act.put, List.setIfInBounds_toArray, List.set_cons_zero, List.set_cons_succ, Nat.zero_add, Nat.reduceAdd]
                    go_simp
                    exact hK _ _ _ (by simp only [frameOf, List.take_succ_cons, List.take_zero, Act.put, List.setIfInBounds_toArray, List.set_cons_zero, List.set_cons_succ, Nat.zero_add, Nat.reduceAdd]) hG (fun j u _ _ h => HKP.out j u _ _ (Below.refl _ _) h) rfl
                  case s1 =>
                    intro xs d W hd hdeps hG hF K hK
                    clear hdeps
                    have HA := Lib.hid (array_any [] (fun b => b < W.heap.size) (.slice none 0 0) W (emp _ _) (fun b hb => hb))
                    have HG2 := Lib.hid (And.intro hG hK)
                    clear hG hK hF
                    simp only [frameOf, List.take_succ_cons, List.take_zero, Act.put, List.setIfInBounds_toArray, List.set_cons_zero, List.set_cons_succ, Nat.zero_add, Nat.reduceAdd]
                    go_simp
                    go_wp2_with fail
                    refine HA.out.mono ?_
                    rintro e w6 ⟨rfl, -, hb6⟩
                    obtain ⟨hG, hK⟩ := HG2.out
                    exact hK _ _ _ (by simp only [frameOf, List.take_succ_cons, List.take_zero, Act.put, List.setIfInBounds_toArray, List.set_cons_zero, List.set_cons_succ, Nat.zero_add, Nat.reduceAdd]) (hG.trans (hb6.mono hG.size)) (fun j u _ _ h => HKP.out j u _ _ hb6 h) rfl
                  case s2 =>
                    intro xs d W hd hdeps hG hF K hK
                    simp [Region.binds] at hdeps
                    have f0 : xs 0 = _ := hF 0 hdeps.1
                    have f1 : xs 1 = _ := hF 1 hdeps.2
                    have hbw := H8.out.2.2.1.trans (hG.mono H8.out.2.2.1.size)
                    have HA := Lib.hid (GetPath_any jv [] (fun b => b < W.heap.size) _ _ W HJ.out.2.1.wf ⟨by simp, trivial⟩ (fun k hk => by simp at hk) (fun b hb => hb) (VRep.keep (fun _ _ => rfl) (fun b hb => Nat.lt_of_lt_of_le (HX.out.2.1 b hb) hbw.size) _ _ (HJ.out.1 W hbw).1) ⟨_, _, _, rfl, emp _ _, emp _ _, emp _ _⟩)
                    have HG2 := Lib.hid (And.intro hG hK)
                    clear hG hK hF hbw
                    simp only [frameOf, List.take_succ_cons, List.take_zero, Act.put, List.setIfInBounds_toArray, List.set_cons_zero, List.set_cons_succ, Nat.zero_add, Nat.reduceAdd]
                    rw [f0, f1]
                    go_simp
                    go_wp2_with fail
                    refine HA.out.mono ?_
                    intro e w6 hpost
                    unfold GPPost at hpost
                    simp only [getp] at hpost
                    obtain ⟨E1, e1, E2, e2, E3, e3, rfl, hyr, hb6⟩ := hpost
                    obtain ⟨hG, hK⟩ := HG2.out
                    exact hK _ _ _ (by simp only [frameOf, List.take_succ_cons, List.take_zero, Act.put, List.setIfInBounds_toArray, List.set_cons_zero, List.set_cons_succ, Nat.zero_add, Nat.reduceAdd, f0, f1]) (hG.trans (hb6.mono hG.size)) (fun j u _ _ h => HKP.out j u _ _ hb6 h) ⟨E1, e1, E2, e2, E3, e3, rfl, VRep.keep (fun _ _ => rfl) (fun b hb => hb.2) _ _ hyr⟩
                  case s3 =>
                    intro xs d W hd hdeps hG hF K hK
                    clear hdeps
                    have hb := (hG.block _ (box_lt H8.out.2.2.2.1)).trans H8.out.2.2.2.1
                    have b0 := box_cell hb 0
                    have b1 := box_cell hb 1
                    have b2 := box_cell hb 2
                    have b3 := box_cell hb 3
                    have b4 := box_cell hb 4
                    have b5 := box_cell hb 5
                    simp at b0 b1 b2 b3 b4 b5
                    simp only [frameOf, List.take_succ_cons, List.take_zero, Act.put, List.setIfInBounds_toArray, List.set_cons_zero, List.set_cons_succ, Nat.zero_add, Nat.reduceAdd]
                    go_simp
                    exact hK _ _ _ (by simp only [frameOf, List.take_succ_cons, List.take_zero, Act.put, List.setIfInBounds_toArray, List.set_cons_zero, List.set_cons_succ, Nat.zero_add, Nat.reduceAdd]) hG (fun j u _ _ h => HKP.out j u _ _ (Below.refl _ _) h) rfl
                  case s4 =>
                    intro xs d W hd hdeps hG hF K hK
                    simp [Region.binds] at hdeps
                    obtain ⟨E1, e1, E2, e2, E3, e3, f2, hyr⟩ := hF 2 hdeps.1
                    have f3 : xs 3 = _ := hF 3 hdeps.2.1
                    have hbw := H8.out.2.2.1.trans (hG.mono H8.out.2.2.1.size)
                    have HA := Lib.hid (given_fine jv jv (fun b => b < W.heap.size) E1 E2 E3 e1 e2 e3 _ W HJ.out.2.1.wf HJ.out.2.1.wf (fun b hb => hb) hyr (VRep.keep (fun _ _ => rfl) (fun b hb => Nat.lt_of_lt_of_le (HX.out.2.1 b hb) hbw.size) _ _ (HJ.out.1 W hbw).1))
                    have HG2 := Lib.hid (And.intro hG hK)
                    clear hG hK hF hbw hyr
                    simp only [frameOf, List.take_succ_cons, List.take_zero, Act.put, List.setIfInBounds_toArray, List.set_cons_zero, List.set_cons_succ, Nat.zero_add, Nat.reduceAdd]
                    rw [f2, f3]
                    go_simp
                    go_wp2_with fail
                    refine HA.out.mono ?_
                    rintro e w6 ⟨rfl, hb6⟩
                    rw [show (cmpJ jv jv == 0) = true by rw [cmpJ_self]; rfl]
                    obtain ⟨hG, hK⟩ := HG2.out
                    exact hK _ _ _ (by simp only [frameOf, List.take_succ_cons, List.take_zero, Act.put, List.setIfInBounds_toArray, List.set_cons_zero, List.set_cons_succ, Nat.zero_add, Nat.reduceAdd, f2, f3]) (hG.trans (hb6.mono hG.size)) (fun j u _ _ h => HKP.out j u _ _ hb6 h) rfl
                  case s5 =>
                    intro xs d W hd hdeps hG hF K hK
                    simp [Region.binds] at hdeps
                    have f4 : xs 4 = _ := hF 4 hdeps
                    simp only [frameOf, List.take_succ_cons, List.take_zero, Act.put, List.setIfInBounds_toArray, List.set_cons_zero, List.set_cons_succ, Nat.zero_add, Nat.reduceAdd]
                    go_simp
                    exact hK _ _ _ (by simp only [frameOf, List.take_succ_cons, List.take_zero, Act.put, List.setIfInBounds_toArray, List.set_cons_zero, List.set_cons_succ, Nat.zero_add, Nat.reduceAdd, f4]) hG (fun j u _ _ h => HKP.out j u _ _ (Below.refl _ _) h) rfl
                  case s6 =>
                    intro xs d W hd hdeps hG hF K hK
                    simp [Region.binds] at hdeps
                    have f5 : xs 5 = _ := hF 5 hdeps
                    simp only [frameOf, List.take_succ_cons, List.take_zero, Act.put, List.setIfInBounds_toArray, List.set_cons_zero, List.set_cons_succ, Nat.zero_add, Nat.reduceAdd]
                    go_simp
                    exact hK _ _ _ (by simp only [frameOf, List.take_succ_cons, List.take_zero, Act.put, List.setIfInBounds_toArray, List.set_cons_zero, List.set_cons_succ, Nat.zero_add, Nat.reduceAdd, f5]) hG (fun j u _ _ h => HKP.out j u _ _ (Below.refl _ _) h) rfl
                  case s7 =>
                    intro xs d W hd hdeps hG hF K hK
                    simp [Region.binds] at hdeps
                    have f6 : xs 6 = _ := hF 6 hdeps.1
                    have f5 : xs 5 = _ := hF 5 hdeps.2
                    have hb := (hG.block _ (box_lt H8.out.1)).trans H8.out.1
                    have b0 := box_cell hb 0
                    have b1 := box_cell hb 1
                    have b2 := box_cell hb 2
                    have b3 := box_cell hb 3
                    have b4 := box_cell hb 4
                    have b5 := box_cell hb 5
                    have b6 := box_cell hb 6
                    simp at b0 b1 b2 b3 b4 b5 b6
                    simp only [frameOf, List.take_succ_cons, List.take_zero, Act.put, List.setIfInBounds_toArray, List.set_cons_zero, List.set_cons_succ, Nat.zero_add, Nat.reduceAdd]
                    go_simp
                    exact hK _ _ _ (by simp only [frameOf, List.take_succ_cons, List.take_zero, Act.put, List.setIfInBounds_toArray, List.set_cons_zero, List.set_cons_succ, Nat.zero_add, Nat.reduceAdd, f6, f5]) hG (fun j u _ _ h => HKP.out j u _ _ (Below.refl _ _) h) rfl
                  case s8 =>
                    intro xs d W hd hdeps hG hF K hK
                    simp [Region.binds] at hdeps
                    have f5 : xs 5 = _ := hF 5 hdeps
                    simp only [frameOf, List.take_succ_cons, List.take_zero, Act.put, List.setIfInBounds_toArray, List.set_cons_zero, List.set_cons_succ, Nat.zero_add, Nat.reduceAdd]
                    go_simp
                    exact hK _ _ _ (by simp only [frameOf, List.take_succ_cons, List.take_zero, Act.put, List.setIfInBounds_toArray, List.set_cons_zero, List.set_cons_succ, Nat.zero_add, Nat.reduceAdd, f5]) hG (fun j u _ _ h => HKP.out j u _ _ (Below.refl _ _) h) rfl
                  case s9 =>
                    intro xs d W hd hdeps hG hF K hK
                    simp [Region.binds] at hdeps
                    have f8 : xs 8 = _ := hF 8 hdeps.1
                    have f5 : xs 5 = _ := hF 5 hdeps.2
                    have hb := (hG.block _ (box_lt H8.out.2.1)).trans H8.out.2.1
                    have b0 := box_cell hb 0
                    have b1 := box_cell hb 1
                    have b2 := box_cell hb 2
                    have b3 := box_cell hb 3
                    have b4 := box_cell hb 4
                    have b5 := box_cell hb 5
                    have b6 := box_cell hb 6
                    simp at b0 b1 b2 b3 b4 b5 b6
                    simp only [frameOf, List.take_succ_cons, List.take_zero, Act.put, List.setIfInBounds_toArray, List.set_cons_zero, List.set_cons_succ, Nat.zero_add, Nat.reduceAdd]
                    go_simp
                    exact hK _ _ _ (by simp only [frameOf, List.take_succ_cons, List.take_zero, Act.put, List.setIfInBounds_toArray, List.set_cons_zero, List.set_cons_succ, Nat.zero_add, Nat.reduceAdd, f8, f5]) hG (fun j u _ _ h => HKP.out j u _ _ (Below.refl _ _) h) rfl
                  case s10 =>
                    intro xs d W hd hdeps hG hF K hK
                    simp [Region.binds] at hdeps
                    have f7 : xs 7 = _ := hF 7 hdeps.1
                    have f9 : xs 9 = _ := hF 9 hdeps.2.1
                    have f5 : xs 5 = _ := hF 5 hdeps.2.2
                    simp only [frameOf, List.take_succ_cons, List.take_zero, Act.put, List.setIfInBounds_toArray, List.set_cons_zero, List.set_cons_succ, Nat.zero_add, Nat.reduceAdd]
                    go_simp
                    exact hK _ _ _ (by simp only [frameOf, List.take_succ_cons, List.take_zero, Act.put, List.setIfInBounds_toArray, List.set_cons_zero, List.set_cons_succ, Nat.zero_add, Nat.reduceAdd, f7, f9, f5]) hG (fun j u _ _ h => HKP.out j u _ _ (Below.refl _ _) h) rfl
                  case s11 =>
                    intro xs d W hd hdeps hG hF K hK
                    simp [Region.binds] at hdeps
                    have f5 : xs 5 = _ := hF 5 hdeps.1
                    have f10 : xs 10 = _ := hF 10 hdeps.2
                    simp only [frameOf, List.take_succ_cons, List.take_zero, Act.put, List.setIfInBounds_toArray, List.set_cons_zero, List.set_cons_succ, Nat.zero_add, Nat.reduceAdd]
                    go_simp
                    exact hK _ _ _ (by simp only [frameOf, List.take_succ_cons, List.take_zero, Act.put, List.setIfInBounds_toArray, List.set_cons_zero, List.set_cons_succ, Nat.zero_add, Nat.reduceAdd, f5, f10]) hG (fun j u _ _ h => HKP.out j u _ _ (Below.refl _ _) h) rfl
                  case s12 =>
                    intro xs d W hd hdeps hG hF K hK
                    simp [Region.binds] at hdeps
                    have f11 : xs 11 = _ := hF 11 hdeps.1
                    simp only [frameOf, List.take_succ_cons, List.take_zero, Act.put, List.setIfInBounds_toArray, List.set_cons_zero, List.set_cons_succ, Nat.zero_add, Nat.reduceAdd]
                    go_simp
                    exact hK _ _ _ (by simp only [frameOf, List.take_succ_cons, List.take_zero, Act.put, List.setIfInBounds_toArray, List.set_cons_zero, List.set_cons_succ, Nat.zero_add, Nat.reduceAdd, f11]) hG (fun j u _ _ h => HKP.out j u _ _ (Below.refl _ _) h) rfl
                  case s13 =>
                    intro xs d W hd hdeps hG hF K hK
                    simp [Region.binds] at hdeps
                    have f12 : xs 12 = _ := hF 12 hdeps
                    simp only [frameOf, List.take_succ_cons, List.take_zero, Act.put, List.setIfInBounds_toArray, List.set_cons_zero, List.set_cons_succ, Nat.zero_add, Nat.reduceAdd]
                    go_simp
                    exact hK _ _ _ (by simp only [frameOf, List.take_succ_cons, List.take_zero, Act.put, List.setIfInBounds_toArray, List.set_cons_zero, List.set_cons_succ, Nat.zero_add, Nat.reduceAdd, f12]) hG (fun j u _ _ h => HKP.out j u _ _ (Below.refl _ _) h) rfl
                  case s14 =>
                    intro xs d W hd hdeps hG hF K hK
                    simp [Region.binds] at hdeps
                    have f13 : xs 13 = _ := hF 13 hdeps.1
                    have f12 : xs 12 = _ := hF 12 hdeps.2
                    have hb := (hG.block _ (box_lt H8.out.1)).trans H8.out.1
                    have b0 := box_cell hb 0
                    have b1 := box_cell hb 1
                    have b2 := box_cell hb 2
                    have b3 := box_cell hb 3
                    have b4 := box_cell hb 4
                    have b5 := box_cell hb 5
                    have b6 := box_cell hb 6
                    simp at b0 b1 b2 b3 b4 b5 b6
                    simp only [frameOf, List.take_succ_cons, List.take_zero, Act.put, List.setIfInBounds_toArray, List.set_cons_zero, List.set_cons_succ, Nat.zero_add, Nat.reduceAdd]
                    go_simp
                    exact hK _ _ _ (by simp only [frameOf, List.take_succ_cons, List.take_zero, Act.put, List.setIfInBounds_toArray, List.set_cons_zero, List.set_cons_succ, Nat.zero_add, Nat.reduceAdd, f13, f12]) hG (fun j u _ _ h => HKP.out j u _ _ (Below.refl _ _) h) rfl
                  case s15 =>
                    intro xs d W hd hdeps hG hF K hK
                    simp [Region.binds] at hdeps
                    have f14 : xs 14 = _ := hF 14 hdeps.1
                    have f12 : xs 12 = _ := hF 12 hdeps.2
                    simp only [frameOf, List.take_succ_cons, List.take_zero, Act.put, List.setIfInBounds_toArray, List.set_cons_zero, List.set_cons_succ, Nat.zero_add, Nat.reduceAdd]
                    go_simp
                    exact hK _ _ _ (by simp only [frameOf, List.take_succ_cons, List.take_zero, Act.put, List.setIfInBounds_toArray, List.set_cons_zero, List.set_cons_succ, Nat.zero_add, Nat.reduceAdd, f14, f12]) hG (fun j u _ _ h => HKP.out j u _ _ (Below.refl _ _) h) rfl
                  case s16 =>
                    intro xs d W hd hdeps hG hF K hK
                    simp [Region.binds] at hdeps
                    have f15 : xs 15 = _ := hF 15 hdeps.1
                    have f12 : xs 12 = _ := hF 12 hdeps.2
                    simp only [frameOf, List.take_succ_cons, List.take_zero, Act.put, List.setIfInBounds_toArray, List.set_cons_zero, List.set_cons_succ, Nat.zero_add, Nat.reduceAdd]
                    go_simp
                    exact hK _ _ _ (by simp only [frameOf, List.take_succ_cons, List.take_zero, Act.put, List.setIfInBounds_toArray, List.set_cons_zero, List.set_cons_succ, Nat.zero_add, Nat.reduceAdd, f15, f12]) hG (fun j u _ _ h => HKP.out j u _ _ (Below.refl _ _) h) rfl
                  case s17 =>
                    intro xs d W hd hdeps hG hF K hK
                    simp [Region.binds] at hdeps
                    have f16 : xs 16 = _ := hF 16 hdeps
                    have hb := (hG.block _ (box_lt H8.out.2.1)).trans H8.out.2.1
                    have b0 := box_cell hb 0
                    have b1 := box_cell hb 1
                    have b2 := box_cell hb 2
                    have b3 := box_cell hb 3
                    have b4 := box_cell hb 4
                    have b5 := box_cell hb 5
                    have b6 := box_cell hb 6
                    simp at b0 b1 b2 b3 b4 b5 b6
                    simp only [frameOf, List.take_succ_cons, List.take_zero, Act.put, List.setIfInBounds_toArray, List.set_cons_zero, List.set_cons_succ, Nat.zero_add, Nat.reduceAdd]
                    go_simp
                    exact hK _ _ _ (by simp only [frameOf, List.take_succ_cons, List.take_zero, Act.put, List.setIfInBounds_toArray, List.set_cons_zero, List.set_cons_succ, Nat.zero_add, Nat.reduceAdd, f16]) hG (fun j u _ _ h => HKP.out j u _ _ (Below.refl _ _) h) rfl
                  case s18 =>
                    intro xs d W hd hdeps hG hF K hK
                    simp [Region.binds] at hdeps
                    have f16 : xs 16 = _ := hF 16 hdeps
                    simp only [frameOf, List.take_succ_cons, List.take_zero, Act.put, List.setIfInBounds_toArray, List.set_cons_zero, List.set_cons_succ, Nat.zero_add, Nat.reduceAdd]
                    go_simp
                    exact hK _ _ _ (by simp only [frameOf, List.take_succ_cons, List.take_zero, Act.put, List.setIfInBounds_toArray, List.set_cons_zero, List.set_cons_succ, Nat.zero_add, Nat.reduceAdd, f16]) hG (fun j u _ _ h => HKP.out j u _ _ (Below.refl _ _) h) rfl
                  case s19 =>
                    intro xs d W hd hdeps hG hF K hK
                    simp [Region.binds] at hdeps
                    have f18 : xs 18 = _ := hF 18 hdeps.1
                    have f16 : xs 16 = _ := hF 16 hdeps.2
                    have hb := (hG.block _ (box_lt H8.out.1)).trans H8.out.1
                    have b0 := box_cell hb 0
                    have b1 := box_cell hb 1
                    have b2 := box_cell hb 2
                    have b3 := box_cell hb 3
                    have b4 := box_cell hb 4
                    have b5 := box_cell hb 5
                    have b6 := box_cell hb 6
                    simp at b0 b1 b2 b3 b4 b5 b6
                    simp only [frameOf, List.take_succ_cons, List.take_zero, Act.put, List.setIfInBounds_toArray, List.set_cons_zero, List.set_cons_succ, Nat.zero_add, Nat.reduceAdd]
                    go_simp
                    exact hK _ _ _ (by simp only [frameOf, List.take_succ_cons, List.take_zero, Act.put, List.setIfInBounds_toArray, List.set_cons_zero, List.set_cons_succ, Nat.zero_add, Nat.reduceAdd, f18, f16]) hG (fun j u _ _ h => HKP.out j u _ _ (Below.refl _ _) h) rfl
                  case s20 =>
                    intro xs d W hd hdeps hG hF K hK
                    simp [Region.binds] at hdeps
                    have f17 : xs 17 = _ := hF 17 hdeps.1
                    have f19 : xs 19 = _ := hF 19 hdeps.2.1
                    have f16 : xs 16 = _ := hF 16 hdeps.2.2
                    have hza := VRep.keep (w' := W) (D' := fun b => b < W.heap.size) (fun b hb => hG.block b hb) (fun b hb => Nat.lt_of_lt_of_le hb hG.size) _ _ H8.out.2.2.2.2.1
                    have hzb := VRep.keep (w' := W) (D' := fun b => b < W.heap.size) (fun b hb => hG.block b hb) (fun b hb => Nat.lt_of_lt_of_le hb hG.size) _ _ H8.out.2.2.2.2.2
                    have hzw : z.WF := getp_WF H7.out.2.2.2.2.2.1 H7.out.2.2.2.2.2.2
                    have HA := Lib.hid (given_fine z z (fun b => b < W.heap.size) Y1 Y2 Y3 y1 y2 y3 _ W hzw hzw (fun b hb => hb) hzb hza)
                    have HG2 := Lib.hid (And.intro hG hK)
                    clear hG hK hF hza hzb hzw
                    simp only [frameOf, List.take_succ_cons, List.take_zero, Act.put, List.setIfInBounds_toArray, List.set_cons_zero, List.set_cons_succ, Nat.zero_add, Nat.reduceAdd]
                    rw [f17, f19]
                    go_simp
                    go_wp2_with fail
                    refine HA.out.mono ?_
                    rintro e w6 ⟨rfl, hb6⟩
                    rw [show (cmpJ z z == 0) = true by rw [cmpJ_self]; rfl]
                    obtain ⟨hG, hK⟩ := HG2.out
                    exact hK _ _ _ (by simp only [frameOf, List.take_succ_cons, List.take_zero, Act.put, List.setIfInBounds_toArray, List.set_cons_zero, List.set_cons_succ, Nat.zero_add, Nat.reduceAdd, f17, f19, f16]) (hG.trans (hb6.mono hG.size)) (fun j u _ _ h => HKP.out j u _ _ hb6 h) rfl
                  case s21 =>
                    intro xs d W hd hdeps hG hF K hK
                    simp [Region.binds] at hdeps
                    have f16 : xs 16 = _ := hF 16 hdeps.1
                    have f20 : xs 20 = _ := hF 20 hdeps.2.1
                    have f12 : xs 12 = _ := hF 12 hdeps.2.2
                    simp only [frameOf, List.take_succ_cons, List.take_zero, Act.put, List.setIfInBounds_toArray, List.set_cons_zero, List.set_cons_succ, Nat.zero_add, Nat.reduceAdd]
                    go_simp
                    exact hK _ _ _ (by simp only [frameOf, List.take_succ_cons, List.take_zero, Act.put, List.setIfInBounds_toArray, List.set_cons_zero, List.set_cons_succ, Nat.zero_add, Nat.reduceAdd, f16, f20, f12]) hG (fun j u _ _ h => HKP.out j u _ _ (Below.refl _ _) h) rfl
                  case s22 =>
                    intro xs d W hd hdeps hG hF K hK
                    simp [Region.binds] at hdeps
                    have f12 : xs 12 = _ := hF 12 hdeps.1
                    have f21 : xs 21 = _ := hF 21 hdeps.2
                    simp only [frameOf, List.take_succ_cons, List.take_zero, Act.put, List.setIfInBounds_toArray, List.set_cons_zero, List.set_cons_succ, Nat.zero_add, Nat.reduceAdd]
                    go_simp
                    exact hK _ _ _ (by simp only [frameOf, List.take_succ_cons, List.take_zero, Act.put, List.setIfInBounds_toArray, List.set_cons_zero, List.set_cons_succ, Nat.zero_add, Nat.reduceAdd, f12, f21]) hG (fun j u _ _ h => HKP.out j u _ _ (Below.refl _ _) h) rfl
                  case e =>
                    intro xs W hG hF
                    have f22 : xs 22 = _ := hF 22 (by omega)
                    have HF := Lib.hid (H8.out.2.2.1.trans (hG.mono H8.out.2.2.1.size))
                    clear hG hF
                    simp only [frameOf, List.take_succ_cons, List.take_zero, List.drop_succ_cons, List.drop_zero, Act.put, List.setIfInBounds_toArray, List.set_cons_zero, List.set_cons_succ, Nat.zero_add, Nat.reduceAdd, f22]
                    go_wp2_with fail
                    go_ret
                    exact ⟨rfl, HF.out⟩

end Go.Proofs.YtfhppajnnbbcjaaGreatDoor
end
