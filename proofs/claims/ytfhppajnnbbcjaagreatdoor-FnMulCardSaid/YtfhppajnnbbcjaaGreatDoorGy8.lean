/- Walks: impl.mapFromGo.
   Walks: impl.fromGo, whole.
   Walks: impl.result.
   Walks: gojq's funcGetpath, at straight paths.
   Walks: gojq.Compare's leaves: the order of integers, strings, doubles; typeIndex. -/
import Derived.Test.YtfhppajnnbbcjaaGreatDoorGy6
import Derived.Test.YtfhppajnnbbcjaaGreatDoorGy7
import Derived.Deep.Light
import Derived.Test.YtfhppajnnbbcjaaGreatDoorGy2
import Derived.Test.YtfhppajnnbbcjaaGreatDoorGy1

section
namespace Go.Proofs.YtfhppajnnbbcjaaGreatDoor
open Go.RowKit

def MfRel (ks : List ByteArray) (l : List J) (w : World) (kv : Value) (wr : World) (k : Nat) : Prop := ∃ u v, MfSt w wr ks kv u v k u v (l.take k)

theorem Tryz.info9 : (Tryz.prog.info? 9).map (fun i => (i.zero, i.size, i.bytes)) = some (some (.string ⟨#[]⟩), 1, 16) := by kernel_rfl

set_option maxRecDepth 100000 in
theorem mapFromGo_of (ks : List ByteArray) (l : List J) (hel : ∀ x ∈ l, FromGoOK x) (D : Nat → Prop) (r : Nat) (xs : List Value) (w : World) (wj : (J.obj ks l).WF) (hD : ∀ b, D b → All w b) (hDr : D r)
    (hm : MapIs w r ks.length ks xs) (hlx : ks.length = xs.length) (hal : AList w D l xs) :
    Calls Tryz.prog 130 #[.map (some r)] w (FromGoPost (.obj ks l) w) := by
  simp only [J.WF] at wj
  obtain ⟨hlen, hn, hsz, hsorted, wl⟩ := wj
  obtain ⟨i26, hi, hz0, hz1, hz2⟩ := info_parts Tryz.info26
  obtain ⟨i9, hi9, hy0, hy1, hy2⟩ := info_parts Tryz.info9
  have HI := Lib.hid (And.intro hi (And.intro hz0 (And.intro hz1 hz2)))
  have HI9 := Lib.hid (And.intro hi9 (And.intro hy0 (And.intro hy1 hy2)))
  clear hi hz0 hz1 hz2 hi9 hy0 hy1 hy2
  have HK := fun W => Lib.hid (mapsKeys_any r W)
  go_enter Tryz.func130, Tryz.ntmps130
  go_wp2_with fail
  refine (HK _).out.mono ?_
  rintro e w1 ⟨rfl, rfl⟩
  clear HK
  have hm2 : MapIs ((w.alloc (.cells #[.int .i64 0, .int .i64 0, .string ⟨#[]⟩, .slice none 0 0, .slice none 0 0, .slice none 0 0] 26)).alloc (.cells #[.int .i64 6, .int .i64 0, .string ⟨#[]⟩, .slice none 0 0, .slice none 0 0, .slice none 0 0] 26)) r ks.length ks xs := World.ownsMap.alloc (World.ownsMap.alloc hm _) _
  have HS := Lib.hid (sortedKeys_any r ks.length ks xs _ hm2 hlx hsorted hn)
  clear hm2
  go_wp2_with fail
  rw [World.size_alloc, World.size_alloc] at HS
  refine HS.out.mono ?_
  rintro e w1 ⟨kv, rfl, hkv, hb1⟩
  clear HS
  have h0 : MfRel ks l w kv w1 0 := by
    have hA : ∀ b, b < w.heap.size + 3 → w1.heap[b]? = _ := fun b hb => hb1.block b hb
    refine ⟨.slice none 0 0, .slice none 0 0, ?_, ⟨_, rfl, ?_⟩, ?_, hkv, ⟨by simp, .inl ⟨rfl, rfl⟩⟩, VGrow.none_ _ _ _, fun _ hg => (by cases hg), fun _ hg => (by cases hg)⟩
    · exact (((Below.refl _ _).alloc (Nat.le_refl _) _).alloc (by simp) _).alloc (by simp; omega) _ |>.trans (hb1.mono (by omega))
    · rw [hA _ (by omega), Below.heap_alloc _ _ _ (by simp; omega), Below.heap_alloc _ _ _ (by simp)]
      exact heap_alloc_new w _
    · rw [hA _ (by omega), Below.heap_alloc _ _ _ (by simp)]
      exact heap_alloc_new1 _ _ _
  obtain ⟨AK, cK, rfl, -⟩ := ownsRow_form hkv
  have H0 := Lib.hid h0
  clear h0 hkv hb1
  go_wp2_with fail
  go_loopw [14] (fun i wr => ∃ k : Nat, k ≤ ks.length ∧ i = .int .i64 k ∧ Hid (MfRel ks l w (.slice AK ks.length cK) wr k)) (fun i _ => ks.length - (intOf i).toNat)
  case atStart => exact ⟨0, Nat.zero_le _, rfl, H0⟩
  case round =>
    clear H0
    obtain ⟨k, hk, rfl, hR⟩ := hrel
    obtain ⟨u, v, hst⟩ := hR.out
    clear hR
    by_cases ha : k < ks.length
    · obtain ⟨x, hx⟩ : ∃ x, l[k]? = some x := ⟨_, List.getElem?_eq_getElem (by omega)⟩
      obtain ⟨kk, hkx⟩ : ∃ s, ks[k]? = some s := ⟨_, List.getElem?_eq_getElem ha⟩
      obtain ⟨y, hy, hay⟩ := (AList.keep (Same.of_below hst.below hD) (fun _ h => h) _ _ hal).get hx
      obtain ⟨A', c', he', hg', hc', hc''⟩ := ownsRow_form hst.src
      obtain ⟨g, hA, hg1, hg2, hg3⟩ := hg' (by omega)
      cases he'
      subst hA
      have hkc : wr.cell? ⟨g, k, none⟩ = some (.string kk) := hg3 k _ (by simp [hkx])
      clear hg3 hg'
      have hmr : MapIs wr r ks.length ks xs := hm.keep (Same.of_below hst.below hD) hDr
      obtain ⟨hlk, -⟩ := hmr.hit hsorted hkx hy (hsz _ (List.mem_of_getElem? hkx))
      clear hmr
      have HC := Lib.hid (hel x (List.mem_of_getElem? hx) D y wr (WFL_iff.1 wl _ (List.mem_of_getElem? hx)) (fun b hb' => Nat.lt_of_lt_of_le (hD b hb') hst.below.size) hay)
      have HST := Lib.hid hst
      have HL := Lib.hid hlen
      have HX := Lib.hid (And.intro hx hkx)
      have HW := Lib.hid (And.intro hsorted (And.intro hsz wl))
      have HM := Lib.hid (And.intro hm (And.intro hal hel))
      clear hst hay hlen hx hkx hsorted hsz wl hm hal hy hel
      go_wp2_with fail
      refine HC.out.mono ?_
      rintro e w1 ⟨cs, rfl, hcs, hb1⟩
      clear HC hlk hkc
      obtain ⟨A2, c2, A3, c3, A4, c4, rfl⟩ := SRep.six hcs
      have HA : Hid (MfAll w (w1.alloc (.cells #[.int .i64 x.kind, .int .i64 x.half, .string x.text, .slice A2 x.list.length c2, .slice A3 x.keys.length c3, .slice A4 x.vals.length c4] 26)).drew ks (.slice (some ⟨g, 0, none⟩) ks.length cK) u v k u v (l.take k) x [.int .i64 x.kind, .int .i64 x.half, .string x.text, .slice A2 x.list.length c2, .slice A3 x.keys.length c3, .slice A4 x.vals.length c4] [(w1.heap.size, .cells #[.int .i64 x.kind, .int .i64 x.half, .string x.text, .slice A2 x.list.length c2, .slice A3 x.keys.length c3, .slice A4 x.vals.length c4] 26)]) := by
        have hge : w.heap.size + 3 ≤ w1.heap.size := by have := hb1.size; omega
        have hs1 := HST.out.turn (hb1.mono (by omega)) (fun b _ hlt => hb1.block b hlt)
        have hx1 : MfX w w1 u v x [.int .i64 x.kind, .int .i64 x.half, .string x.text, .slice A2 x.list.length c2, .slice A3 x.keys.length c3, .slice A4 x.vals.length c4] := VRep.keep (fun _ _ => rfl) (fun b hb => ⟨⟨by have := hb.1; omega, fun e => by have := HST.out.keys.lt b e.symm; have := hb.1; omega⟩, hb.2, fun e => by have := HST.out.vals.own_lt b e.symm; have := hb.1; omega⟩) _ _ hcs
        have h0 : MfAll w w1 ks (.slice (some ⟨g, 0, none⟩) ks.length cK) u v k u v (l.take k) x [.int .i64 x.kind, .int .i64 x.half, .string x.text, .slice A2 x.list.length c2, .slice A3 x.keys.length c3, .slice A4 x.vals.length c4] [] := ⟨hs1, hx1, hge, fun p hp => by cases hp⟩
        have h1 := h0.alloc (.cells #[.int .i64 x.kind, .int .i64 x.half, .string x.text, .slice A2 x.list.length c2, .slice A3 x.keys.length c3, .slice A4 x.vals.length c4] 26)
        exact ⟨h1.st.turn (below_drewN (Below.refl _ _) 1) (fun _ _ _ => rfl), h1.x.turn (fun _ _ _ => rfl) (Nat.le_refl _), h1.size, h1.box⟩
      have hbx : w.heap.size + 3 ≤ w1.heap.size := by have := hb1.size; omega
      have HLX := Lib.hid hlx
      clear hcs hb1 hlx hD HM
      go_wp2_with fail
      refine wp_region_late (st := 11) (fun b W' => (b = false → W'.heap[w.heap.size + 1]? = some (.cells #[.int .i64 6, .int .i64 0, .string ⟨#[]⟩, .slice none 0 0, u, v] 26 (0, 0))) ∧
        W'.heap[w1.heap.size]? = some (.cells #[.int .i64 x.kind, .int .i64 x.half, .string x.text, .slice A2 x.list.length c2, .slice A3 x.keys.length c3, .slice A4 x.vals.length c4] 26 (0, 0))) 14 #[false, false, false, false, false, false, false, false, false, false, false, false, false, false] (by kernel_rfl) rfl rfl ?_
      generalize (w1.alloc (.cells #[.int .i64 x.kind, .int .i64 x.half, .string x.text, .slice A2 x.list.length c2, .slice A3 x.keys.length c3, .slice A4 x.vals.length c4] 26)).drew = W at HA ⊢
      have HS : ∀ W' : World, W'.heap[w.heap.size + 1]? = some (.cells #[.int .i64 6, .int .i64 0, .string ⟨#[]⟩, .slice none 0 0, u, v] 26 (0, 0)) → W'.heap[w1.heap.size]? = some (.cells #[.int .i64 x.kind, .int .i64 x.half, .string x.text, .slice A2 x.list.length c2, .slice A3 x.keys.length c3, .slice A4 x.vals.length c4] 26 (0, 0)) → (fun (b : Bool) (W' : World) => (b = false → W'.heap[w.heap.size + 1]? = some (.cells #[.int .i64 6, .int .i64 0, .string ⟨#[]⟩, .slice none 0 0, u, v] 26 (0, 0))) ∧
        W'.heap[w1.heap.size]? = some (.cells #[.int .i64 x.kind, .int .i64 x.half, .string x.text, .slice A2 x.list.length c2, .slice A3 x.keys.length c3, .slice A4 x.vals.length c4] 26 (0, 0))) false W' := fun _ h1 h2 => ⟨fun _ => h1, h2⟩
      have hS := HS _ HA.out.st.out (HA.out.box (w1.heap.size, _) (by simp)).1
      refine wpAnyQ_take' (S0 := fun _ => True) (i := 0) (oi := ⟨some 28, .fieldAddr 26 (.tmp 4) 4, _, _, _, _⟩) (v := ?_) (fun _ _ _ => trivial) rfl (by kernel_rfl) (by kernel_rfl) (by kernel_rfl) (by kernel_rfl) (fun _ _ _ h => h) (Or.inl ⟨by rfl, ?_⟩) hS ?_
      rotate_left
      · intro W' _; go_simp; with_reducible rfl
      simp only [Act.put, List.setIfInBounds_toArray, List.set_cons_zero, List.set_cons_succ]
      refine wpAnyQ_take (i := 1) (oi := ⟨some 29, .load 24 (.tmp 28), _, _, _, _⟩) (v := ?_) rfl (by kernel_rfl) (by kernel_rfl) (by kernel_rfl) (by kernel_rfl) (fun _ _ _ h => h) (Or.inl ⟨by rfl, ?_⟩) hS ?_
      rotate_left
      · intro W' hW'
        have hc : W'.cell? ⟨w.heap.size + 1, 4, none⟩ = some u := box_cell (hW'.1 rfl) 4
        go_simp; with_reducible rfl
      simp only [Act.put, List.setIfInBounds_toArray, List.set_cons_zero, List.set_cons_succ]
      refine wpAnyQ_take' (S0 := fun _ => True) (i := 2) (oi := ⟨some 30, .move (.tmp 6), _, _, _, _⟩) (v := ?_) (fun _ _ _ => trivial) rfl (by kernel_rfl) (by kernel_rfl) (by kernel_rfl) (by kernel_rfl) (fun _ _ _ h => h) (Or.inl ⟨by rfl, ?_⟩) hS ?_
      rotate_left
      · intro W' _; go_simp; with_reducible rfl
      simp only [Act.put, List.setIfInBounds_toArray, List.set_cons_zero, List.set_cons_succ]
      refine wpAnyQ_take' (S0 := fun _ => True) (i := 5) (oi := ⟨some 33, .fieldAddr 26 (.tmp 4) 5, _, _, _, _⟩) (v := ?_) (fun _ _ _ => trivial) rfl (by kernel_rfl) (by kernel_rfl) (by kernel_rfl) (by kernel_rfl) (fun _ _ _ h => h) (Or.inl ⟨by rfl, ?_⟩) hS ?_
      rotate_left
      · intro W' _; go_simp; with_reducible rfl
      simp only [Act.put, List.setIfInBounds_toArray, List.set_cons_zero, List.set_cons_succ]
      refine wpAnyQ_take (i := 6) (oi := ⟨some 34, .load 23 (.tmp 33), _, _, _, _⟩) (v := ?_) rfl (by kernel_rfl) (by kernel_rfl) (by kernel_rfl) (by kernel_rfl) (fun _ _ _ h => h) (Or.inl ⟨by rfl, ?_⟩) hS ?_
      rotate_left
      · intro W' hW'
        have hc : W'.cell? ⟨w.heap.size + 1, 5, none⟩ = some v := box_cell (hW'.1 rfl) 5
        go_simp; with_reducible rfl
      simp only [Act.put, List.setIfInBounds_toArray, List.set_cons_zero, List.set_cons_succ]
      refine wpAnyQ_take' (S0 := fun W' => W'.heap[w1.heap.size]? = some (.cells #[.int .i64 x.kind, .int .i64 x.half, .string x.text, .slice A2 x.list.length c2, .slice A3 x.keys.length c3, .slice A4 x.vals.length c4] 26 (0, 0))) (i := 7) (oi := ⟨some 35, .load 26 (.tmp 7), _, _, _, _⟩) (v := ?_) (fun _ _ h => h.2) rfl (by kernel_rfl) (by kernel_rfl) (by kernel_rfl) (by kernel_rfl) (fun _ _ _ h => h) (Or.inl ⟨by rfl, ?_⟩) hS ?_
      rotate_left
      · intro W' hW'
        have hc0 : W'.cell? ⟨w1.heap.size, 0, none⟩ = some _ := box_cell hW' 0
        have hc1 : W'.cell? ⟨w1.heap.size, 1, none⟩ = some _ := box_cell hW' 1
        have hc2 : W'.cell? ⟨w1.heap.size, 2, none⟩ = some _ := box_cell hW' 2
        have hc3 : W'.cell? ⟨w1.heap.size, 3, none⟩ = some _ := box_cell hW' 3
        have hc4 : W'.cell? ⟨w1.heap.size, 4, none⟩ = some _ := box_cell hW' 4
        have hc5 : W'.cell? ⟨w1.heap.size, 5, none⟩ = some _ := box_cell hW' 5
        go_simp; with_reducible rfl
      simp only [Act.put, List.setIfInBounds_toArray, List.set_cons_zero, List.set_cons_succ]
      refine wpAnyQ_two (i := 3) (k := 8) (o := ⟨some 31, .buildSlice 24 1 #[(0, .tmp 30)], _, _, _, _⟩) (o' := ⟨some 36, .buildSlice 23 1 #[(0, .tmp 35)], _, _, _, _⟩) (by kernel_rfl) rfl rfl rfl rfl (fun K' hK => ?_) (fun K' hK => ?_)
      · go_simp
        have HA := Lib.hid (HA.out.alloc (.cells #[.string kk] 9))
        refine hK.out _ _ ⟨fun _ => HA.out.st.out, (HA.out.box (w1.heap.size, _) (by simp)).1⟩ ?_
        have hS := HS _ HA.out.st.out (HA.out.box (w1.heap.size, _) (by simp)).1
        clear hK K'
        refine wpAnyQ_two (i := 4) (k := 8) (o := ⟨some 32, .call { callee := .builtin .append, args := #[.tmp 29, .tmp 31], argTypes := #[24, 24] }, _, _, _, _⟩) (o' := ⟨some 36, .buildSlice 23 1 #[(0, .tmp 35)], _, _, _, _⟩) (by kernel_rfl) rfl rfl rfl rfl (fun K' hK => ?_) (fun K' hK => ?_)
        · refine wp_append_ownL (.tmp 29) (.tmp 31) 24 rfl (w.heap.size + 3) 9 i9 _ 1 16 Tryz.underlying24 HI9.out.1 HI9.out.2.1 HI9.out.2.2.1 HI9.out.2.2.2 rfl (by decide) u k _ rfl HA.out.st.keys ⟨_, 0, none⟩ 1 1 [.string kk] rfl rfl ?c1 ?c2 ?c3 ?c4 ?c5 ?_
          case c1 => exact HA.out.news (t := 9) (by simp)
          case c2 => intro y hy; simp at hy; subst hy; rfl
          case c3 => unfold maxLen; omega
          case c4 => omega
          case c5 => exact HA.out.size
          intro u' W2 hown2 hg2 hat2
          have HA := Lib.hid (HA.out.key HX.out.2 hown2 hg2 hat2)
          clear hown2 hg2 hat2
          refine hK.out _ _ ⟨fun _ => HA.out.st.out, (HA.out.box (w1.heap.size, _) (by simp)).1⟩ ?_
          have hS := HS _ HA.out.st.out (HA.out.box (w1.heap.size, _) (by simp)).1
          clear hK K'
          simp only [Act.put, List.setIfInBounds_toArray, List.set_cons_zero, List.set_cons_succ]
          refine wpAnyQ_take' (S0 := fun _ => True) (i := 10) (oi := ⟨some 38, .fieldAddr 26 (.tmp 4) 4, _, _, _, _⟩) (v := ?_) (fun _ _ _ => trivial) rfl (by kernel_rfl) (by kernel_rfl) (by kernel_rfl) (by kernel_rfl) (fun _ _ _ h => h) (Or.inl ⟨by rfl, ?_⟩) hS ?_
          rotate_left
          · intro W' _; go_simp; with_reducible rfl
          simp only [Act.put, List.setIfInBounds_toArray, List.set_cons_zero, List.set_cons_succ]
          refine wpAnyQ_one (i := 8) (o := ⟨some 36, .buildSlice 23 1 #[(0, .tmp 35)], _, _, _, _⟩) (by kernel_rfl) rfl rfl fun K' hK => ?_
          go_simp
          have HA := Lib.hid (HA.out.alloc (.cells #[.int .i64 x.kind, .int .i64 x.half, .string x.text, .slice A2 x.list.length c2, .slice A3 x.keys.length c3, .slice A4 x.vals.length c4] 26))
          refine hK.out _ _ ⟨fun _ => HA.out.st.out, (HA.out.box (w1.heap.size, _) (by simp)).1⟩ ?_
          have hS := HS _ HA.out.st.out (HA.out.box (w1.heap.size, _) (by simp)).1
          clear hK K'
          refine wpAnyQ_one (i := 9) (o := ⟨some 37, .call { callee := .builtin .append, args := #[.tmp 34, .tmp 36], argTypes := #[23, 23] }, _, _, _, _⟩) (by kernel_rfl) rfl rfl fun K' hK => ?_
          obtain ⟨ys, hown8, hch8⟩ := HA.out.st.vals
          have hlt8 : (l.take k).length = k := by rw [List.length_take, Nat.min_eq_left (by have := HL.out; omega)]
          refine wp_append_ownL (.tmp 34) (.tmp 36) 23 rfl (w.heap.size + 3) 26 i26 _ 6 104 Tryz.underlying23 HI.out.1 HI.out.2.1 HI.out.2.2.1 HI.out.2.2.2 rfl (by decide) v (l.take k).length ys rfl hown8 ⟨_, 0, none⟩ 1 1 [.int .i64 x.kind, .int .i64 x.half, .string x.text, .slice A2 x.list.length c2, .slice A3 x.keys.length c3, .slice A4 x.vals.length c4] rfl rfl ?d1 ?d2 ?d3 ?d4 ?d5 ?_
          case d1 => exact HA.out.news (t := 26) (by simp)
          case d2 => intro y hy; simp at hy; rcases hy with rfl | rfl | rfl | rfl | rfl | rfl <;> rfl
          case d3 => unfold maxLen; omega
          case d4 => omega
          case d5 => exact HA.out.size
          intro v' W3 hown3 hg3 hat3
          have HV := Lib.hid (HA.out.val rfl hch8 hown3 hg3 hat3)
          have hl8 : (l.take k ++ [x]).length = k + 1 := by simp; have := HL.out; omega
          clear hown3 hg3 hat3 hown8 hch8 hlt8 HA
          obtain ⟨Au, cu, rfl, -⟩ := ownsRow_form HV.out.1.keys
          obtain ⟨Av, cv, hv'⟩ := HV.out.1.vals.form
          rw [hl8] at hv'
          subst hv'
          clear hl8
          refine hK.out _ _ ⟨fun _ => HV.out.1.out, HV.out.2 (w1.heap.size, _) (by simp)⟩ ?_
          have hS := HS _ HV.out.1.out (HV.out.2 (w1.heap.size, _) (by simp))
          clear hK K'
          simp only [Act.put, List.setIfInBounds_toArray, List.set_cons_zero, List.set_cons_succ]
          refine wpAnyQ_one (i := 11) (o := ⟨none, .store 24 (.tmp 38) (.tmp 32), _, _, _, _⟩) (by kernel_rfl) rfl rfl fun K' hK => ?_
          have g4 := box_cell HV.out.1.out 4
          have g4' := box_frozen HV.out.1.out 4
          simp at g4
          go_simp
          refine hK.out _ _ ⟨(fun h => nomatch (show true = false from h)), ?_⟩ ?_
          · rw [heap_setCell_other _ _ _ _ (by simp; omega)]; exact HV.out.2 (w1.heap.size, _) (by simp)
          clear hK K'
          refine wpAnyQ_one (i := 12) (o := ⟨some 39, .fieldAddr 26 (.tmp 4) 5, _, _, _, _⟩) (by kernel_rfl) rfl rfl fun K' hK => ?_
          go_simp
          refine hK.out _ _ ⟨(fun h => nomatch (show true = false from h)), ?_⟩ ?_
          · rw [heap_setCell_other _ _ _ _ (by simp; omega)]; exact HV.out.2 (w1.heap.size, _) (by simp)
          clear hK K'
          refine wpAnyQ_one (i := 13) (o := ⟨none, .store 23 (.tmp 39) (.tmp 37), _, _, _, _⟩) (by kernel_rfl) rfl rfl fun K' hK => ?_
          have g5 := box_cell HV.out.1.out 5
          have g5' := box_frozen HV.out.1.out 5
          simp at g5
          go_simp
          refine hK.out _ _ ⟨(fun h => nomatch (show true = false from h)), ?_⟩ ?_
          · rw [heap_setCell_other _ _ _ _ (by simp; omega), heap_setCell_other _ _ _ _ (by simp; omega)]; exact HV.out.2 (w1.heap.size, _) (by simp)
          clear hK K'
          refine wpAnyQ_done (by kernel_rfl) ?_ _
          have h13 := HV.out.1.store
          rw [← take_snoc' HX.out.1] at h13
          have HN := Lib.hid (show MfRel ks l w (.slice (some ⟨g, 0, none⟩) ks.length cK) _ (k + 1) from ⟨_, _, h13⟩)
          clear h13
          clear hS
          go_wp2_with fail
          go_roundw
          case rel => exact ⟨k + 1, by omega, by go_num, HN⟩
          case measure => simp [intOf]; omega
        · go_simp
          have HA := Lib.hid (HA.out.alloc (.cells #[.int .i64 x.kind, .int .i64 x.half, .string x.text, .slice A2 x.list.length c2, .slice A3 x.keys.length c3, .slice A4 x.vals.length c4] 26))
          refine hK.out _ _ ⟨fun _ => HA.out.st.out, (HA.out.box (w1.heap.size, _) (by simp)).1⟩ ?_
          have hS := HS _ HA.out.st.out (HA.out.box (w1.heap.size, _) (by simp)).1
          clear hK K'
          refine wpAnyQ_one (i := 4) (o := ⟨some 32, .call { callee := .builtin .append, args := #[.tmp 29, .tmp 31], argTypes := #[24, 24] }, _, _, _, _⟩) (by kernel_rfl) rfl rfl fun K' hK => ?_
          refine wp_append_ownL (.tmp 29) (.tmp 31) 24 rfl (w.heap.size + 3) 9 i9 _ 1 16 Tryz.underlying24 HI9.out.1 HI9.out.2.1 HI9.out.2.2.1 HI9.out.2.2.2 rfl (by decide) u k _ rfl HA.out.st.keys ⟨_, 0, none⟩ 1 1 [.string kk] rfl rfl ?c1 ?c2 ?c3 ?c4 ?c5 ?_
          case c1 => exact HA.out.news (t := 9) (by simp)
          case c2 => intro y hy; simp at hy; subst hy; rfl
          case c3 => unfold maxLen; omega
          case c4 => omega
          case c5 => exact HA.out.size
          intro u' W2 hown2 hg2 hat2
          have HA := Lib.hid (HA.out.key HX.out.2 hown2 hg2 hat2)
          clear hown2 hg2 hat2
          refine hK.out _ _ ⟨fun _ => HA.out.st.out, (HA.out.box (w1.heap.size, _) (by simp)).1⟩ ?_
          have hS := HS _ HA.out.st.out (HA.out.box (w1.heap.size, _) (by simp)).1
          clear hK K'
          simp only [Act.put, List.setIfInBounds_toArray, List.set_cons_zero, List.set_cons_succ]
          refine wpAnyQ_take' (S0 := fun _ => True) (i := 10) (oi := ⟨some 38, .fieldAddr 26 (.tmp 4) 4, _, _, _, _⟩) (v := ?_) (fun _ _ _ => trivial) rfl (by kernel_rfl) (by kernel_rfl) (by kernel_rfl) (by kernel_rfl) (fun _ _ _ h => h) (Or.inl ⟨by rfl, ?_⟩) hS ?_
          rotate_left
          · intro W' _; go_simp; with_reducible rfl
          simp only [Act.put, List.setIfInBounds_toArray, List.set_cons_zero, List.set_cons_succ]
          refine wpAnyQ_one (i := 9) (o := ⟨some 37, .call { callee := .builtin .append, args := #[.tmp 34, .tmp 36], argTypes := #[23, 23] }, _, _, _, _⟩) (by kernel_rfl) rfl rfl fun K' hK => ?_
          obtain ⟨ys, hown8, hch8⟩ := HA.out.st.vals
          have hlt8 : (l.take k).length = k := by rw [List.length_take, Nat.min_eq_left (by have := HL.out; omega)]
          refine wp_append_ownL (.tmp 34) (.tmp 36) 23 rfl (w.heap.size + 3) 26 i26 _ 6 104 Tryz.underlying23 HI.out.1 HI.out.2.1 HI.out.2.2.1 HI.out.2.2.2 rfl (by decide) v (l.take k).length ys rfl hown8 ⟨_, 0, none⟩ 1 1 [.int .i64 x.kind, .int .i64 x.half, .string x.text, .slice A2 x.list.length c2, .slice A3 x.keys.length c3, .slice A4 x.vals.length c4] rfl rfl ?d1 ?d2 ?d3 ?d4 ?d5 ?_
          case d1 => exact HA.out.news (t := 26) (by simp)
          case d2 => intro y hy; simp at hy; rcases hy with rfl | rfl | rfl | rfl | rfl | rfl <;> rfl
          case d3 => unfold maxLen; omega
          case d4 => omega
          case d5 => exact HA.out.size
          intro v' W3 hown3 hg3 hat3
          have HV := Lib.hid (HA.out.val rfl hch8 hown3 hg3 hat3)
          have hl8 : (l.take k ++ [x]).length = k + 1 := by simp; have := HL.out; omega
          clear hown3 hg3 hat3 hown8 hch8 hlt8 HA
          obtain ⟨Au, cu, rfl, -⟩ := ownsRow_form HV.out.1.keys
          obtain ⟨Av, cv, hv'⟩ := HV.out.1.vals.form
          rw [hl8] at hv'
          subst hv'
          clear hl8
          refine hK.out _ _ ⟨fun _ => HV.out.1.out, HV.out.2 (w1.heap.size, _) (by simp)⟩ ?_
          have hS := HS _ HV.out.1.out (HV.out.2 (w1.heap.size, _) (by simp))
          clear hK K'
          simp only [Act.put, List.setIfInBounds_toArray, List.set_cons_zero, List.set_cons_succ]
          refine wpAnyQ_one (i := 11) (o := ⟨none, .store 24 (.tmp 38) (.tmp 32), _, _, _, _⟩) (by kernel_rfl) rfl rfl fun K' hK => ?_
          have g4 := box_cell HV.out.1.out 4
          have g4' := box_frozen HV.out.1.out 4
          simp at g4
          go_simp
          refine hK.out _ _ ⟨(fun h => nomatch (show true = false from h)), ?_⟩ ?_
          · rw [heap_setCell_other _ _ _ _ (by simp; omega)]; exact HV.out.2 (w1.heap.size, _) (by simp)
          clear hK K'
          refine wpAnyQ_one (i := 12) (o := ⟨some 39, .fieldAddr 26 (.tmp 4) 5, _, _, _, _⟩) (by kernel_rfl) rfl rfl fun K' hK => ?_
          go_simp
          refine hK.out _ _ ⟨(fun h => nomatch (show true = false from h)), ?_⟩ ?_
          · rw [heap_setCell_other _ _ _ _ (by simp; omega)]; exact HV.out.2 (w1.heap.size, _) (by simp)
          clear hK K'
          refine wpAnyQ_one (i := 13) (o := ⟨none, .store 23 (.tmp 39) (.tmp 37), _, _, _, _⟩) (by kernel_rfl) rfl rfl fun K' hK => ?_
          have g5 := box_cell HV.out.1.out 5
          have g5' := box_frozen HV.out.1.out 5
          simp at g5
          go_simp
          refine hK.out _ _ ⟨(fun h => nomatch (show true = false from h)), ?_⟩ ?_
          · rw [heap_setCell_other _ _ _ _ (by simp; omega), heap_setCell_other _ _ _ _ (by simp; omega)]; exact HV.out.2 (w1.heap.size, _) (by simp)
          clear hK K'
          refine wpAnyQ_done (by kernel_rfl) ?_ _
          have h13 := HV.out.1.store
          rw [← take_snoc' HX.out.1] at h13
          have HN := Lib.hid (show MfRel ks l w (.slice (some ⟨g, 0, none⟩) ks.length cK) _ (k + 1) from ⟨_, _, h13⟩)
          clear h13
          clear hS
          go_wp2_with fail
          go_roundw
          case rel => exact ⟨k + 1, by omega, by go_num, HN⟩
          case measure => simp [intOf]; omega
      · go_simp
        have HA := Lib.hid (HA.out.alloc (.cells #[.int .i64 x.kind, .int .i64 x.half, .string x.text, .slice A2 x.list.length c2, .slice A3 x.keys.length c3, .slice A4 x.vals.length c4] 26))
        refine hK.out _ _ ⟨fun _ => HA.out.st.out, (HA.out.box (w1.heap.size, _) (by simp)).1⟩ ?_
        have hS := HS _ HA.out.st.out (HA.out.box (w1.heap.size, _) (by simp)).1
        clear hK K'
        refine wpAnyQ_one (i := 3) (o := ⟨some 31, .buildSlice 24 1 #[(0, .tmp 30)], _, _, _, _⟩) (by kernel_rfl) rfl rfl fun K' hK => ?_
        go_simp
        have HA := Lib.hid (HA.out.alloc (.cells #[.string kk] 9))
        refine hK.out _ _ ⟨fun _ => HA.out.st.out, (HA.out.box (w1.heap.size, _) (by simp)).1⟩ ?_
        have hS := HS _ HA.out.st.out (HA.out.box (w1.heap.size, _) (by simp)).1
        clear hK K'
        refine wpAnyQ_one (i := 4) (o := ⟨some 32, .call { callee := .builtin .append, args := #[.tmp 29, .tmp 31], argTypes := #[24, 24] }, _, _, _, _⟩) (by kernel_rfl) rfl rfl fun K' hK => ?_
        refine wp_append_ownL (.tmp 29) (.tmp 31) 24 rfl (w.heap.size + 3) 9 i9 _ 1 16 Tryz.underlying24 HI9.out.1 HI9.out.2.1 HI9.out.2.2.1 HI9.out.2.2.2 rfl (by decide) u k _ rfl HA.out.st.keys ⟨_, 0, none⟩ 1 1 [.string kk] rfl rfl ?c1 ?c2 ?c3 ?c4 ?c5 ?_
        case c1 => exact HA.out.news (t := 9) (by simp)
        case c2 => intro y hy; simp at hy; subst hy; rfl
        case c3 => unfold maxLen; omega
        case c4 => omega
        case c5 => exact HA.out.size
        intro u' W2 hown2 hg2 hat2
        have HA := Lib.hid (HA.out.key HX.out.2 hown2 hg2 hat2)
        clear hown2 hg2 hat2
        refine hK.out _ _ ⟨fun _ => HA.out.st.out, (HA.out.box (w1.heap.size, _) (by simp)).1⟩ ?_
        have hS := HS _ HA.out.st.out (HA.out.box (w1.heap.size, _) (by simp)).1
        clear hK K'
        simp only [Act.put, List.setIfInBounds_toArray, List.set_cons_zero, List.set_cons_succ]
        refine wpAnyQ_take' (S0 := fun _ => True) (i := 10) (oi := ⟨some 38, .fieldAddr 26 (.tmp 4) 4, _, _, _, _⟩) (v := ?_) (fun _ _ _ => trivial) rfl (by kernel_rfl) (by kernel_rfl) (by kernel_rfl) (by kernel_rfl) (fun _ _ _ h => h) (Or.inl ⟨by rfl, ?_⟩) hS ?_
        rotate_left
        · intro W' _; go_simp; with_reducible rfl
        simp only [Act.put, List.setIfInBounds_toArray, List.set_cons_zero, List.set_cons_succ]
        refine wpAnyQ_one (i := 9) (o := ⟨some 37, .call { callee := .builtin .append, args := #[.tmp 34, .tmp 36], argTypes := #[23, 23] }, _, _, _, _⟩) (by kernel_rfl) rfl rfl fun K' hK => ?_
        obtain ⟨ys, hown8, hch8⟩ := HA.out.st.vals
        have hlt8 : (l.take k).length = k := by rw [List.length_take, Nat.min_eq_left (by have := HL.out; omega)]
        refine wp_append_ownL (.tmp 34) (.tmp 36) 23 rfl (w.heap.size + 3) 26 i26 _ 6 104 Tryz.underlying23 HI.out.1 HI.out.2.1 HI.out.2.2.1 HI.out.2.2.2 rfl (by decide) v (l.take k).length ys rfl hown8 ⟨_, 0, none⟩ 1 1 [.int .i64 x.kind, .int .i64 x.half, .string x.text, .slice A2 x.list.length c2, .slice A3 x.keys.length c3, .slice A4 x.vals.length c4] rfl rfl ?d1 ?d2 ?d3 ?d4 ?d5 ?_
        case d1 => exact HA.out.news (t := 26) (by simp)
        case d2 => intro y hy; simp at hy; rcases hy with rfl | rfl | rfl | rfl | rfl | rfl <;> rfl
        case d3 => unfold maxLen; omega
        case d4 => omega
        case d5 => exact HA.out.size
        intro v' W3 hown3 hg3 hat3
        have HV := Lib.hid (HA.out.val rfl hch8 hown3 hg3 hat3)
        have hl8 : (l.take k ++ [x]).length = k + 1 := by simp; have := HL.out; omega
        clear hown3 hg3 hat3 hown8 hch8 hlt8 HA
        obtain ⟨Au, cu, rfl, -⟩ := ownsRow_form HV.out.1.keys
        obtain ⟨Av, cv, hv'⟩ := HV.out.1.vals.form
        rw [hl8] at hv'
        subst hv'
        clear hl8
        refine hK.out _ _ ⟨fun _ => HV.out.1.out, HV.out.2 (w1.heap.size, _) (by simp)⟩ ?_
        have hS := HS _ HV.out.1.out (HV.out.2 (w1.heap.size, _) (by simp))
        clear hK K'
        simp only [Act.put, List.setIfInBounds_toArray, List.set_cons_zero, List.set_cons_succ]
        refine wpAnyQ_one (i := 11) (o := ⟨none, .store 24 (.tmp 38) (.tmp 32), _, _, _, _⟩) (by kernel_rfl) rfl rfl fun K' hK => ?_
        have g4 := box_cell HV.out.1.out 4
        have g4' := box_frozen HV.out.1.out 4
        simp at g4
        go_simp
        refine hK.out _ _ ⟨(fun h => nomatch (show true = false from h)), ?_⟩ ?_
        · rw [heap_setCell_other _ _ _ _ (by simp; omega)]; exact HV.out.2 (w1.heap.size, _) (by simp)
        clear hK K'
        refine wpAnyQ_one (i := 12) (o := ⟨some 39, .fieldAddr 26 (.tmp 4) 5, _, _, _, _⟩) (by kernel_rfl) rfl rfl fun K' hK => ?_
        go_simp
        refine hK.out _ _ ⟨(fun h => nomatch (show true = false from h)), ?_⟩ ?_
        · rw [heap_setCell_other _ _ _ _ (by simp; omega)]; exact HV.out.2 (w1.heap.size, _) (by simp)
        clear hK K'
        refine wpAnyQ_one (i := 13) (o := ⟨none, .store 23 (.tmp 39) (.tmp 37), _, _, _, _⟩) (by kernel_rfl) rfl rfl fun K' hK => ?_
        have g5 := box_cell HV.out.1.out 5
        have g5' := box_frozen HV.out.1.out 5
        simp at g5
        go_simp
        refine hK.out _ _ ⟨(fun h => nomatch (show true = false from h)), ?_⟩ ?_
        · rw [heap_setCell_other _ _ _ _ (by simp; omega), heap_setCell_other _ _ _ _ (by simp; omega)]; exact HV.out.2 (w1.heap.size, _) (by simp)
        clear hK K'
        refine wpAnyQ_done (by kernel_rfl) ?_ _
        have h13 := HV.out.1.store
        rw [← take_snoc' HX.out.1] at h13
        have HN := Lib.hid (show MfRel ks l w (.slice (some ⟨g, 0, none⟩) ks.length cK) _ (k + 1) from ⟨_, _, h13⟩)
        clear h13
        clear hS
        go_wp2_with fail
        go_roundw
        case rel => exact ⟨k + 1, by omega, by go_num, HN⟩
        case measure => simp [intOf]; omega
    · have hk' : k = ks.length := by omega
      subst hk'
      obtain ⟨A, c, rfl, -⟩ := ownsRow_form hst.keys
      rw [List.take_of_length_le (by omega)] at hst
      obtain ⟨A', c', rfl⟩ := hst.vals.form
      obtain ⟨rs, rfl, hres⟩ := hst.res
      have hout := hst.out
      have q0 : wr.cell? ⟨w.heap.size + 1, 0, none⟩ = _ := box_cell hout 0
      have q1 : wr.cell? ⟨w.heap.size + 1, 1, none⟩ = _ := box_cell hout 1
      have q2 : wr.cell? ⟨w.heap.size + 1, 2, none⟩ = _ := box_cell hout 2
      have q3 : wr.cell? ⟨w.heap.size + 1, 3, none⟩ = _ := box_cell hout 3
      have q4 : wr.cell? ⟨w.heap.size + 1, 4, none⟩ = _ := box_cell hout 4
      have q5 : wr.cell? ⟨w.heap.size + 1, 5, none⟩ = _ := box_cell hout 5
      have r0 : wr.cell? ⟨w.heap.size, 0, none⟩ = _ := box_cell hres 0
      have r1 : wr.cell? ⟨w.heap.size, 1, none⟩ = _ := box_cell hres 1
      have r2 : wr.cell? ⟨w.heap.size, 2, none⟩ = _ := box_cell hres 2
      have r3 : wr.cell? ⟨w.heap.size, 3, none⟩ = _ := box_cell hres 3
      have r4 : wr.cell? ⟨w.heap.size, 4, none⟩ = _ := box_cell hres 4
      have r5 : wr.cell? ⟨w.heap.size, 5, none⟩ = _ := box_cell hres 5
      have fz := box_frozen hres
      have HST := Lib.hid hst
      have hsz := box_lt hout
      clear hst hres hout hel
      go_wp2_with fail
      refine bodyPost_ret (v := .tuple #[.agg #[.int .i64 6, .int .i64 0, .string noText, .slice none 0 0, .slice A l.length c, .slice A' l.length c'], .bool true]) (by simp [results, Tryz.results130, go_sem, r0, r1, r2, r3, r4, r5]; exact ⟨rfl, by omega⟩) rfl ?_
      refine ⟨_, rfl, ?_, ?_⟩
      · have := HST.out.finish (W' := (((((wr.setCell ⟨w.heap.size, 0, none⟩ (.int .i64 6)).setCell ⟨w.heap.size, 1, none⟩ (.int .i64 0)).setCell ⟨w.heap.size, 2, none⟩ (.string ⟨#[]⟩)).setCell ⟨w.heap.size, 3, none⟩ (.slice none 0 0)).setCell ⟨w.heap.size, 4, none⟩ (.slice A xs.length c)).setCell ⟨w.heap.size, 5, none⟩ (.slice A' l.length c')) (fun b hb => by iterate 6 rw [heap_setCell_other _ _ _ _ hb]) (by simp [World.setCell])
        rw [hlen] at this
        exact this
      · repeat (refine Below.setCell ?_ (by simp) _)
        exact HST.out.below

end Go.Proofs.YtfhppajnnbbcjaaGreatDoor
end

section
namespace Go.Proofs.YtfhppajnnbbcjaaGreatDoor
open Go.RowKit

set_option maxRecDepth 100000 in
theorem fromGo_arr (l : List J) (hel : ∀ x ∈ l, FromGoOK x) : FromGoOK (.arr l) := by
  intro D v w wj hD hv
  obtain ⟨S, rfl, hS⟩ := hv
  simp only [J.WF] at wj
  have hS' : SlAt D l.length S (fun b o => ARow (w.alloc (.cells #[.int .i64 0, .int .i64 0, .string ⟨#[]⟩, .slice none 0 0, .slice none 0 0, .slice none 0 0] 26)) D b l o) :=
    hS.mono (fun _ h => h) fun b o hb hr => ARow.keep (Same.of_below ((Below.refl _ _).alloc (Nat.le_refl _) _) hD) (fun _ h => h) _ _ _ hb hr
  have HC := Lib.hid (listFromGo_of l hel D S (w.alloc (.cells #[.int .i64 0, .int .i64 0, .string ⟨#[]⟩, .slice none 0 0, .slice none 0 0, .slice none 0 0] 26)) wj.2 wj.1 (fun b hb => by have := hD b hb; simp; omega) hS')
  clear hS hS' hel hD
  go_enter Tryz.func87, Tryz.ntmps87
  go_wp2_with fail
  refine HC.out.mono ?_
  clear HC
  rintro e w1 ⟨cs, rfl, hcs, hb1⟩
  obtain ⟨A2, c2, A3, c3, A4, c4, rfl⟩ := SRep.six hcs
  have hbox := box_new hb1 (by simp)
  have r0 : w1.cell? ⟨w.heap.size, 0, none⟩ = _ := box_cell hbox 0
  have r1 : w1.cell? ⟨w.heap.size, 1, none⟩ = _ := box_cell hbox 1
  have r2 : w1.cell? ⟨w.heap.size, 2, none⟩ = _ := box_cell hbox 2
  have r3 : w1.cell? ⟨w.heap.size, 3, none⟩ = _ := box_cell hbox 3
  have r4 : w1.cell? ⟨w.heap.size, 4, none⟩ = _ := box_cell hbox 4
  have r5 : w1.cell? ⟨w.heap.size, 5, none⟩ = _ := box_cell hbox 5
  have fz := box_frozen hbox
  have HCS := Lib.hid (And.intro hcs hb1)
  clear hcs hb1 hbox
  go_wp2_with fail
  refine bodyPost_ret (v := .tuple #[.agg #[.int .i64 (J.arr l).kind, .int .i64 (J.arr l).half, .string (J.arr l).text, .slice A2 (J.arr l).list.length c2, .slice A3 (J.arr l).keys.length c3, .slice A4 (J.arr l).vals.length c4], .bool true]) (by simp [results, Tryz.results87, go_sem, r0, r1, r2, r3, r4, r5]) rfl ?_
  refine ⟨_, rfl, VRep.keep (fun b hb => ?_) (fun b hb => ⟨by have := hb.1; simp at this; omega, by have := hb.2; simp [World.setCell]; exact this⟩) _ _ HCS.out.1, ?_⟩
  · have : b ≠ w.heap.size := by have := hb.1; simp at this; omega
    iterate 6 rw [heap_setCell_other _ _ _ _ this]
  · repeat (refine Below.setCell ?_ (by simp) _)
    exact ((Below.refl _ _).alloc (Nat.le_refl _) _).trans (HCS.out.2.mono (by simp))

set_option maxRecDepth 100000 in
theorem fromGo_obj (ks : List ByteArray) (l : List J) (hel : ∀ x ∈ l, FromGoOK x) : FromGoOK (.obj ks l) := by
  intro D v w wj hD hv
  obtain ⟨r, xs, rfl, hDr, hm, hlx, hal⟩ := hv
  have hsm : Same D w (w.alloc (.cells #[.int .i64 0, .int .i64 0, .string ⟨#[]⟩, .slice none 0 0, .slice none 0 0, .slice none 0 0] 26)) := Same.of_below ((Below.refl _ _).alloc (Nat.le_refl _) _) hD
  have HC := Lib.hid (mapFromGo_of ks l hel D r xs (w.alloc (.cells #[.int .i64 0, .int .i64 0, .string ⟨#[]⟩, .slice none 0 0, .slice none 0 0, .slice none 0 0] 26)) wj (fun b hb => by have := hD b hb; simp; omega) hDr (hm.keep hsm hDr) hlx (AList.keep hsm (fun _ h => h) _ _ hal))
  clear hsm hm hal hlx hDr hel hD
  go_enter Tryz.func87, Tryz.ntmps87
  go_wp2_with fail
  refine HC.out.mono ?_
  clear HC
  rintro e w1 ⟨cs, rfl, hcs, hb1⟩
  obtain ⟨A2, c2, A3, c3, A4, c4, rfl⟩ := SRep.six hcs
  have hbox := box_new hb1 (by simp)
  have r0 : w1.cell? ⟨w.heap.size, 0, none⟩ = _ := box_cell hbox 0
  have r1 : w1.cell? ⟨w.heap.size, 1, none⟩ = _ := box_cell hbox 1
  have r2 : w1.cell? ⟨w.heap.size, 2, none⟩ = _ := box_cell hbox 2
  have r3 : w1.cell? ⟨w.heap.size, 3, none⟩ = _ := box_cell hbox 3
  have r4 : w1.cell? ⟨w.heap.size, 4, none⟩ = _ := box_cell hbox 4
  have r5 : w1.cell? ⟨w.heap.size, 5, none⟩ = _ := box_cell hbox 5
  have fz := box_frozen hbox
  have HCS := Lib.hid (And.intro hcs hb1)
  clear hcs hb1 hbox
  go_wp2_with fail
  refine bodyPost_ret (v := .tuple #[.agg #[.int .i64 (J.obj ks l).kind, .int .i64 (J.obj ks l).half, .string (J.obj ks l).text, .slice A2 (J.obj ks l).list.length c2, .slice A3 (J.obj ks l).keys.length c3, .slice A4 (J.obj ks l).vals.length c4], .bool true]) (by simp [results, Tryz.results87, go_sem, r0, r1, r2, r3, r4, r5]) rfl ?_
  refine ⟨_, rfl, VRep.keep (fun b hb => ?_) (fun b hb => ⟨by have := hb.1; simp at this; omega, by have := hb.2; simp [World.setCell]; exact this⟩) _ _ HCS.out.1, ?_⟩
  · have : b ≠ w.heap.size := by have := hb.1; simp at this; omega
    iterate 6 rw [heap_setCell_other _ _ _ _ this]
  · repeat (refine Below.setCell ?_ (by simp) _)
    exact ((Below.refl _ _).alloc (Nat.le_refl _) _).trans (HCS.out.2.mono (by simp))

mutual
theorem fromGo_all : ∀ a : J, FromGoOK a
  | .null => fromGo_null
  | .bool b => fromGo_bool b
  | .num h => fromGo_num h
  | .str s => fromGo_str s
  | .arr l => fromGo_arr l (fromGo_alls l)
  | .obj ks vs => fromGo_obj ks vs (fromGo_alls vs)
theorem fromGo_alls : ∀ l : List J, ∀ x ∈ l, FromGoOK x
  | [], _, h => absurd h (by simp)
  | a :: l, x, h => (List.mem_cons.1 h).elim (fun e => e ▸ fromGo_all a) (fromGo_alls l x)
end

end Go.Proofs.YtfhppajnnbbcjaaGreatDoor
end

section
namespace Go.Proofs.YtfhppajnnbbcjaaGreatDoor
open Go.RowKit

theorem te_json {w : World} {D : Nat → Prop} {j : J} {v : Value} (h : ARep w D j v) (x : TypeId) (W : World) : (Instr.typeAssert v x 95 true).run Tryz.prog W = .ok (.tuple #[.nilIface, .bool false]) W := by
  cases j with
  | null => rw [show v = _ from h]; exact te_nil x W
  | bool b => rw [show v = _ from h]; exact te_4 x _ W
  | num h' =>
    rw [show v = _ from h]
    unfold numV
    split
    · exact te_3 x _ W
    · exact te_87 x _ W
  | str s => rw [show v = _ from h]; exact te_9 x _ W
  | arr l => obtain ⟨S, rfl, -⟩ := h; exact te_88 x _ W
  | obj ks vs => obtain ⟨r, xs, rfl, -⟩ := h; exact te_91 x _ W

/-- an answer that is a value -/
def ResOK (j : J) (w : World) (e : Ending) (w' : World) : Prop := ∃ A1 c1 A2 c2 A3 c3, e = .returned (.agg #[.int .i64 j.kind, .int .i64 j.half, .string j.text, .slice A1 j.list.length c1, .slice A2 j.keys.length c2, .slice A3 j.vals.length c3, .int .i64 0]) ∧
  SRep w' (Fresh w w') j [.int .i64 j.kind, .int .i64 j.half, .string j.text, .slice A1 j.list.length c1, .slice A2 j.keys.length c2, .slice A3 j.vals.length c3] ∧ Below w.heap.size w w'

/-- an answer that is an error -/
def ResErr (w : World) (e : Ending) (w' : World) : Prop := e = .returned (.agg #[.int .i64 0, .int .i64 0, .string ⟨#[]⟩, .slice none 0 0, .slice none 0 0, .slice none 0 0, .int .i64 1]) ∧ Below w.heap.size w w'

set_option maxRecDepth 100000 in
theorem result_err (T : TypeId) (v : Value) (w : World) (hT : ∀ (x : TypeId) (W : World), (Instr.typeAssert (.iface T v) x 95 true).run Tryz.prog W = .ok (.tuple #[.iface T v, .bool true]) W) :
    Calls Tryz.prog 43 #[.iface T v] w (ResErr w) := by
  go_enter Tryz.func43, Tryz.ntmps43
  go_wp2_with fail
  refine bodyPost_ret (v := .agg #[.int .i64 0, .int .i64 0, .string ⟨#[]⟩, .slice none 0 0, .slice none 0 0, .slice none 0 0, .int .i64 1]) (by simp [results, Tryz.results43, go_sem]) rfl ?_
  refine ⟨rfl, ?_⟩
  repeat (refine Below.setCell ?_ (by simp) _)
  exact (Below.refl _ _).alloc (Nat.le_refl _) _

set_option maxRecDepth 100000 in
theorem result_val (j : J) (D : Nat → Prop) (v : Value) (w : World) (wj : j.WF) (hD : ∀ b, D b → All w b) (hv : ARep w D j v) : Calls Tryz.prog 43 #[v] w (ResOK j w) := by
  have hT := te_json hv
  have hv1 : ARep (w.alloc (.cells #[.int .i64 0, .int .i64 0, .string ⟨#[]⟩, .slice none 0 0, .slice none 0 0, .slice none 0 0, .int .i64 0] 34)) D j v := ARep.keep (Same.of_below ((Below.refl _ _).alloc (Nat.le_refl _) _) hD) (fun _ h => h) _ _ hv
  have HC := Lib.hid (fromGo_all j D v (w.alloc (.cells #[.int .i64 0, .int .i64 0, .string ⟨#[]⟩, .slice none 0 0, .slice none 0 0, .slice none 0 0, .int .i64 0] 34)) wj (fun b hb => by have := hD b hb; simp; omega) hv1)
  clear hv hv1 hD
  go_enter Tryz.func43, Tryz.ntmps43
  go_wp2_with fail
  refine HC.out.mono ?_
  clear HC
  rintro e w1 ⟨cs, rfl, hcs, hb1⟩
  obtain ⟨A1, c1, A2, c2, A3, c3, rfl⟩ := SRep.six hcs
  have hbox := box_new hb1 (by simp)
  have r0 : w1.cell? ⟨w.heap.size, 0, none⟩ = _ := box_cell hbox 0
  have r1 : w1.cell? ⟨w.heap.size, 1, none⟩ = _ := box_cell hbox 1
  have r2 : w1.cell? ⟨w.heap.size, 2, none⟩ = _ := box_cell hbox 2
  have r3 : w1.cell? ⟨w.heap.size, 3, none⟩ = _ := box_cell hbox 3
  have r4 : w1.cell? ⟨w.heap.size, 4, none⟩ = _ := box_cell hbox 4
  have r5 : w1.cell? ⟨w.heap.size, 5, none⟩ = _ := box_cell hbox 5
  have r6 : w1.cell? ⟨w.heap.size, 6, none⟩ = _ := box_cell hbox 6
  have fz := box_frozen hbox
  have hlt := box_lt hbox
  have HCS := Lib.hid (And.intro hcs (And.intro hb1 hbox))
  clear hcs hb1 hbox
  go_wp2_with fail
  refine bodyPost_ret (v := .agg #[.int .i64 j.kind, .int .i64 j.half, .string j.text, .slice A1 j.list.length c1, .slice A2 j.keys.length c2, .slice A3 j.vals.length c3, .int .i64 0]) (by simp [results, Tryz.results43, go_sem, r0, r1, r2, r3, r4, r5, r6, hlt]) rfl ?_
  refine ⟨_, _, _, _, _, _, rfl, ?_, ?_⟩
  · refine VRep.keep (D := Fresh (w.alloc (.cells #[.int .i64 0, .int .i64 0, .string ⟨#[]⟩, .slice none 0 0, .slice none 0 0, .slice none 0 0, .int .i64 0] 34)) w1) (fun b hb => ?_) (fun b hb => ⟨by have := hb.1; simp at this; omega, by have := hb.2; simp [World.setCell]; omega⟩) _ _ HCS.out.1
    have hne : b ≠ w.heap.size := by have := hb.1; simp at this; omega
    rw [Below.heap_alloc _ _ _ (by simp [World.setCell]; exact hb.2)]
    iterate 7 rw [heap_setCell_other _ _ _ _ hne]
  · refine Below.alloc ?_ (by simp [World.setCell]; omega) _
    repeat (refine Below.setCell ?_ (by simp) _)
    exact ((Below.refl _ _).alloc (Nat.le_refl _) _).trans (HCS.out.2.1.mono (by simp))

end Go.Proofs.YtfhppajnnbbcjaaGreatDoor
end

section
namespace Go.Proofs.YtfhppajnnbbcjaaGreatDoor
open Go.RowKit

/-- is it null, an array or an object -/
def isBox : J → Bool
  | .null => true
  | .arr _ => true
  | .obj _ _ => true
  | _ => false

/-- what stands at a path -/
def getp : J → List J → Option J
  | x, [] => some x
  | x, k :: ps => if isBox x then (stepJ x k).bind fun y => getp y ps else none

theorem lookJ_WF : ∀ {ks : List ByteArray} {vs : List J} {s : ByteArray}, WFL vs → (lookJ ks vs s).WF
  | [], vs, _, _ => by cases vs <;> trivial
  | _ :: _, [], _, _ => trivial
  | k :: ks, v :: vs, s, h => by
    rw [lookJ]
    split
    · exact h.1
    · exact lookJ_WF h.2

theorem stepJ_WF {x k y : J} (h : stepJ x k = some y) (wx : x.WF) : y.WF := by
  cases x with
  | null => simp only [stepJ, Option.some.injEq] at h; subst h; trivial
  | arr l =>
    cases k <;> simp only [stepJ, Option.some.injEq, reduceCtorEq] at h
    subst h
    rename_i h'
    cases hq : l[(h' / 2).toNat]? with
    | none => trivial
    | some z => exact WFL_iff.1 wx.2 z (List.mem_of_getElem? hq)
  | obj ks vs =>
    cases k <;> simp only [stepJ, Option.some.injEq, reduceCtorEq] at h
    subst h
    exact lookJ_WF wx.2.2.2.2
  | _ => simp [stepJ] at h

theorem index2_any (x k : J) (D : Nat → Prop) (xv kv : Value) (w : World) (wx : x.WF) (hb : isBox x = true) (hk : Key k) (hxv : ARep w D x xv) (hkv : ARep w D k kv) : Calls Tryz.prog 151 #[.nilIface, xv, kv] w (StepPost D x k w) := by
  cases x with
  | null => rw [show xv = _ from hxv]; exact index2_null k D kv w hk hkv
  | arr l => exact index2_arr l k D xv kv w hk hxv hkv
  | obj ks vs => exact index2_obj ks vs k D xv kv w wx hk hxv hkv
  | _ => simp [isBox] at hb

def GetpPost (D : Nat → Prop) (x : J) (ps : List J) (w : World) (e : Ending) (w' : World) : Prop := match getp x ps with
  | some y => ∃ v, e = .returned v ∧ ARep w D y v ∧ w' = w
  | none => ∃ T v, e = .returned (.iface T v) ∧ (T = 159 ∨ T = 162) ∧ Below w.heap.size w w'

/-- what the type switch sees -/
theorem switch3 {w : World} {D : Nat → Prop} {x : J} {v : Value} (h : ARep w D x v) : (isBox x = true ∧ (v = .nilIface ∨ (∃ S, v = .iface 88 S) ∨ ∃ r, v = .iface 91 (.map (some r)))) ∨
    (isBox x = false ∧ ∃ T u, v = .iface T u ∧ T ≠ 88 ∧ T ≠ 91) := by
  cases x with
  | null => exact .inl ⟨rfl, .inl h⟩
  | arr l => obtain ⟨S, hv, -⟩ := h; exact .inl ⟨rfl, .inr (.inl ⟨S, hv⟩)⟩
  | obj ks vs => obtain ⟨r, xs, hv, -⟩ := h; exact .inl ⟨rfl, .inr (.inr ⟨r, hv⟩)⟩
  | bool b => exact .inr ⟨rfl, _, _, h, by decide, by decide⟩
  | str s => exact .inr ⟨rfl, _, _, h, by decide, by decide⟩
  | num n =>
    refine .inr ⟨rfl, ?_⟩
    rw [show v = numV n from h]
    unfold numV
    split
    · exact ⟨_, _, rfl, by decide, by decide⟩
    · exact ⟨_, _, rfl, by decide, by decide⟩

set_option maxHeartbeats 2000000 in
set_option maxRecDepth 100000 in
theorem getpath_any (x : J) (ps : List J) (D : Nat → Prop) (xv S : Value) (w : World) (wx : x.WF) (hps : ∀ k ∈ ps, Key k) (hn : ps.length ≤ 1048576) (hxv : ARep w D x xv) (hS : SlAt D ps.length S (fun b o => ARow w D b ps o)) :
    Calls Tryz.prog 98 #[xv, .iface 88 S] w (GetpPost D x ps w) := by
  obtain ⟨A, c, rfl, hc, hm, hr⟩ := hS
  unfold maxLen at hm
  have HX := Lib.hid (And.intro wx (And.intro hxv (And.intro hps hr)))
  have HSH : Hid (xv = .nilIface ∨ ∃ T u, xv = .iface T u) := by
    rcases switch3 hxv with ⟨-, h | ⟨S, h⟩ | ⟨r, h⟩⟩ | ⟨-, T, u, h, -⟩
    · exact .inl h
    · exact .inr ⟨_, _, h⟩
    · exact .inr ⟨_, _, h⟩
    · exact .inr ⟨_, _, h⟩
  clear wx hxv hps hr
  go_enter Tryz.func98, Tryz.ntmps98
  go_wp2_with fail
  go_loopw [0, 27] (fun v i wr => ∃ k : Nat, k ≤ ps.length ∧ i = .int .i64 k ∧ wr = w ∧ Hid (∃ y, y.WF ∧ ARep w D y v ∧ getp x ps = getp y (ps.drop k))) (fun _ i _ => ps.length - (intOf i).toNat)
  case atStart => exact ⟨0, Nat.zero_le _, rfl, rfl, x, HX.out.1, HX.out.2.1, rfl⟩
  case round =>
    obtain ⟨k, hk, rfl, rfl, hR⟩ := hrel
    by_cases ha : k < ps.length
    · obtain ⟨b, o, rfl, hb, hrow⟩ := HX.out.2.2.2 (by omega)
      obtain ⟨q, hq⟩ : ∃ q, ps[k]? = some q := ⟨_, List.getElem?_eq_getElem ha⟩
      obtain ⟨kv, hkc, hkv⟩ := hrow.get hq
      obtain ⟨y, wy, hy, hgp⟩ := hR.out
      have hdrop : ps.drop k = q :: ps.drop (k + 1) := by
        obtain ⟨hlt, rfl⟩ := List.getElem?_eq_some_iff.1 hq
        exact List.drop_eq_getElem_cons hlt
      rw [hdrop] at hgp
      have hqk : Key q := HX.out.2.2.1 q (List.mem_of_getElem? hq)
      rcases switch3 hy with ⟨hbx, hv⟩ | ⟨hbx, T, u, rfl, h88, h91⟩
      · have HI := Lib.hid (index2_any y q D _ kv wr wy hbx hqk hy hkv)
        have hg2 : getp x ps = (stepJ y q).bind fun z => getp z (ps.drop (k + 1)) := by rw [hgp, getp, if_pos hbx]
        have HG := Lib.hid (And.intro hg2 (And.intro wy ha))
        clear hR hrow hy hkv hgp hg2 hbx hqk hq hdrop wy
        rcases hv with rfl | ⟨S, rfl⟩ | ⟨r, rfl⟩
        all_goals
          go_wp2_with fail
          refine HI.out.mono ?_
          clear HI
          intro e w1 hpost
          unfold StepPost at hpost
          cases hst : stepJ y q with
          | some z =>
            rw [hst] at hpost
            obtain ⟨v', rfl, hv', rfl⟩ := hpost
            have hT := fun (x : TypeId) (W : World) => te_json hv' x W
            have HN := Lib.hid (show ∃ y, y.WF ∧ ARep w1 D y v' ∧ getp x ps = getp y (ps.drop (k + 1)) from ⟨z, stepJ_WF hst HG.out.2.1, hv', by rw [HG.out.1, hst]; rfl⟩)
            clear hv' hst
            go_wp2_with fail
            go_roundw
            case rel => exact ⟨k + 1, by have := HG.out.2.2; omega, by go_num, by trivial, HN⟩
            case measure => have := HG.out.2.2; simp [intOf]; omega
          | none =>
            rw [hst] at hpost
            obtain ⟨T, v', rfl, hT, hb1⟩ := hpost
            have HN := Lib.hid (And.intro hb1 (show getp x ps = none by rw [HG.out.1, hst]; rfl))
            clear hb1 hst
            have hsh := HSH.out
            rcases hsh with rfl | ⟨T0, u0, rfl⟩
            all_goals rcases hT with rfl | rfl
            all_goals
              go_wp2_with fail
              go_ret
              unfold GetpPost
              rw [HN.out.2]
              exact ⟨162, _, rfl, .inr rfl, HN.out.1.alloc (HN.out.1.size) _⟩
      · have HN := Lib.hid (show getp x ps = none by rw [hgp, getp, hbx]; rfl)
        clear hR hrow hy hkv hgp hbx hqk hq hdrop wy
        have hsh := HSH.out
        rcases hsh with rfl | ⟨T0, u0, rfl⟩
        all_goals
          go_wp2_with fail
          go_ret
          unfold GetpPost
          rw [HN.out]
          exact ⟨159, _, rfl, .inl rfl, (Below.refl _ _).alloc (Nat.le_refl _) _⟩
    · obtain ⟨y, wy, hy, hgp⟩ := hR.out
      have hk' : k = ps.length := by omega
      subst hk'
      rw [List.drop_length] at hgp
      have HN := Lib.hid (And.intro hy hgp)
      clear hR hy hgp wy
      go_wp2_with fail
      go_ret
      unfold GetpPost
      rw [HN.out.2]
      exact ⟨_, rfl, HN.out.1, rfl⟩

end Go.Proofs.YtfhppajnnbbcjaaGreatDoor
end

section
namespace Go.Proofs.YtfhppajnnbbcjaaGreatDoor
open Go.RowKit

def ordI : Ordering → Int
  | .lt => -1
  | .eq => 0
  | .gt => 1

theorem ordI_compare (x y : Int) : ordI (compare x y) = sgn (x - y) := by
  unfold sgn
  rcases Int.lt_trichotomy x y with h | h | h
  · rw [show compare x y = .lt from Int.compare_eq_lt.2 h]
    rw [if_pos (by omega)]; rfl
  · rw [show compare x y = .eq from Int.compare_eq_eq.2 h]
    rw [if_neg (by omega), if_neg (by omega)]; rfl
  · rw [show compare x y = .gt from Int.compare_eq_gt.2 h]
    rw [if_neg (by omega), if_pos (by omega)]; rfl

theorem nanInt_any (x : Int) (w : World) : Calls Tryz.prog 214 #[.int .i64 x] w fun e w' => e = .returned (.bool false) ∧ w' = w := by
  have b1 : (binOp .neq 3 (.int .i64 x) (.int .i64 x)) = pure (.bool false) := by simp [go_sem]
  go_enter Tryz.func214, Tryz.ntmps214
  go_wp2_with fail
  go_ret
  exact ⟨rfl, rfl⟩
theorem nanStr_any (x : ByteArray) (w : World) : Calls Tryz.prog 217 #[.string x] w fun e w' => e = .returned (.bool false) ∧ w' = w := by
  have b1 : (binOp .neq 9 (.string x) (.string x)) = pure (.bool false) := by simp [go_sem]
  go_enter Tryz.func217, Tryz.ntmps217
  go_wp2_with fail
  go_ret
  exact ⟨rfl, rfl⟩
theorem nanFl_any (a : Nat) (ha : Ieee.double.order a a = some .eq) (w : World) : Calls Tryz.prog 215 #[.float .f64 a] w fun e w' => e = .returned (.bool false) ∧ w' = w := by
  have ha' : FloatKind.f64.format.order a a = some .eq := ha
  have b1 : (binOp .neq 87 (.float .f64 a) (.float .f64 a)) = pure (.bool false) := by rw [binOp_float_cmp_neq, ha']; rfl
  clear ha ha'
  go_enter Tryz.func215, Tryz.ntmps215
  go_wp2_with fail
  go_ret
  exact ⟨rfl, rfl⟩

/-- cmp.Compare at integers -/
theorem cmpInt_any (x y : Int) (w : World) : Calls Tryz.prog 181 #[.int .i64 x, .int .i64 y] w fun e w' => e = .returned (.int .i64 (sgn (x - y))) ∧ w' = w := by
  have H1 := Lib.hid (nanInt_any x w)
  have H2 := Lib.hid (nanInt_any y w)
  have hs : sgn (x - y) = if x < y then -1 else if y < x then 1 else 0 := by
    unfold sgn
    by_cases h1 : x < y
    · rw [if_pos (by omega), if_pos h1]
    · rw [if_neg (by omega), if_neg h1]
      by_cases h2 : y < x
      · rw [if_pos (by omega), if_pos h2]
      · rw [if_neg (by omega), if_neg h2]
  rw [hs]
  clear hs
  go_enter Tryz.func181, Tryz.ntmps181
  go_wp2_with (first
    | (go_at_call 214; refine (H1.out).mono ?_; rintro e w' ⟨rfl, rfl⟩; clear H1)
    | (go_at_call 214; refine (H2.out).mono ?_; rintro e w' ⟨rfl, rfl⟩; clear H2))
  all_goals go_ret
  all_goals simp_all

/-- cmp.Compare at strings -/
theorem cmpStr_any (a b : ByteArray) (w : World) : Calls Tryz.prog 185 #[.string a, .string b] w fun e w' => e = .returned (.int .i64 (cmpB a b)) ∧ w' = w := by
  have H1 := Lib.hid (nanStr_any a w)
  have H2 := Lib.hid (nanStr_any b w)
  unfold cmpB
  go_enter Tryz.func185, Tryz.ntmps185
  go_wp2_with (first
    | (go_at_call 217; refine (H1.out).mono ?_; rintro e w' ⟨rfl, rfl⟩; clear H1)
    | (go_at_call 217; refine (H2.out).mono ?_; rintro e w' ⟨rfl, rfl⟩; clear H2))
  all_goals go_ret
  all_goals simp only [toList_data] at *
  all_goals simp_all
  rename_i h1 h2
  exact h2 (congrArg ByteArray.data (cmpB_eq (a := a) (b := b) (by simp [cmpB, *])))

theorem lt_any (a b : Nat) (o : Ordering) (w : World) (h : Ieee.double.order a b = some o) (ha : Ieee.double.order a a = some .eq) :
    Calls Tryz.prog 183 #[.float .f64 a, .float .f64 b] w fun e w' => e = .returned (.bool (o == .lt)) ∧ w' = w := by
  have h' : FloatKind.f64.format.order a b = some o := h
  have H1 := Lib.hid (nanFl_any a ha w)
  have b1 : (binOp .lss 87 (.float .f64 a) (.float .f64 b)) = pure (.bool (o == .lt)) := by rw [binOp_float_cmp_lss, h']; cases o <;> rfl
  clear h ha h'
  go_enter Tryz.func183, Tryz.ntmps183
  cases o with
  | lt =>
    go_wp2_with fail
    go_ret
    exact ⟨rfl, rfl⟩
  | _ =>
    go_wp2_with (go_at_call 215; refine (H1.out).mono ?_; rintro e w' ⟨rfl, rfl⟩; clear H1)
    go_ret
    exact ⟨rfl, rfl⟩

/-- the order of two doubles -/
theorem flCmp_any (a b : Nat) (o : Ordering) (w : World) (h : Ieee.double.order a b = some o) (ha : Ieee.double.order a a = some .eq) :
    Calls Tryz.prog 182 #[.float .f64 a, .float .f64 b] w fun e w' => e = .returned (.int .i64 (ordI o)) ∧ w' = w := by
  have h' : FloatKind.f64.format.order a b = some o := h
  have H1 := Lib.hid (lt_any a b o w h ha)
  have b1 : (binOp .eql 87 (.float .f64 a) (.float .f64 b)) = pure (.bool (o == .eq)) := by rw [binOp_float_cmp_eql, h']; cases o <;> rfl
  clear h ha h'
  go_enter Tryz.func182, Tryz.ntmps182
  cases o with
  | lt =>
    go_wp2_with (go_at_call 183; refine (H1.out).mono ?_; rintro e w' ⟨rfl, rfl⟩; clear H1)
    go_ret
    exact ⟨rfl, rfl⟩
  | eq =>
    go_wp2_with (go_at_call 183; refine (H1.out).mono ?_; rintro e w' ⟨rfl, rfl⟩; clear H1)
    go_ret
    exact ⟨rfl, rfl⟩
  | gt =>
    go_wp2_with (go_at_call 183; refine (H1.out).mono ?_; rintro e w' ⟨rfl, rfl⟩; clear H1)
    go_ret
    exact ⟨rfl, rfl⟩

theorem typeIndex_any (x : J) (D : Nat → Prop) (v : Value) (w : World) (hv : ARep w D x v) : Calls Tryz.prog 190 #[v] w fun e w' => e = .returned (.int .i64 x.kind) ∧ w' = w := by
  cases x with
  | null =>
    obtain rfl : v = .nilIface := hv
    go_enter Tryz.func190, Tryz.ntmps190
    go_wp2_with fail
    go_ret
    exact ⟨rfl, rfl⟩
  | bool b =>
    obtain rfl : v = .iface 4 (.bool b) := hv
    cases b
    all_goals
      go_enter Tryz.func190, Tryz.ntmps190
      go_wp2_with fail
      go_ret
      exact ⟨rfl, rfl⟩
  | num h =>
    obtain rfl : v = numV h := hv
    unfold numV
    split
    all_goals
      go_enter Tryz.func190, Tryz.ntmps190
      go_wp2_with fail
      go_ret
      exact ⟨rfl, rfl⟩
  | str s =>
    obtain rfl : v = .iface 9 (.string s) := hv
    go_enter Tryz.func190, Tryz.ntmps190
    go_wp2_with fail
    go_ret
    exact ⟨rfl, rfl⟩
  | arr l =>
    obtain ⟨S, rfl, -⟩ := hv
    go_enter Tryz.func190, Tryz.ntmps190
    go_wp2_with fail
    go_ret
    exact ⟨rfl, rfl⟩
  | obj ks vs =>
    obtain ⟨r, xs, rfl, -⟩ := hv
    go_enter Tryz.func190, Tryz.ntmps190
    go_wp2_with fail
    go_ret
    exact ⟨rfl, rfl⟩

/-- kinds that differ -/
theorem cmpKinds_any (x y : J) (D : Nat → Prop) (v u : Value) (w : World) (hv : ARep w D x v) (hu : ARep w D y u) : Calls Tryz.prog 189 #[v, u] w fun e w' => e = .returned (.int .i64 (sgn (x.kind - y.kind))) ∧ w' = w := by
  have H1 := Lib.hid (typeIndex_any x D v w hv)
  have H2 := Lib.hid (typeIndex_any y D u w hu)
  have H3 := Lib.hid (cmpInt_any x.kind y.kind w)
  clear hv hu
  go_enter Tryz.func189, Tryz.ntmps189
  go_wp2_with (first
    | (go_at_call 190; refine (H1.out).mono ?_; rintro e w' ⟨rfl, rfl⟩; clear H1)
    | (go_at_call 190; refine (H2.out).mono ?_; rintro e w' ⟨rfl, rfl⟩; clear H2)
    | (go_at_call 181; refine (H3.out).mono ?_; rintro e w' ⟨rfl, rfl⟩; clear H3))
  go_ret
  exact ⟨rfl, rfl⟩
end Go.Proofs.YtfhppajnnbbcjaaGreatDoor
end
