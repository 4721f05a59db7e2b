/- Walks: the law FnUniqueUnion. -/
import Derived.Test.YtfhppajnnbbcjaaGreatDoorGv1
import Derived.Test.YtfhppajnnbbcjaaGreatDoorGz12
import Derived.Test.YtfhppajnnbbcjaaGreatDoorGz16
import Derived.Test.YtfhppajnnbbcjaaGreatDoorGz17

section
namespace Go.Proofs.YtfhppajnnbbcjaaGreatDoor
open Go.RowKit

theorem arr_of {l : List V} {n m : Int} (h : GoodV (.mk 5 0 noText l [] []) n m) : ∃ a, l = toVL a ∧ (J.arr a).Good n m := by
  obtain ⟨j, hj, g⟩ := h
  obtain ⟨a, rfl⟩ : ∃ a, j = .arr a := by
    cases j with
    | bool b => cases b <;> simp [J.toV] at hj
    | arr l => exact ⟨l, rfl⟩
    | _ => simp [J.toV] at hj
  simp [J.toV] at hj
  exact ⟨a, hj, g⟩

/-- array, of JSON values -/
theorem arrJ_any (a : List J) (D : Nat → Prop) (S : Value) (w : World) (hS : Sl EJ w D a S) (hD : ∀ b, D b → All w b) :
    Calls Tryz.prog 17 #[S] w fun e w' => e = .returned (.agg #[.int .i64 5, .int .i64 0, .string noText, S, .slice none 0 0, .slice none 0 0]) ∧ SRep w' D (.arr a) [.int .i64 5, .int .i64 0, .string noText, S, .slice none 0 0, .slice none 0 0] ∧ Below w.heap.size w w' := by
  have h : SlAt D (toVL a).length S (fun b o => VRow w D b (toVL a) o) := by rw [toVL_length]; exact sl_EJ.1 hS
  exact array_any (toVL a) D S w h hD

theorem dpost_v {Rj : J → Prop} {w w' : World} {e : Ending} (h : DPost Rj False w e w') : ∃ j, Rj j ∧ ResOK j w e w' := by
  rcases h with h | h
  · exact h
  · exact h.1.elim

theorem srep_sl {w : World} {D : Nat → Prop} {u : List J} {S K T : Value} (h : SRep w D (.arr u) [.int .i64 5, .int .i64 0, .string noText, S, K, T]) : Sl EJ w D u S := by
  obtain ⟨L, K', S', he, hL, hK, hS⟩ := h
  cases he
  exact sl_EJ.2 (by rw [toVL_length] at hL; exact hL)

theorem sl_up {w w' : World} {base : Nat} {l : List J} {u : Value} (h : Sl EJ w (fun b => base ≤ b ∧ b < w.heap.size) l u) (hb : Below w.heap.size w w') : Sl EJ w' (fun b => base ≤ b ∧ b < w'.heap.size) l u :=
  Sl.keep h (Same.of_below hb fun _ hb => hb.2) fun _ hb' => ⟨hb'.1, Nat.lt_of_lt_of_le hb'.2 hb.size⟩
theorem vrep_up {w w' : World} {base : Nat} {v : V} {cs : List Value} (h : VRep w (fun b => base ≤ b ∧ b < w.heap.size) v cs) (hb : Below w.heap.size w w') : VRep w' (fun b => base ≤ b ∧ b < w'.heap.size) v cs :=
  VRep.keep (Same.of_below hb fun _ hb => hb.2) (fun _ hb' => ⟨hb'.1, Nat.lt_of_lt_of_le hb'.2 hb.size⟩) _ _ h

theorem parts_pos : ∀ j : J, 1 ≤ j.parts
  | .null => by simp [J.parts]
  | .bool _ => by simp [J.parts]
  | .num _ => by simp [J.parts]
  | .str _ => by simp [J.parts]
  | .arr _ => by simp [J.parts]
  | .obj _ _ => by simp [J.parts]
theorem len_parts : ∀ l : List J, l.length ≤ partsL l
  | [] => by simp
  | x :: l => by have := len_parts l; have := parts_pos x; simp [partsL]; omega

theorem wf_join {a b : List J} (ha : (J.arr a).Good 400 2000) (hb : (J.arr b).Good 400 2000) : (J.arr (a ++ b)).WF := by
  have h1 := ha.parts
  have h2 := hb.parts
  have := len_parts a
  have := len_parts b
  simp only [J.parts] at h1 h2
  refine ⟨by rw [List.length_append]; omega, WFL_iff.2 fun x hx => ?_⟩
  rcases List.mem_append.1 hx with h | h
  · exact WFL_iff.1 ha.wf.2 x h
  · exact WFL_iff.1 hb.wf.2 x h


/-- what the values of the last row are, where they are known -/
def suX (p9 p11 : Nat) (vE vF vB : Value) (c9 c11 : Array Value) : Nat → Option Value
  | 0 => some (.pointer (some ⟨p9, 0, none⟩))
  | 1 => some (.pointer (some ⟨p9, 0, none⟩))
  | 2 => some (.int .i64 5)
  | 3 => some (.bool true)
  | 4 => some (.bool true)
  | 5 => some vE
  | 6 => some vF
  | 10 => some (.pointer (some ⟨p9, 0, none⟩))
  | 11 => some (.agg c9)
  | 12 => some (.bool true)
  | 13 => some (.bool true)
  | 14 => some (.bool true)
  | 15 => some (.pointer (some ⟨p11, 6, none⟩))
  | 16 => some (.int .i64 0)
  | 17 => some (.bool true)
  | 18 => some (.bool true)
  | 19 => some (.bool true)
  | 20 => some vE
  | 21 => some (.agg #[.int .i64 5, .int .i64 0, .string noText, vE, .slice none 0 0, .slice none 0 0])
  | 22 => some vB
  | 23 => some (.agg #[.int .i64 5, .int .i64 0, .string noText, vB, .slice none 0 0, .slice none 0 0])
  | 25 => some (.pointer (some ⟨p11, 0, none⟩))
  | 26 => some (.agg c11)
  | 27 => some (.bool true)
  | 28 => some (.bool true)
  | _ => none

structure SuF (X : Nat → Option Value) (uv u b : List J) (i : Nat) (v : Value) (W : World) : Prop where
  ex : ∀ x, X i = some x → v = x
  s7 : i = 7 → Sl EJ W (All W) uv v
  s8 : i = 8 → ∃ S, v = .agg #[.int .i64 5, .int .i64 0, .string noText, S, .slice none 0 0, .slice none 0 0] ∧ SRep W (All W) (.arr uv) [.int .i64 5, .int .i64 0, .string noText, S, .slice none 0 0, .slice none 0 0]
  s9 : i = 9 → ResG (RUniq uv) False v W (All W)
  s24 : i = 24 → ResG (RSub u b) False v W (All W)

theorem SuF.keep {X : Nat → Option Value} {uv u b : List J} {i : Nat} {v : Value} {W W' : World} (h : SuF X uv u b i v W) (hb : Below W.heap.size W W') : SuF X uv u b i v W' where
  ex := h.ex
  s7 := fun e => Sl.keep (h.s7 e) (fun b hb' => hb.block b hb') (fun b hb' => Nat.lt_of_lt_of_le hb' hb.size)
  s8 := fun e => by
    obtain ⟨S, h1, h2⟩ := h.s8 e
    exact ⟨S, h1, VRep.keep (fun b hb' => hb.block b hb') (fun b hb' => Nat.lt_of_lt_of_le hb' hb.size) _ _ h2⟩
  s9 := fun e => ResG.keep (h.s9 e) (fun b hb' => hb.block b hb') (fun b hb' => Nat.lt_of_lt_of_le hb' hb.size)
  s24 := fun e => ResG.keep (h.s24 e) (fun b hb' => hb.block b hb') (fun b hb' => Nat.lt_of_lt_of_le hb' hb.size)

theorem SuF.val {X : Nat → Option Value} {uv u b : List J} {i : Nat} {v : Value} {W : World} (h : X i = some v) (h7 : i ≠ 7) (h8 : i ≠ 8) (h9 : i ≠ 9) (h24 : i ≠ 24) : SuF X uv u b i v W :=
  ⟨fun _ hx => Option.some.inj (h.symm.trans hx), fun e => absurd e h7, fun e => absurd e h8, fun e => absurd e h9, fun e => absurd e h24⟩

theorem given_arr {Rj : J → Prop} {s : List J} (hR : ∀ j, Rj j → j = .arr s) (ws : (J.arr s).WF) (u : Value) (W : World) (D : Nat → Prop) (A1 A2 A3 : Option Addr) (c1 c2 c3 : Nat) (hD : ∀ b, D b → All W b) (hu : ResG Rj False u W D)
    (hs : SRep W D (.arr s) [.int .i64 5, .int .i64 0, .string noText, .slice A1 s.length c1, .slice A2 0 c2, .slice A3 0 c3]) :
    Calls Tryz.prog 21 #[u, .agg #[.int .i64 5, .int .i64 0, .string noText, .slice A1 s.length c1, .slice A2 0 c2, .slice A3 0 c3]] W (ToldPost W true) := by
  rcases hu with ⟨j, B1, d1, B2, d2, B3, d3, hr, rfl, hv⟩ | ⟨h, -⟩
  · obtain rfl := hR j hr
    have := given_fine (.arr s) (.arr s) D B1 B2 B3 d1 d2 d3 _ W ws ws hD hv hs
    rw [cmpJ_self] at this
    exact this
  · exact h.elim

theorem srep_of_sl {w : World} {D : Nat → Prop} {u : List J} {S : Value} (h : Sl EJ w D u S) : SRep w D (.arr u) [.int .i64 5, .int .i64 0, .string noText, S, .slice none 0 0, .slice none 0 0] :=
  ⟨_, _, _, rfl, by rw [toVL_length]; exact sl_EJ.1 h, emp _ _, emp _ _⟩

theorem nodup_len : ∀ (u a : List J), u.Nodup → (∀ x, x ∈ u → x ∈ a) → u.length ≤ a.length
  | [], _, _, _ => Nat.zero_le _
  | x :: u, a, h, hs => by
    obtain ⟨s, t, rfl⟩ := List.append_of_mem (hs x (List.mem_cons_self ..))
    rw [List.nodup_cons] at h
    have := nodup_len u (s ++ t) h.2 fun y hy => by
      have := hs y (List.mem_cons_of_mem _ hy)
      rcases List.mem_append.1 this with h1 | h1
      · exact List.mem_append.2 (.inl h1)
      · rcases List.mem_cons.1 h1 with rfl | h2
        · exact absurd hy h.1
        · exact List.mem_append.2 (.inr h2)
    simp at this ⊢
    omega
theorem Uniq.len {l u : List J} (h : Uniq l u) : u.length ≤ l.length := nodup_len u l (List.Pairwise.imp (fun {a b} hab e => by subst e; exact cmpJ_irrefl a hab) h.up) fun x hx => (h.mem x).1 hx

theorem uniq_union {a b u v s j : List J} (hu : Uniq a u) (hv : Uniq b v) (hs : Uniq (a ++ b) s) (hj : Uniq (u ++ v) j) : j = s :=
  up_ext hj.up hs.up fun x => by rw [hj.mem, hs.mem, List.mem_append, List.mem_append, hu.mem, hv.mem]
theorem uniq_sub {a b u r : List J} (hu : Uniq a u) (hr : Uniq (subL a b) r) : subL u b = r :=
  up_ext (List.Pairwise.sublist List.filter_sublist hu.up) hr.up fun x => by rw [mem_subL, hr.mem, mem_subL, hu.mem]

theorem wf_uv {a b u v : List J} (ha : (J.arr a).Good 400 2000) (hb : (J.arr b).Good 400 2000) (hu : Uniq a u) (hv : Uniq b v) : (J.arr (u ++ v)).WF := by
  have h1 := ha.parts
  have h2 := hb.parts
  have := len_parts a
  have := len_parts b
  have := hu.len
  have := hv.len
  simp only [J.parts] at h1 h2
  refine ⟨by rw [List.length_append]; omega, WFL_iff.2 fun x hx => ?_⟩
  rcases List.mem_append.1 hx with h | h
  · exact WFL_iff.1 ha.wf.2 x ((hu.mem x).1 h)
  · exact WFL_iff.1 hb.wf.2 x ((hv.mem x).1 h)

set_option maxHeartbeats 4000000 in
set_option maxRecDepth 100000 in
theorem UniqueUnion_law (l1 l2 : List V) (D : Nat → Prop) (S T : Value) (w : World) (h1 : SlAt D l1.length S (fun b o => VRow w D b l1 o)) (h2 : SlAt D l2.length T (fun b o => VRow w D b l2 o)) (hD : ∀ b, D b → All w b) (hU : U8 w) (hs1 : SmallL l1) (hs2 : SmallL l2) :
    Calls Tryz.prog 7 #[S, T] w (TrueP w) := by
  have hk : ∀ W, Below w.heap.size w W → SlAt D l1.length S (fun b o => VRow W D b l1 o) ∧ SlAt D l2.length T (fun b o => VRow W D b l2 o) := fun W hb =>
    ⟨h1.mono (fun _ h => h) fun b o hb' hr => VRow.keep (Same.of_below hb hD) (fun _ h => h) _ _ _ hb' hr, h2.mono (fun _ h => h) fun b o hb' hr => VRow.keep (Same.of_below hb hD) (fun _ h => h) _ _ _ hb' hr⟩
  obtain ⟨A1, c1, rfl, -⟩ := h1
  obtain ⟨A2, c2, rfl, -⟩ := h2
  have HX := Lib.hid (And.intro hk (And.intro hD (And.intro hU (And.intro hs1 hs2))))
  have HA := Lib.hid (array_any l1 D (.slice A1 l1.length c1) w (hk w (Below.refl _ _)).1 hD)
  clear hk hD hU hs1 hs2
  go_enter Tryz.func7, Tryz.ntmps7
  by_cases hl1 : 2147483647 < l1.length
  · go_wp2_with fail
    go_ret
    exact ⟨rfl, Below.refl _ _⟩
  by_cases hl2 : 2147483647 < l2.length
  · go_wp2_with fail
    go_ret
    exact ⟨rfl, Below.refl _ _⟩
  go_wp2_with fail
  refine HA.out.mono ?_
  clear HA
  rintro e w1 ⟨rfl, hv1, hb1⟩
  have HA := Lib.hid (array_any l2 D (.slice A2 l2.length c2) w1 (HX.out.1 w1 hb1).2 (fun b hb => Nat.lt_of_lt_of_le (HX.out.2.1 b hb) hb1.size))
  have HB1 := Lib.hid (And.intro hb1 hv1)
  clear hv1 hb1
  go_wp2_with fail
  refine HA.out.mono ?_
  clear HA
  rintro e w2 ⟨rfl, hv2, hb2⟩
  have HF : Hid (∀ hs : List Value, hs = [Value.int .i64 5, .int .i64 0, .string noText, .slice A1 l1.length c1, .slice none 0 0, .slice none 0 0] ++ [Value.int .i64 5, .int .i64 0, .string noText, .slice A2 l2.length c2, .slice none 0 0, .slice none 0 0] → Calls Tryz.prog 9 #[.slice (some ⟨w2.heap.size, 0, none⟩) 2 2] (w2.alloc (.cells hs.toArray 26)) (FitsPost [.mk 5 0 noText l1 [] [], .mk 5 0 noText l2 [] []] (w2.alloc (.cells hs.toArray 26)))) := by
    rintro hs rfl
    have hbb : Below w2.heap.size w2 (w2.alloc (.cells ([Value.int .i64 5, .int .i64 0, .string noText, .slice A1 l1.length c1, .slice none 0 0, .slice none 0 0] ++ [Value.int .i64 5, .int .i64 0, .string noText, .slice A2 l2.length c2, .slice none 0 0, .slice none 0 0]).toArray 26)) := (Below.refl _ _).alloc (Nat.le_refl _) _
    have hD2 : ∀ b, D b → All w2 b := fun b hb => Nat.lt_of_lt_of_le (HX.out.2.1 b hb) (Nat.le_trans HB1.out.1.size hb2.size)
    have k1 := VRep.keep (D' := All (w2.alloc (.cells ([Value.int .i64 5, .int .i64 0, .string noText, .slice A1 l1.length c1, .slice none 0 0, .slice none 0 0] ++ [Value.int .i64 5, .int .i64 0, .string noText, .slice A2 l2.length c2, .slice none 0 0, .slice none 0 0]).toArray 26))) (Same.of_below ((hb2.trans (hbb.mono hb2.size))) (fun b hb => Nat.lt_of_lt_of_le (HX.out.2.1 b hb) HB1.out.1.size)) (fun b hb => by have := hD2 b hb; unfold All at *; simp; omega) _ _ HB1.out.2
    have k2 := VRep.keep (D' := All (w2.alloc (.cells ([Value.int .i64 5, .int .i64 0, .string noText, .slice A1 l1.length c1, .slice none 0 0, .slice none 0 0] ++ [Value.int .i64 5, .int .i64 0, .string noText, .slice A2 l2.length c2, .slice none 0 0, .slice none 0 0]).toArray 26))) (Same.of_below hbb hD2) (fun b hb => by have := hD2 b hb; unfold All at *; simp; omega) _ _ hv2
    have hbw := HB1.out.1.trans ((hb2.trans (hbb.mono hb2.size)).mono HB1.out.1.size)
    exact fits_any _ _ _ _ (lit_two (heap_alloc_new w2 _) k1 k2 rfl rfl (by simp [All])) (fun _ h => h) (HX.out.2.2.1.below hbw HX.out.2.2.1.size) (by
      simp only [SmallL, V.Small]
      exact ⟨⟨by decide, by simp, HX.out.2.2.2.1, trivial⟩, ⟨by decide, by simp, HX.out.2.2.2.2, trivial⟩, trivial⟩)
  have HB2 := Lib.hid (HB1.out.1.trans (hb2.mono HB1.out.1.size))
  clear hv2 hb2 HB1
  go_wp2_with fail
  generalize hW : w2.alloc _ = W2
  have HF2 := Lib.hid (And.intro (hW ▸ HF.out _ rfl : Calls Tryz.prog 9 #[.slice (some ⟨w2.heap.size, 0, none⟩) 2 2] W2 (FitsPost [.mk 5 0 noText l1 [] [], .mk 5 0 noText l2 [] []] W2)) (show Below w.heap.size w W2 from hW ▸ HB2.out.alloc HB2.out.size _))
  clear hW HF HB2
  refine HF2.out.1.mono ?_
  rintro e w3 ⟨b, rfl, hgood, hb3⟩
  have HB3 := Lib.hid (HF2.out.2.trans (hb3.mono HF2.out.2.size))
  clear hb3 HF2
  cases b with
  | false =>
    clear hgood
    go_wp2_with fail
    go_ret
    exact ⟨rfl, HB3.out⟩
  | true =>
    obtain ⟨a, rfl, ga⟩ := arr_of (hgood rfl _ (List.mem_cons_self ..))
    obtain ⟨b, rfl, gb⟩ := arr_of (hgood rfl _ (List.mem_cons_of_mem _ (List.mem_cons_self ..)))
    have hJ : ∀ W, Below w.heap.size w W → Sl EJ W D a (.slice A1 (toVL a).length c1) ∧ Sl EJ W D b (.slice A2 (toVL b).length c2) := fun W hb => by
      obtain ⟨h1, h2⟩ := HX.out.1 W hb
      simp only [toVL_length] at h1 h2 ⊢
      exact ⟨sl_EJ.2 h1, sl_EJ.2 h2⟩
    simp only [toVL_length] at hJ hl1 hl2
    simp only [toVL_length]
    have HJ := Lib.hid (And.intro hJ (And.intro HX.out.2.1 (And.intro ga gb)))
    clear hgood ga gb hJ HX
    have HA := Lib.hid (arrJ_any a D (.slice A1 a.length c1) w3 (HJ.out.1 w3 HB3.out).1 (fun b hb => Nat.lt_of_lt_of_le (HJ.out.2.1 b hb) HB3.out.size))
    go_wp2_with fail
    refine HA.out.mono ?_
    clear HA
    rintro e w4 ⟨rfl, hv4, hb4⟩
    have HBw4 := Lib.hid (HB3.out.trans (hb4.mono HB3.out.size))
    have hv := hv4
    clear hv4 hb4 HB3
    have HQ := Lib.hid (Unique_any a D [.int .i64 5, .int .i64 0, .string noText, .slice A1 a.length c1, .slice none 0 0, .slice none 0 0] w4 HJ.out.2.2.1.wf (fun b hb => Nat.lt_of_lt_of_le (HJ.out.2.1 b hb) HBw4.out.size) hv)
    clear hv
    go_wp2_with fail
    refine HQ.out.mono ?_
    clear HQ
    intro e w5 hp
    obtain ⟨j, ⟨u, rfl, hu, wu⟩, E1, e1, E2, e2, E3, e3, rfl, hr, hb⟩ := dpost_v hp
    simp only [J.kind, J.half, J.text, J.list, J.keys, J.vals, List.length_nil] at hr ⊢
    have HBw5 := Lib.hid (HBw4.out.trans (hb.mono HBw4.out.size))
    have HUu := Lib.hid (And.intro hu (And.intro wu (VRep.keep (D' := fun b => w.heap.size ≤ b ∧ b < w5.heap.size) (fun _ _ => rfl) (fun b hb => ⟨Nat.le_trans HBw4.out.size hb.1, hb.2⟩) _ _ hr)))
    clear hp hr hb hu wu
    clear HBw4
    have HL := Lib.hid (listedC_any E1 E2 E3 u.length e1 e2 e3 w5)
    go_wp2_with fail
    refine HL.out.mono ?_
    clear HL
    rintro e w6 ⟨rfl, hb⟩
    have HBw6 := Lib.hid (HBw5.out.trans (hb.mono HBw5.out.size))
    have HSu := Lib.hid (And.intro (srep_sl (VRep.keep (D' := fun b => w.heap.size ≤ b ∧ b < w6.heap.size) (Same.of_below hb (fun b hb => hb.2)) (fun b hb' => ⟨hb'.1, Nat.lt_of_lt_of_le hb'.2 hb.size⟩) _ _ HUu.out.2.2)) (And.intro HUu.out.1 HUu.out.2.1))
    clear hb HUu HBw5
    have HA := Lib.hid (arrJ_any b D (.slice A2 b.length c2) w6 (HJ.out.1 w6 HBw6.out).2 (fun b hb => Nat.lt_of_lt_of_le (HJ.out.2.1 b hb) HBw6.out.size))
    go_wp2_with fail
    refine HA.out.mono ?_
    clear HA
    rintro e w7 ⟨rfl, hv, hb⟩
    have HBw7 := Lib.hid (HBw6.out.trans (hb.mono HBw6.out.size))
    replace HSu := Lib.hid (And.intro (sl_up HSu.out.1 hb) HSu.out.2)
    clear hb
    have HQ := Lib.hid (Unique_any b D [.int .i64 5, .int .i64 0, .string noText, .slice A2 b.length c2, .slice none 0 0, .slice none 0 0] w7 HJ.out.2.2.2.wf (fun b hb => Nat.lt_of_lt_of_le (HJ.out.2.1 b hb) HBw7.out.size) hv)
    clear hv
    go_wp2_with fail
    refine HQ.out.mono ?_
    clear HQ
    intro e w8 hp
    obtain ⟨j, ⟨v, rfl, hu, wu⟩, F1, f1, F2, f2, F3, f3, rfl, hr, hb⟩ := dpost_v hp
    simp only [J.kind, J.half, J.text, J.list, J.keys, J.vals, List.length_nil] at hr ⊢
    have HBw8 := Lib.hid (HBw7.out.trans (hb.mono HBw7.out.size))
    have HUv := Lib.hid (And.intro hu (And.intro wu (VRep.keep (D' := fun b => w.heap.size ≤ b ∧ b < w8.heap.size) (fun _ _ => rfl) (fun b hb => ⟨Nat.le_trans HBw7.out.size hb.1, hb.2⟩) _ _ hr)))
    replace HSu := Lib.hid (And.intro (sl_up HSu.out.1 hb) HSu.out.2)
    clear hp hr hb hu wu
    have HL := Lib.hid (listedC_any F1 F2 F3 v.length f1 f2 f3 w8)
    go_wp2_with fail
    refine HL.out.mono ?_
    clear HL
    rintro e w9 ⟨rfl, hb⟩
    have HBw9 := Lib.hid (HBw8.out.trans (hb.mono HBw8.out.size))
    have HSv := Lib.hid (And.intro (srep_sl (VRep.keep (D' := fun b => w.heap.size ≤ b ∧ b < w9.heap.size) (Same.of_below hb (fun b hb => hb.2)) (fun b hb' => ⟨hb'.1, Nat.lt_of_lt_of_le hb'.2 hb.size⟩) _ _ HUv.out.2.2)) (And.intro HUv.out.1 HUv.out.2.1))
    replace HSu := Lib.hid (And.intro (sl_up HSu.out.1 hb) HSu.out.2)
    clear hb HUv HBw8
    have HN := Lib.hid (joined_any a b D (.slice A1 a.length c1) (.slice A2 b.length c2) w9 HJ.out.2.2.1.wf.1 HJ.out.2.2.2.wf.1 (fun b hb => Nat.lt_of_lt_of_le (HJ.out.2.1 b hb) HBw9.out.size) (HJ.out.1 w9 HBw9.out).1 (HJ.out.1 w9 HBw9.out).2)
    go_wp2_with fail
    refine HN.out.mono ?_
    clear HN
    rintro e w10 ⟨sv, rfl, hsl, hb⟩
    obtain ⟨ab, hab⟩ : ∃ ab, a ++ b = ab := ⟨_, rfl⟩
    have HW := Lib.hid (And.intro hab (hab ▸ wf_join HJ.out.2.2.1 HJ.out.2.2.2 : (J.arr ab).WF))
    rw [hab] at hsl
    clear hab
    have HBw10 := Lib.hid (HBw9.out.trans (hb.mono HBw9.out.size))
    have HA := Lib.hid (arrJ_any ab (All w10) sv w10 (Sl.keep hsl (fun _ _ => rfl) (fun b hb' => by
      rcases hb' with h | h
      · exact Nat.lt_of_lt_of_le (HJ.out.2.1 b h) HBw10.out.size
      · exact h.2)) (fun _ h => h))
    obtain ⟨A5, c5, hform⟩ := SlAt.form hsl
    subst hform
    replace HSu := Lib.hid (And.intro (sl_up HSu.out.1 hb) HSu.out.2)
    replace HSv := Lib.hid (And.intro (sl_up HSv.out.1 hb) HSv.out.2)
    clear hb hsl
    go_wp2_with fail
    refine HA.out.mono ?_
    clear HA
    rintro e w11 ⟨rfl, hv, hb⟩
    have HBw11 := Lib.hid (And.intro (HBw10.out.trans (hb.mono HBw10.out.size)) hb.size)
    have HQ := Lib.hid (Unique_any ab (All w10) [.int .i64 5, .int .i64 0, .string noText, .slice A5 ab.length c5, .slice none 0 0, .slice none 0 0] w11 HW.out.2 (fun b hb' => Nat.lt_of_lt_of_le hb' hb.size) hv)
    replace HSu := Lib.hid (And.intro (sl_up HSu.out.1 hb) HSu.out.2)
    replace HSv := Lib.hid (And.intro (sl_up HSv.out.1 hb) HSv.out.2)
    clear hv hb
    go_wp2_with fail
    refine HQ.out.mono ?_
    clear HQ
    intro e w12 hp
    obtain ⟨j, ⟨s, rfl, hu, wu⟩, G1, g1, G2, g2, G3, g3, rfl, hr, hb⟩ := dpost_v hp
    simp only [J.kind, J.half, J.text, J.list, J.keys, J.vals, List.length_nil] at hr ⊢
    have HBw12 := Lib.hid (HBw11.out.1.trans (hb.mono HBw11.out.1.size))
    have HUs := Lib.hid (And.intro hu (And.intro wu (VRep.keep (D' := fun b => w.heap.size ≤ b ∧ b < w12.heap.size) (fun _ _ => rfl) (fun b hb => ⟨Nat.le_trans HBw11.out.1.size hb.1, hb.2⟩) _ _ hr)))
    replace HSu := Lib.hid (And.intro (sl_up HSu.out.1 hb) HSu.out.2)
    replace HSv := Lib.hid (And.intro (sl_up HSv.out.1 hb) HSv.out.2)
    clear hp hr hb hu wu
    go_wp2_with fail
    generalize hW : w12.alloc _ = W1
    have hb : Below w12.heap.size w12 W1 := by rw [← hW]; exact (Below.refl _ _).alloc (Nat.le_refl _) _
    have hg : W1.heap[w12.heap.size]? = some (.cells #[.int .i64 5, .int .i64 0, .string noText, .slice G1 s.length g1, .slice G2 0 g2, .slice G3 0 g3, .int .i64 0] 34 (0, 0)) := by rw [← hW]; exact heap_alloc_new w12 _
    have HBW1 := Lib.hid (And.intro (HBw12.out.trans (hb.mono HBw12.out.size)) hg)
    have HA := Lib.hid (arrJ_any a D (.slice A1 a.length c1) W1 (HJ.out.1 W1 HBW1.out.1).1 (fun b hb => Nat.lt_of_lt_of_le (HJ.out.2.1 b hb) HBW1.out.1.size))
    have HS3 := Lib.hid (And.intro HUs.out.1 (And.intro HUs.out.2.1 (VRep.keep (D' := fun b => w.heap.size ≤ b ∧ b < W1.heap.size) (Same.of_below hb (fun b hb => hb.2)) (fun b hb' => ⟨hb'.1, Nat.lt_of_lt_of_le hb'.2 hb.size⟩) _ _ HUs.out.2.2)))
    have hlo := HBw12.out.size
    replace HSu := Lib.hid (And.intro (sl_up HSu.out.1 hb) HSu.out.2)
    replace HSv := Lib.hid (And.intro (sl_up HSv.out.1 hb) HSv.out.2)
    clear hW hb hg HUs HBw12
    refine HA.out.mono ?_
    clear HA
    rintro e w13 ⟨rfl, hv, hb⟩
    have HBw13 := Lib.hid (HBW1.out.1.trans (hb.mono HBW1.out.1.size))
    have HV := Lib.hid hv
    have HA := Lib.hid (arrJ_any b D (.slice A2 b.length c2) w13 (HJ.out.1 w13 HBw13.out).2 (fun b hb => Nat.lt_of_lt_of_le (HJ.out.2.1 b hb) HBw13.out.size))
    have HG1 := Lib.hid ((hb.block _ (box_lt HBW1.out.2)).trans HBW1.out.2)
    replace HSu := Lib.hid (And.intro (sl_up HSu.out.1 hb) HSu.out.2)
    replace HSv := Lib.hid (And.intro (sl_up HSv.out.1 hb) HSv.out.2)
    replace HS3 := Lib.hid (And.intro HS3.out.1 (And.intro HS3.out.2.1 (vrep_up HS3.out.2.2 hb)))
    clear hv hb
    go_wp2_with fail
    refine HA.out.mono ?_
    clear HA
    rintro e w14 ⟨rfl, hv, hb⟩
    have HBw14 := Lib.hid (HBw13.out.trans (hb.mono HBw13.out.size))
    have HO := Lib.hid (OpSub_any a b D [.int .i64 5, .int .i64 0, .string noText, .slice A1 a.length c1, .slice none 0 0, .slice none 0 0] [.int .i64 5, .int .i64 0, .string noText, .slice A2 b.length c2, .slice none 0 0, .slice none 0 0] w14 HJ.out.2.2.1.wf HJ.out.2.2.2.wf (fun b hb => Nat.lt_of_lt_of_le (HJ.out.2.1 b hb) HBw14.out.size) (VRep.keep (Same.of_below hb (fun b hb => Nat.lt_of_lt_of_le (HJ.out.2.1 b hb) HBw13.out.size)) (fun _ h => h) _ _ HV.out) hv)
    replace HG1 := Lib.hid ((hb.block _ (box_lt HG1.out)).trans HG1.out)
    replace HSu := Lib.hid (And.intro (sl_up HSu.out.1 hb) HSu.out.2)
    replace HSv := Lib.hid (And.intro (sl_up HSv.out.1 hb) HSv.out.2)
    replace HS3 := Lib.hid (And.intro HS3.out.1 (And.intro HS3.out.2.1 (vrep_up HS3.out.2.2 hb)))
    clear hv hb HV HBw13
    go_wp2_with fail
    refine HO.out.mono ?_
    clear HO
    intro e w15 hp
    obtain ⟨j, hj, H1, h1, H2, h2, H3, h3, rfl, hr, hb⟩ := dpost_v hp
    obtain ⟨q, hq⟩ : ∃ q, subL a b = q := ⟨_, rfl⟩
    have hj' : j = .arr q := by rw [← hq]; exact hj
    subst hj'
    simp only [J.kind, J.half, J.text, J.list, J.keys, J.vals, List.length_nil] at hr ⊢
    have HBw15 := Lib.hid (HBw14.out.trans (hb.mono HBw14.out.size))
    have HQ2 := Lib.hid (And.intro hq (And.intro (show (J.arr q).WF from hq ▸ ⟨Nat.le_trans (subL_length _ _) HJ.out.2.2.1.wf.1, WFL_subL HJ.out.2.2.1.wf.2⟩) (VRep.keep (D' := fun b => b < w15.heap.size) (fun _ _ => rfl) (fun b hb => hb.2) _ _ hr)))
    replace HG1 := Lib.hid ((hb.block _ (box_lt HG1.out)).trans HG1.out)
    have hle1 := box_lt HG1.out
    replace HSu := Lib.hid (And.intro (sl_up HSu.out.1 hb) HSu.out.2)
    replace HSv := Lib.hid (And.intro (sl_up HSv.out.1 hb) HSv.out.2)
    replace HS3 := Lib.hid (And.intro HS3.out.1 (And.intro HS3.out.2.1 (vrep_up HS3.out.2.2 hb)))
    clear hp hj hq hr hb HBw14
    go_upto_region 9 with fail
    generalize hW : w15.alloc _ = W2
    have hb : Below w15.heap.size w15 W2 := by rw [← hW]; exact (Below.refl _ _).alloc (Nat.le_refl _) _
    have hg10 : W2.heap[w15.heap.size]? = some (.cells #[.int .i64 5, .int .i64 0, .string noText, .slice H1 q.length h1, .slice H2 0 h2, .slice H3 0 h3, .int .i64 0] 34 (0, 0)) := by rw [← hW]; exact heap_alloc_new w15 _
    have hg9 := (hb.block _ hle1).trans HG1.out
    have HBW2 := Lib.hid (And.intro (HBw15.out.trans (hb.mono HBw15.out.size)) (And.intro hg9 hg10))
    have HQ := Lib.hid (Unique_any q (fun b => b < W2.heap.size) [.int .i64 5, .int .i64 0, .string noText, .slice H1 q.length h1, .slice H2 0 h2, .slice H3 0 h3] W2 HQ2.out.2.1 (fun _ h => h) (VRep.keep (fun b hb' => hb.block b hb') (fun b hb' => Nat.lt_of_lt_of_le hb' hb.size) _ _ HQ2.out.2.2))
    have p6 : W2.cell? ⟨w12.heap.size, 6, none⟩ = _ := box_cell hg9 6
    have q0 : W2.cell? ⟨w15.heap.size, 0, none⟩ = _ := box_cell hg10 0
    have q1 : W2.cell? ⟨w15.heap.size, 1, none⟩ = _ := box_cell hg10 1
    have q2 : W2.cell? ⟨w15.heap.size, 2, none⟩ = _ := box_cell hg10 2
    have q3 : W2.cell? ⟨w15.heap.size, 3, none⟩ = _ := box_cell hg10 3
    have q4 : W2.cell? ⟨w15.heap.size, 4, none⟩ = _ := box_cell hg10 4
    have q5 : W2.cell? ⟨w15.heap.size, 5, none⟩ = _ := box_cell hg10 5
    have q6 : W2.cell? ⟨w15.heap.size, 6, none⟩ = _ := box_cell hg10 6
    have hlt := box_lt hg10
    have hlt0 := box_lt hg9
    replace HSu := Lib.hid (And.intro (sl_up HSu.out.1 hb) HSu.out.2)
    replace HSv := Lib.hid (And.intro (sl_up HSv.out.1 hb) HSv.out.2)
    replace HS3 := Lib.hid (And.intro HS3.out.1 (And.intro HS3.out.2.1 (vrep_up HS3.out.2.2 hb)))
    clear hW hb hg9 hg10 HG1 HBw15 hle1
    go_wp2_with fail
    refine HQ.out.mono ?_
    clear HQ
    intro e w16 hp
    obtain ⟨j, ⟨r, rfl, hu, wu⟩, L1, m1, L2, m2, L3, m3, rfl, hr, hb⟩ := dpost_v hp
    simp only [J.kind, J.half, J.text, J.list, J.keys, J.vals, List.length_nil] at hr ⊢
    have HBw16 := Lib.hid (And.intro (HBW2.out.1.trans (hb.mono HBW2.out.1.size)) (And.intro ((hb.block _ (box_lt HBW2.out.2.1)).trans HBW2.out.2.1) ((hb.block _ (box_lt HBW2.out.2.2)).trans HBW2.out.2.2)))
    have HR := Lib.hid (And.intro hu (And.intro wu (VRep.keep (D' := fun b => b < w16.heap.size) (fun _ _ => rfl) (fun b hb => hb.2) _ _ hr)))
    replace HSu := Lib.hid (And.intro (sl_up HSu.out.1 hb) HSu.out.2)
    replace HSv := Lib.hid (And.intro (sl_up HSv.out.1 hb) HSv.out.2)
    replace HS3 := Lib.hid (And.intro HS3.out.1 (And.intro HS3.out.2.1 (vrep_up HS3.out.2.2 hb)))
    clear hp hr hb hu wu HBW2 p6 q0 q1 q2 q3 q4 q5 q6 hlt hlt0
    go_wp2_with fail
    generalize hW : w16.alloc _ = Wf
    have hb : Below w16.heap.size w16 Wf := by rw [← hW]; exact (Below.refl _ _).alloc (Nat.le_refl _) _
    have hg11 : Wf.heap[w16.heap.size]? = some (.cells #[.int .i64 5, .int .i64 0, .string noText, .slice L1 r.length m1, .slice L2 0 m2, .slice L3 0 m3, .int .i64 0] 34 (0, 0)) := by rw [← hW]; exact heap_alloc_new w16 _
    have HBX := Lib.hid (And.intro ((hb.block _ (box_lt HBw16.out.2.1)).trans HBw16.out.2.1) hg11)
    have HBF := Lib.hid (HBw16.out.1.trans (hb.mono HBw16.out.1.size))
    replace HSu := Lib.hid (And.intro (sl_up HSu.out.1 hb) HSu.out.2)
    replace HSv := Lib.hid (And.intro (sl_up HSv.out.1 hb) HSv.out.2)
    replace HS3 := Lib.hid (And.intro HS3.out.1 (And.intro HS3.out.2.1 (vrep_up HS3.out.2.2 hb)))
    replace HR := Lib.hid (And.intro HR.out.1 (And.intro HR.out.2.1 (VRep.keep (D' := All Wf) (fun b hb' => hb.block b hb') (fun b hb' => Nat.lt_of_lt_of_le hb' hb.size) _ _ HR.out.2.2)))
    clear hW hb hg11 HBw16
    have HPU := Lib.hid (And.intro (show ∀ j, RUniq (u ++ v) j → j = .arr s from fun j ⟨k, hk, hu, _⟩ => by rw [hk, uniq_union HSu.out.2.1 HSv.out.2.1 (HW.out.1 ▸ HS3.out.1) hu]) (show ∀ j, RSub u b j → j = .arr r from fun j hj => by rw [show j = .arr (subL u b) from hj, uniq_sub HSu.out.2.1 (HQ2.out.1 ▸ HR.out.1)]))
    have HWF := Lib.hid (And.intro (wf_uv HJ.out.2.2.1 HJ.out.2.2.2 HSu.out.2.1 HSv.out.2.1) (And.intro HSu.out.2.2 (And.intro HSv.out.2.2 (And.intro HJ.out.2.2.2.wf (And.intro HS3.out.2.1 HR.out.2.1)))))
    obtain ⟨uv, huv⟩ : ∃ uv, u ++ v = uv := ⟨_, rfl⟩
    rw [huv] at HPU HWF
    have HUV := Lib.hid huv
    have HSE : Hid (∀ W, Below Wf.heap.size Wf W → Sl EJ W (All W) u (.slice E1 u.length e1) ∧ Sl EJ W (All W) v (.slice F1 v.length f1) ∧ Sl EJ W (All W) b (.slice A2 b.length c2) ∧ SRep W (All W) (.arr s) [.int .i64 5, .int .i64 0, .string noText, .slice G1 s.length g1, .slice G2 0 g2, .slice G3 0 g3] ∧ SRep W (All W) (.arr r) [.int .i64 5, .int .i64 0, .string noText, .slice L1 r.length m1, .slice L2 0 m2, .slice L3 0 m3]) := fun W hb =>
      ⟨Sl.keep HSu.out.1 (fun b hb' => hb.block b hb'.2) (fun b hb' => Nat.lt_of_lt_of_le hb'.2 hb.size), Sl.keep HSv.out.1 (fun b hb' => hb.block b hb'.2) (fun b hb' => Nat.lt_of_lt_of_le hb'.2 hb.size),
       Sl.keep (HJ.out.1 W (HBF.out.trans (hb.mono HBF.out.size))).2 (fun _ _ => rfl) (fun b hb' => Nat.lt_of_lt_of_le (HJ.out.2.1 b hb') (HBF.out.trans (hb.mono HBF.out.size)).size),
       VRep.keep (fun b hb' => hb.block b hb'.2) (fun b hb' => Nat.lt_of_lt_of_le hb'.2 hb.size) _ _ HS3.out.2.2, VRep.keep (fun b hb' => hb.block b hb') (fun b hb' => Nat.lt_of_lt_of_le hb' hb.size) _ _ HR.out.2.2⟩
    clear huv HSu HSv HS3 HR HJ HQ2 HW
    refine wp_region_RG 29 (by kernel_rfl) (by kernel_rfl) (Below Wf.heap.size Wf) (fun _ i vv W => SuF (suX w12.heap.size w16.heap.size (.slice E1 u.length e1) (.slice F1 v.length f1) (.slice A2 b.length c2) #[.int .i64 5, .int .i64 0, .string noText, .slice G1 s.length g1, .slice G2 0 g2, .slice G3 0 g3] #[.int .i64 5, .int .i64 0, .string noText, .slice L1 r.length m1, .slice L2 0 m2, .slice L3 0 m3]) uv u b i vv W) (by simp [AllSteps, frameOf, Act.put, upd]) ((Below.refl _ _).drew) ⟨?s0, ?s1, ?s2, ?s3, ?s4, ?s5, ?s6, ?s7, ?s8, ?s9, ?s10, ?s11, ?s12, ?s13, ?s14, ?s15, ?s16, ?s17, ?s18, ?s19, ?s20, ?s21, ?s22, ?s23, ?s24, ?s25, ?s26, ?s27, ?s28, trivial⟩ ?e
    case s0 =>
      intro xs d W hd hdeps hG hF K hK
      clear hdeps
      simp only [frameOf, List.take_succ_cons, List.take_zero, Act.put, List.setIfInBounds_toArray, List.set_cons_zero, List.set_cons_succ, Nat.zero_add, Nat.reduceAdd]
      go_simp
      exact hK _ _ _ (by simp only [frameOf, List.take_succ_cons, List.take_zero, Act.put, List.setIfInBounds_toArray, List.set_cons_zero, List.set_cons_succ, Nat.zero_add, Nat.reduceAdd]) hG (fun j u _ _ h => h) (SuF.val rfl (by decide) (by decide) (by decide) (by decide))
    case s1 =>
      intro xs d W hd hdeps hG hF K hK
      simp [Region.binds] at hdeps
      have f0 : xs 0 = _ := (hF 0 (by first | exact hdeps | exact hdeps.1 | exact hdeps.2 | exact hdeps.2.1 | exact hdeps.2.2 | exact hdeps.2.2.1 | exact hdeps.2.2.2 | exact hdeps.2.2.2.1 | exact hdeps.2.2.2.2)).ex _ rfl
      simp only [frameOf, List.take_succ_cons, List.take_zero, Act.put, List.setIfInBounds_toArray, List.set_cons_zero, List.set_cons_succ, Nat.zero_add, Nat.reduceAdd]
      simp only [f0]
      go_simp
      exact hK _ _ _ (by simp only [frameOf, List.take_succ_cons, List.take_zero, Act.put, List.setIfInBounds_toArray, List.set_cons_zero, List.set_cons_succ, Nat.zero_add, Nat.reduceAdd, f0]) hG (fun j u _ _ h => h) (SuF.val rfl (by decide) (by decide) (by decide) (by decide))
    case s2 =>
      intro xs d W hd hdeps hG hF K hK
      simp [Region.binds] at hdeps
      have f1 : xs 1 = _ := (hF 1 (by first | exact hdeps | exact hdeps.1 | exact hdeps.2 | exact hdeps.2.1 | exact hdeps.2.2 | exact hdeps.2.2.1 | exact hdeps.2.2.2 | exact hdeps.2.2.2.1 | exact hdeps.2.2.2.2)).ex _ rfl
      have hb := (hG.block _ (box_lt HBX.out.1)).trans HBX.out.1
      have b0 := box_cell hb 0
      simp at b0
      clear hb
      simp only [frameOf, List.take_succ_cons, List.take_zero, Act.put, List.setIfInBounds_toArray, List.set_cons_zero, List.set_cons_succ, Nat.zero_add, Nat.reduceAdd]
      simp only [f1]
      go_simp
      exact hK _ _ _ (by simp only [frameOf, List.take_succ_cons, List.take_zero, Act.put, List.setIfInBounds_toArray, List.set_cons_zero, List.set_cons_succ, Nat.zero_add, Nat.reduceAdd, f1]) hG (fun j u _ _ h => h) (SuF.val rfl (by decide) (by decide) (by decide) (by decide))
    case s3 =>
      intro xs d W hd hdeps hG hF K hK
      simp [Region.binds] at hdeps
      have f2 : xs 2 = _ := (hF 2 (by first | exact hdeps | exact hdeps.1 | exact hdeps.2 | exact hdeps.2.1 | exact hdeps.2.2 | exact hdeps.2.2.1 | exact hdeps.2.2.2 | exact hdeps.2.2.2.1 | exact hdeps.2.2.2.2)).ex _ rfl
      simp only [frameOf, List.take_succ_cons, List.take_zero, Act.put, List.setIfInBounds_toArray, List.set_cons_zero, List.set_cons_succ, Nat.zero_add, Nat.reduceAdd]
      simp only [f2]
      go_simp
      exact hK _ _ _ (by simp only [frameOf, List.take_succ_cons, List.take_zero, Act.put, List.setIfInBounds_toArray, List.set_cons_zero, List.set_cons_succ, Nat.zero_add, Nat.reduceAdd, f2]) hG (fun j u _ _ h => h) (SuF.val rfl (by decide) (by decide) (by decide) (by decide))
    case s4 =>
      intro xs d W hd hdeps hG hF K hK
      simp [Region.binds] at hdeps
      have f3 : xs 3 = _ := (hF 3 (by first | exact hdeps | exact hdeps.1 | exact hdeps.2 | exact hdeps.2.1 | exact hdeps.2.2 | exact hdeps.2.2.1 | exact hdeps.2.2.2 | exact hdeps.2.2.2.1 | exact hdeps.2.2.2.2)).ex _ rfl
      simp only [frameOf, List.take_succ_cons, List.take_zero, Act.put, List.setIfInBounds_toArray, List.set_cons_zero, List.set_cons_succ, Nat.zero_add, Nat.reduceAdd]
      simp only [f3]
      go_simp
      exact hK _ _ _ (by simp only [frameOf, List.take_succ_cons, List.take_zero, Act.put, List.setIfInBounds_toArray, List.set_cons_zero, List.set_cons_succ, Nat.zero_add, Nat.reduceAdd, f3]) hG (fun j u _ _ h => h) (SuF.val rfl (by decide) (by decide) (by decide) (by decide))
    case s5 =>
      intro xs d W hd hdeps hG hF K hK
      simp [Region.binds] at hdeps
      have f4 : xs 4 = _ := (hF 4 (by first | exact hdeps | exact hdeps.1 | exact hdeps.2 | exact hdeps.2.1 | exact hdeps.2.2 | exact hdeps.2.2.1 | exact hdeps.2.2.2 | exact hdeps.2.2.2.1 | exact hdeps.2.2.2.2)).ex _ rfl
      simp only [frameOf, List.take_succ_cons, List.take_zero, Act.put, List.setIfInBounds_toArray, List.set_cons_zero, List.set_cons_succ, Nat.zero_add, Nat.reduceAdd]
      simp only [f4]
      go_simp
      exact hK _ _ _ (by simp only [frameOf, List.take_succ_cons, List.take_zero, Act.put, List.setIfInBounds_toArray, List.set_cons_zero, List.set_cons_succ, Nat.zero_add, Nat.reduceAdd, f4]) hG (fun j u _ _ h => h) (SuF.val rfl (by decide) (by decide) (by decide) (by decide))
    case s6 =>
      intro xs d W hd hdeps hG hF K hK
      simp [Region.binds] at hdeps
      have f4 : xs 4 = _ := (hF 4 (by first | exact hdeps | exact hdeps.1 | exact hdeps.2 | exact hdeps.2.1 | exact hdeps.2.2 | exact hdeps.2.2.1 | exact hdeps.2.2.2 | exact hdeps.2.2.2.1 | exact hdeps.2.2.2.2)).ex _ rfl
      simp only [frameOf, List.take_succ_cons, List.take_zero, Act.put, List.setIfInBounds_toArray, List.set_cons_zero, List.set_cons_succ, Nat.zero_add, Nat.reduceAdd]
      simp only [f4]
      go_simp
      exact hK _ _ _ (by simp only [frameOf, List.take_succ_cons, List.take_zero, Act.put, List.setIfInBounds_toArray, List.set_cons_zero, List.set_cons_succ, Nat.zero_add, Nat.reduceAdd, f4]) hG (fun j u _ _ h => h) (SuF.val rfl (by decide) (by decide) (by decide) (by decide))
    case s7 =>
      intro xs d W hd hdeps hG hF K hK
      simp [Region.binds] at hdeps
      have f4 : xs 4 = _ := (hF 4 (by first | exact hdeps | exact hdeps.1 | exact hdeps.2 | exact hdeps.2.1 | exact hdeps.2.2 | exact hdeps.2.2.1 | exact hdeps.2.2.2 | exact hdeps.2.2.2.1 | exact hdeps.2.2.2.2)).ex _ rfl
      have f5 : xs 5 = _ := (hF 5 (by first | exact hdeps | exact hdeps.1 | exact hdeps.2 | exact hdeps.2.1 | exact hdeps.2.2 | exact hdeps.2.2.1 | exact hdeps.2.2.2 | exact hdeps.2.2.2.1 | exact hdeps.2.2.2.2)).ex _ rfl
      have f6 : xs 6 = _ := (hF 6 (by first | exact hdeps | exact hdeps.1 | exact hdeps.2 | exact hdeps.2.1 | exact hdeps.2.2 | exact hdeps.2.2.1 | exact hdeps.2.2.2 | exact hdeps.2.2.2.1 | exact hdeps.2.2.2.2)).ex _ rfl
      have HN := Lib.hid (joined_any u v (All W) (.slice E1 u.length e1) (.slice F1 v.length f1) W HWF.out.2.1.1 HWF.out.2.2.1.1 (fun _ h => h) (HSE.out W hG).1 (HSE.out W hG).2.1)
      have HG2 := Lib.hid (And.intro hG hK)
      clear hG hK hF
      simp only [frameOf, List.take_succ_cons, List.take_zero, Act.put, List.setIfInBounds_toArray, List.set_cons_zero, List.set_cons_succ, Nat.zero_add, Nat.reduceAdd]
      simp only [f4, f5, f6]
      go_simp
      refine HN.out.mono ?_
      intro e w9 hp
      obtain ⟨sv, he, hsl, hb9⟩ := hp
      rw [HUV.out] at hsl
      subst he
      obtain ⟨hG, hK⟩ := HG2.out
      exact hK _ _ _ (by simp only [frameOf, List.take_succ_cons, List.take_zero, Act.put, List.setIfInBounds_toArray, List.set_cons_zero, List.set_cons_succ, Nat.zero_add, Nat.reduceAdd, f4, f5, f6]) (hG.trans (hb9.mono hG.size)) (fun j u _ _ h => h.keep hb9) ⟨fun x hx => (by simp [suX] at hx), fun _ => Sl.keep hsl (fun _ _ => rfl) (fun b hb => hb.elim (fun h => Nat.lt_of_lt_of_le h hb9.size) (fun h => h.2)), fun e => absurd e (by decide), fun e => absurd e (by decide), fun e => absurd e (by decide)⟩
    case s8 =>
      intro xs d W hd hdeps hG hF K hK
      simp [Region.binds] at hdeps
      have f4 : xs 4 = _ := (hF 4 (by first | exact hdeps | exact hdeps.1 | exact hdeps.2 | exact hdeps.2.1 | exact hdeps.2.2 | exact hdeps.2.2.1 | exact hdeps.2.2.2 | exact hdeps.2.2.2.1 | exact hdeps.2.2.2.2)).ex _ rfl
      have f7 := (hF 7 (by first | exact hdeps | exact hdeps.1 | exact hdeps.2 | exact hdeps.2.1 | exact hdeps.2.2 | exact hdeps.2.2.1 | exact hdeps.2.2.2 | exact hdeps.2.2.2.1 | exact hdeps.2.2.2.2)).s7 rfl
      have HN := Lib.hid (arrJ_any uv (All W) (xs 7) W f7 (fun _ h => h))
      have HG2 := Lib.hid (And.intro hG hK)
      clear hG hK hF
      simp only [frameOf, List.take_succ_cons, List.take_zero, Act.put, List.setIfInBounds_toArray, List.set_cons_zero, List.set_cons_succ, Nat.zero_add, Nat.reduceAdd]
      simp only [f4]
      go_simp
      refine HN.out.mono ?_
      intro e w9 hp
      obtain ⟨he, hs, hb9⟩ := hp
      subst he
      obtain ⟨hG, hK⟩ := HG2.out
      exact hK _ _ _ (by simp only [frameOf, List.take_succ_cons, List.take_zero, Act.put, List.setIfInBounds_toArray, List.set_cons_zero, List.set_cons_succ, Nat.zero_add, Nat.reduceAdd, f4]) (hG.trans (hb9.mono hG.size)) (fun j u _ _ h => h.keep hb9) ⟨fun x hx => (by simp [suX] at hx), fun e => absurd e (by decide), fun _ => ⟨_, rfl, VRep.keep (fun _ _ => rfl) (fun b hb => Nat.lt_of_lt_of_le hb hb9.size) _ _ hs⟩, fun e => absurd e (by decide), fun e => absurd e (by decide)⟩
    case s9 =>
      intro xs d W hd hdeps hG hF K hK
      simp [Region.binds] at hdeps
      have f4 : xs 4 = _ := (hF 4 (by first | exact hdeps | exact hdeps.1 | exact hdeps.2 | exact hdeps.2.1 | exact hdeps.2.2 | exact hdeps.2.2.1 | exact hdeps.2.2.2 | exact hdeps.2.2.2.1 | exact hdeps.2.2.2.2)).ex _ rfl
      have f8 := (hF 8 (by first | exact hdeps | exact hdeps.1 | exact hdeps.2 | exact hdeps.2.1 | exact hdeps.2.2 | exact hdeps.2.2.1 | exact hdeps.2.2.2 | exact hdeps.2.2.2.1 | exact hdeps.2.2.2.2)).s8 rfl
      have f8v := f8.choose_spec
      generalize f8.choose = S8 at f8v
      have f8e := f8v.1
      have HN := Lib.hid (Unique_any uv (All W) [.int .i64 5, .int .i64 0, .string noText, S8, .slice none 0 0, .slice none 0 0] W HWF.out.1 (fun _ h => h) f8v.2)
      have HG2 := Lib.hid (And.intro hG hK)
      clear hG hK hF
      simp only [frameOf, List.take_succ_cons, List.take_zero, Act.put, List.setIfInBounds_toArray, List.set_cons_zero, List.set_cons_succ, Nat.zero_add, Nat.reduceAdd]
      simp only [f4, f8e]
      go_simp
      refine HN.out.mono ?_
      intro e w9 hp
      obtain ⟨j, hj, K1, k1, K2, k2, K3, k3, he, hr, hb9⟩ := dpost_v hp
      subst he
      obtain ⟨hG, hK⟩ := HG2.out
      exact hK _ _ _ (by simp only [frameOf, List.take_succ_cons, List.take_zero, Act.put, List.setIfInBounds_toArray, List.set_cons_zero, List.set_cons_succ, Nat.zero_add, Nat.reduceAdd, f4, f8e]) (hG.trans (hb9.mono hG.size)) (fun j u _ _ h => h.keep hb9) ⟨fun x hx => (by simp [suX] at hx), fun e => absurd e (by decide), fun e => absurd e (by decide), fun _ => (.inl ⟨j, K1, k1, K2, k2, K3, k3, hj, rfl, VRep.keep (fun _ _ => rfl) (fun b hb => hb.2) _ _ hr⟩), fun e => absurd e (by decide)⟩
    case s10 =>
      intro xs d W hd hdeps hG hF K hK
      simp [Region.binds] at hdeps
      have f4 : xs 4 = _ := (hF 4 (by first | exact hdeps | exact hdeps.1 | exact hdeps.2 | exact hdeps.2.1 | exact hdeps.2.2 | exact hdeps.2.2.1 | exact hdeps.2.2.2 | exact hdeps.2.2.2.1 | exact hdeps.2.2.2.2)).ex _ rfl
      simp only [frameOf, List.take_succ_cons, List.take_zero, Act.put, List.setIfInBounds_toArray, List.set_cons_zero, List.set_cons_succ, Nat.zero_add, Nat.reduceAdd]
      simp only [f4]
      go_simp
      exact hK _ _ _ (by simp only [frameOf, List.take_succ_cons, List.take_zero, Act.put, List.setIfInBounds_toArray, List.set_cons_zero, List.set_cons_succ, Nat.zero_add, Nat.reduceAdd, f4]) hG (fun j u _ _ h => h) (SuF.val rfl (by decide) (by decide) (by decide) (by decide))
    case s11 =>
      intro xs d W hd hdeps hG hF K hK
      simp [Region.binds] at hdeps
      have f4 : xs 4 = _ := (hF 4 (by first | exact hdeps | exact hdeps.1 | exact hdeps.2 | exact hdeps.2.1 | exact hdeps.2.2 | exact hdeps.2.2.1 | exact hdeps.2.2.2 | exact hdeps.2.2.2.1 | exact hdeps.2.2.2.2)).ex _ rfl
      have f10 : xs 10 = _ := (hF 10 (by first | exact hdeps | exact hdeps.1 | exact hdeps.2 | exact hdeps.2.1 | exact hdeps.2.2 | exact hdeps.2.2.1 | exact hdeps.2.2.2 | exact hdeps.2.2.2.1 | exact hdeps.2.2.2.2)).ex _ rfl
      have hb := (hG.block _ (box_lt HBX.out.1)).trans HBX.out.1
      have b0 := box_cell hb 0
      have b1 := box_cell hb 1
      have b2 := box_cell hb 2
      have b3 := box_cell hb 3
      have b4 := box_cell hb 4
      have b5 := box_cell hb 5
      simp at b0 b1 b2 b3 b4 b5
      clear hb
      simp only [frameOf, List.take_succ_cons, List.take_zero, Act.put, List.setIfInBounds_toArray, List.set_cons_zero, List.set_cons_succ, Nat.zero_add, Nat.reduceAdd]
      simp only [f4, f10]
      go_simp
      exact hK _ _ _ (by simp only [frameOf, List.take_succ_cons, List.take_zero, Act.put, List.setIfInBounds_toArray, List.set_cons_zero, List.set_cons_succ, Nat.zero_add, Nat.reduceAdd, f4, f10]) hG (fun j u _ _ h => h) (SuF.val rfl (by decide) (by decide) (by decide) (by decide))
    case s12 =>
      intro xs d W hd hdeps hG hF K hK
      simp [Region.binds] at hdeps
      have f4 : xs 4 = _ := (hF 4 (by first | exact hdeps | exact hdeps.1 | exact hdeps.2 | exact hdeps.2.1 | exact hdeps.2.2 | exact hdeps.2.2.1 | exact hdeps.2.2.2 | exact hdeps.2.2.2.1 | exact hdeps.2.2.2.2)).ex _ rfl
      have f11 : xs 11 = _ := (hF 11 (by first | exact hdeps | exact hdeps.1 | exact hdeps.2 | exact hdeps.2.1 | exact hdeps.2.2 | exact hdeps.2.2.1 | exact hdeps.2.2.2 | exact hdeps.2.2.2.1 | exact hdeps.2.2.2.2)).ex _ rfl
      have f9 := (hF 9 (by first | exact hdeps | exact hdeps.1 | exact hdeps.2 | exact hdeps.2.1 | exact hdeps.2.2 | exact hdeps.2.2.1 | exact hdeps.2.2.2 | exact hdeps.2.2.2.1 | exact hdeps.2.2.2.2)).s9 rfl
      have HN := Lib.hid (given_arr HPU.out.1 HWF.out.2.2.2.2.1 (xs 9) W (All W) G1 G2 G3 g1 g2 g3 (fun _ h => h) f9 (HSE.out W hG).2.2.2.1)
      have HG2 := Lib.hid (And.intro hG hK)
      clear hG hK hF
      simp only [frameOf, List.take_succ_cons, List.take_zero, Act.put, List.setIfInBounds_toArray, List.set_cons_zero, List.set_cons_succ, Nat.zero_add, Nat.reduceAdd]
      simp only [f4, f11]
      go_simp
      refine HN.out.mono ?_
      intro e w9 hp
      obtain ⟨he, hb9⟩ := hp
      subst he
      obtain ⟨hG, hK⟩ := HG2.out
      exact hK _ _ _ (by simp only [frameOf, List.take_succ_cons, List.take_zero, Act.put, List.setIfInBounds_toArray, List.set_cons_zero, List.set_cons_succ, Nat.zero_add, Nat.reduceAdd, f4, f11]) (hG.trans (hb9.mono hG.size)) (fun j u _ _ h => h.keep hb9) (SuF.val rfl (by decide) (by decide) (by decide) (by decide))
    case s13 =>
      intro xs d W hd hdeps hG hF K hK
      simp [Region.binds] at hdeps
      have f4 : xs 4 = _ := (hF 4 (by first | exact hdeps | exact hdeps.1 | exact hdeps.2 | exact hdeps.2.1 | exact hdeps.2.2 | exact hdeps.2.2.1 | exact hdeps.2.2.2 | exact hdeps.2.2.2.1 | exact hdeps.2.2.2.2)).ex _ rfl
      have f12 : xs 12 = _ := (hF 12 (by first | exact hdeps | exact hdeps.1 | exact hdeps.2 | exact hdeps.2.1 | exact hdeps.2.2 | exact hdeps.2.2.1 | exact hdeps.2.2.2 | exact hdeps.2.2.2.1 | exact hdeps.2.2.2.2)).ex _ rfl
      simp only [frameOf, List.take_succ_cons, List.take_zero, Act.put, List.setIfInBounds_toArray, List.set_cons_zero, List.set_cons_succ, Nat.zero_add, Nat.reduceAdd]
      simp only [f4, f12]
      go_simp
      exact hK _ _ _ (by simp only [frameOf, List.take_succ_cons, List.take_zero, Act.put, List.setIfInBounds_toArray, List.set_cons_zero, List.set_cons_succ, Nat.zero_add, Nat.reduceAdd, f4, f12]) hG (fun j u _ _ h => h) (SuF.val rfl (by decide) (by decide) (by decide) (by decide))
    case s14 =>
      intro xs d W hd hdeps hG hF K hK
      simp [Region.binds] at hdeps
      have f13 : xs 13 = _ := (hF 13 (by first | exact hdeps | exact hdeps.1 | exact hdeps.2 | exact hdeps.2.1 | exact hdeps.2.2 | exact hdeps.2.2.1 | exact hdeps.2.2.2 | exact hdeps.2.2.2.1 | exact hdeps.2.2.2.2)).ex _ rfl
      simp only [frameOf, List.take_succ_cons, List.take_zero, Act.put, List.setIfInBounds_toArray, List.set_cons_zero, List.set_cons_succ, Nat.zero_add, Nat.reduceAdd]
      simp only [f13]
      go_simp
      exact hK _ _ _ (by simp only [frameOf, List.take_succ_cons, List.take_zero, Act.put, List.setIfInBounds_toArray, List.set_cons_zero, List.set_cons_succ, Nat.zero_add, Nat.reduceAdd, f13]) hG (fun j u _ _ h => h) (SuF.val rfl (by decide) (by decide) (by decide) (by decide))
    case s15 =>
      intro xs d W hd hdeps hG hF K hK
      simp [Region.binds] at hdeps
      have f14 : xs 14 = _ := (hF 14 (by first | exact hdeps | exact hdeps.1 | exact hdeps.2 | exact hdeps.2.1 | exact hdeps.2.2 | exact hdeps.2.2.1 | exact hdeps.2.2.2 | exact hdeps.2.2.2.1 | exact hdeps.2.2.2.2)).ex _ rfl
      simp only [frameOf, List.take_succ_cons, List.take_zero, Act.put, List.setIfInBounds_toArray, List.set_cons_zero, List.set_cons_succ, Nat.zero_add, Nat.reduceAdd]
      simp only [f14]
      go_simp
      exact hK _ _ _ (by simp only [frameOf, List.take_succ_cons, List.take_zero, Act.put, List.setIfInBounds_toArray, List.set_cons_zero, List.set_cons_succ, Nat.zero_add, Nat.reduceAdd, f14]) hG (fun j u _ _ h => h) (SuF.val rfl (by decide) (by decide) (by decide) (by decide))
    case s16 =>
      intro xs d W hd hdeps hG hF K hK
      simp [Region.binds] at hdeps
      have f14 : xs 14 = _ := (hF 14 (by first | exact hdeps | exact hdeps.1 | exact hdeps.2 | exact hdeps.2.1 | exact hdeps.2.2 | exact hdeps.2.2.1 | exact hdeps.2.2.2 | exact hdeps.2.2.2.1 | exact hdeps.2.2.2.2)).ex _ rfl
      have f15 : xs 15 = _ := (hF 15 (by first | exact hdeps | exact hdeps.1 | exact hdeps.2 | exact hdeps.2.1 | exact hdeps.2.2 | exact hdeps.2.2.1 | exact hdeps.2.2.2 | exact hdeps.2.2.2.1 | exact hdeps.2.2.2.2)).ex _ rfl
      have hb := (hG.block _ (box_lt HBX.out.2)).trans HBX.out.2
      have b6 := box_cell hb 6
      simp at b6
      clear hb
      simp only [frameOf, List.take_succ_cons, List.take_zero, Act.put, List.setIfInBounds_toArray, List.set_cons_zero, List.set_cons_succ, Nat.zero_add, Nat.reduceAdd]
      simp only [f14, f15]
      go_simp
      exact hK _ _ _ (by simp only [frameOf, List.take_succ_cons, List.take_zero, Act.put, List.setIfInBounds_toArray, List.set_cons_zero, List.set_cons_succ, Nat.zero_add, Nat.reduceAdd, f14, f15]) hG (fun j u _ _ h => h) (SuF.val rfl (by decide) (by decide) (by decide) (by decide))
    case s17 =>
      intro xs d W hd hdeps hG hF K hK
      simp [Region.binds] at hdeps
      have f14 : xs 14 = _ := (hF 14 (by first | exact hdeps | exact hdeps.1 | exact hdeps.2 | exact hdeps.2.1 | exact hdeps.2.2 | exact hdeps.2.2.1 | exact hdeps.2.2.2 | exact hdeps.2.2.2.1 | exact hdeps.2.2.2.2)).ex _ rfl
      have f16 : xs 16 = _ := (hF 16 (by first | exact hdeps | exact hdeps.1 | exact hdeps.2 | exact hdeps.2.1 | exact hdeps.2.2 | exact hdeps.2.2.1 | exact hdeps.2.2.2 | exact hdeps.2.2.2.1 | exact hdeps.2.2.2.2)).ex _ rfl
      simp only [frameOf, List.take_succ_cons, List.take_zero, Act.put, List.setIfInBounds_toArray, List.set_cons_zero, List.set_cons_succ, Nat.zero_add, Nat.reduceAdd]
      simp only [f14, f16]
      go_simp
      exact hK _ _ _ (by simp only [frameOf, List.take_succ_cons, List.take_zero, Act.put, List.setIfInBounds_toArray, List.set_cons_zero, List.set_cons_succ, Nat.zero_add, Nat.reduceAdd, f14, f16]) hG (fun j u _ _ h => h) (SuF.val rfl (by decide) (by decide) (by decide) (by decide))
    case s18 =>
      intro xs d W hd hdeps hG hF K hK
      simp [Region.binds] at hdeps
      have f14 : xs 14 = _ := (hF 14 (by first | exact hdeps | exact hdeps.1 | exact hdeps.2 | exact hdeps.2.1 | exact hdeps.2.2 | exact hdeps.2.2.1 | exact hdeps.2.2.2 | exact hdeps.2.2.2.1 | exact hdeps.2.2.2.2)).ex _ rfl
      have f17 : xs 17 = _ := (hF 17 (by first | exact hdeps | exact hdeps.1 | exact hdeps.2 | exact hdeps.2.1 | exact hdeps.2.2 | exact hdeps.2.2.1 | exact hdeps.2.2.2 | exact hdeps.2.2.2.1 | exact hdeps.2.2.2.2)).ex _ rfl
      simp only [frameOf, List.take_succ_cons, List.take_zero, Act.put, List.setIfInBounds_toArray, List.set_cons_zero, List.set_cons_succ, Nat.zero_add, Nat.reduceAdd]
      simp only [f14, f17]
      go_simp
      exact hK _ _ _ (by simp only [frameOf, List.take_succ_cons, List.take_zero, Act.put, List.setIfInBounds_toArray, List.set_cons_zero, List.set_cons_succ, Nat.zero_add, Nat.reduceAdd, f14, f17]) hG (fun j u _ _ h => h) (SuF.val rfl (by decide) (by decide) (by decide) (by decide))
    case s19 =>
      intro xs d W hd hdeps hG hF K hK
      simp [Region.binds] at hdeps
      have f18 : xs 18 = _ := (hF 18 (by first | exact hdeps | exact hdeps.1 | exact hdeps.2 | exact hdeps.2.1 | exact hdeps.2.2 | exact hdeps.2.2.1 | exact hdeps.2.2.2 | exact hdeps.2.2.2.1 | exact hdeps.2.2.2.2)).ex _ rfl
      simp only [frameOf, List.take_succ_cons, List.take_zero, Act.put, List.setIfInBounds_toArray, List.set_cons_zero, List.set_cons_succ, Nat.zero_add, Nat.reduceAdd]
      simp only [f18]
      go_simp
      exact hK _ _ _ (by simp only [frameOf, List.take_succ_cons, List.take_zero, Act.put, List.setIfInBounds_toArray, List.set_cons_zero, List.set_cons_succ, Nat.zero_add, Nat.reduceAdd, f18]) hG (fun j u _ _ h => h) (SuF.val rfl (by decide) (by decide) (by decide) (by decide))
    case s20 =>
      intro xs d W hd hdeps hG hF K hK
      simp [Region.binds] at hdeps
      have f19 : xs 19 = _ := (hF 19 (by first | exact hdeps | exact hdeps.1 | exact hdeps.2 | exact hdeps.2.1 | exact hdeps.2.2 | exact hdeps.2.2.1 | exact hdeps.2.2.2 | exact hdeps.2.2.2.1 | exact hdeps.2.2.2.2)).ex _ rfl
      simp only [frameOf, List.take_succ_cons, List.take_zero, Act.put, List.setIfInBounds_toArray, List.set_cons_zero, List.set_cons_succ, Nat.zero_add, Nat.reduceAdd]
      simp only [f19]
      go_simp
      exact hK _ _ _ (by simp only [frameOf, List.take_succ_cons, List.take_zero, Act.put, List.setIfInBounds_toArray, List.set_cons_zero, List.set_cons_succ, Nat.zero_add, Nat.reduceAdd, f19]) hG (fun j u _ _ h => h) (SuF.val rfl (by decide) (by decide) (by decide) (by decide))
    case s21 =>
      intro xs d W hd hdeps hG hF K hK
      simp [Region.binds] at hdeps
      have f19 : xs 19 = _ := (hF 19 (by first | exact hdeps | exact hdeps.1 | exact hdeps.2 | exact hdeps.2.1 | exact hdeps.2.2 | exact hdeps.2.2.1 | exact hdeps.2.2.2 | exact hdeps.2.2.2.1 | exact hdeps.2.2.2.2)).ex _ rfl
      have f20 : xs 20 = _ := (hF 20 (by first | exact hdeps | exact hdeps.1 | exact hdeps.2 | exact hdeps.2.1 | exact hdeps.2.2 | exact hdeps.2.2.1 | exact hdeps.2.2.2 | exact hdeps.2.2.2.1 | exact hdeps.2.2.2.2)).ex _ rfl
      have HN := Lib.hid (arrJ_any u (All W) (.slice E1 u.length e1) W (HSE.out W hG).1 (fun _ h => h))
      have HG2 := Lib.hid (And.intro hG hK)
      clear hG hK hF
      simp only [frameOf, List.take_succ_cons, List.take_zero, Act.put, List.setIfInBounds_toArray, List.set_cons_zero, List.set_cons_succ, Nat.zero_add, Nat.reduceAdd]
      simp only [f19, f20]
      go_simp
      refine HN.out.mono ?_
      intro e w9 hp
      obtain ⟨he, -, hb9⟩ := hp
      subst he
      obtain ⟨hG, hK⟩ := HG2.out
      exact hK _ _ _ (by simp only [frameOf, List.take_succ_cons, List.take_zero, Act.put, List.setIfInBounds_toArray, List.set_cons_zero, List.set_cons_succ, Nat.zero_add, Nat.reduceAdd, f19, f20]) (hG.trans (hb9.mono hG.size)) (fun j u _ _ h => h.keep hb9) (SuF.val rfl (by decide) (by decide) (by decide) (by decide))
    case s22 =>
      intro xs d W hd hdeps hG hF K hK
      simp [Region.binds] at hdeps
      have f19 : xs 19 = _ := (hF 19 (by first | exact hdeps | exact hdeps.1 | exact hdeps.2 | exact hdeps.2.1 | exact hdeps.2.2 | exact hdeps.2.2.1 | exact hdeps.2.2.2 | exact hdeps.2.2.2.1 | exact hdeps.2.2.2.2)).ex _ rfl
      simp only [frameOf, List.take_succ_cons, List.take_zero, Act.put, List.setIfInBounds_toArray, List.set_cons_zero, List.set_cons_succ, Nat.zero_add, Nat.reduceAdd]
      simp only [f19]
      go_simp
      exact hK _ _ _ (by simp only [frameOf, List.take_succ_cons, List.take_zero, Act.put, List.setIfInBounds_toArray, List.set_cons_zero, List.set_cons_succ, Nat.zero_add, Nat.reduceAdd, f19]) hG (fun j u _ _ h => h) (SuF.val rfl (by decide) (by decide) (by decide) (by decide))
    case s23 =>
      intro xs d W hd hdeps hG hF K hK
      simp [Region.binds] at hdeps
      have f19 : xs 19 = _ := (hF 19 (by first | exact hdeps | exact hdeps.1 | exact hdeps.2 | exact hdeps.2.1 | exact hdeps.2.2 | exact hdeps.2.2.1 | exact hdeps.2.2.2 | exact hdeps.2.2.2.1 | exact hdeps.2.2.2.2)).ex _ rfl
      have f22 : xs 22 = _ := (hF 22 (by first | exact hdeps | exact hdeps.1 | exact hdeps.2 | exact hdeps.2.1 | exact hdeps.2.2 | exact hdeps.2.2.1 | exact hdeps.2.2.2 | exact hdeps.2.2.2.1 | exact hdeps.2.2.2.2)).ex _ rfl
      have HN := Lib.hid (arrJ_any b (All W) (.slice A2 b.length c2) W (HSE.out W hG).2.2.1 (fun _ h => h))
      have HG2 := Lib.hid (And.intro hG hK)
      clear hG hK hF
      simp only [frameOf, List.take_succ_cons, List.take_zero, Act.put, List.setIfInBounds_toArray, List.set_cons_zero, List.set_cons_succ, Nat.zero_add, Nat.reduceAdd]
      simp only [f19, f22]
      go_simp
      refine HN.out.mono ?_
      intro e w9 hp
      obtain ⟨he, -, hb9⟩ := hp
      subst he
      obtain ⟨hG, hK⟩ := HG2.out
      exact hK _ _ _ (by simp only [frameOf, List.take_succ_cons, List.take_zero, Act.put, List.setIfInBounds_toArray, List.set_cons_zero, List.set_cons_succ, Nat.zero_add, Nat.reduceAdd, f19, f22]) (hG.trans (hb9.mono hG.size)) (fun j u _ _ h => h.keep hb9) (SuF.val rfl (by decide) (by decide) (by decide) (by decide))
    case s24 =>
      intro xs d W hd hdeps hG hF K hK
      simp [Region.binds] at hdeps
      have f19 : xs 19 = _ := (hF 19 (by first | exact hdeps | exact hdeps.1 | exact hdeps.2 | exact hdeps.2.1 | exact hdeps.2.2 | exact hdeps.2.2.1 | exact hdeps.2.2.2 | exact hdeps.2.2.2.1 | exact hdeps.2.2.2.2)).ex _ rfl
      have f21 : xs 21 = _ := (hF 21 (by first | exact hdeps | exact hdeps.1 | exact hdeps.2 | exact hdeps.2.1 | exact hdeps.2.2 | exact hdeps.2.2.1 | exact hdeps.2.2.2 | exact hdeps.2.2.2.1 | exact hdeps.2.2.2.2)).ex _ rfl
      have f23 : xs 23 = _ := (hF 23 (by first | exact hdeps | exact hdeps.1 | exact hdeps.2 | exact hdeps.2.1 | exact hdeps.2.2 | exact hdeps.2.2.1 | exact hdeps.2.2.2 | exact hdeps.2.2.2.1 | exact hdeps.2.2.2.2)).ex _ rfl
      have HN := Lib.hid (OpSub_any u b (All W) [.int .i64 5, .int .i64 0, .string noText, .slice E1 u.length e1, .slice none 0 0, .slice none 0 0] [.int .i64 5, .int .i64 0, .string noText, .slice A2 b.length c2, .slice none 0 0, .slice none 0 0] W HWF.out.2.1 HWF.out.2.2.2.1 (fun _ h => h) (srep_of_sl (HSE.out W hG).1) (srep_of_sl (HSE.out W hG).2.2.1))
      have HG2 := Lib.hid (And.intro hG hK)
      clear hG hK hF
      simp only [frameOf, List.take_succ_cons, List.take_zero, Act.put, List.setIfInBounds_toArray, List.set_cons_zero, List.set_cons_succ, Nat.zero_add, Nat.reduceAdd]
      simp only [f19, f21, f23]
      go_simp
      refine HN.out.mono ?_
      intro e w9 hp
      obtain ⟨j, hj, K1, k1, K2, k2, K3, k3, he, hr, hb9⟩ := dpost_v hp
      subst he
      obtain ⟨hG, hK⟩ := HG2.out
      exact hK _ _ _ (by simp only [frameOf, List.take_succ_cons, List.take_zero, Act.put, List.setIfInBounds_toArray, List.set_cons_zero, List.set_cons_succ, Nat.zero_add, Nat.reduceAdd, f19, f21, f23]) (hG.trans (hb9.mono hG.size)) (fun j u _ _ h => h.keep hb9) ⟨fun x hx => (by simp [suX] at hx), fun e => absurd e (by decide), fun e => absurd e (by decide), fun e => absurd e (by decide), fun _ => (.inl ⟨j, K1, k1, K2, k2, K3, k3, hj, rfl, VRep.keep (fun _ _ => rfl) (fun b hb => hb.2) _ _ hr⟩)⟩
    case s25 =>
      intro xs d W hd hdeps hG hF K hK
      simp [Region.binds] at hdeps
      have f19 : xs 19 = _ := (hF 19 (by first | exact hdeps | exact hdeps.1 | exact hdeps.2 | exact hdeps.2.1 | exact hdeps.2.2 | exact hdeps.2.2.1 | exact hdeps.2.2.2 | exact hdeps.2.2.2.1 | exact hdeps.2.2.2.2)).ex _ rfl
      simp only [frameOf, List.take_succ_cons, List.take_zero, Act.put, List.setIfInBounds_toArray, List.set_cons_zero, List.set_cons_succ, Nat.zero_add, Nat.reduceAdd]
      simp only [f19]
      go_simp
      exact hK _ _ _ (by simp only [frameOf, List.take_succ_cons, List.take_zero, Act.put, List.setIfInBounds_toArray, List.set_cons_zero, List.set_cons_succ, Nat.zero_add, Nat.reduceAdd, f19]) hG (fun j u _ _ h => h) (SuF.val rfl (by decide) (by decide) (by decide) (by decide))
    case s26 =>
      intro xs d W hd hdeps hG hF K hK
      simp [Region.binds] at hdeps
      have f19 : xs 19 = _ := (hF 19 (by first | exact hdeps | exact hdeps.1 | exact hdeps.2 | exact hdeps.2.1 | exact hdeps.2.2 | exact hdeps.2.2.1 | exact hdeps.2.2.2 | exact hdeps.2.2.2.1 | exact hdeps.2.2.2.2)).ex _ rfl
      have f25 : xs 25 = _ := (hF 25 (by first | exact hdeps | exact hdeps.1 | exact hdeps.2 | exact hdeps.2.1 | exact hdeps.2.2 | exact hdeps.2.2.1 | exact hdeps.2.2.2 | exact hdeps.2.2.2.1 | exact hdeps.2.2.2.2)).ex _ rfl
      have hb := (hG.block _ (box_lt HBX.out.2)).trans HBX.out.2
      have b0 := box_cell hb 0
      have b1 := box_cell hb 1
      have b2 := box_cell hb 2
      have b3 := box_cell hb 3
      have b4 := box_cell hb 4
      have b5 := box_cell hb 5
      simp at b0 b1 b2 b3 b4 b5
      clear hb
      simp only [frameOf, List.take_succ_cons, List.take_zero, Act.put, List.setIfInBounds_toArray, List.set_cons_zero, List.set_cons_succ, Nat.zero_add, Nat.reduceAdd]
      simp only [f19, f25]
      go_simp
      exact hK _ _ _ (by simp only [frameOf, List.take_succ_cons, List.take_zero, Act.put, List.setIfInBounds_toArray, List.set_cons_zero, List.set_cons_succ, Nat.zero_add, Nat.reduceAdd, f19, f25]) hG (fun j u _ _ h => h) (SuF.val rfl (by decide) (by decide) (by decide) (by decide))
    case s27 =>
      intro xs d W hd hdeps hG hF K hK
      simp [Region.binds] at hdeps
      have f19 : xs 19 = _ := (hF 19 (by first | exact hdeps | exact hdeps.1 | exact hdeps.2 | exact hdeps.2.1 | exact hdeps.2.2 | exact hdeps.2.2.1 | exact hdeps.2.2.2 | exact hdeps.2.2.2.1 | exact hdeps.2.2.2.2)).ex _ rfl
      have f26 : xs 26 = _ := (hF 26 (by first | exact hdeps | exact hdeps.1 | exact hdeps.2 | exact hdeps.2.1 | exact hdeps.2.2 | exact hdeps.2.2.1 | exact hdeps.2.2.2 | exact hdeps.2.2.2.1 | exact hdeps.2.2.2.2)).ex _ rfl
      have f24 := (hF 24 (by first | exact hdeps | exact hdeps.1 | exact hdeps.2 | exact hdeps.2.1 | exact hdeps.2.2 | exact hdeps.2.2.1 | exact hdeps.2.2.2 | exact hdeps.2.2.2.1 | exact hdeps.2.2.2.2)).s24 rfl
      have HN := Lib.hid (given_arr HPU.out.2 HWF.out.2.2.2.2.2 (xs 24) W (All W) L1 L2 L3 m1 m2 m3 (fun _ h => h) f24 (HSE.out W hG).2.2.2.2)
      have HG2 := Lib.hid (And.intro hG hK)
      clear hG hK hF
      simp only [frameOf, List.take_succ_cons, List.take_zero, Act.put, List.setIfInBounds_toArray, List.set_cons_zero, List.set_cons_succ, Nat.zero_add, Nat.reduceAdd]
      simp only [f19, f26]
      go_simp
      refine HN.out.mono ?_
      intro e w9 hp
      obtain ⟨he, hb9⟩ := hp
      subst he
      obtain ⟨hG, hK⟩ := HG2.out
      exact hK _ _ _ (by simp only [frameOf, List.take_succ_cons, List.take_zero, Act.put, List.setIfInBounds_toArray, List.set_cons_zero, List.set_cons_succ, Nat.zero_add, Nat.reduceAdd, f19, f26]) (hG.trans (hb9.mono hG.size)) (fun j u _ _ h => h.keep hb9) (SuF.val rfl (by decide) (by decide) (by decide) (by decide))
    case s28 =>
      intro xs d W hd hdeps hG hF K hK
      simp [Region.binds] at hdeps
      have f19 : xs 19 = _ := (hF 19 (by first | exact hdeps | exact hdeps.1 | exact hdeps.2 | exact hdeps.2.1 | exact hdeps.2.2 | exact hdeps.2.2.1 | exact hdeps.2.2.2 | exact hdeps.2.2.2.1 | exact hdeps.2.2.2.2)).ex _ rfl
      have f27 : xs 27 = _ := (hF 27 (by first | exact hdeps | exact hdeps.1 | exact hdeps.2 | exact hdeps.2.1 | exact hdeps.2.2 | exact hdeps.2.2.1 | exact hdeps.2.2.2 | exact hdeps.2.2.2.1 | exact hdeps.2.2.2.2)).ex _ rfl
      simp only [frameOf, List.take_succ_cons, List.take_zero, Act.put, List.setIfInBounds_toArray, List.set_cons_zero, List.set_cons_succ, Nat.zero_add, Nat.reduceAdd]
      simp only [f19, f27]
      go_simp
      exact hK _ _ _ (by simp only [frameOf, List.take_succ_cons, List.take_zero, Act.put, List.setIfInBounds_toArray, List.set_cons_zero, List.set_cons_succ, Nat.zero_add, Nat.reduceAdd, f19, f27]) hG (fun j u _ _ h => h) (SuF.val rfl (by decide) (by decide) (by decide) (by decide))
    case e =>
      intro xs W hG hF
      have f28 : xs 28 = _ := (hF 28 (by omega)).ex _ rfl
      have HE := Lib.hid (HBF.out.trans (hG.mono HBF.out.size))
      clear hG hF
      simp only [frameOf, List.take_succ_cons, List.take_zero, List.drop_succ_cons, List.drop_zero, Act.put, List.setIfInBounds_toArray, List.set_cons_zero, List.set_cons_succ, Nat.zero_add, Nat.reduceAdd, f28]
      clear f28
      go_wp2_with fail
      go_ret
      exact ⟨rfl, HE.out⟩
end Go.Proofs.YtfhppajnnbbcjaaGreatDoor
end
