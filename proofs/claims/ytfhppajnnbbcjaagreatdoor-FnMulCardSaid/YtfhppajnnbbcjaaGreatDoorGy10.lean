/- Walks: gojq.indexFunc with the two closures.
   Walks: gojq.funcIndex, funcRindex and their doors.
   Walks: gojq's ZzGetPath.
   Walks: impl.GetPath.
   Walks: impl.GetPath, whole.
   Walks: the impl functions of two JSON values, over their doors.
   impl.IndexOf and impl.RIndexOf: what they answer. -/
import Derived.Test.YtfhppajnnbbcjaaGreatDoorGy9
import Derived.Test.YtfhppajnnbbcjaaGreatDoorGy8
import Derived.Test.YtfhppajnnbbcjaaGreatDoorGy3
import Derived.Test.YtfhppajnnbbcjaaGreatDoorGy6

section
namespace Go.Proofs.YtfhppajnnbbcjaaGreatDoor
open Go.RowKit

/-- what gojq's index and rindex answer -/
def IdxR (R : List J → List J → Option Nat → Prop) (x y : J) (v : Value) : Prop :=
  match x with
  | .null => v = .nilIface
  | .arr a => (match y with
    | .arr b => ∃ r, v = idxV r ∧ R a b r
    | y => ∃ r, v = idxV r ∧ R a [y] r)
  | .str s => (match y with
    | .str t => ∃ r, v = idxV r ∧ R (runesJ s) (runesJ t) r
    | _ => ∃ q, v = .iface 159 q)
  | _ => ∃ q, v = .iface 159 q

theorem runesD_le (s : ByteArray) : ∀ (f p r : Nat), r ∈ runesD s f p → r ≤ 2147483647
  | 0, _, _, h => by simp [runesD] at h
  | f + 1, p, r, h => by
    rw [runesD_succ] at h
    split at h
    · rcases List.mem_cons.1 h with rfl | h
      · exact decode_le s p
      · exact runesD_le s f _ r h
    · cases h

theorem runes_ok (s : ByteArray) (h : (J.str s).WF) : WFL (runesJ s) ∧ (runesJ s).length ≤ 1048576 := by
  simp only [J.WF] at h
  refine ⟨WFL_iff.2 fun x hx => ?_, ?_⟩
  · obtain ⟨r, hr, rfl⟩ := List.mem_map.1 hx
    have := runesD_le s _ _ r hr
    simp only [J.WF]
    omega
  · unfold runesJ
    rw [List.length_map]
    have := runesD_length s s.size 0
    omega

theorem one_row {y : J} (v : Value) (w : World) (h : ARep (w.alloc (.cells #[v] 20)) (All (w.alloc (.cells #[v] 20))) y v) :
    SlAt (All (w.alloc (.cells #[v] 20))) [y].length (.slice (some ⟨w.heap.size, 0, none⟩) 1 1) (fun b o => ARow (w.alloc (.cells #[v] 20)) (All (w.alloc (.cells #[v] 20))) b [y] o) :=
  ⟨some ⟨w.heap.size, 0, none⟩, 1, rfl, Nat.le_refl _, by unfold maxLen; omega, fun _ => ⟨w.heap.size, 0, rfl, by simp [All], ⟨v, by rw [cell_of_row _ _ _ _ _ _ (heap_alloc_new w _)]; rfl, h⟩, trivial⟩⟩

set_option maxRecDepth 100000 in
set_option maxHeartbeats 2000000 in
theorem indexFunc_first (nm : ByteArray) (x y : J) (D : Nat → Prop) (xv yv : Value) (w : World) (wx : x.WF) (wy : y.WF) (hB : ∀ b, D b → All w b) (hx : ARep w D x xv) (hy : ARep w D y yv) :
    Calls Tryz.prog 131 #[.string nm, xv, yv, .func (.func 132) #[] #[]] w fun e w' => (∃ v, e = .returned v ∧ IdxR IsFirst x y v) ∧ Below w.heap.size w w' := by
  have hys := hy.shape
  cases x with
  | null =>
    obtain rfl : xv = .nilIface := hx
    go_enter Tryz.func131, Tryz.ntmps131
    go_wp2_with fail
    go_ret
    exact ⟨⟨_, rfl, rfl⟩, Below.refl _ _⟩
  | bool b =>
    obtain rfl : xv = .iface 4 (.bool b) := hx
    rcases hys with rfl | ⟨t, q, rfl⟩
    all_goals
      clear hy
      go_enter Tryz.func131, Tryz.ntmps131
      go_wp2_with fail
      go_ret
      exact ⟨⟨_, rfl, _, rfl⟩, (Below.refl _ _).alloc (Nat.le_refl _) _⟩
  | num n =>
    have hxs : ∃ t q, xv = .iface t q ∧ (t = 3 ∨ t = 87) := by
      rw [show xv = numV n from hx]
      unfold numV
      split
      · exact ⟨_, _, rfl, .inl rfl⟩
      · exact ⟨_, _, rfl, .inr rfl⟩
    obtain ⟨t0, q0, rfl, rfl | rfl⟩ := hxs
    all_goals
      rcases hys with rfl | ⟨t, q, rfl⟩
      all_goals
        clear hx hy
        go_enter Tryz.func131, Tryz.ntmps131
        go_wp2_with fail
        go_ret
        exact ⟨⟨_, rfl, _, rfl⟩, (Below.refl _ _).alloc (Nat.le_refl _) _⟩
  | obj ks vs =>
    obtain ⟨r, xs, rfl, -⟩ := hx
    rcases hys with rfl | ⟨t, q, rfl⟩
    all_goals
      clear hy
      go_enter Tryz.func131, Tryz.ntmps131
      go_wp2_with fail
      go_ret
      exact ⟨⟨_, rfl, _, rfl⟩, (Below.refl _ _).alloc (Nat.le_refl _) _⟩
  | str s =>
    obtain rfl : xv = .iface 9 (.string s) := hx
    cases y with
    | str t =>
      obtain rfl : yv = .iface 9 (.string t) := hy
      have H1 := Lib.hid (explode_any s w wx)
      have H2 := Lib.hid (fun W => explode_any t W wy)
      have HW := Lib.hid (And.intro (runes_ok s wx) (runes_ok t wy))
      clear hys wx wy hB
      go_enter Tryz.func131, Tryz.ntmps131
      go_wp2_with (first
        | (go_at_call 179; refine H1.out.mono ?_; rintro e w1 ⟨S1, rfl, hs1, hb1⟩; clear H1)
        | (go_at_call 179; refine (H2.out _).mono ?_; rintro e w2 ⟨S2, rfl, hs2, hb2⟩; clear H2))
      have hs1' : SlAt (All w2) (runesJ s).length S1 (fun b o => ARow w2 (All w2) b (runesJ s) o) := hs1.mono (fun b hb => Nat.lt_of_lt_of_le hb.2 hb2.size) fun b o hb hr => ARow.keep (Same.of_below hb2 fun b hb => hb.2) (fun b hb => Nat.lt_of_lt_of_le hb.2 hb2.size) _ _ _ hb hr
      have hs2' : SlAt (All w2) (runesJ t).length S2 (fun b o => ARow w2 (All w2) b (runesJ t) o) := hs2.mono (fun b hb => hb.2) fun b o hb hr => ARow.keep (fun _ _ => rfl) (fun b hb => hb.2) _ _ _ hb hr
      have H3 := Lib.hid (first_any (runesJ s) (runesJ t) (All w2) S1 S2 w2 HW.out.1.1 HW.out.2.1 HW.out.1.2 HW.out.2.2 (fun _ h => h) hs1' hs2')
      have hb12 := Lib.hid (hb1.trans (hb2.mono hb1.size))
      clear hs1 hs2 hs1' hs2' hb1 hb2
      go_wp2_with (go_at_call 132; refine H3.out.mono ?_; rintro e w3 ⟨⟨r, rfl, hr⟩, hb3⟩)
      go_ret
      exact ⟨⟨_, rfl, r, rfl, hr⟩, hb12.out.trans (hb3.mono hb12.out.size)⟩
    | _ =>
      have hs := shp_of hy
      simp only [J.cls] at hs
      clear hys hy
      cases hs
      all_goals
        go_enter Tryz.func131, Tryz.ntmps131
        go_wp2_with fail
        go_ret
        exact ⟨⟨_, rfl, _, rfl⟩, (Below.refl _ _).alloc (Nat.le_refl _) _⟩
  | arr a =>
    obtain ⟨S1, rfl, hS1⟩ := hx
    simp only [J.WF] at wx
    cases y with
    | arr b =>
      obtain ⟨S2, rfl, hS2⟩ := hy
      simp only [J.WF] at wy
      have H3 := Lib.hid (first_any a b D S1 S2 w wx.2 wy.2 wx.1 wy.1 hB hS1 hS2)
      clear hys wx wy hB hS1 hS2
      go_enter Tryz.func131, Tryz.ntmps131
      go_wp2_with (go_at_call 132; refine H3.out.mono ?_; rintro e w3 ⟨⟨r, rfl, hr⟩, hb3⟩)
      go_ret
      exact ⟨⟨_, rfl, r, rfl, hr⟩, hb3⟩
    | _ =>
      have hs := shp_of hy
      simp only [J.cls] at hs
      have hb0 := (Below.refl w.heap.size w).alloc (Nat.le_refl _) (.cells #[yv] 20)
      have hS1' : SlAt (All (w.alloc (.cells #[yv] 20))) a.length S1 (fun b o => ARow (w.alloc (.cells #[yv] 20)) (All (w.alloc (.cells #[yv] 20))) b a o) := hS1.mono (fun b hb => Nat.lt_of_lt_of_le (hB b hb) hb0.size) fun b o hb hr => ARow.keep (Same.of_below hb0 hB) (fun b hb => Nat.lt_of_lt_of_le (hB b hb) hb0.size) _ _ _ hb hr
      have hyr := ARep.keep (Same.of_below hb0 hB) (fun b hb => Nat.lt_of_lt_of_le (hB b hb) hb0.size) _ _ hy
      have hS2 := one_row yv w hyr
      have H3 := Lib.hid (first_any a [_] (All (w.alloc (.cells #[yv] 20))) S1 (.slice (some ⟨w.heap.size, 0, none⟩) 1 1) (w.alloc (.cells #[yv] 20)) wx.2 ⟨wy, trivial⟩ wx.1 (by simp) (fun _ h => h) hS1' hS2)
      have hb0 := Lib.hid hb0
      clear hys hy hS1 hS1' hyr hS2 wx wy hB
      cases hs
      all_goals
        go_enter Tryz.func131, Tryz.ntmps131
        go_wp2_with (go_at_call 132; refine H3.out.mono ?_; rintro e w3 ⟨⟨r, rfl, hr⟩, hb3⟩)
        go_ret
        exact ⟨⟨_, rfl, r, rfl, hr⟩, hb0.out.trans (hb3.mono hb0.out.size)⟩

set_option maxRecDepth 100000 in
set_option maxHeartbeats 2000000 in
theorem indexFunc_last (nm : ByteArray) (x y : J) (D : Nat → Prop) (xv yv : Value) (w : World) (wx : x.WF) (wy : y.WF) (hB : ∀ b, D b → All w b) (hx : ARep w D x xv) (hy : ARep w D y yv) :
    Calls Tryz.prog 131 #[.string nm, xv, yv, .func (.func 134) #[] #[]] w fun e w' => (∃ v, e = .returned v ∧ IdxR IsLast x y v) ∧ Below w.heap.size w w' := by
  have hys := hy.shape
  cases x with
  | null =>
    obtain rfl : xv = .nilIface := hx
    go_enter Tryz.func131, Tryz.ntmps131
    go_wp2_with fail
    go_ret
    exact ⟨⟨_, rfl, rfl⟩, Below.refl _ _⟩
  | bool b =>
    obtain rfl : xv = .iface 4 (.bool b) := hx
    rcases hys with rfl | ⟨t, q, rfl⟩
    all_goals
      clear hy
      go_enter Tryz.func131, Tryz.ntmps131
      go_wp2_with fail
      go_ret
      exact ⟨⟨_, rfl, _, rfl⟩, (Below.refl _ _).alloc (Nat.le_refl _) _⟩
  | num n =>
    have hxs : ∃ t q, xv = .iface t q ∧ (t = 3 ∨ t = 87) := by
      rw [show xv = numV n from hx]
      unfold numV
      split
      · exact ⟨_, _, rfl, .inl rfl⟩
      · exact ⟨_, _, rfl, .inr rfl⟩
    obtain ⟨t0, q0, rfl, rfl | rfl⟩ := hxs
    all_goals
      rcases hys with rfl | ⟨t, q, rfl⟩
      all_goals
        clear hx hy
        go_enter Tryz.func131, Tryz.ntmps131
        go_wp2_with fail
        go_ret
        exact ⟨⟨_, rfl, _, rfl⟩, (Below.refl _ _).alloc (Nat.le_refl _) _⟩
  | obj ks vs =>
    obtain ⟨r, xs, rfl, -⟩ := hx
    rcases hys with rfl | ⟨t, q, rfl⟩
    all_goals
      clear hy
      go_enter Tryz.func131, Tryz.ntmps131
      go_wp2_with fail
      go_ret
      exact ⟨⟨_, rfl, _, rfl⟩, (Below.refl _ _).alloc (Nat.le_refl _) _⟩
  | str s =>
    obtain rfl : xv = .iface 9 (.string s) := hx
    cases y with
    | str t =>
      obtain rfl : yv = .iface 9 (.string t) := hy
      have H1 := Lib.hid (explode_any s w wx)
      have H2 := Lib.hid (fun W => explode_any t W wy)
      have HW := Lib.hid (And.intro (runes_ok s wx) (runes_ok t wy))
      clear hys wx wy hB
      go_enter Tryz.func131, Tryz.ntmps131
      go_wp2_with (first
        | (go_at_call 179; refine H1.out.mono ?_; rintro e w1 ⟨S1, rfl, hs1, hb1⟩; clear H1)
        | (go_at_call 179; refine (H2.out _).mono ?_; rintro e w2 ⟨S2, rfl, hs2, hb2⟩; clear H2))
      have hs1' : SlAt (All w2) (runesJ s).length S1 (fun b o => ARow w2 (All w2) b (runesJ s) o) := hs1.mono (fun b hb => Nat.lt_of_lt_of_le hb.2 hb2.size) fun b o hb hr => ARow.keep (Same.of_below hb2 fun b hb => hb.2) (fun b hb => Nat.lt_of_lt_of_le hb.2 hb2.size) _ _ _ hb hr
      have hs2' : SlAt (All w2) (runesJ t).length S2 (fun b o => ARow w2 (All w2) b (runesJ t) o) := hs2.mono (fun b hb => hb.2) fun b o hb hr => ARow.keep (fun _ _ => rfl) (fun b hb => hb.2) _ _ _ hb hr
      have H3 := Lib.hid (last_any (runesJ s) (runesJ t) (All w2) S1 S2 w2 HW.out.1.1 HW.out.2.1 HW.out.1.2 HW.out.2.2 (fun _ h => h) hs1' hs2')
      have hb12 := Lib.hid (hb1.trans (hb2.mono hb1.size))
      clear hs1 hs2 hs1' hs2' hb1 hb2
      go_wp2_with (go_at_call 134; refine H3.out.mono ?_; rintro e w3 ⟨⟨r, rfl, hr⟩, hb3⟩)
      go_ret
      exact ⟨⟨_, rfl, r, rfl, hr⟩, hb12.out.trans (hb3.mono hb12.out.size)⟩
    | _ =>
      have hs := shp_of hy
      simp only [J.cls] at hs
      clear hys hy
      cases hs
      all_goals
        go_enter Tryz.func131, Tryz.ntmps131
        go_wp2_with fail
        go_ret
        exact ⟨⟨_, rfl, _, rfl⟩, (Below.refl _ _).alloc (Nat.le_refl _) _⟩
  | arr a =>
    obtain ⟨S1, rfl, hS1⟩ := hx
    simp only [J.WF] at wx
    cases y with
    | arr b =>
      obtain ⟨S2, rfl, hS2⟩ := hy
      simp only [J.WF] at wy
      have H3 := Lib.hid (last_any a b D S1 S2 w wx.2 wy.2 wx.1 wy.1 hB hS1 hS2)
      clear hys wx wy hB hS1 hS2
      go_enter Tryz.func131, Tryz.ntmps131
      go_wp2_with (go_at_call 134; refine H3.out.mono ?_; rintro e w3 ⟨⟨r, rfl, hr⟩, hb3⟩)
      go_ret
      exact ⟨⟨_, rfl, r, rfl, hr⟩, hb3⟩
    | _ =>
      have hs := shp_of hy
      simp only [J.cls] at hs
      have hb0 := (Below.refl w.heap.size w).alloc (Nat.le_refl _) (.cells #[yv] 20)
      have hS1' : SlAt (All (w.alloc (.cells #[yv] 20))) a.length S1 (fun b o => ARow (w.alloc (.cells #[yv] 20)) (All (w.alloc (.cells #[yv] 20))) b a o) := hS1.mono (fun b hb => Nat.lt_of_lt_of_le (hB b hb) hb0.size) fun b o hb hr => ARow.keep (Same.of_below hb0 hB) (fun b hb => Nat.lt_of_lt_of_le (hB b hb) hb0.size) _ _ _ hb hr
      have hyr := ARep.keep (Same.of_below hb0 hB) (fun b hb => Nat.lt_of_lt_of_le (hB b hb) hb0.size) _ _ hy
      have hS2 := one_row yv w hyr
      have H3 := Lib.hid (last_any a [_] (All (w.alloc (.cells #[yv] 20))) S1 (.slice (some ⟨w.heap.size, 0, none⟩) 1 1) (w.alloc (.cells #[yv] 20)) wx.2 ⟨wy, trivial⟩ wx.1 (by simp) (fun _ h => h) hS1' hS2)
      have hb0 := Lib.hid hb0
      clear hys hy hS1 hS1' hyr hS2 wx wy hB
      cases hs
      all_goals
        go_enter Tryz.func131, Tryz.ntmps131
        go_wp2_with (go_at_call 134; refine H3.out.mono ?_; rintro e w3 ⟨⟨r, rfl, hr⟩, hb3⟩)
        go_ret
        exact ⟨⟨_, rfl, r, rfl, hr⟩, hb0.out.trans (hb3.mono hb0.out.size)⟩
end Go.Proofs.YtfhppajnnbbcjaaGreatDoor
end

section
namespace Go.Proofs.YtfhppajnnbbcjaaGreatDoor
open Go.RowKit

theorem gIndex_any (x y : J) (D : Nat → Prop) (xv yv : Value) (w : World) (wx : x.WF) (wy : y.WF) (hB : ∀ b, D b → All w b) (hx : ARep w D x xv) (hy : ARep w D y yv) :
    Calls Tryz.prog 88 #[xv, yv] w fun e w' => (∃ v, e = .returned v ∧ IdxR IsFirst x y v) ∧ Below w.heap.size w w' := by
  have H := Lib.hid (fun nm => indexFunc_first nm x y D xv yv w wx wy hB hx hy)
  clear wx wy hB hx hy
  go_enter Tryz.func88, Tryz.ntmps88
  go_wp2_with (go_at_call 131; refine (H.out _).mono ?_; rintro e w1 ⟨⟨v, rfl, hr⟩, hb⟩)
  go_ret
  exact ⟨⟨_, rfl, hr⟩, hb⟩

theorem zzgIndex_any (x y : J) (D : Nat → Prop) (xv yv : Value) (w : World) (wx : x.WF) (wy : y.WF) (hB : ∀ b, D b → All w b) (hx : ARep w D x xv) (hy : ARep w D y yv) :
    Calls Tryz.prog 44 #[xv, yv] w fun e w' => (∃ v, e = .returned v ∧ IdxR IsFirst x y v) ∧ Below w.heap.size w w' := by
  have H := Lib.hid (gIndex_any x y D xv yv w wx wy hB hx hy)
  clear wx wy hB hx hy
  go_enter Tryz.func44, Tryz.ntmps44
  go_wp2_with (go_at_call 88; refine H.out.mono ?_; rintro e w1 ⟨⟨v, rfl, hr⟩, hb⟩)
  go_ret
  exact ⟨⟨_, rfl, hr⟩, hb⟩

theorem gRindex_any (x y : J) (D : Nat → Prop) (xv yv : Value) (w : World) (wx : x.WF) (wy : y.WF) (hB : ∀ b, D b → All w b) (hx : ARep w D x xv) (hy : ARep w D y yv) :
    Calls Tryz.prog 89 #[xv, yv] w fun e w' => (∃ v, e = .returned v ∧ IdxR IsLast x y v) ∧ Below w.heap.size w w' := by
  have H := Lib.hid (fun nm => indexFunc_last nm x y D xv yv w wx wy hB hx hy)
  clear wx wy hB hx hy
  go_enter Tryz.func89, Tryz.ntmps89
  go_wp2_with (go_at_call 131; refine (H.out _).mono ?_; rintro e w1 ⟨⟨v, rfl, hr⟩, hb⟩)
  go_ret
  exact ⟨⟨_, rfl, hr⟩, hb⟩

theorem zzgRindex_any (x y : J) (D : Nat → Prop) (xv yv : Value) (w : World) (wx : x.WF) (wy : y.WF) (hB : ∀ b, D b → All w b) (hx : ARep w D x xv) (hy : ARep w D y yv) :
    Calls Tryz.prog 45 #[xv, yv] w fun e w' => (∃ v, e = .returned v ∧ IdxR IsLast x y v) ∧ Below w.heap.size w w' := by
  have H := Lib.hid (gRindex_any x y D xv yv w wx wy hB hx hy)
  clear wx wy hB hx hy
  go_enter Tryz.func45, Tryz.ntmps45
  go_wp2_with (go_at_call 89; refine H.out.mono ?_; rintro e w1 ⟨⟨v, rfl, hr⟩, hb⟩)
  go_ret
  exact ⟨⟨_, rfl, hr⟩, hb⟩
end Go.Proofs.YtfhppajnnbbcjaaGreatDoor
end

section
namespace Go.Proofs.YtfhppajnnbbcjaaGreatDoor
open Go.RowKit

theorem zzGetPath_any (x : J) (ps : List J) (D : Nat → Prop) (xv S : Value) (w : World) (wx : x.WF) (hps : ∀ k ∈ ps, Key k) (hn : ps.length ≤ 1048576) (hxv : ARep w D x xv) (hS : SlAt D ps.length S (fun b o => ARow w D b ps o)) :
    Calls Tryz.prog 53 #[xv, .iface 88 S] w (GetpPost D x ps w) := by
  have HC := Lib.hid (getpath_any x ps D xv S w wx hps hn hxv hS)
  clear hxv hS hps
  go_enter Tryz.func53, Tryz.ntmps53
  go_wp2_with fail
  refine HC.out.mono ?_
  clear HC
  intro e w1 hpost
  have HP := Lib.hid hpost
  unfold GetpPost at hpost
  have he : ∃ v, e = .returned v := by
    cases hg : getp x ps with
    | some y => rw [hg] at hpost; obtain ⟨v, hv, -⟩ := hpost; exact ⟨v, hv⟩
    | none => rw [hg] at hpost; obtain ⟨T, v, hv, -⟩ := hpost; exact ⟨_, hv⟩
  clear hpost
  obtain ⟨v, rfl⟩ := he
  go_wp2_with fail
  go_ret
  exact HP.out

end Go.Proofs.YtfhppajnnbbcjaaGreatDoor
end

section
namespace Go.Proofs.YtfhppajnnbbcjaaGreatDoor
open Go.RowKit

def GPPost (x : J) (ps : List J) (w : World) (e : Ending) (w' : World) : Prop := match getp x ps with
  | some y => ResOK y w e w'
  | none => ResErr w e w'

theorem getp_WF : ∀ {ps : List J} {x y : J}, getp x ps = some y → x.WF → y.WF
  | [], x, y, h, wx => by simp only [getp, Option.some.injEq] at h; subst h; exact wx
  | k :: ps, x, y, h, wx => by
    rw [getp] at h
    split at h
    · cases hs : stepJ x k with
      | none => rw [hs] at h; simp at h
      | some z =>
        rw [hs] at h
        exact getp_WF (show getp z ps = some y from h) (stepJ_WF hs wx)
    · simp at h

theorem getp_append : ∀ (ps qs : List J) (x : J), getp x (ps ++ qs) = (getp x ps).bind fun y => getp y qs
  | [], _, _ => rfl
  | k :: ps, qs, x => by
    rw [List.cons_append, getp, getp]
    split
    · cases hs : stepJ x k with
      | none => rfl
      | some z => exact getp_append ps qs z
    · rfl

end Go.Proofs.YtfhppajnnbbcjaaGreatDoor
end

section
namespace Go.Proofs.YtfhppajnnbbcjaaGreatDoor
open Go.RowKit

abbrev zRes : Array Value := #[.int .i64 0, .int .i64 0, .string ⟨#[]⟩, .slice none 0 0, .slice none 0 0, .slice none 0 0, .int .i64 0]

set_option maxHeartbeats 1000000 in
set_option maxRecDepth 100000 in
theorem GetPath_any (x : J) (ps : List J) (D : Nat → Prop) (cx cp : List Value) (w : World) (wx : x.WF) (wp : (J.arr ps).WF) (hps : ∀ k ∈ ps, Key k) (hD : ∀ b, D b → All w b) (hx : SRep w D x cx) (hp : SRep w D (.arr ps) cp) :
    Calls Tryz.prog 20 #[.agg cx.toArray, .agg cp.toArray] w (GPPost x ps w) := by
  have hb0 : Below w.heap.size w (((w.alloc (.cells cx.toArray 26)).alloc (.cells cp.toArray 26)).alloc (.cells zRes 34)) := (((Below.refl _ _).alloc (Nat.le_refl _) _).alloc (by simp) _).alloc (by simp; omega) _
  have hsz0 : (((w.alloc (.cells cx.toArray 26)).alloc (.cells cp.toArray 26)).alloc (.cells zRes 34)).heap.size = w.heap.size + 3 := by simp
  have HC1 := Lib.hid (toGo_all x D cx _ wx (fun b hb => Nat.lt_of_lt_of_le (hD b hb) hb0.size) (VRep.keep (Same.of_below hb0 hD) (fun _ h => h) _ _ hx))
  have HC2 : Hid (∀ W, Below w.heap.size w W → Calls Tryz.prog 42 #[.agg cp.toArray] W (ToGoPost (.arr ps) W)) := fun W hb => toGo_all (.arr ps) D cp W wp (fun b hb' => Nat.lt_of_lt_of_le (hD b hb') hb.size) (VRep.keep (Same.of_below hb hD) (fun _ h => h) _ _ hp)
  obtain ⟨A1, c1, A2, c2, A3, c3, rfl⟩ := SRep.six hx
  obtain ⟨B1, d1, B2, d2, B3, d3, rfl⟩ := SRep.six hp
  have hbx1 := heap_alloc_new1 w (.cells [Value.int .i64 x.kind, .int .i64 x.half, .string x.text, .slice A1 x.list.length c1, .slice A2 x.keys.length c2, .slice A3 x.vals.length c3].toArray 26) (.cells [Value.int .i64 (J.arr ps).kind, .int .i64 (J.arr ps).half, .string (J.arr ps).text, .slice B1 (J.arr ps).list.length d1, .slice B2 (J.arr ps).keys.length d2, .slice B3 (J.arr ps).vals.length d3].toArray 26)
  have hbx2 : (((w.alloc (.cells [Value.int .i64 x.kind, .int .i64 x.half, .string x.text, .slice A1 x.list.length c1, .slice A2 x.keys.length c2, .slice A3 x.vals.length c3].toArray 26)).alloc (.cells [Value.int .i64 (J.arr ps).kind, .int .i64 (J.arr ps).half, .string (J.arr ps).text, .slice B1 (J.arr ps).list.length d1, .slice B2 (J.arr ps).keys.length d2, .slice B3 (J.arr ps).vals.length d3].toArray 26)).alloc (.cells zRes 34)).heap[w.heap.size + 1]? = some (.cells [Value.int .i64 (J.arr ps).kind, .int .i64 (J.arr ps).half, .string (J.arr ps).text, .slice B1 (J.arr ps).list.length d1, .slice B2 (J.arr ps).keys.length d2, .slice B3 (J.arr ps).vals.length d3].toArray 26 (0, 0)) := (Below.heap_alloc _ _ _ (by simp)).trans hbx1
  have hbx3 : (((w.alloc (.cells [Value.int .i64 x.kind, .int .i64 x.half, .string x.text, .slice A1 x.list.length c1, .slice A2 x.keys.length c2, .slice A3 x.vals.length c3].toArray 26)).alloc (.cells [Value.int .i64 (J.arr ps).kind, .int .i64 (J.arr ps).half, .string (J.arr ps).text, .slice B1 (J.arr ps).list.length d1, .slice B2 (J.arr ps).keys.length d2, .slice B3 (J.arr ps).vals.length d3].toArray 26)).alloc (.cells zRes 34)).heap[w.heap.size + 2]? = some (.cells zRes 34 (0, 0)) := by
    have := heap_alloc_new ((w.alloc (.cells [Value.int .i64 x.kind, .int .i64 x.half, .string x.text, .slice A1 x.list.length c1, .slice A2 x.keys.length c2, .slice A3 x.vals.length c3].toArray 26)).alloc (.cells [Value.int .i64 (J.arr ps).kind, .int .i64 (J.arr ps).half, .string (J.arr ps).text, .slice B1 (J.arr ps).list.length d1, .slice B2 (J.arr ps).keys.length d2, .slice B3 (J.arr ps).vals.length d3].toArray 26)) (.cells zRes 34)
    rwa [World.size_alloc, World.size_alloc] at this
  have HB := Lib.hid (And.intro hb0 (And.intro hsz0 (And.intro hbx2 hbx3)))
  have HW := Lib.hid (And.intro wx (And.intro wp (And.intro hps hD)))
  clear hx hp hb0 hsz0 wx wp hps hD hbx1 hbx2 hbx3
  go_enter Tryz.func20, Tryz.ntmps20
  go_wp2_with fail
  refine HC1.out.mono ?_
  clear HC1
  rintro e w1 ⟨v1, rfl, hv1, hb1⟩
  obtain ⟨W0, hA, hs0, hbp, hbr, hv1, hb1⟩ : ∃ W0 : World, Below w.heap.size w W0 ∧ W0.heap.size = w.heap.size + 3 ∧ W0.heap[w.heap.size + 1]? = some (.cells [Value.int .i64 (J.arr ps).kind, .int .i64 (J.arr ps).half, .string (J.arr ps).text, .slice B1 (J.arr ps).list.length d1, .slice B2 (J.arr ps).keys.length d2, .slice B3 (J.arr ps).vals.length d3].toArray 26 (0, 0)) ∧ W0.heap[w.heap.size + 2]? = some (.cells zRes 34 (0, 0)) ∧
    ARep w1 (Fresh W0 w1) x v1 ∧ Below W0.heap.size W0 w1 := ⟨_, HB.out.1, HB.out.2.1, HB.out.2.2.1, HB.out.2.2.2, hv1, hb1⟩
  clear HB
  have hsz1 := hb1.size
  have hbp1 := (hb1.block _ (by omega)).trans hbp
  have hbr1 := (hb1.block _ (by omega)).trans hbr
  have hA1 : Below w.heap.size w w1 := hA.trans (hb1.mono (by omega))
  have q0 : w1.cell? ⟨w.heap.size + 1, 0, none⟩ = _ := box_cell hbp1 0
  have q1 : w1.cell? ⟨w.heap.size + 1, 1, none⟩ = _ := box_cell hbp1 1
  have q2 : w1.cell? ⟨w.heap.size + 1, 2, none⟩ = _ := box_cell hbp1 2
  have q3 : w1.cell? ⟨w.heap.size + 1, 3, none⟩ = _ := box_cell hbp1 3
  have q4 : w1.cell? ⟨w.heap.size + 1, 4, none⟩ = _ := box_cell hbp1 4
  have q5 : w1.cell? ⟨w.heap.size + 1, 5, none⟩ = _ := box_cell hbp1 5
  have HC := Lib.hid (HC2.out w1 hA1)
  have HV := Lib.hid (And.intro hv1 (And.intro hs0 (And.intro hsz1 (And.intro hbr1 hA1))))
  clear HC2 hv1 hb1 hA hs0 hbp hbr hsz1 hbp1 hbr1 hA1
  go_wp2_with fail
  refine HC.out.mono ?_
  clear HC
  rintro e w2 ⟨v2, rfl, hv2, hb2⟩
  obtain ⟨S, rfl, hS⟩ := hv2
  have hsz2 := hb2.size
  obtain ⟨hv1, hs0, hsz1, hbr1, hA1⟩ := HV.out
  have hv1' : ARep w2 (fun b => w.heap.size + 3 ≤ b ∧ b < w2.heap.size) x v1 := ARep.keep (fun b hb => hb2.block b hb.2) (fun b hb => ⟨by have := hb.1; omega, Nat.lt_of_lt_of_le hb.2 hsz2⟩) _ _ hv1
  have hS' : SlAt (fun b => w.heap.size + 3 ≤ b ∧ b < w2.heap.size) ps.length S (fun b o => ARow w2 (fun b => w.heap.size + 3 ≤ b ∧ b < w2.heap.size) b ps o) :=
    hS.mono (fun b hb => ⟨by have := hb.1; omega, hb.2⟩) fun b o hb hr => ARow.keep (fun _ _ => rfl) (fun b hb => ⟨by have := hb.1; omega, hb.2⟩) _ _ _ hb hr
  have HG := Lib.hid (zzGetPath_any x ps _ v1 S w2 HW.out.1 HW.out.2.2.1 HW.out.2.1.1 hv1' hS')
  have HD := Lib.hid (And.intro (hA1.trans (hb2.mono (by omega))) (And.intro ((hb2.block _ (by omega)).trans hbr1) (show w.heap.size + 3 ≤ w2.heap.size by omega)))
  clear hv1' hS' hS hv1 hs0 hsz1 hbr1 hA1 HV hb2 hsz2 q0 q1 q2 q3 q4 q5
  go_wp2_with fail
  refine HG.out.mono ?_
  clear HG
  intro e w3 hpost
  unfold GetpPost at hpost
  cases hg : getp x ps with
  | some y =>
    rw [hg] at hpost
    obtain ⟨v, rfl, hv, rfl⟩ := hpost
    have HR := Lib.hid (result_val y _ v w3 (getp_WF hg HW.out.1) (fun b hb => hb.2) hv)
    have HY := Lib.hid hg
    clear hv hg
    go_wp2_with fail
    refine HR.out.mono ?_
    clear HR
    rintro e w4 ⟨E1, e1, E2, e2, E3, e3, rfl, hr4, hb4⟩
    have hbr4 := (hb4.block _ (box_lt HD.out.2.1)).trans HD.out.2.1
    have r0 : w4.cell? ⟨w.heap.size + 2, 0, none⟩ = _ := box_cell hbr4 0
    have r1 : w4.cell? ⟨w.heap.size + 2, 1, none⟩ = _ := box_cell hbr4 1
    have r2 : w4.cell? ⟨w.heap.size + 2, 2, none⟩ = _ := box_cell hbr4 2
    have r3 : w4.cell? ⟨w.heap.size + 2, 3, none⟩ = _ := box_cell hbr4 3
    have r4 : w4.cell? ⟨w.heap.size + 2, 4, none⟩ = _ := box_cell hbr4 4
    have r5 : w4.cell? ⟨w.heap.size + 2, 5, none⟩ = _ := box_cell hbr4 5
    have r6 : w4.cell? ⟨w.heap.size + 2, 6, none⟩ = _ := box_cell hbr4 6
    have fz := box_frozen hbr4
    have HF := Lib.hid (And.intro hr4 hb4)
    clear hr4 hb4 hbr4
    go_wp2_with fail
    refine bodyPost_ret (v := .agg #[.int .i64 y.kind, .int .i64 y.half, .string y.text, .slice E1 y.list.length e1, .slice E2 y.keys.length e2, .slice E3 y.vals.length e3, .int .i64 0]) (by simp [results, Tryz.results20, go_sem, r0, r1, r2, r3, r4, r5, r6]) rfl ?_
    unfold GPPost
    rw [HY.out]
    refine ⟨E1, e1, E2, e2, E3, e3, rfl, ?_, ?_⟩
    · refine VRep.keep (D := Fresh w3 w4) (fun b hb => ?_) (fun b hb => ⟨by have := hb.1; have := HD.out.2.2; omega, by have := hb.2; simp [World.setCell]; omega⟩) _ _ HF.out.1
      have hne : b ≠ w.heap.size + 2 := by have := hb.1; have := HD.out.2.2; omega
      iterate 7 rw [heap_setCell_other _ _ _ _ hne]
    · repeat (refine Below.setCell ?_ (by simp; omega) _)
      exact HD.out.1.trans (HF.out.2.mono (by have := HD.out.2.2; omega))
  | none =>
    rw [hg] at hpost
    obtain ⟨T, v, rfl, hT, hb3⟩ := hpost
    have hTe : ∀ (x : TypeId) (W : World), (Instr.typeAssert (.iface T v) x 95 true).run Tryz.prog W = .ok (.tuple #[.iface T v, .bool true]) W := by
      rcases hT with rfl | rfl
      · exact fun x W => te_159 x v W
      · exact fun x W => te_162 x v W
    have HR := Lib.hid (result_err T v w3 hTe)
    have HY := Lib.hid (And.intro hg hb3)
    clear hTe hT hg hb3
    go_wp2_with fail
    refine HR.out.mono ?_
    clear HR
    rintro e w4 ⟨rfl, hb4⟩
    have hbr4 := (hb4.block _ (Nat.lt_of_lt_of_le (box_lt HD.out.2.1) HY.out.2.size)).trans ((HY.out.2.block _ (box_lt HD.out.2.1)).trans HD.out.2.1)
    have r0 : w4.cell? ⟨w.heap.size + 2, 0, none⟩ = _ := box_cell hbr4 0
    have r1 : w4.cell? ⟨w.heap.size + 2, 1, none⟩ = _ := box_cell hbr4 1
    have r2 : w4.cell? ⟨w.heap.size + 2, 2, none⟩ = _ := box_cell hbr4 2
    have r3 : w4.cell? ⟨w.heap.size + 2, 3, none⟩ = _ := box_cell hbr4 3
    have r4 : w4.cell? ⟨w.heap.size + 2, 4, none⟩ = _ := box_cell hbr4 4
    have r5 : w4.cell? ⟨w.heap.size + 2, 5, none⟩ = _ := box_cell hbr4 5
    have r6 : w4.cell? ⟨w.heap.size + 2, 6, none⟩ = _ := box_cell hbr4 6
    have fz := box_frozen hbr4
    have HF := Lib.hid hb4
    clear hb4 hbr4
    go_wp2_with fail
    refine bodyPost_ret (v := .agg #[.int .i64 0, .int .i64 0, .string ⟨#[]⟩, .slice none 0 0, .slice none 0 0, .slice none 0 0, .int .i64 1]) (by simp [results, Tryz.results20, go_sem, r0, r1, r2, r3, r4, r5, r6]) rfl ?_
    unfold GPPost
    rw [HY.out.1]
    refine ⟨rfl, ?_⟩
    repeat (refine Below.setCell ?_ (by simp; omega) _)
    have := HD.out.2.2
    have := HY.out.2.size
    exact (HD.out.1.trans (HY.out.2.mono (by omega))).trans (HF.out.mono (by omega))

end Go.Proofs.YtfhppajnnbbcjaaGreatDoor
end

section
namespace Go.Proofs.YtfhppajnnbbcjaaGreatDoor
open Go.RowKit

/-- what a door answers: a JSON value, or an error -/
def ZPost (Rj : J → Prop) (Re : Prop) (D : Nat → Prop) (W : World) (e : Ending) (W' : World) : Prop :=
  (∃ v j, e = .returned v ∧ j.WF ∧ Rj j ∧ ARep W' (fun b => D b ∨ (W.heap.size ≤ b ∧ b < W'.heap.size)) j v ∧ Below W.heap.size W W') ∨
  ∃ T v, e = .returned (.iface T v) ∧ (T = 159 ∨ T = 162 ∨ T = 205 ∨ T = 211) ∧ Re ∧ Below W.heap.size W W'
def ZHyp (Z : FuncId) (x y : J) (Rj : J → Prop) (Re : Prop) : Prop := ∀ (D : Nat → Prop) (v u : Value) (W : World), (∀ b, D b → All W b) → ARep W D x v → ARep W D y u → Calls Tryz.prog Z #[v, u] W (ZPost Rj Re D W)
def DPost (Rj : J → Prop) (Re : Prop) (w : World) (e : Ending) (w' : World) : Prop := (∃ j, Rj j ∧ ResOK j w e w') ∨ (Re ∧ ResErr w e w')

set_option maxHeartbeats 1000000 in
set_option maxRecDepth 100000 in
theorem door_IndexOf (x y : J) (Rj : J → Prop) (Re : Prop) (D : Nat → Prop) (cx cp : List Value) (w : World) (wx : x.WF) (wp : y.WF) (hz : ZHyp 44 x y Rj Re) (hD : ∀ b, D b → All w b) (hx : SRep w D x cx) (hp : SRep w D y cp) :
    Calls Tryz.prog 12 #[.agg cx.toArray, .agg cp.toArray] w (DPost Rj Re w) := by
  have hb0 : Below w.heap.size w (((w.alloc (.cells cx.toArray 26)).alloc (.cells cp.toArray 26)).alloc (.cells zRes 34)) := (((Below.refl _ _).alloc (Nat.le_refl _) _).alloc (by simp) _).alloc (by simp; omega) _
  have hsz0 : (((w.alloc (.cells cx.toArray 26)).alloc (.cells cp.toArray 26)).alloc (.cells zRes 34)).heap.size = w.heap.size + 3 := by simp
  have HC1 := Lib.hid (toGo_all x D cx _ wx (fun b hb => Nat.lt_of_lt_of_le (hD b hb) hb0.size) (VRep.keep (Same.of_below hb0 hD) (fun _ h => h) _ _ hx))
  have HC2 : Hid (∀ W, Below w.heap.size w W → Calls Tryz.prog 42 #[.agg cp.toArray] W (ToGoPost y W)) := fun W hb => toGo_all y D cp W wp (fun b hb' => Nat.lt_of_lt_of_le (hD b hb') hb.size) (VRep.keep (Same.of_below hb hD) (fun _ h => h) _ _ hp)
  obtain ⟨A1, c1, A2, c2, A3, c3, rfl⟩ := SRep.six hx
  obtain ⟨B1, d1, B2, d2, B3, d3, rfl⟩ := SRep.six hp
  have hbx1 := heap_alloc_new1 w (.cells [Value.int .i64 x.kind, .int .i64 x.half, .string x.text, .slice A1 x.list.length c1, .slice A2 x.keys.length c2, .slice A3 x.vals.length c3].toArray 26) (.cells [Value.int .i64 y.kind, .int .i64 y.half, .string y.text, .slice B1 y.list.length d1, .slice B2 y.keys.length d2, .slice B3 y.vals.length d3].toArray 26)
  have hbx2 : (((w.alloc (.cells [Value.int .i64 x.kind, .int .i64 x.half, .string x.text, .slice A1 x.list.length c1, .slice A2 x.keys.length c2, .slice A3 x.vals.length c3].toArray 26)).alloc (.cells [Value.int .i64 y.kind, .int .i64 y.half, .string y.text, .slice B1 y.list.length d1, .slice B2 y.keys.length d2, .slice B3 y.vals.length d3].toArray 26)).alloc (.cells zRes 34)).heap[w.heap.size + 1]? = some (.cells [Value.int .i64 y.kind, .int .i64 y.half, .string y.text, .slice B1 y.list.length d1, .slice B2 y.keys.length d2, .slice B3 y.vals.length d3].toArray 26 (0, 0)) := (Below.heap_alloc _ _ _ (by simp)).trans hbx1
  have hbx3 : (((w.alloc (.cells [Value.int .i64 x.kind, .int .i64 x.half, .string x.text, .slice A1 x.list.length c1, .slice A2 x.keys.length c2, .slice A3 x.vals.length c3].toArray 26)).alloc (.cells [Value.int .i64 y.kind, .int .i64 y.half, .string y.text, .slice B1 y.list.length d1, .slice B2 y.keys.length d2, .slice B3 y.vals.length d3].toArray 26)).alloc (.cells zRes 34)).heap[w.heap.size + 2]? = some (.cells zRes 34 (0, 0)) := by
    have := heap_alloc_new ((w.alloc (.cells [Value.int .i64 x.kind, .int .i64 x.half, .string x.text, .slice A1 x.list.length c1, .slice A2 x.keys.length c2, .slice A3 x.vals.length c3].toArray 26)).alloc (.cells [Value.int .i64 y.kind, .int .i64 y.half, .string y.text, .slice B1 y.list.length d1, .slice B2 y.keys.length d2, .slice B3 y.vals.length d3].toArray 26)) (.cells zRes 34)
    rwa [World.size_alloc, World.size_alloc] at this
  have HB := Lib.hid (And.intro hb0 (And.intro hsz0 (And.intro hbx2 hbx3)))
  have HW := Lib.hid (And.intro wx (And.intro wp (And.intro hz hD)))
  clear hx hp hb0 hsz0 wx wp hz hD hbx1 hbx2 hbx3
  go_enter Tryz.func12, Tryz.ntmps12
  go_wp2_with fail
  refine HC1.out.mono ?_
  clear HC1
  rintro e w1 ⟨v1, rfl, hv1, hb1⟩
  obtain ⟨W0, hA, hs0, hbp, hbr, hv1, hb1⟩ : ∃ W0 : World, Below w.heap.size w W0 ∧ W0.heap.size = w.heap.size + 3 ∧ W0.heap[w.heap.size + 1]? = some (.cells [Value.int .i64 y.kind, .int .i64 y.half, .string y.text, .slice B1 y.list.length d1, .slice B2 y.keys.length d2, .slice B3 y.vals.length d3].toArray 26 (0, 0)) ∧ W0.heap[w.heap.size + 2]? = some (.cells zRes 34 (0, 0)) ∧
    ARep w1 (Fresh W0 w1) x v1 ∧ Below W0.heap.size W0 w1 := ⟨_, HB.out.1, HB.out.2.1, HB.out.2.2.1, HB.out.2.2.2, hv1, hb1⟩
  clear HB
  have hsz1 := hb1.size
  have hbp1 := (hb1.block _ (by omega)).trans hbp
  have hbr1 := (hb1.block _ (by omega)).trans hbr
  have hA1 : Below w.heap.size w w1 := hA.trans (hb1.mono (by omega))
  have q0 : w1.cell? ⟨w.heap.size + 1, 0, none⟩ = _ := box_cell hbp1 0
  have q1 : w1.cell? ⟨w.heap.size + 1, 1, none⟩ = _ := box_cell hbp1 1
  have q2 : w1.cell? ⟨w.heap.size + 1, 2, none⟩ = _ := box_cell hbp1 2
  have q3 : w1.cell? ⟨w.heap.size + 1, 3, none⟩ = _ := box_cell hbp1 3
  have q4 : w1.cell? ⟨w.heap.size + 1, 4, none⟩ = _ := box_cell hbp1 4
  have q5 : w1.cell? ⟨w.heap.size + 1, 5, none⟩ = _ := box_cell hbp1 5
  have HC := Lib.hid (HC2.out w1 hA1)
  have HV := Lib.hid (And.intro hv1 (And.intro hs0 (And.intro hsz1 (And.intro hbr1 hA1))))
  clear HC2 hv1 hb1 hA hs0 hbp hbr hsz1 hbp1 hbr1 hA1
  go_wp2_with fail
  refine HC.out.mono ?_
  clear HC
  rintro e w2 ⟨v2, rfl, hv2, hb2⟩
  have hsz2 := hb2.size
  obtain ⟨hv1, hs0, hsz1, hbr1, hA1⟩ := HV.out
  have hv1' : ARep w2 (fun b => w.heap.size + 3 ≤ b ∧ b < w2.heap.size) x v1 := ARep.keep (fun b hb => hb2.block b hb.2) (fun b hb => ⟨by have := hb.1; omega, Nat.lt_of_lt_of_le hb.2 hsz2⟩) _ _ hv1
  have hS' : ARep w2 (fun b => w.heap.size + 3 ≤ b ∧ b < w2.heap.size) y v2 := ARep.keep (fun _ _ => rfl) (fun b hb => ⟨by have := hb.1; omega, hb.2⟩) _ _ hv2
  have HG := Lib.hid (HW.out.2.2.1 (fun b => w.heap.size + 3 ≤ b ∧ b < w2.heap.size) v1 v2 w2 (fun b hb => hb.2) hv1' hS')
  have HD := Lib.hid (And.intro (hA1.trans (hb2.mono (by omega))) (And.intro ((hb2.block _ (by omega)).trans hbr1) (show w.heap.size + 3 ≤ w2.heap.size by omega)))
  clear hv1' hS' hv2 hv1 hs0 hsz1 hbr1 hA1 HV hb2 hsz2 q0 q1 q2 q3 q4 q5
  go_wp2_with fail
  refine HG.out.mono ?_
  clear HG
  intro e w3 hpost
  rcases hpost with ⟨v, y, rfl, wj, hR, hv, hb3⟩ | ⟨T, v, rfl, hT, hR, hb3⟩
  · have hv' : ARep w3 (fun b => w.heap.size + 3 ≤ b ∧ b < w3.heap.size) y v := ARep.keep (fun _ _ => rfl) (fun b hb => by
      rcases hb with hb | hb
      · exact ⟨hb.1, Nat.lt_of_lt_of_le hb.2 hb3.size⟩
      · exact ⟨Nat.le_trans HD.out.2.2 hb.1, hb.2⟩) _ _ hv
    have hD3 := And.intro (HD.out.1.trans (hb3.mono (by have := HD.out.2.2; omega))) (And.intro ((hb3.block _ (box_lt HD.out.2.1)).trans HD.out.2.1) (Nat.le_trans HD.out.2.2 hb3.size))
    replace HD := Lib.hid hD3
    have HR := Lib.hid (result_val y _ v w3 wj (fun b hb => hb.2) hv')
    have HY := Lib.hid hR
    clear hv hv' hD3 hb3 wj hR
    go_wp2_with fail
    refine HR.out.mono ?_
    clear HR
    rintro e w4 ⟨E1, e1, E2, e2, E3, e3, rfl, hr4, hb4⟩
    have hbr4 := (hb4.block _ (box_lt HD.out.2.1)).trans HD.out.2.1
    have r0 : w4.cell? ⟨w.heap.size + 2, 0, none⟩ = _ := box_cell hbr4 0
    have r1 : w4.cell? ⟨w.heap.size + 2, 1, none⟩ = _ := box_cell hbr4 1
    have r2 : w4.cell? ⟨w.heap.size + 2, 2, none⟩ = _ := box_cell hbr4 2
    have r3 : w4.cell? ⟨w.heap.size + 2, 3, none⟩ = _ := box_cell hbr4 3
    have r4 : w4.cell? ⟨w.heap.size + 2, 4, none⟩ = _ := box_cell hbr4 4
    have r5 : w4.cell? ⟨w.heap.size + 2, 5, none⟩ = _ := box_cell hbr4 5
    have r6 : w4.cell? ⟨w.heap.size + 2, 6, none⟩ = _ := box_cell hbr4 6
    have fz := box_frozen hbr4
    have HF := Lib.hid (And.intro hr4 hb4)
    clear hr4 hb4 hbr4
    go_wp2_with fail
    refine bodyPost_ret (v := .agg #[.int .i64 y.kind, .int .i64 y.half, .string y.text, .slice E1 y.list.length e1, .slice E2 y.keys.length e2, .slice E3 y.vals.length e3, .int .i64 0]) (by simp [results, Tryz.results12, go_sem, r0, r1, r2, r3, r4, r5, r6]) rfl ?_
    refine .inl ⟨y, HY.out, ?_⟩
    refine ⟨E1, e1, E2, e2, E3, e3, rfl, ?_, ?_⟩
    · refine VRep.keep (D := Fresh w3 w4) (fun b hb => ?_) (fun b hb => ⟨by have := hb.1; have := HD.out.2.2; omega, by have := hb.2; simp [World.setCell]; omega⟩) _ _ HF.out.1
      have hne : b ≠ w.heap.size + 2 := by have := hb.1; have := HD.out.2.2; omega
      iterate 7 rw [heap_setCell_other _ _ _ _ hne]
    · repeat (refine Below.setCell ?_ (by simp; omega) _)
      exact HD.out.1.trans (HF.out.2.mono (by have := HD.out.2.2; omega))
  · have hTe : ∀ (x : TypeId) (W : World), (Instr.typeAssert (.iface T v) x 95 true).run Tryz.prog W = .ok (.tuple #[.iface T v, .bool true]) W := by
      rcases hT with rfl | rfl | rfl | rfl
      · exact fun x W => te_159 x v W
      · exact fun x W => te_162 x v W
      · exact fun x W => te_205 x v W
      · exact fun x W => te_211 x v W
    have HR := Lib.hid (result_err T v w3 hTe)
    have HY := Lib.hid (And.intro hR hb3)
    clear hTe hT hR hb3
    go_wp2_with fail
    refine HR.out.mono ?_
    clear HR
    rintro e w4 ⟨rfl, hb4⟩
    have hbr4 := (hb4.block _ (Nat.lt_of_lt_of_le (box_lt HD.out.2.1) HY.out.2.size)).trans ((HY.out.2.block _ (box_lt HD.out.2.1)).trans HD.out.2.1)
    have r0 : w4.cell? ⟨w.heap.size + 2, 0, none⟩ = _ := box_cell hbr4 0
    have r1 : w4.cell? ⟨w.heap.size + 2, 1, none⟩ = _ := box_cell hbr4 1
    have r2 : w4.cell? ⟨w.heap.size + 2, 2, none⟩ = _ := box_cell hbr4 2
    have r3 : w4.cell? ⟨w.heap.size + 2, 3, none⟩ = _ := box_cell hbr4 3
    have r4 : w4.cell? ⟨w.heap.size + 2, 4, none⟩ = _ := box_cell hbr4 4
    have r5 : w4.cell? ⟨w.heap.size + 2, 5, none⟩ = _ := box_cell hbr4 5
    have r6 : w4.cell? ⟨w.heap.size + 2, 6, none⟩ = _ := box_cell hbr4 6
    have fz := box_frozen hbr4
    have HF := Lib.hid hb4
    clear hb4 hbr4
    go_wp2_with fail
    refine bodyPost_ret (v := .agg #[.int .i64 0, .int .i64 0, .string ⟨#[]⟩, .slice none 0 0, .slice none 0 0, .slice none 0 0, .int .i64 1]) (by simp [results, Tryz.results12, go_sem, r0, r1, r2, r3, r4, r5, r6]) rfl ?_
    refine .inr ⟨HY.out.1, rfl, ?_⟩
    repeat (refine Below.setCell ?_ (by simp; omega) _)
    have := HD.out.2.2
    have := HY.out.2.size
    exact (HD.out.1.trans (HY.out.2.mono (by omega))).trans (HF.out.mono (by omega))

set_option maxHeartbeats 1000000 in
set_option maxRecDepth 100000 in
theorem door_RIndexOf (x y : J) (Rj : J → Prop) (Re : Prop) (D : Nat → Prop) (cx cp : List Value) (w : World) (wx : x.WF) (wp : y.WF) (hz : ZHyp 45 x y Rj Re) (hD : ∀ b, D b → All w b) (hx : SRep w D x cx) (hp : SRep w D y cp) :
    Calls Tryz.prog 13 #[.agg cx.toArray, .agg cp.toArray] w (DPost Rj Re w) := by
  have hb0 : Below w.heap.size w (((w.alloc (.cells cx.toArray 26)).alloc (.cells cp.toArray 26)).alloc (.cells zRes 34)) := (((Below.refl _ _).alloc (Nat.le_refl _) _).alloc (by simp) _).alloc (by simp; omega) _
  have hsz0 : (((w.alloc (.cells cx.toArray 26)).alloc (.cells cp.toArray 26)).alloc (.cells zRes 34)).heap.size = w.heap.size + 3 := by simp
  have HC1 := Lib.hid (toGo_all x D cx _ wx (fun b hb => Nat.lt_of_lt_of_le (hD b hb) hb0.size) (VRep.keep (Same.of_below hb0 hD) (fun _ h => h) _ _ hx))
  have HC2 : Hid (∀ W, Below w.heap.size w W → Calls Tryz.prog 42 #[.agg cp.toArray] W (ToGoPost y W)) := fun W hb => toGo_all y D cp W wp (fun b hb' => Nat.lt_of_lt_of_le (hD b hb') hb.size) (VRep.keep (Same.of_below hb hD) (fun _ h => h) _ _ hp)
  obtain ⟨A1, c1, A2, c2, A3, c3, rfl⟩ := SRep.six hx
  obtain ⟨B1, d1, B2, d2, B3, d3, rfl⟩ := SRep.six hp
  have hbx1 := heap_alloc_new1 w (.cells [Value.int .i64 x.kind, .int .i64 x.half, .string x.text, .slice A1 x.list.length c1, .slice A2 x.keys.length c2, .slice A3 x.vals.length c3].toArray 26) (.cells [Value.int .i64 y.kind, .int .i64 y.half, .string y.text, .slice B1 y.list.length d1, .slice B2 y.keys.length d2, .slice B3 y.vals.length d3].toArray 26)
  have hbx2 : (((w.alloc (.cells [Value.int .i64 x.kind, .int .i64 x.half, .string x.text, .slice A1 x.list.length c1, .slice A2 x.keys.length c2, .slice A3 x.vals.length c3].toArray 26)).alloc (.cells [Value.int .i64 y.kind, .int .i64 y.half, .string y.text, .slice B1 y.list.length d1, .slice B2 y.keys.length d2, .slice B3 y.vals.length d3].toArray 26)).alloc (.cells zRes 34)).heap[w.heap.size + 1]? = some (.cells [Value.int .i64 y.kind, .int .i64 y.half, .string y.text, .slice B1 y.list.length d1, .slice B2 y.keys.length d2, .slice B3 y.vals.length d3].toArray 26 (0, 0)) := (Below.heap_alloc _ _ _ (by simp)).trans hbx1
  have hbx3 : (((w.alloc (.cells [Value.int .i64 x.kind, .int .i64 x.half, .string x.text, .slice A1 x.list.length c1, .slice A2 x.keys.length c2, .slice A3 x.vals.length c3].toArray 26)).alloc (.cells [Value.int .i64 y.kind, .int .i64 y.half, .string y.text, .slice B1 y.list.length d1, .slice B2 y.keys.length d2, .slice B3 y.vals.length d3].toArray 26)).alloc (.cells zRes 34)).heap[w.heap.size + 2]? = some (.cells zRes 34 (0, 0)) := by
    have := heap_alloc_new ((w.alloc (.cells [Value.int .i64 x.kind, .int .i64 x.half, .string x.text, .slice A1 x.list.length c1, .slice A2 x.keys.length c2, .slice A3 x.vals.length c3].toArray 26)).alloc (.cells [Value.int .i64 y.kind, .int .i64 y.half, .string y.text, .slice B1 y.list.length d1, .slice B2 y.keys.length d2, .slice B3 y.vals.length d3].toArray 26)) (.cells zRes 34)
    rwa [World.size_alloc, World.size_alloc] at this
  have HB := Lib.hid (And.intro hb0 (And.intro hsz0 (And.intro hbx2 hbx3)))
  have HW := Lib.hid (And.intro wx (And.intro wp (And.intro hz hD)))
  clear hx hp hb0 hsz0 wx wp hz hD hbx1 hbx2 hbx3
  go_enter Tryz.func13, Tryz.ntmps13
  go_wp2_with fail
  refine HC1.out.mono ?_
  clear HC1
  rintro e w1 ⟨v1, rfl, hv1, hb1⟩
  obtain ⟨W0, hA, hs0, hbp, hbr, hv1, hb1⟩ : ∃ W0 : World, Below w.heap.size w W0 ∧ W0.heap.size = w.heap.size + 3 ∧ W0.heap[w.heap.size + 1]? = some (.cells [Value.int .i64 y.kind, .int .i64 y.half, .string y.text, .slice B1 y.list.length d1, .slice B2 y.keys.length d2, .slice B3 y.vals.length d3].toArray 26 (0, 0)) ∧ W0.heap[w.heap.size + 2]? = some (.cells zRes 34 (0, 0)) ∧
    ARep w1 (Fresh W0 w1) x v1 ∧ Below W0.heap.size W0 w1 := ⟨_, HB.out.1, HB.out.2.1, HB.out.2.2.1, HB.out.2.2.2, hv1, hb1⟩
  clear HB
  have hsz1 := hb1.size
  have hbp1 := (hb1.block _ (by omega)).trans hbp
  have hbr1 := (hb1.block _ (by omega)).trans hbr
  have hA1 : Below w.heap.size w w1 := hA.trans (hb1.mono (by omega))
  have q0 : w1.cell? ⟨w.heap.size + 1, 0, none⟩ = _ := box_cell hbp1 0
  have q1 : w1.cell? ⟨w.heap.size + 1, 1, none⟩ = _ := box_cell hbp1 1
  have q2 : w1.cell? ⟨w.heap.size + 1, 2, none⟩ = _ := box_cell hbp1 2
  have q3 : w1.cell? ⟨w.heap.size + 1, 3, none⟩ = _ := box_cell hbp1 3
  have q4 : w1.cell? ⟨w.heap.size + 1, 4, none⟩ = _ := box_cell hbp1 4
  have q5 : w1.cell? ⟨w.heap.size + 1, 5, none⟩ = _ := box_cell hbp1 5
  have HC := Lib.hid (HC2.out w1 hA1)
  have HV := Lib.hid (And.intro hv1 (And.intro hs0 (And.intro hsz1 (And.intro hbr1 hA1))))
  clear HC2 hv1 hb1 hA hs0 hbp hbr hsz1 hbp1 hbr1 hA1
  go_wp2_with fail
  refine HC.out.mono ?_
  clear HC
  rintro e w2 ⟨v2, rfl, hv2, hb2⟩
  have hsz2 := hb2.size
  obtain ⟨hv1, hs0, hsz1, hbr1, hA1⟩ := HV.out
  have hv1' : ARep w2 (fun b => w.heap.size + 3 ≤ b ∧ b < w2.heap.size) x v1 := ARep.keep (fun b hb => hb2.block b hb.2) (fun b hb => ⟨by have := hb.1; omega, Nat.lt_of_lt_of_le hb.2 hsz2⟩) _ _ hv1
  have hS' : ARep w2 (fun b => w.heap.size + 3 ≤ b ∧ b < w2.heap.size) y v2 := ARep.keep (fun _ _ => rfl) (fun b hb => ⟨by have := hb.1; omega, hb.2⟩) _ _ hv2
  have HG := Lib.hid (HW.out.2.2.1 (fun b => w.heap.size + 3 ≤ b ∧ b < w2.heap.size) v1 v2 w2 (fun b hb => hb.2) hv1' hS')
  have HD := Lib.hid (And.intro (hA1.trans (hb2.mono (by omega))) (And.intro ((hb2.block _ (by omega)).trans hbr1) (show w.heap.size + 3 ≤ w2.heap.size by omega)))
  clear hv1' hS' hv2 hv1 hs0 hsz1 hbr1 hA1 HV hb2 hsz2 q0 q1 q2 q3 q4 q5
  go_wp2_with fail
  refine HG.out.mono ?_
  clear HG
  intro e w3 hpost
  rcases hpost with ⟨v, y, rfl, wj, hR, hv, hb3⟩ | ⟨T, v, rfl, hT, hR, hb3⟩
  · have hv' : ARep w3 (fun b => w.heap.size + 3 ≤ b ∧ b < w3.heap.size) y v := ARep.keep (fun _ _ => rfl) (fun b hb => by
      rcases hb with hb | hb
      · exact ⟨hb.1, Nat.lt_of_lt_of_le hb.2 hb3.size⟩
      · exact ⟨Nat.le_trans HD.out.2.2 hb.1, hb.2⟩) _ _ hv
    have hD3 := And.intro (HD.out.1.trans (hb3.mono (by have := HD.out.2.2; omega))) (And.intro ((hb3.block _ (box_lt HD.out.2.1)).trans HD.out.2.1) (Nat.le_trans HD.out.2.2 hb3.size))
    replace HD := Lib.hid hD3
    have HR := Lib.hid (result_val y _ v w3 wj (fun b hb => hb.2) hv')
    have HY := Lib.hid hR
    clear hv hv' hD3 hb3 wj hR
    go_wp2_with fail
    refine HR.out.mono ?_
    clear HR
    rintro e w4 ⟨E1, e1, E2, e2, E3, e3, rfl, hr4, hb4⟩
    have hbr4 := (hb4.block _ (box_lt HD.out.2.1)).trans HD.out.2.1
    have r0 : w4.cell? ⟨w.heap.size + 2, 0, none⟩ = _ := box_cell hbr4 0
    have r1 : w4.cell? ⟨w.heap.size + 2, 1, none⟩ = _ := box_cell hbr4 1
    have r2 : w4.cell? ⟨w.heap.size + 2, 2, none⟩ = _ := box_cell hbr4 2
    have r3 : w4.cell? ⟨w.heap.size + 2, 3, none⟩ = _ := box_cell hbr4 3
    have r4 : w4.cell? ⟨w.heap.size + 2, 4, none⟩ = _ := box_cell hbr4 4
    have r5 : w4.cell? ⟨w.heap.size + 2, 5, none⟩ = _ := box_cell hbr4 5
    have r6 : w4.cell? ⟨w.heap.size + 2, 6, none⟩ = _ := box_cell hbr4 6
    have fz := box_frozen hbr4
    have HF := Lib.hid (And.intro hr4 hb4)
    clear hr4 hb4 hbr4
    go_wp2_with fail
    refine bodyPost_ret (v := .agg #[.int .i64 y.kind, .int .i64 y.half, .string y.text, .slice E1 y.list.length e1, .slice E2 y.keys.length e2, .slice E3 y.vals.length e3, .int .i64 0]) (by simp [results, Tryz.results13, go_sem, r0, r1, r2, r3, r4, r5, r6]) rfl ?_
    refine .inl ⟨y, HY.out, ?_⟩
    refine ⟨E1, e1, E2, e2, E3, e3, rfl, ?_, ?_⟩
    · refine VRep.keep (D := Fresh w3 w4) (fun b hb => ?_) (fun b hb => ⟨by have := hb.1; have := HD.out.2.2; omega, by have := hb.2; simp [World.setCell]; omega⟩) _ _ HF.out.1
      have hne : b ≠ w.heap.size + 2 := by have := hb.1; have := HD.out.2.2; omega
      iterate 7 rw [heap_setCell_other _ _ _ _ hne]
    · repeat (refine Below.setCell ?_ (by simp; omega) _)
      exact HD.out.1.trans (HF.out.2.mono (by have := HD.out.2.2; omega))
  · have hTe : ∀ (x : TypeId) (W : World), (Instr.typeAssert (.iface T v) x 95 true).run Tryz.prog W = .ok (.tuple #[.iface T v, .bool true]) W := by
      rcases hT with rfl | rfl | rfl | rfl
      · exact fun x W => te_159 x v W
      · exact fun x W => te_162 x v W
      · exact fun x W => te_205 x v W
      · exact fun x W => te_211 x v W
    have HR := Lib.hid (result_err T v w3 hTe)
    have HY := Lib.hid (And.intro hR hb3)
    clear hTe hT hR hb3
    go_wp2_with fail
    refine HR.out.mono ?_
    clear HR
    rintro e w4 ⟨rfl, hb4⟩
    have hbr4 := (hb4.block _ (Nat.lt_of_lt_of_le (box_lt HD.out.2.1) HY.out.2.size)).trans ((HY.out.2.block _ (box_lt HD.out.2.1)).trans HD.out.2.1)
    have r0 : w4.cell? ⟨w.heap.size + 2, 0, none⟩ = _ := box_cell hbr4 0
    have r1 : w4.cell? ⟨w.heap.size + 2, 1, none⟩ = _ := box_cell hbr4 1
    have r2 : w4.cell? ⟨w.heap.size + 2, 2, none⟩ = _ := box_cell hbr4 2
    have r3 : w4.cell? ⟨w.heap.size + 2, 3, none⟩ = _ := box_cell hbr4 3
    have r4 : w4.cell? ⟨w.heap.size + 2, 4, none⟩ = _ := box_cell hbr4 4
    have r5 : w4.cell? ⟨w.heap.size + 2, 5, none⟩ = _ := box_cell hbr4 5
    have r6 : w4.cell? ⟨w.heap.size + 2, 6, none⟩ = _ := box_cell hbr4 6
    have fz := box_frozen hbr4
    have HF := Lib.hid hb4
    clear hb4 hbr4
    go_wp2_with fail
    refine bodyPost_ret (v := .agg #[.int .i64 0, .int .i64 0, .string ⟨#[]⟩, .slice none 0 0, .slice none 0 0, .slice none 0 0, .int .i64 1]) (by simp [results, Tryz.results13, go_sem, r0, r1, r2, r3, r4, r5, r6]) rfl ?_
    refine .inr ⟨HY.out.1, rfl, ?_⟩
    repeat (refine Below.setCell ?_ (by simp; omega) _)
    have := HD.out.2.2
    have := HY.out.2.size
    exact (HD.out.1.trans (HY.out.2.mono (by omega))).trans (HF.out.mono (by omega))

end Go.Proofs.YtfhppajnnbbcjaaGreatDoor
end

section
namespace Go.Proofs.YtfhppajnnbbcjaaGreatDoor
open Go.RowKit

def numO : Option Nat → J
  | none => .null
  | some r => .num (2 * (r : Int))

/-- the place that is answered -/
def IdxO (R : List J → List J → Option Nat → Prop) (x y : J) (r : Option Nat) : Prop :=
  match x with
  | .null => r = none
  | .arr a => (match y with
    | .arr b => R a b r
    | y => R a [y] r)
  | .str s => (match y with
    | .str t => R (runesJ s) (runesJ t) r
    | _ => False)
  | _ => False
/-- where an error is answered -/
def IdxE (x y : J) : Prop :=
  match x with
  | .null => False
  | .arr _ => False
  | .str _ => (match y with
    | .str _ => False
    | _ => True)
  | _ => True

theorem idxR_cases {R : List J → List J → Option Nat → Prop} {x y : J} {v : Value} (h : IdxR R x y v) : (∃ r, v = idxV r ∧ IdxO R x y r) ∨ (IdxE x y ∧ ∃ q, v = .iface 159 q) := by
  cases x with
  | null => exact .inl ⟨none, h, rfl⟩
  | arr a => cases y <;> (obtain ⟨r, hv, hr⟩ := h; exact .inl ⟨r, hv, hr⟩)
  | str s =>
    cases y with
    | str t => obtain ⟨r, hv, hr⟩ := h; exact .inl ⟨r, hv, hr⟩
    | _ => exact .inr ⟨trivial, h⟩
  | _ => exact .inr ⟨trivial, h⟩

theorem numO_rep (w : World) (D : Nat → Prop) (r : Option Nat) : ARep w D (numO r) (idxV r) := by
  cases r with
  | none => rfl
  | some r =>
    show _ = numV _
    unfold numV
    rw [if_pos (by omega), show 2 * (r : Int) / 2 = r by omega]
    rfl

theorem numO_WF {x y : J} {r : Option Nat} {R : List J → List J → Option Nat → Prop} (hR : ∀ a b i, R a b (some i) → LAt a b i) (wx : x.WF) (h : IdxO R x y r) : (numO r).WF := by
  cases r with
  | none => trivial
  | some i =>
    have hb : i ≤ 1048576 := by
      cases x with
      | arr a =>
        simp only [J.WF] at wx
        cases y <;> (have := (hR _ _ _ h).1; omega)
      | str s =>
        have := (runes_ok s wx).2
        cases y with
        | str t => have := (hR _ _ _ h).1; omega
        | _ => exact absurd h id
      | null => exact absurd h (by simp [IdxO])
      | _ => exact absurd h id
    simp only [numO, J.WF]
    omega

theorem hyp_of {Z : FuncId} {R : List J → List J → Option Nat → Prop} {x y : J} (hR : ∀ a b i, R a b (some i) → LAt a b i) (wx : x.WF)
    (hz : ∀ (D : Nat → Prop) (v u : Value) (W : World), (∀ b, D b → All W b) → ARep W D x v → ARep W D y u → Calls Tryz.prog Z #[v, u] W fun e w' => (∃ v, e = .returned v ∧ IdxR R x y v) ∧ Below W.heap.size W w') :
    ZHyp Z x y (fun j => ∃ r, j = numO r ∧ IdxO R x y r) (IdxE x y) := by
  intro D v u W hD hv hu
  refine (hz D v u W hD hv hu).mono ?_
  rintro e w' ⟨⟨z, rfl, hr⟩, hb⟩
  rcases idxR_cases hr with ⟨r, rfl, ho⟩ | ⟨he, q, rfl⟩
  · exact .inl ⟨_, numO r, rfl, numO_WF hR wx ho, ⟨r, rfl, ho⟩, numO_rep _ _ _, hb⟩
  · exact .inr ⟨159, q, rfl, .inl rfl, he, hb⟩

theorem IndexOf_any (x y : J) (D : Nat → Prop) (cx cy : List Value) (w : World) (wx : x.WF) (wy : y.WF) (hD : ∀ b, D b → All w b) (hx : SRep w D x cx) (hy : SRep w D y cy) :
    Calls Tryz.prog 12 #[.agg cx.toArray, .agg cy.toArray] w (DPost (fun j => ∃ r, j = numO r ∧ IdxO IsFirst x y r) (IdxE x y) w) :=
  door_IndexOf x y _ _ D cx cy w wx wy (hyp_of (fun _ _ _ h => h.2.1) wx fun D v u W hD hv hu => zzgIndex_any x y D v u W wx wy hD hv hu) hD hx hy
theorem RIndexOf_any (x y : J) (D : Nat → Prop) (cx cy : List Value) (w : World) (wx : x.WF) (wy : y.WF) (hD : ∀ b, D b → All w b) (hx : SRep w D x cx) (hy : SRep w D y cy) :
    Calls Tryz.prog 13 #[.agg cx.toArray, .agg cy.toArray] w (DPost (fun j => ∃ r, j = numO r ∧ IdxO IsLast x y r) (IdxE x y) w) :=
  door_RIndexOf x y _ _ D cx cy w wx wy (hyp_of (fun _ _ _ h => h.2.1) wx fun D v u W hD hv hu => zzgRindex_any x y D v u W wx wy hD hv hu) hD hx hy
end Go.Proofs.YtfhppajnnbbcjaaGreatDoor
end
