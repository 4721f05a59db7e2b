/- Walks: spec.looker's value: what is asked of one value. -/
import Derived.Test.YtfhppajnnbbcjaaGreatDoorGy3
import Derived.Deep.DeepCutAuto
import Derived.Deep.Light

section
namespace Go.Proofs.YtfhppajnnbbcjaaGreatDoor
open Go.RowKit

abbrev okC (k h : Int) (t : ByteArray) (n1 n2 n3 : Nat) : Prop := 0 ≤ k ∧ k ≤ 6 ∧ (k = 3 ∨ h = 0) ∧ (k = 4 ∨ t = ⟨#[]⟩) ∧ (k = 5 ∨ n1 = 0) ∧ (k = 6 ∨ n2 = 0) ∧ n2 = n3

/-- the world behind the first question -/
def Rel2 (w : World) (X : Nat) (p b : Int) (C : Prop) (wc : World) : Prop := ∃ bad, LkSt wc X p b bad ∧ (bad = false → C) ∧ w.grownBy wc (some X)

theorem fin2 {w w2 : World} {X : Nat} {p b : Int} {ok : Bool} {C : Prop} (hok : ok = true → C) (h2 : LkSt w2 X p b (false || !ok) ∧ w.grownBy w2 (some X)) : Rel2 w X p b C w2 := by
  refine ⟨_, h2.1, fun hb => hok ?_, h2.2⟩
  cases ok
  · cases hb
  · rfl

theorem grown_drew (w : World) (r : Option Nat) : w.grownBy w.drew r := ⟨rfl, rfl, rfl, Nat.le_refl _, fun _ _ _ => rfl⟩

/-- the way back to where the ways meet -/
def MeetK (J K : Act → World → Prop) : Prop := ∀ a w, Met J a w → K a w

/-- an operation whose guard says no -/
theorem still_skip {P : Program} {ops : Array Oper} {w : World} {Q : Act → Prop} {o : Oper} {rest : List Oper} {a : Act} (hw : Region.wanted o (yielded ops a.tmps) = false) (h : wpStill P ops w Q rest (a.put o.dst undef)) : wpStill P ops w Q (o :: rest) a := by
  unfold wpStill
  rw [if_neg (by simp [hw])]
  exact h
/-- an operation whose guard says yes -/
theorem still_do {P : Program} {ops : Array Oper} {w : World} {Q : Act → Prop} {o : Oper} {rest : List Oper} {a : Act} (hw : Region.wanted o (yielded ops a.tmps) = true) (h : ∀ K : Act → Prop, (∀ a, wpStill P ops w Q rest a → K a) → o.still P a w K) : wpStill P ops w Q (o :: rest) a := by
  unfold wpStill
  rw [if_pos hw]
  exact h _ fun _ h => h

mutual
def V.Small : V → Prop
  | .mk _ _ t l ks vs => t.size ≤ 281474976710656 ∧ (∀ s ∈ ks, s.size ≤ 281474976710656) ∧ SmallL l ∧ SmallL vs
def SmallL : List V → Prop
  | [] => True
  | a :: l => a.Small ∧ SmallL l
end

theorem SmallL_iff : ∀ {l : List V}, SmallL l ↔ ∀ x ∈ l, x.Small
  | [] => by simp [SmallL]
  | a :: l => by simp [SmallL, SmallL_iff]

def VPost (v : V) (w : World) (X : Nat) (p b : Int) (bad : Bool) (e : Ending) (w' : World) : Prop :=
  e = .returned (.tuple #[]) ∧ ∃ p' b' bad', LkSt w' X p' b' bad' ∧ (bad' = false → bad = false ∧ p' ≤ 400 ∧ b ≤ b' ∧ b' ≤ 2000 ∧ GoodV v (p' - p) (b' - b)) ∧ w.grownBy w' (some X)

def VOK (v : V) : Prop := ∀ (D : Nat → Prop) (cs : List Value) (w : World) (X : Nat) (p b deep : Int) (bad : Bool), VRep w D v cs → (∀ i, D i → i < w.heap.size ∧ i ≠ X) → 2 ≤ X → LkSt w X p b bad → U8 w → v.Small →
  0 ≤ p → p ≤ 400 → 0 ≤ b → b ≤ 562949953421312 → 0 ≤ deep → deep ≤ 61 → Calls Tryz.prog 61 #[.pointer (some ⟨X, 0, none⟩), .agg cs.toArray, .int .i64 deep] w (VPost v w X p b bad)

/-- the loops' worlds -/
def LkRel (w1 : World) (X : Nat) (p b k h : Int) (t : ByteArray) (l : List V) (ks : List ByteArray) (vs : List V) (n1 n2 : Nat) (wr : World) : Prop :=
  ∃ p' b' bad, LkSt wr X p' b' bad ∧ w1.grownBy wr (some X) ∧ (bad = false → 0 ≤ p' ∧ p' ≤ 400 ∧ 0 ≤ b' ∧ b' ≤ 2000 ∧ LkGood k h t l ks vs n1 n2 (p' - p) (b' - b))

/-- the world behind the second question -/
def Rel3 (w : World) (X : Nat) (p b : Int) (C : Prop) (wc : World) : Prop := ∃ bad, LkSt wc X p b bad ∧ (bad = false → C) ∧ w.grownBy wc (some X)

theorem fin3 {w w2 : World} {X : Nat} {p b : Int} {bad ok : Bool} {C : Prop} (hok : ok = true → C) (h2 : LkSt w2 X p b (bad || !ok) ∧ w.grownBy w2 (some X)) : Rel3 w X p b (bad = false ∧ C) w2 := by
  refine ⟨_, h2.1, fun hb => ?_, h2.2⟩
  cases ok <;> cases bad <;> simp at hb
  exact ⟨rfl, hok rfl⟩

set_option maxHeartbeats 4000000 in
set_option maxRecDepth 100000 in
theorem value_of (k h : Int) (t : ByteArray) (l : List V) (ks : List ByteArray) (vs : List V) (hl : ∀ x ∈ l, VOK x) (hv : ∀ x ∈ vs, VOK x) : VOK (.mk k h t l ks vs) := by
  intro D cs w X p b deep bad hr hD hX2 hX hU hsm hp0 hp hb0 hb hd0 hd
  obtain ⟨L, K, S, rfl, ⟨A1, c1, rfl, hc1, hm1, hr1⟩, ⟨A2, c2, rfl, hc2, hm2, hr2⟩, ⟨A3, c3, rfl, hc3, hm3, hr3⟩⟩ := hr
  simp only [V.Small] at hsm
  change Calls Tryz.prog 61 #[.pointer (some ⟨X, 0, none⟩), .agg #[.int .i64 k, .int .i64 h, .string t, .slice A1 l.length c1, .slice A2 ks.length c2, .slice A3 vs.length c3], .int .i64 deep] w _
  have hbd1 : l.length ≤ 9223372036854775807 := by unfold maxLen at hm1; omega
  have hbd2 : ks.length ≤ 9223372036854775807 := by unfold maxLen at hm2; omega
  generalize hn1 : l.length = n1 at hc1 hr1 hbd1 ⊢
  generalize hn2 : ks.length = n2 at hc2 hr2 hbd2 ⊢
  generalize hn3 : vs.length = n3 at hc3 hr3 ⊢
  have hX0 : LkSt (w.alloc (.cells #[.int .i64 k, .int .i64 h, .string t, .slice A1 n1 c1, .slice A2 n2 c2, .slice A3 n3 c3] 26)) X p b bad := (Below.heap_alloc _ _ _ (box_lt hX)).trans hX
  have HP := Lib.hid (part_any _ X p b deep bad hX0 hp0 (by omega))
  have HU := Lib.hid hU
  have HN := Lib.hid (And.intro hn1 (And.intro hn2 hn3))
  have HR := Lib.hid (And.intro hr1 (And.intro hr2 hr3))
  have HS := Lib.hid hsm
  have HXL := Lib.hid (box_lt hX)
  have HC := Lib.hid (And.intro hc1 (And.intro hc2 (And.intro hc3 (And.intro hm1 (And.intro hm2 hm3)))))
  clear hX0 hU hn1 hn2 hn3 hr1 hr2 hr3 hsm hX hc1 hc2 hc3 hm1 hm2 hm3
  go_enter Tryz.func61, Tryz.ntmps61
  go_wp2_with fail
  refine HP.out.mono ?_
  rintro e w1 ⟨bad1, rfl, h1, hi1, hg1⟩
  clear HP
  have hbox : w1.heap[w.heap.size]? = some (.cells #[.int .i64 k, .int .i64 h, .string t, .slice A1 n1 c1, .slice A2 n2 c2, .slice A3 n3 c3] 26 (0, 0)) :=
    (hg1.block _ (by simp) (by have := HXL.out; simp; omega)).trans (heap_alloc_new w _)
  have b0 := box_cell hbox 0
  have b1 := box_cell hbox 1
  have b2 := box_cell hbox 2
  have b3 := box_cell hbox 3
  have b4 := box_cell hbox 4
  have b5 := box_cell hbox 5
  simp at b0 b1 b2 b3 b4 b5
  have HB := Lib.hid hbox
  have HW := fun ok => Lib.hid (want_any w1 X (p + 1) b bad1 ok h1)
  have H1 := Lib.hid (And.intro h1 (And.intro hi1 hg1))
  clear hbox h1 hi1 hg1
  cases bad1
  · go_upto_region 2 with fail
    go_cut [1] from 12 to 72 (fun s1 wc => Rel2 w1 X (p + 1) b (okC k h t n1 n2 n3) wc)
    case first =>
      rename_i J1 K1 hJ1 hK1
      have HM : MeetK J1 K1 := hK1
      go_light
      have hK1 : ∀ a' w', Met J1 a' w' → K1 a' w' := HM
      clear HM
      by_cases tA1 : 0 ≤ k
      · by_cases tA2 : k ≤ 6
        · by_cases tB1 : k = 3
          · subst tB1
            by_cases tC2 : t = ⟨#[]⟩
            · subst tC2
              by_cases tD2 : n1 = 0
              · have vD2 : (((n1 : Int) == 0) = true) := by simp [tD2]
                by_cases tE2 : n2 = 0
                · have vE2 : (((n2 : Int) == 0) = true) := by simp [tE2]
                  by_cases tF : n2 = n3
                  · subst tF
                    go_wp2_with fail
                    refine (HW _).out.mono ?_
                    rintro e w2 ⟨rfl, h2, hg⟩
                    have H2 := Lib.hid (And.intro h2 hg)
                    clear h2 hg
                    go_wp2_with fail
                    go_meet
                    case rel => exact fin2 (by first | (simp [okC, *]; done) | (simp [okC, *]; omega)) H2.out
                  · have uF : (((n2 : Int) == (n3 : Int)) = false) := by simp; omega
                    go_wp2_with fail
                    refine (HW _).out.mono ?_
                    rintro e w2 ⟨rfl, h2, hg⟩
                    have H2 := Lib.hid (And.intro h2 hg)
                    clear h2 hg
                    go_wp2_with fail
                    go_meet
                    case rel => exact fin2 (by first | (simp [okC, *]; done) | (simp [okC, *]; omega)) H2.out
                · have uE2 : (((n2 : Int) == 0) = false) := by simp [tE2]
                  go_wp2_with fail
                  refine (HW _).out.mono ?_
                  rintro e w2 ⟨rfl, h2, hg⟩
                  have H2 := Lib.hid (And.intro h2 hg)
                  clear h2 hg
                  go_wp2_with fail
                  go_meet
                  case rel => exact fin2 (by first | (simp [okC, *]; done) | (simp [okC, *]; omega)) H2.out
              · have uD2 : (((n1 : Int) == 0) = false) := by simp [tD2]
                go_wp2_with fail
                refine (HW _).out.mono ?_
                rintro e w2 ⟨rfl, h2, hg⟩
                have H2 := Lib.hid (And.intro h2 hg)
                clear h2 hg
                go_wp2_with fail
                go_meet
                case rel => exact fin2 (by first | (simp [okC, *]; done) | (simp [okC, *]; omega)) H2.out
            · have uC2 : ¬ t.toList = [] := fun e => tC2 (bytes_ext (by rw [← toList_data, e]))
              go_wp2_with fail
              refine (HW _).out.mono ?_
              rintro e w2 ⟨rfl, h2, hg⟩
              have H2 := Lib.hid (And.intro h2 hg)
              clear h2 hg
              go_wp2_with fail
              go_meet
              case rel => exact fin2 (by first | (simp [okC, *]; done) | (simp [okC, *]; omega)) H2.out
          · have uB1 : ((k == 3) = false) := by simp [tB1]
            by_cases tB2 : h = 0
            · subst tB2
              by_cases tC1 : k = 4
              · subst tC1
                by_cases tD2 : n1 = 0
                · have vD2 : (((n1 : Int) == 0) = true) := by simp [tD2]
                  by_cases tE2 : n2 = 0
                  · have vE2 : (((n2 : Int) == 0) = true) := by simp [tE2]
                    by_cases tF : n2 = n3
                    · subst tF
                      go_wp2_with fail
                      refine (HW _).out.mono ?_
                      rintro e w2 ⟨rfl, h2, hg⟩
                      have H2 := Lib.hid (And.intro h2 hg)
                      clear h2 hg
                      go_wp2_with fail
                      go_meet
                      case rel => exact fin2 (by first | (simp [okC, *]; done) | (simp [okC, *]; omega)) H2.out
                    · have uF : (((n2 : Int) == (n3 : Int)) = false) := by simp; omega
                      go_wp2_with fail
                      refine (HW _).out.mono ?_
                      rintro e w2 ⟨rfl, h2, hg⟩
                      have H2 := Lib.hid (And.intro h2 hg)
                      clear h2 hg
                      go_wp2_with fail
                      go_meet
                      case rel => exact fin2 (by first | (simp [okC, *]; done) | (simp [okC, *]; omega)) H2.out
                  · have uE2 : (((n2 : Int) == 0) = false) := by simp [tE2]
                    go_wp2_with fail
                    refine (HW _).out.mono ?_
                    rintro e w2 ⟨rfl, h2, hg⟩
                    have H2 := Lib.hid (And.intro h2 hg)
                    clear h2 hg
                    go_wp2_with fail
                    go_meet
                    case rel => exact fin2 (by first | (simp [okC, *]; done) | (simp [okC, *]; omega)) H2.out
                · have uD2 : (((n1 : Int) == 0) = false) := by simp [tD2]
                  go_wp2_with fail
                  refine (HW _).out.mono ?_
                  rintro e w2 ⟨rfl, h2, hg⟩
                  have H2 := Lib.hid (And.intro h2 hg)
                  clear h2 hg
                  go_wp2_with fail
                  go_meet
                  case rel => exact fin2 (by first | (simp [okC, *]; done) | (simp [okC, *]; omega)) H2.out
              · have uC1 : ((k == 4) = false) := by simp [tC1]
                by_cases tC2 : t = ⟨#[]⟩
                · subst tC2
                  by_cases tD1 : k = 5
                  · subst tD1
                    by_cases tE2 : n2 = 0
                    · have vE2 : (((n2 : Int) == 0) = true) := by simp [tE2]
                      by_cases tF : n2 = n3
                      · subst tF
                        go_wp2_with fail
                        refine (HW _).out.mono ?_
                        rintro e w2 ⟨rfl, h2, hg⟩
                        have H2 := Lib.hid (And.intro h2 hg)
                        clear h2 hg
                        go_wp2_with fail
                        go_meet
                        case rel => exact fin2 (by first | (simp [okC, *]; done) | (simp [okC, *]; omega)) H2.out
                      · have uF : (((n2 : Int) == (n3 : Int)) = false) := by simp; omega
                        go_wp2_with fail
                        refine (HW _).out.mono ?_
                        rintro e w2 ⟨rfl, h2, hg⟩
                        have H2 := Lib.hid (And.intro h2 hg)
                        clear h2 hg
                        go_wp2_with fail
                        go_meet
                        case rel => exact fin2 (by first | (simp [okC, *]; done) | (simp [okC, *]; omega)) H2.out
                    · have uE2 : (((n2 : Int) == 0) = false) := by simp [tE2]
                      go_wp2_with fail
                      refine (HW _).out.mono ?_
                      rintro e w2 ⟨rfl, h2, hg⟩
                      have H2 := Lib.hid (And.intro h2 hg)
                      clear h2 hg
                      go_wp2_with fail
                      go_meet
                      case rel => exact fin2 (by first | (simp [okC, *]; done) | (simp [okC, *]; omega)) H2.out
                  · have uD1 : ((k == 5) = false) := by simp [tD1]
                    by_cases tD2 : n1 = 0
                    · have vD2 : (((n1 : Int) == 0) = true) := by simp [tD2]
                      by_cases tE1 : k = 6
                      · subst tE1
                        by_cases tF : n2 = n3
                        · subst tF
                          go_wp2_with fail
                          refine (HW _).out.mono ?_
                          rintro e w2 ⟨rfl, h2, hg⟩
                          have H2 := Lib.hid (And.intro h2 hg)
                          clear h2 hg
                          go_wp2_with fail
                          go_meet
                          case rel => exact fin2 (by first | (simp [okC, *]; done) | (simp [okC, *]; omega)) H2.out
                        · have uF : (((n2 : Int) == (n3 : Int)) = false) := by simp; omega
                          go_wp2_with fail
                          refine (HW _).out.mono ?_
                          rintro e w2 ⟨rfl, h2, hg⟩
                          have H2 := Lib.hid (And.intro h2 hg)
                          clear h2 hg
                          go_wp2_with fail
                          go_meet
                          case rel => exact fin2 (by first | (simp [okC, *]; done) | (simp [okC, *]; omega)) H2.out
                      · have uE1 : ((k == 6) = false) := by simp [tE1]
                        by_cases tE2 : n2 = 0
                        · have vE2 : (((n2 : Int) == 0) = true) := by simp [tE2]
                          by_cases tF : n2 = n3
                          · subst tF
                            go_wp2_with fail
                            refine (HW _).out.mono ?_
                            rintro e w2 ⟨rfl, h2, hg⟩
                            have H2 := Lib.hid (And.intro h2 hg)
                            clear h2 hg
                            go_wp2_with fail
                            go_meet
                            case rel => exact fin2 (by first | (simp [okC, *]; done) | (simp [okC, *]; omega)) H2.out
                          · have uF : (((n2 : Int) == (n3 : Int)) = false) := by simp; omega
                            go_wp2_with fail
                            refine (HW _).out.mono ?_
                            rintro e w2 ⟨rfl, h2, hg⟩
                            have H2 := Lib.hid (And.intro h2 hg)
                            clear h2 hg
                            go_wp2_with fail
                            go_meet
                            case rel => exact fin2 (by first | (simp [okC, *]; done) | (simp [okC, *]; omega)) H2.out
                        · have uE2 : (((n2 : Int) == 0) = false) := by simp [tE2]
                          go_wp2_with fail
                          refine (HW _).out.mono ?_
                          rintro e w2 ⟨rfl, h2, hg⟩
                          have H2 := Lib.hid (And.intro h2 hg)
                          clear h2 hg
                          go_wp2_with fail
                          go_meet
                          case rel => exact fin2 (by first | (simp [okC, *]; done) | (simp [okC, *]; omega)) H2.out
                    · have uD2 : (((n1 : Int) == 0) = false) := by simp [tD2]
                      go_wp2_with fail
                      refine (HW _).out.mono ?_
                      rintro e w2 ⟨rfl, h2, hg⟩
                      have H2 := Lib.hid (And.intro h2 hg)
                      clear h2 hg
                      go_wp2_with fail
                      go_meet
                      case rel => exact fin2 (by first | (simp [okC, *]; done) | (simp [okC, *]; omega)) H2.out
                · have uC2 : ¬ t.toList = [] := fun e => tC2 (bytes_ext (by rw [← toList_data, e]))
                  go_wp2_with fail
                  refine (HW _).out.mono ?_
                  rintro e w2 ⟨rfl, h2, hg⟩
                  have H2 := Lib.hid (And.intro h2 hg)
                  clear h2 hg
                  go_wp2_with fail
                  go_meet
                  case rel => exact fin2 (by first | (simp [okC, *]; done) | (simp [okC, *]; omega)) H2.out
            · have uB2 : ((h == 0) = false) := by simp [tB2]
              go_wp2_with fail
              refine (HW _).out.mono ?_
              rintro e w2 ⟨rfl, h2, hg⟩
              have H2 := Lib.hid (And.intro h2 hg)
              clear h2 hg
              go_wp2_with fail
              go_meet
              case rel => exact fin2 (by first | (simp [okC, *]; done) | (simp [okC, *]; omega)) H2.out
        · go_wp2_with fail
          refine (HW _).out.mono ?_
          rintro e w2 ⟨rfl, h2, hg⟩
          have H2 := Lib.hid (And.intro h2 hg)
          clear h2 hg
          go_wp2_with fail
          go_meet
          case rel => exact fin2 (by first | (simp [okC, *]; done) | (simp [okC, *]; omega)) H2.out
      · go_wp2_with fail
        refine (HW _).out.mono ?_
        rintro e w2 ⟨rfl, h2, hg⟩
        have H2 := Lib.hid (And.intro h2 hg)
        clear h2 hg
        go_wp2_with fail
        go_meet
        case rel => exact fin2 (by first | (simp [okC, *]; done) | (simp [okC, *]; omega)) H2.out
    case rest =>
      clear HW
      obtain ⟨wa, hwa⟩ : ∃ wa, wa = wc := ⟨_, rfl⟩
      subst hwa
      obtain ⟨bad2, h2, hC2, hg2⟩ := hcut
      have hbox2 := (hg2.block _ (box_lt HB.out) (by have := HXL.out; simp; omega)).trans HB.out
      have e0 := box_cell hbox2 0
      have e1 := box_cell hbox2 1
      have e2 := box_cell hbox2 2
      have e3 := box_cell hbox2 3
      have e4 := box_cell hbox2 4
      have e5 := box_cell hbox2 5
      simp at e0 e1 e2 e3 e4 e5
      clear b0 b1 b2 b3 b4 b5
      have HW := fun ok => Lib.hid (want_any wa X (p + 1) b bad2 ok h2)
      have HB2 := Lib.hid hbox2
      have H2 := Lib.hid (And.intro h2 (And.intro hC2 hg2))
      clear h2 hC2 hg2 hbox2
      go_upto_region 3 with fail
      go_cut [] from 73 to 98 (fun wd => Rel3 wa X (p + 1) b (bad2 = false ∧ -18014398509481984 ≤ h ∧ h ≤ 18014398509481984 ∧ (h % 2 = 0 ∨ (-9007199254740992 < h ∧ h < 9007199254740992))) wd)
      case first =>
        rename_i J1 K1 hJ1 hK1
        have HM : MeetK J1 K1 := hK1
        go_light
        have hK1 : ∀ a' w', Met J1 a' w' → K1 a' w' := HM
        clear HM
        by_cases t1 : -18014398509481984 ≤ h
        · by_cases t2 : h ≤ 18014398509481984
          · by_cases t3 : h % 2 = 0
            · have HT3 := Lib.hid t3
              have e1 : (h.tmod 2 == 0) = true := by simpa using (tmod_two h).2 t3
              clear t3
              go_wp2_with fail
              refine (HW _).out.mono ?_
              rintro e w2 ⟨rfl, h3, hg3⟩
              have H3 := Lib.hid (And.intro h3 hg3)
              clear h3 hg3
              go_wp2_with fail
              go_meet
              case rel => exact fin3 (fun _ => ⟨t1, t2, .inl HT3.out⟩) H3.out
            · have HT3 := Lib.hid t3
              have e1 : (h.tmod 2 == 0) = false := by simpa using fun h' => t3 ((tmod_two h).1 h')
              clear t3
              by_cases t4 : -9007199254740992 < h
              · by_cases t5 : h < 9007199254740992
                · go_wp2_with fail
                  refine (HW _).out.mono ?_
                  rintro e w2 ⟨rfl, h3, hg3⟩
                  have H3 := Lib.hid (And.intro h3 hg3)
                  clear h3 hg3
                  go_wp2_with fail
                  go_meet
                  case rel => exact fin3 (fun _ => ⟨t1, t2, .inr ⟨t4, t5⟩⟩) H3.out
                · go_wp2_with fail
                  refine (HW _).out.mono ?_
                  rintro e w2 ⟨rfl, h3, hg3⟩
                  have H3 := Lib.hid (And.intro h3 hg3)
                  clear h3 hg3
                  go_wp2_with fail
                  go_meet
                  case rel => exact fin3 (by first | (simp; done) | (intro hc; have := HT3.out; simp at hc; omega)) H3.out
              · go_wp2_with fail
                refine (HW _).out.mono ?_
                rintro e w2 ⟨rfl, h3, hg3⟩
                have H3 := Lib.hid (And.intro h3 hg3)
                clear h3 hg3
                go_wp2_with fail
                go_meet
                case rel => exact fin3 (by first | (simp; done) | (intro hc; have := HT3.out; simp at hc; omega)) H3.out
          · go_wp2_with fail
            refine (HW _).out.mono ?_
            rintro e w2 ⟨rfl, h3, hg3⟩
            have H3 := Lib.hid (And.intro h3 hg3)
            clear h3 hg3
            go_wp2_with fail
            go_meet
            case rel => exact fin3 (by first | (simp; done) | (intro hc; have := HT3.out; simp at hc; omega)) H3.out
        · go_wp2_with fail
          refine (HW _).out.mono ?_
          rintro e w2 ⟨rfl, h3, hg3⟩
          have H3 := Lib.hid (And.intro h3 hg3)
          clear h3 hg3
          go_wp2_with fail
          go_meet
          case rel => exact fin3 (by first | (simp; done) | (intro hc; have := HT3.out; simp at hc; omega)) H3.out
      case rest =>
        clear HW
        obtain ⟨wb, hwb⟩ : ∃ wb, wb = wc := ⟨_, rfl⟩
        subst hwb
        obtain ⟨bad3, h3, hC3, hg3⟩ := hcut
        have hg123 := grown_trans H1.out.2.2 (grown_trans H2.out.2.2 hg3)
        have hbox3 := (hg3.block _ (box_lt HB2.out) (by have := HXL.out; simp; omega)).trans HB2.out
        have b0 := box_cell hbox3 0
        have b1 := box_cell hbox3 1
        have b2 := box_cell hbox3 2
        have b3 := box_cell hbox3 3
        have b4 := box_cell hbox3 4
        have b5 := box_cell hbox3 5
        simp at b0 b1 b2 b3 b4 b5
        clear e0 e1 e2 e3 e4 e5
        have hb2000 := (H1.out.2.1 (by simp)).2.2.1
        have hp400 := (H1.out.2.1 (by simp)).2.1
        have HS4 := Lib.hid (str_any wb X (p + 1) b bad3 t h3 hX2 hb0 (by omega) HS.out.1 ((HU.out.below ((Below.refl _ _).alloc (Nat.le_refl _) (.cells #[.int .i64 k, .int .i64 h, .string t, .slice A1 n1 c1, .slice A2 n2 c2, .slice A3 n3 c3] 26)) HU.out.size).grown hg123 hX2))
        have H3 := Lib.hid (And.intro hC3 hg123)
        have HB3 := Lib.hid hbox3
        clear hC3 hg3 hg123 h3 hbox3
        go_wp2_with fail
        refine HS4.out.mono ?_
        clear HS4
        rintro e w4 ⟨bad4, rfl, h4, hC4, hg4⟩
        have hrel : LkRel (w.alloc (.cells #[.int .i64 k, .int .i64 h, .string t, .slice A1 n1 c1, .slice A2 n2 c2, .slice A3 n3 c3] 26)) X p b k h t l ks vs 0 0 w4 := by
          refine ⟨_, _, _, h4, grown_trans H3.out.2 hg4, fun hb4 => ⟨by omega, hp400, by omega, (hC4 hb4).2.1, ?_⟩⟩
          obtain ⟨q1, q2, q3⟩ := hC4 hb4
          obtain ⟨q4, q5, q6, q7⟩ := H3.out.1 q1
          obtain ⟨r1, r2, r3, r4, r5, r6, r7⟩ := H2.out.2.1 q4
          obtain ⟨s1, s2, s3⟩ := HN.out
          exact ⟨r1, r2, r3, r4, by rw [s1]; exact r5, by rw [s2]; exact r6, by rw [s2, s3]; exact r7, q5, q6, q7, q3, by omega, by simp, by simp, [], [], by simp [toVL], by simp [toVL], trivial, trivial, trivial, trivial, by simp [partsL]; omega, by simp [bytesL, sumK]; omega⟩
        have HREL := Lib.hid hrel
        clear hrel h4 hC4 hg4 b0 b1 b2 b3 b4 b5 H3
        go_upto_region 5 with fail
        go_step
        go_step
        go_step
        rename_i KK hKK
        refine hKK _ _ ?_
        clear hKK KK
        go_step
        rename_i hKK
        refine hKK _ _ ?_
        clear hKK
        have HBW : Hid (∀ wr : World, (w.alloc (.cells #[.int .i64 k, .int .i64 h, .string t, .slice A1 n1 c1, .slice A2 n2 c2, .slice A3 n3 c3] 26)).grownBy wr (some X) → wr.heap[w.heap.size]? = some (.cells #[.int .i64 k, .int .i64 h, .string t, .slice A1 n1 c1, .slice A2 n2 c2, .slice A3 n3 c3] 26 (0, 0))) :=
          fun wr hg => (hg.block _ (by simp) (by have := HXL.out; simp; omega)).trans (heap_alloc_new w _)
        have HUW : Hid (∀ wr : World, (w.alloc (.cells #[.int .i64 k, .int .i64 h, .string t, .slice A1 n1 c1, .slice A2 n2 c2, .slice A3 n3 c3] 26)).grownBy wr (some X) → U8 wr) := fun wr hg => (HU.out.below ((Below.refl _ _).alloc (Nat.le_refl _) _) HU.out.size).grown hg hX2
        have HDW : Hid (∀ wr : World, (w.alloc (.cells #[.int .i64 k, .int .i64 h, .string t, .slice A1 n1 c1, .slice A2 n2 c2, .slice A3 n3 c3] 26)).grownBy wr (some X) → Same D w wr ∧ w.heap.size ≤ wr.heap.size) := fun wr hg => ⟨fun i hi => (hg.block i (by have := (hD i hi).1; simp; omega) (by have := (hD i hi).2; simp; omega)).trans (Below.heap_alloc _ _ _ (hD i hi).1), by have := hg.size; simp at this; omega⟩
        go_cut [6] from 103 to 125 (fun s6 wc => LkRel (w.alloc (.cells #[.int .i64 k, .int .i64 h, .string t, .slice A1 n1 c1, .slice A2 n2 c2, .slice A3 n3 c3] 26)) X p b k h t l ks vs n1 0 wc)
        case first =>
          rename_i J1 K1 hJ1 hK1
          have HM : MeetK J1 K1 := hK1
          go_light
          have hK1 : ∀ a' w', Met J1 a' w' → K1 a' w' := HM
          clear HM
          go_wp2_with fail
          go_loopw [6] (fun i wr => ∃ n : Nat, n ≤ n1 ∧ i = .int .i64 n ∧ Hid (LkRel (w.alloc (.cells #[.int .i64 k, .int .i64 h, .string t, .slice A1 n1 c1, .slice A2 n2 c2, .slice A3 n3 c3] 26)) X p b k h t l ks vs n 0 wr)) (fun i _ => n1 - (intOf i).toNat)
          case atStart => exact ⟨0, Nat.zero_le _, rfl, HREL⟩
          case round =>
            obtain ⟨n, hn, rfl, hR⟩ := hrel
            obtain ⟨p', b', bad', hst, hg, hgood⟩ := hR.out
            clear hR
            have b3 := box_cell (HBW.out wr hg) 3
            have l2 := box_cell hst 2
            simp at b3 l2
            by_cases ha : n < n1
            · cases bad'
              · obtain ⟨g1, g2, g3, g4, g5⟩ := hgood rfl
                obtain ⟨B, o, hA, hB, hrow⟩ := HR.out.1 (by omega)
                rw [hA] at b3
                have HA := Lib.hid hA
                have HLT := Lib.hid ha
                clear hA
                obtain ⟨x, hx⟩ : ∃ x, l[n]? = some x := ⟨_, List.getElem?_eq_getElem (by have := HN.out.1; omega)⟩
                obtain ⟨cs, h6, hcell, hxr⟩ := (VRow.keep (HDW.out wr hg).1 (fun _ h => h) _ _ _ hB hrow).get hx
                obtain ⟨xk, xh, xt, xl, xks, xvs⟩ := x
                obtain ⟨XL, XK, XS, rfl, hx3⟩ := hxr
                have p0 : wr.cell? ⟨B, o + n * 6, none⟩ = _ := hcell 0 _ rfl
                have p1 := hcell 1 _ rfl
                have p2 := hcell 2 _ rfl
                have p3 := hcell 3 _ rfl
                have p4 := hcell 4 _ rfl
                have p5 := hcell 5 _ rfl
                obtain ⟨Y1, d1, rfl, -⟩ := hx3.1
                obtain ⟨Y2, d2, rfl, -⟩ := hx3.2.1
                obtain ⟨Y3, d3, rfl, -⟩ := hx3.2.2
                have hd60 := (H1.out.2.1 (by simp)).2.2.2
                have HV := Lib.hid (hl _ (List.mem_of_getElem? hx) D _ wr X p' b' (deep + 1) false ⟨_, _, _, rfl, hx3⟩ (fun i hi => ⟨Nat.lt_of_lt_of_le (hD i hi).1 (HDW.out wr hg).2, (hD i hi).2⟩) hX2 hst (HUW.out wr hg) (SmallL_iff.1 HS.out.2.2.1 _ (List.mem_of_getElem? hx)) g1 g2 g3 (by omega) (by omega) (by omega))
                have HG := Lib.hid (And.intro hg (And.intro g5 hx))
                clear hcell hx3 hx hg g5 hgood hrow
                go_wp2_with fail
                refine HV.out.mono ?_
                clear HV
                rintro e w5 ⟨rfl, p5', b5', bad5, h5, hC5, hg5⟩
                have hnx : LkRel (w.alloc (.cells #[.int .i64 k, .int .i64 h, .string t, .slice A1 n1 c1, .slice A2 n2 c2, .slice A3 n3 c3] 26)) X p b k h t l ks vs (n + 1) 0 w5 := ⟨_, _, _, h5, grown_trans HG.out.1 hg5, fun hb5 => by
                  obtain ⟨-, q2, q3, q4, q5⟩ := hC5 hb5
                  refine ⟨?_, q2, by omega, q4, ?_⟩
                  · obtain ⟨j, -, gj⟩ := q5
                    have := gj.parts
                    have := j.parts_pos
                    omega
                  · have := HG.out.2.1.elem HG.out.2.2 q5 (by omega)
                    rwa [show p' - p + (p5' - p') = p5' - p by omega, show b' - b + (b5' - b') = b5' - b by omega] at this⟩
                have HN' := Lib.hid hnx
                clear hnx h5 hC5 hg5
                go_wp2_with fail
                go_roundw
                case rel => exact ⟨n + 1, by have := HLT.out; omega, by go_num, HN'⟩
                case measure => have := HLT.out; simp [intOf]; omega
              · go_wp2_with fail
                go_meet
                case rel => exact ⟨_, _, true, hst, hg, (fun h => nomatch h)⟩
            · have hn' : n = n1 := by omega
              subst hn'
              go_wp2_with fail
              go_meet
              case rel => exact ⟨_, _, _, hst, hg, hgood⟩
        case rest =>
          clear HREL
          have HREL := Lib.hid hcut
          clear hcut
          go_wp2_with fail
          go_loopw [7] (fun i wr => ∃ n : Nat, n ≤ n2 ∧ i = .int .i64 n ∧ Hid (LkRel (w.alloc (.cells #[.int .i64 k, .int .i64 h, .string t, .slice A1 n1 c1, .slice A2 n2 c2, .slice A3 n3 c3] 26)) X p b k h t l ks vs n1 n wr)) (fun i _ => n2 - (intOf i).toNat)
          case atStart => exact ⟨0, Nat.zero_le _, rfl, HREL⟩
          case round =>
            obtain ⟨n, hn, rfl, hR⟩ := hrel
            obtain ⟨p', b', bad', hst, hg, hgood⟩ := hR.out
            clear hR
            have b4 := box_cell (HBW.out wr hg) 4
            have l2 := box_cell hst 2
            simp at b4 l2
            by_cases ha : n < n2
            · cases bad'
              · obtain ⟨g1, g2, g3, g4, g5⟩ := hgood rfl
                obtain ⟨BK, oK, hA2, hBK, hrowK⟩ := HR.out.2.1 (by omega)
                rw [hA2] at b4
                have HA := Lib.hid hA2
                have HLT := Lib.hid ha
                clear hA2
                obtain ⟨s, hs⟩ : ∃ s, ks[n]? = some s := ⟨_, List.getElem?_eq_getElem (by have := HN.out.2.1; omega)⟩
                have kc : wr.cell? ⟨BK, oK + n, none⟩ = some (.string s) := (hrowK.keep (HDW.out wr hg).1 hBK) n s hs
                have HST := Lib.hid (str_any wr X p' b' false s hst hX2 g3 (by omega) (HS.out.2.1 s (List.mem_of_getElem? hs)) (HUW.out wr hg))
                have HG := Lib.hid (And.intro hg (And.intro g5 hs))
                have HK := Lib.hid hrowK
                clear hg g5 hs hgood hrowK hst
                go_wp2_with fail
                refine HST.out.mono ?_
                clear HST
                rintro e w5 ⟨bad5, rfl, h5, hC5, hg5⟩
                have hgA := grown_trans HG.out.1 hg5
                have kc5 : w5.cell? ⟨BK, oK + n, none⟩ = some (.string s) := (HK.out.keep (HDW.out w5 hgA).1 hBK) n s HG.out.2.2
                have b4 := box_cell (HBW.out w5 hgA) 4
                have b5 := box_cell (HBW.out w5 hgA) 5
                simp at b4 b5
                rw [HA.out] at b4
                have HW := fun ok => Lib.hid (want_any w5.drew X p' (b' + s.size) bad5 ok h5)
                have H5 := Lib.hid (And.intro h5 (And.intro hC5 (And.intro hg5 hgA)))
                have HKP : Hid (∀ r, ks[n - 1]? = some r → w5.cell? ⟨BK, oK + (n - 1), none⟩ = some (.string r)) := fun r hr => (HK.out.keep (HDW.out w5 hgA).1 hBK) (n - 1) r hr
                have HNE := Lib.hid HN.out.2.1
                clear h5 hC5 hg5 hgA kc l2
                go_upto_region 13 with fail
                go_cut [] from 126 to 173 (fun wc => Rel3 w5 X p' (b' + s.size) (bad5 = false ∧ ∀ r, n ≠ 0 → ks[n - 1]? = some r → cmpB r s < 0) wc)
                case first =>
                  rename_i J1 K1 hJ1 hK1
                  have HM : MeetK J1 K1 := hK1
                  go_light
                  have hK1 : ∀ a' w', Met J1 a' w' → K1 a' w' := HM
                  clear HM
                  by_cases hz : n = 0
                  · have e0 : ((n : Int) == 0) = true := by simp [hz]
                    have HZ := Lib.hid hz
                    clear hz
                    refine region_tail 17 (by kernel_rfl) (by kernel_rfl) ?_
                    simp only [List.take_succ_cons, List.take_zero, List.drop_succ_cons, List.drop_zero]
                    iterate 4 still_step
                    iterate 12
                      with_reducible refine still_skip ?_ ?_
                      · kernel_rfl
                      simp only [Act.put, List.setIfInBounds_toArray, List.set_cons_zero, List.set_cons_succ]
                    still_step
                    refine wpStill_nil ?_
                    go_wp2_with fail
                    refine (HW _).out.mono ?_
                    rintro e w6 ⟨rfl, h6, hg6⟩
                    have H6 := Lib.hid (And.intro h6 hg6)
                    clear h6 hg6
                    go_wp2_with fail
                    go_meet
                    case rel => exact fin3 (fun _ => fun _ h => absurd HZ.out h) ⟨H6.out.1, grown_trans (grown_drew w5 _) H6.out.2⟩
                  · have e0 : ((n : Int) == 0) = false := by simp [hz]
                    obtain ⟨r, hr⟩ : ∃ r, ks[n - 1]? = some r := ⟨_, List.getElem?_eq_getElem (by have := HN.out.2.1; omega)⟩
                    have kp := HKP.out r hr
                    have e1 : IntKind.i64.wrap ((n : Int) - 1) = ((n - 1 : Nat) : Int) := by rw [IntWalk.i64_in _ (by omega)]; omega
                    have e2 : n - 1 < n2 := by omega
                    have HZ := Lib.hid hz
                    have HR1 := Lib.hid hr
                    clear hz hr
                    cases hbl : Op.bytesLess r.toList s.toList
                    · refine region_tail 17 (by kernel_rfl) (by kernel_rfl) ?_
                      simp only [List.take_succ_cons, List.take_zero, List.drop_succ_cons, List.drop_zero]
                      iterate 4 still_step
                      iterate 12
                        with_reducible refine still_do ?_ ?_
                        · kernel_rfl
                        intro K hK
                        go_simp
                        refine hK _ ?_
                        clear hK K
                      still_step
                      refine wpStill_nil ?_
                      go_wp2_with fail
                      refine (HW _).out.mono ?_
                      rintro e w6 ⟨rfl, h6, hg6⟩
                      have H6 := Lib.hid (And.intro h6 hg6)
                      clear h6 hg6
                      go_wp2_with fail
                      go_meet
                      case rel => exact fin3 (by simp) ⟨H6.out.1, grown_trans (grown_drew w5 _) H6.out.2⟩
                    · have hlt : cmpB r s < 0 := cmpB_lt_iff.2 (by rw [← toList_data, ← toList_data]; exact hbl)
                      have HLB := Lib.hid hlt
                      clear hlt
                      refine region_tail 17 (by kernel_rfl) (by kernel_rfl) ?_
                      simp only [List.take_succ_cons, List.take_zero, List.drop_succ_cons, List.drop_zero]
                      iterate 4 still_step
                      iterate 12
                        with_reducible refine still_do ?_ ?_
                        · kernel_rfl
                        intro K hK
                        go_simp
                        refine hK _ ?_
                        clear hK K
                      still_step
                      refine wpStill_nil ?_
                      go_wp2_with fail
                      refine (HW _).out.mono ?_
                      rintro e w6 ⟨rfl, h6, hg6⟩
                      have H6 := Lib.hid (And.intro h6 hg6)
                      clear h6 hg6
                      go_wp2_with fail
                      go_meet
                      case rel => exact fin3 (fun _ => fun r' _ h => by rw [HR1.out] at h; exact Option.some.inj h ▸ HLB.out) ⟨H6.out.1, grown_trans (grown_drew w5 _) H6.out.2⟩
                case rest =>
                  clear HW
                  obtain ⟨bad6, h6, hC6, hg6⟩ := hcut
                  have hgB := grown_trans H5.out.2.2.2 hg6
                  clear b4 b5 kc5
                  have b5 := box_cell (HBW.out wc hgB) 5
                  simp at b5
                  have hs3 : n2 = n3 := by rw [← HN.out.2.1, ← HN.out.2.2]; exact HG.out.2.1.same
                  have hlt3 : n < n3 := by omega
                  obtain ⟨B3, o3, hA3, hB3, hrow3⟩ := HR.out.2.2 (by omega)
                  rw [hA3] at b5
                  have HA3 := Lib.hid hA3
                  have HS3 := Lib.hid hs3
                  clear hA3 hs3
                  obtain ⟨x, hx⟩ : ∃ x, vs[n]? = some x := ⟨_, List.getElem?_eq_getElem (by have := HN.out.2.2; omega)⟩
                  obtain ⟨cs, h66, hcell, hxr⟩ := (VRow.keep (HDW.out wc hgB).1 (fun _ h => h) _ _ _ hB3 hrow3).get hx
                  obtain ⟨xk, xh, xt, xl, xks, xvs⟩ := x
                  obtain ⟨XL, XK, XS, rfl, hx3⟩ := hxr
                  have p0 : wc.cell? ⟨B3, o3 + n * 6, none⟩ = _ := hcell 0 _ rfl
                  have p1 := hcell 1 _ rfl
                  have p2 := hcell 2 _ rfl
                  have p3 := hcell 3 _ rfl
                  have p4 := hcell 4 _ rfl
                  have p5 := hcell 5 _ rfl
                  obtain ⟨Y1, d1, rfl, -⟩ := hx3.1
                  obtain ⟨Y2, d2, rfl, -⟩ := hx3.2.1
                  obtain ⟨Y3, d3, rfl, -⟩ := hx3.2.2
                  have hd60 := (H1.out.2.1 (by simp)).2.2.2
                  have hss := HS.out.2.1 s (List.mem_of_getElem? HG.out.2.2)
                  have HV := Lib.hid (hv _ (List.mem_of_getElem? hx) D _ wc X p' (b' + s.size) (deep + 1) bad6 ⟨_, _, _, rfl, hx3⟩ (fun i hi => ⟨Nat.lt_of_lt_of_le (hD i hi).1 (HDW.out wc hgB).2, (hD i hi).2⟩) hX2 h6 (HUW.out wc hgB) (SmallL_iff.1 HS.out.2.2.2 _ (List.mem_of_getElem? hx)) g1 g2 (by omega) (by omega) (by omega) (by omega))
                  have H6 := Lib.hid (And.intro hC6 (And.intro hgB hx))
                  clear hcell hx3 hx hgB hC6 hrow3 h6 hg6 hss
                  go_wp2_with fail
                  refine HV.out.mono ?_
                  clear HV
                  rintro e w7 ⟨rfl, p7, b7, bad7, h7, hC7, hg7⟩
                  have hnx : LkRel (w.alloc (.cells #[.int .i64 k, .int .i64 h, .string t, .slice A1 n1 c1, .slice A2 n2 c2, .slice A3 n3 c3] 26)) X p b k h t l ks vs n1 (n + 1) w7 := ⟨_, _, _, h7, grown_trans H6.out.2.1 hg7, fun hb7 => by
                    obtain ⟨q1, q2, q3, q4, q5⟩ := hC7 hb7
                    obtain ⟨r1, r2⟩ := H6.out.1 q1
                    obtain ⟨s1, s2, s3⟩ := H5.out.2.1 r1
                    refine ⟨?_, q2, by omega, q4, ?_⟩
                    · obtain ⟨j, -, gj⟩ := q5
                      have := gj.parts
                      have := j.parts_pos
                      omega
                    · have := HG.out.2.1.entry HG.out.2.2 H6.out.2.2 q5 (by omega) s3 r2
                      rwa [show p' - p + (p7 - p') = p7 - p by omega, show b' - b + s.size + (b7 - (b' + s.size)) = b7 - b by omega] at this⟩
                  have HN' := Lib.hid hnx
                  clear hnx h7 hC7 hg7
                  go_wp2_with fail
                  go_roundw
                  case rel => exact ⟨n + 1, by have := HLT.out; omega, by go_num, HN'⟩
                  case measure => have := HLT.out; simp [intOf]; omega
              · go_wp2_with fail
                go_end0
                exact ⟨rfl, _, _, true, hst, (fun h => nomatch h), grown_trans (World.grownBy_alloc w _ (some X)) hg⟩
            · have hn' : n = n2 := by omega
              subst hn'
              go_wp2_with fail
              go_end0
              refine ⟨rfl, _, _, _, hst, fun hb => ?_, grown_trans (World.grownBy_alloc w _ (some X)) hg⟩
              obtain ⟨q1, q2, q3, q4, q5⟩ := hgood hb
              obtain ⟨s1, s2, s3⟩ := HN.out
              rw [← s1, ← s2] at q5
              have := q5.size
              exact ⟨(H1.out.2.1 (by simp)).1, q2, by omega, q4, q5.whole (by omega) (by omega)⟩
  · go_wp2_with fail
    go_end0
    exact ⟨rfl, _, _, true, H1.out.1, (fun h => nomatch h), ((World.grownBy_alloc w _ (some X))).trans H1.out.2.2⟩

end Go.Proofs.YtfhppajnnbbcjaaGreatDoor
end
