/- Walks: the laws' told, whatever the reference says: it is true where the reference and the answer agree.
   Walks: the laws' straight and given.
   Walks: the law FnSearch. -/
import Derived.Test.YtfhppajnnbbcjaaGreatDoorGz16
import Derived.Test.YtfhppajnnbbcjaaGreatDoorGz7
import Derived.Test.YtfhppajnnbbcjaaGreatDoorGz8
import Derived.Test.YtfhppajnnbbcjaaGreatDoorGz6
import Derived.Test.YtfhppajnnbbcjaaGreatDoorGz3
import Derived.Test.YtfhppajnnbbcjaaGreatDoorGz12

section
namespace Go.Proofs.YtfhppajnnbbcjaaGreatDoor
open Go.RowKit

/-- the answer is true; nothing that was there has turned -/
def TrueP (w : World) (e : Ending) (w' : World) : Prop := e = .returned (.bool true) ∧ Below w.heap.size w w'

theorem upd_no {xs : Nat → Value} {i j : Nat} {v : Value} (h : j ≠ i) : upd xs i v j = xs j := by simp [upd, h]
theorem upd_at {xs : Nat → Value} {i : Nat} {v : Value} : upd xs i v i = v := by simp [upd]

theorem lit_two {W : World} {D : Nat → Prop} {a b : V} {ca cb : List Value} {g : Nat} {T : TypeId} (hh : W.heap[g]? = some (.cells (ca ++ cb).toArray T (0, 0))) (ha : VRep W D a ca) (hb : VRep W D b cb) (la : ca.length = 6) (lb : cb.length = 6) (hg : D g) :
    SlAt D [a, b].length (.slice (some ⟨g, 0, none⟩) 2 2) (fun x o => VRow W D x [a, b] o) :=
  ⟨_, _, rfl, Nat.le_refl _, by unfold maxLen; omega, fun _ => ⟨g, 0, rfl, hg, ⟨⟨ca, la, fun i v hi => by
      rw [box_cell hh, Nat.zero_add]
      have : i < ca.length := (List.getElem?_eq_some_iff.1 hi).1
      simpa [List.getElem?_append_left this] using hi, ha⟩, ⟨cb, lb, fun i v hi => by
      rw [box_cell hh, Nat.zero_add]
      have : (ca ++ cb)[6 + i]? = cb[i]? := by rw [List.getElem?_append_right (by omega), la]; congr 1; omega
      simpa [this] using hi, hb⟩, trivial⟩⟩⟩
theorem lit_single {W : World} {D : Nat → Prop} {a : V} {ca : List Value} {g : Nat} {T : TypeId} (hh : W.heap[g]? = some (.cells ca.toArray T (0, 0))) (ha : VRep W D a ca) (la : ca.length = 6) (hg : D g) :
    SlAt D [a].length (.slice (some ⟨g, 0, none⟩) 1 1) (fun x o => VRow W D x [a] o) :=
  ⟨_, _, rfl, Nat.le_refl _, by unfold maxLen; omega, fun _ => ⟨g, 0, rfl, hg, ⟨⟨ca, la, fun i v hi => by
      rw [box_cell hh, Nat.zero_add]; simpa using hi, ha⟩, trivial⟩⟩⟩

/-- a call of the program and the reference agree: Rj: what is answered, Re: an error is; j, how: what the reference says -/
def Agree (Rj : J → Prop) (Re : Prop) (j : J) (how : Int) : Prop := how = 2 ∨ (how = 1 ∧ ∀ j', ¬ Rj j') ∨ (how = 0 ∧ j.WF ∧ ¬ Re ∧ ∀ j', Rj j' → j' = j)

/-- the program's answer, as a value -/
def ResG (Rj : J → Prop) (Re : Prop) (u : Value) (W : World) (D : Nat → Prop) : Prop :=
  (∃ j A1 c1 A2 c2 A3 c3, Rj j ∧ u = .agg #[.int .i64 j.kind, .int .i64 j.half, .string j.text, .slice A1 j.list.length c1, .slice A2 j.keys.length c2, .slice A3 j.vals.length c3, .int .i64 0] ∧
    SRep W D j [.int .i64 j.kind, .int .i64 j.half, .string j.text, .slice A1 j.list.length c1, .slice A2 j.keys.length c2, .slice A3 j.vals.length c3]) ∨
  (Re ∧ u = .agg #[.int .i64 0, .int .i64 0, .string ⟨#[]⟩, .slice none 0 0, .slice none 0 0, .slice none 0 0, .int .i64 1])

theorem ResG.keep {Rj : J → Prop} {Re : Prop} {u : Value} {W W' : World} {D D' : Nat → Prop} (h : ResG Rj Re u W D) (hs : Same D W W') (hD : ∀ b, D b → D' b) : ResG Rj Re u W' D' := by
  rcases h with ⟨j, A1, c1, A2, c2, A3, c3, hr, hu, hv⟩ | h
  · exact .inl ⟨j, A1, c1, A2, c2, A3, c3, hr, hu, VRep.keep hs hD _ _ hv⟩
  · exact .inr h

set_option maxRecDepth 100000 in
theorem told_silent (r0 r1 r2 r3 r4 r5 r6 x0 x1 x2 x3 x4 x5 : Value) (w : World) :
    Calls Tryz.prog 11 #[.agg #[r0, r1, r2, r3, r4, r5, r6], .agg #[x0, x1, x2, x3, x4, x5], .int .i64 2] w (ToldPost w true) := by
  go_enter Tryz.func11, Tryz.ntmps11
  go_wp2_with fail
  go_ret
  exact ⟨rfl, ((Below.refl _ _).alloc (Nat.le_refl _) _).alloc (by simp) _⟩

theorem told_agree {Rj : J → Prop} {Re : Prop} {j : J} {how : Int} (ha : Agree Rj Re j how) (D : Nat → Prop) (u : Value) (cs : List Value) (W : World) (hD : ∀ b, D b → All W b) (hu : ResG Rj Re u W D) (hj : SRep W D j cs) :
    Calls Tryz.prog 11 #[u, .agg cs.toArray, .int .i64 how] W (ToldPost W true) := by
  obtain ⟨x0, x1, x2, x3, x4, x5, hx⟩ : ∃ x0 x1 x2 x3 x4 x5, cs = [x0, x1, x2, x3, x4, x5] := by
    obtain ⟨B1, d1, B2, d2, B3, d3, h⟩ := SRep.six hj
    exact ⟨_, _, _, _, _, _, h⟩
  rcases ha with rfl | ⟨rfl, hn⟩ | ⟨rfl, wj, hne, he⟩
  · subst hx
    rcases hu with ⟨j', A1, c1, A2, c2, A3, c3, hr, rfl, hv⟩ | ⟨-, rfl⟩
    · exact told_silent _ _ _ _ _ _ _ _ _ _ _ _ _ W
    · exact told_silent _ _ _ _ _ _ _ _ _ _ _ _ _ W
  · rcases hu with ⟨j', A1, c1, A2, c2, A3, c3, hr, rfl, hv⟩ | ⟨-, rfl⟩
    · exact absurd hr (hn j')
    · exact told_raises _ _ _ _ _ _ cs.toArray 1 W (by rw [hx]; rfl)
  · rcases hu with ⟨j', A1, c1, A2, c2, A3, c3, hr, rfl, hv⟩ | ⟨hr, -⟩
    · obtain rfl := he j' hr
      have := told_fine j' j' D A1 A2 A3 c1 c2 c3 cs W wj wj hD hv hj
      rw [cmpJ_self] at this
      exact this
    · exact absurd hr hne
end Go.Proofs.YtfhppajnnbbcjaaGreatDoor
end

section
namespace Go.Proofs.YtfhppajnnbbcjaaGreatDoor
open Go.RowKit

/-- a key of a straight path, as the law tests it -/
def SKey (k : J) : Prop := match k with
  | .str _ => True
  | .num h => h % 2 = 0 ∧ 0 ≤ h ∧ h ≤ 200
  | _ => False

def StraightPost (l : List J) (w : World) (e : Ending) (w' : World) : Prop := ∃ b, e = .returned (.bool b) ∧ (b = true → (∀ k ∈ l, SKey k) ∧ l.length ≤ 20) ∧ Below w.heap.size w w'

theorem skey_snoc {l : List J} {k : Nat} {x : J} (h : ∀ y ∈ l.take k, SKey y) (hx : l[k]? = some x) (hs : SKey x) : ∀ y ∈ l.take (k + 1), SKey y := by
  rw [take_snoc' hx]
  intro y hy
  rcases List.mem_append.1 hy with h1 | h1
  · exact h y h1
  · simp at h1; subst h1; exact hs

set_option maxHeartbeats 1000000 in
set_option maxRecDepth 100000 in
theorem straight_any (l : List J) (D : Nat → Prop) (S : Value) (w : World) (hS : SlJ w D l S) (hD : ∀ b, D b → All w b) : Calls Tryz.prog 18 #[S] w (StraightPost l w) := by
  obtain ⟨A, c, rfl, hc, hm, hr⟩ := hS
  have hbd : l.length ≤ 9223372036854775807 := by unfold maxLen at hm; omega
  have HX := Lib.hid (And.intro hr hD)
  clear hr hD hm hc
  go_enter Tryz.func18, Tryz.ntmps18
  go_wp2_with fail
  go_loopw [7] (fun i wr => ∃ k : Nat, k ≤ l.length ∧ i = .int .i64 k ∧ Hid (Below w.heap.size w wr ∧ ∀ y ∈ l.take k, SKey y)) (fun i _ => l.length - (intOf i).toNat)
  case atStart => exact ⟨0, Nat.zero_le _, rfl, Below.refl _ _, by simp⟩
  case round =>
    obtain ⟨k, hk, rfl, HR⟩ := hrel
    by_cases ha : k < l.length
    · obtain ⟨b, o, rfl, hb, hrow⟩ := HX.out.1 (by omega)
      obtain ⟨x, hs⟩ : ∃ x, l[k]? = some x := ⟨_, List.getElem?_eq_getElem ha⟩
      obtain ⟨cs, h6, hcs, hxr⟩ := (VRow.keep (Same.of_below HR.out.1 HX.out.2) (fun _ h => h) _ _ _ hb hrow).get (toVL_get hs)
      have HKB : Hid (∀ o : Obj, SKey x → Hid (Below w.heap.size w (wr.alloc o) ∧ ∀ y ∈ l.take (k + 1), SKey y)) := fun o h => ⟨HR.out.1.alloc HR.out.1.size o, skey_snoc HR.out.2 hs h⟩
      cases x with
      | null =>
        obtain ⟨L, K, S, rfl, hL, hK, hS⟩ := SRep.cells hxr
        obtain ⟨A1, c1, rfl⟩ := hL.form
        obtain ⟨A2, c2, rfl⟩ := hK.form
        obtain ⟨A3, c3, rfl⟩ := hS.form
        have p0 : wr.cell? ⟨b, o + k * 6, none⟩ = some (.int .i64 0) := hcs 0 _ rfl
        have p1 : wr.cell? ⟨b, o + k * 6 + 1, none⟩ = some (.int .i64 0) := hcs 1 _ rfl
        have p2 : wr.cell? ⟨b, o + k * 6 + 2, none⟩ = some (.string noText) := hcs 2 _ rfl
        have p3 : wr.cell? ⟨b, o + k * 6 + 3, none⟩ = some _ := hcs 3 _ rfl
        have p4 : wr.cell? ⟨b, o + k * 6 + 4, none⟩ = some _ := hcs 4 _ rfl
        have p5 : wr.cell? ⟨b, o + k * 6 + 5, none⟩ = some _ := hcs 5 _ rfl
        clear hcs hxr hL hK hS hrow hs HKB
        go_wp2_with fail
        go_ret
        exact ⟨_, rfl, (fun h => nomatch h), HR.out.1.alloc HR.out.1.size _⟩
      | arr m =>
        obtain ⟨L, K, S, rfl, hL, hK, hS⟩ := SRep.cells hxr
        obtain ⟨A1, c1, rfl⟩ := hL.form
        obtain ⟨A2, c2, rfl⟩ := hK.form
        obtain ⟨A3, c3, rfl⟩ := hS.form
        have p0 : wr.cell? ⟨b, o + k * 6, none⟩ = some (.int .i64 5) := hcs 0 _ rfl
        have p1 : wr.cell? ⟨b, o + k * 6 + 1, none⟩ = some (.int .i64 0) := hcs 1 _ rfl
        have p2 : wr.cell? ⟨b, o + k * 6 + 2, none⟩ = some (.string noText) := hcs 2 _ rfl
        have p3 : wr.cell? ⟨b, o + k * 6 + 3, none⟩ = some _ := hcs 3 _ rfl
        have p4 : wr.cell? ⟨b, o + k * 6 + 4, none⟩ = some _ := hcs 4 _ rfl
        have p5 : wr.cell? ⟨b, o + k * 6 + 5, none⟩ = some _ := hcs 5 _ rfl
        clear hcs hxr hL hK hS hrow hs HKB
        go_wp2_with fail
        go_ret
        exact ⟨_, rfl, (fun h => nomatch h), HR.out.1.alloc HR.out.1.size _⟩
      | obj ks vs =>
        obtain ⟨L, K, S, rfl, hL, hK, hS⟩ := SRep.cells hxr
        obtain ⟨A1, c1, rfl⟩ := hL.form
        obtain ⟨A2, c2, rfl⟩ := hK.form
        obtain ⟨A3, c3, rfl⟩ := hS.form
        have p0 : wr.cell? ⟨b, o + k * 6, none⟩ = some (.int .i64 6) := hcs 0 _ rfl
        have p1 : wr.cell? ⟨b, o + k * 6 + 1, none⟩ = some (.int .i64 0) := hcs 1 _ rfl
        have p2 : wr.cell? ⟨b, o + k * 6 + 2, none⟩ = some (.string noText) := hcs 2 _ rfl
        have p3 : wr.cell? ⟨b, o + k * 6 + 3, none⟩ = some _ := hcs 3 _ rfl
        have p4 : wr.cell? ⟨b, o + k * 6 + 4, none⟩ = some _ := hcs 4 _ rfl
        have p5 : wr.cell? ⟨b, o + k * 6 + 5, none⟩ = some _ := hcs 5 _ rfl
        clear hcs hxr hL hK hS hrow hs HKB
        go_wp2_with fail
        go_ret
        exact ⟨_, rfl, (fun h => nomatch h), HR.out.1.alloc HR.out.1.size _⟩
      | bool bb =>
        obtain ⟨L, K, S, rfl, hL, hK, hS⟩ := SRep.cells hxr
        obtain ⟨A1, c1, rfl⟩ := hL.form
        obtain ⟨A2, c2, rfl⟩ := hK.form
        obtain ⟨A3, c3, rfl⟩ := hS.form
        cases bb
        · have p0 : wr.cell? ⟨b, o + k * 6, none⟩ = some (.int .i64 1) := hcs 0 _ rfl
          have p1 : wr.cell? ⟨b, o + k * 6 + 1, none⟩ = some (.int .i64 0) := hcs 1 _ rfl
          have p2 : wr.cell? ⟨b, o + k * 6 + 2, none⟩ = some (.string noText) := hcs 2 _ rfl
          have p3 : wr.cell? ⟨b, o + k * 6 + 3, none⟩ = some _ := hcs 3 _ rfl
          have p4 : wr.cell? ⟨b, o + k * 6 + 4, none⟩ = some _ := hcs 4 _ rfl
          have p5 : wr.cell? ⟨b, o + k * 6 + 5, none⟩ = some _ := hcs 5 _ rfl
          clear hcs hxr hL hK hS hrow hs HKB
          go_wp2_with fail
          go_ret
          exact ⟨_, rfl, (fun h => nomatch h), HR.out.1.alloc HR.out.1.size _⟩
        · have p0 : wr.cell? ⟨b, o + k * 6, none⟩ = some (.int .i64 2) := hcs 0 _ rfl
          have p1 : wr.cell? ⟨b, o + k * 6 + 1, none⟩ = some (.int .i64 0) := hcs 1 _ rfl
          have p2 : wr.cell? ⟨b, o + k * 6 + 2, none⟩ = some (.string noText) := hcs 2 _ rfl
          have p3 : wr.cell? ⟨b, o + k * 6 + 3, none⟩ = some _ := hcs 3 _ rfl
          have p4 : wr.cell? ⟨b, o + k * 6 + 4, none⟩ = some _ := hcs 4 _ rfl
          have p5 : wr.cell? ⟨b, o + k * 6 + 5, none⟩ = some _ := hcs 5 _ rfl
          clear hcs hxr hL hK hS hrow hs HKB
          go_wp2_with fail
          go_ret
          exact ⟨_, rfl, (fun h => nomatch h), HR.out.1.alloc HR.out.1.size _⟩
      | str s =>
        obtain ⟨L, K, S, rfl, hL, hK, hS⟩ := SRep.cells hxr
        obtain ⟨A1, c1, rfl⟩ := hL.form
        obtain ⟨A2, c2, rfl⟩ := hK.form
        obtain ⟨A3, c3, rfl⟩ := hS.form
        have p0 : wr.cell? ⟨b, o + k * 6, none⟩ = some (.int .i64 4) := hcs 0 _ rfl
        have p1 : wr.cell? ⟨b, o + k * 6 + 1, none⟩ = some (.int .i64 0) := hcs 1 _ rfl
        have p2 : wr.cell? ⟨b, o + k * 6 + 2, none⟩ = some (.string s) := hcs 2 _ rfl
        have p3 : wr.cell? ⟨b, o + k * 6 + 3, none⟩ = some _ := hcs 3 _ rfl
        have p4 : wr.cell? ⟨b, o + k * 6 + 4, none⟩ = some _ := hcs 4 _ rfl
        have p5 : wr.cell? ⟨b, o + k * 6 + 5, none⟩ = some _ := hcs 5 _ rfl
        clear hcs hxr hL hK hS hrow hs HR
        go_wp2_with fail
        go_roundw
        case rel => exact ⟨k + 1, by omega, by go_num, HKB.out _ trivial⟩
        case measure => simp [intOf]; omega
      | num h =>
        obtain ⟨L, K, S, rfl, hL, hK, hS⟩ := SRep.cells hxr
        obtain ⟨A1, c1, rfl⟩ := hL.form
        obtain ⟨A2, c2, rfl⟩ := hK.form
        obtain ⟨A3, c3, rfl⟩ := hS.form
        have p0 : wr.cell? ⟨b, o + k * 6, none⟩ = some (.int .i64 3) := hcs 0 _ rfl
        have p1 : wr.cell? ⟨b, o + k * 6 + 1, none⟩ = some (.int .i64 h) := hcs 1 _ rfl
        have p2 : wr.cell? ⟨b, o + k * 6 + 2, none⟩ = some (.string noText) := hcs 2 _ rfl
        have p3 : wr.cell? ⟨b, o + k * 6 + 3, none⟩ = some _ := hcs 3 _ rfl
        have p4 : wr.cell? ⟨b, o + k * 6 + 4, none⟩ = some _ := hcs 4 _ rfl
        have p5 : wr.cell? ⟨b, o + k * 6 + 5, none⟩ = some _ := hcs 5 _ rfl
        clear hcs hxr hL hK hS hrow hs
        by_cases e2 : h % 2 = 0
        · have t2 : (h.tmod 2 != 0) = false := by simpa using (tmod_two h).2 e2
          have t3 : (h % 2 != 0) = false := by simp [e2]
          by_cases e0 : h < 0
          · clear HKB e2
            go_wp2_with fail
            all_goals
              all_goals
                go_ret
                exact ⟨_, rfl, (fun h => nomatch h), HR.out.1.alloc HR.out.1.size _⟩
          · by_cases e1 : 200 < h
            · clear HKB e2
              go_wp2_with fail
              all_goals
                go_ret
                exact ⟨_, rfl, (fun h => nomatch h), HR.out.1.alloc HR.out.1.size _⟩
            · have HN := Lib.hid (fun o => HKB.out o ⟨e2, by omega, by omega⟩)
              clear HKB HR e2
              go_wp2_with fail
              all_goals
                go_roundw
                case rel => exact ⟨k + 1, by omega, by go_num, HN.out _⟩
                case measure => simp [intOf]; omega
        · have t2 : (h.tmod 2 != 0) = true := by simpa using fun h' => e2 ((tmod_two h).1 h')
          clear HKB e2
          go_wp2_with fail
          all_goals
            go_ret
            exact ⟨_, rfl, (fun h => nomatch h), HR.out.1.alloc HR.out.1.size _⟩
    · have hk' : k = l.length := by omega
      subst hk'
      have HF := Lib.hid (show Below w.heap.size w wr ∧ ∀ y ∈ l, SKey y from ⟨HR.out.1, by have := HR.out.2; rwa [List.take_length] at this⟩)
      clear HR
      by_cases h20 : l.length ≤ 20
      · go_wp2_with fail
        go_ret
        exact ⟨_, rfl, fun _ => ⟨HF.out.2, h20⟩, HF.out.1⟩
      · have t20 : ¬ ((l.length : Int) ≤ 20) := by omega
        go_wp2_with fail
        go_ret
        exact ⟨_, rfl, (fun h => by first | exact nomatch h | (simp at h; omega)), HF.out.1⟩

set_option maxRecDepth 100000 in
theorem given_fine (a m : J) (D : Nat → Prop) (A1 A2 A3 : Option Addr) (c1 c2 c3 : Nat) (cm : List Value) (w : World) (wa : a.WF) (wm : m.WF) (hD : ∀ b, D b → All w b)
    (ha : SRep w D a [.int .i64 a.kind, .int .i64 a.half, .string a.text, .slice A1 a.list.length c1, .slice A2 a.keys.length c2, .slice A3 a.vals.length c3]) (hm : SRep w D m cm) :
    Calls Tryz.prog 21 #[.agg #[.int .i64 a.kind, .int .i64 a.half, .string a.text, .slice A1 a.list.length c1, .slice A2 a.keys.length c2, .slice A3 a.vals.length c3, .int .i64 0], .agg cm.toArray] w (ToldPost w (cmpJ a m == 0)) := by
  obtain ⟨B1, d1, B2, d2, B3, d3, rfl⟩ := SRep.six hm
  have hb : Below w.heap.size w ((w.alloc (.cells #[.int .i64 a.kind, .int .i64 a.half, .string a.text, .slice A1 a.list.length c1, .slice A2 a.keys.length c2, .slice A3 a.vals.length c3, .int .i64 0] 34)).alloc (.cells #[.int .i64 m.kind, .int .i64 m.half, .string m.text, .slice B1 m.list.length d1, .slice B2 m.keys.length d2, .slice B3 m.vals.length d3] 26)) :=
    ((Below.refl _ _).alloc (Nat.le_refl _) _).alloc (by simp) _
  have HC := Lib.hid (told_fine a m D A1 A2 A3 c1 c2 c3 _ _ wa wm (fun b hb' => Nat.lt_of_lt_of_le (hD b hb') hb.size) (VRep.keep (Same.of_below hb hD) (fun _ h => h) _ _ ha) (VRep.keep (Same.of_below hb hD) (fun _ h => h) _ _ hm))
  have HB := Lib.hid hb
  clear hb ha hm hD
  obtain ⟨ok, hok⟩ : ∃ ok, (cmpJ a m == 0) = ok := ⟨_, rfl⟩
  rw [hok] at HC ⊢
  clear hok
  go_enter Tryz.func21, Tryz.ntmps21
  go_wp2_with fail
  refine HC.out.mono ?_
  clear HC
  rintro e w1 ⟨rfl, hb1⟩
  have HN : Hid (Below w.heap.size w w1) := HB.out.trans (hb1.mono HB.out.size)
  clear hb1
  go_wp2_with fail
  go_ret
  exact ⟨rfl, HN.out⟩

end Go.Proofs.YtfhppajnnbbcjaaGreatDoor
end

section
namespace Go.Proofs.YtfhppajnnbbcjaaGreatDoor
open Go.RowKit

theorem dpost_val {Rj : J → Prop} {w w' : World} {e : Ending} (h : DPost Rj False w e w') : ∃ j, Rj j ∧ ResOK j w e w' := by
  rcases h with h | h
  · exact h
  · exact h.1.elim

theorem given_num {Rj : J → Prop} {M : Int} (hM : -1048578 ≤ M ∧ M ≤ 1048578) (hR : ∀ j, Rj j → j = .num (2 * M)) (u : Value) (W : World) (D : Nat → Prop) (hD : ∀ b, D b → All W b) (hu : ResG Rj False u W D) :
    Calls Tryz.prog 21 #[u, .agg #[.int .i64 3, .int .i64 (2 * M), .string noText, .slice none 0 0, .slice none 0 0, .slice none 0 0]] W (ToldPost W true) := by
  rcases hu with ⟨j, A1, c1, A2, c2, A3, c3, hr, rfl, hv⟩ | ⟨h, -⟩
  · obtain rfl := hR j hr
    have wf : (J.num (2 * M)).WF := by simp only [J.WF]; omega
    have := given_fine (.num (2 * M)) (.num (2 * M)) D A1 A2 A3 c1 c2 c3 _ W wf wf hD hv (srep_num W D _)
    rw [cmpJ_self] at this
    exact this
  · exact h.elim

theorem store6 {W : World} {g : Nat} {c0 c1 c2 c3 c4 c5 : Value} {t : TypeId} (hh : W.heap[g]? = some (.cells #[c0, c1, c2, c3, c4, c5] t (0, 0))) (v0 v1 v2 v3 v4 v5 : Value) :
    ((((((W.setCell ⟨g, 0, none⟩ v0).setCell ⟨g, 1, none⟩ v1).setCell ⟨g, 2, none⟩ v2).setCell ⟨g, 3, none⟩ v3).setCell ⟨g, 4, none⟩ v4).setCell ⟨g, 5, none⟩ v5).heap[g]? = some (.cells #[v0, v1, v2, v3, v4, v5] t (0, 0)) := by
  rw [heap_setCell_same _ _ _ _ _ _ (heap_setCell_same _ _ _ _ _ _ (heap_setCell_same _ _ _ _ _ _ (heap_setCell_same _ _ _ _ _ _ (heap_setCell_same _ _ _ _ _ _ (heap_setCell_same _ _ _ _ _ _ hh)))))]
  rfl

/-- what the values of the last row are good for -/
def SrF (cu cx : Array Value) (Rj : J → Prop) (M : Int) : Nat → Value → World → Prop
  | 0, v, _ => v = .agg cu
  | 1, v, _ => v = .agg cx
  | 2, v, W => ResG Rj False v W (fun b => b < W.heap.size)
  | 3, v, _ => v = .agg #[.int .i64 3, .int .i64 (2 * M), .string noText, .slice none 0 0, .slice none 0 0, .slice none 0 0]
  | 4, v, _ => v = .bool true
  | _, _, _ => True

theorem SrF.keep {cu cx : Array Value} {Rj : J → Prop} {M : Int} {i : Nat} {v : Value} {W W' : World} (h : SrF cu cx Rj M i v W) (hb : Below W.heap.size W W') : SrF cu cx Rj M i v W' := by
  match i, h with
  | 0, h => exact h
  | 1, h => exact h
  | 2, h => exact ResG.keep h (fun b hb' => hb.block b hb') (fun b hb' => Nat.lt_of_lt_of_le hb' hb.size)
  | 3, h => exact h
  | 4, h => exact h
  | k + 5, _ => trivial

/-- r.Val -/
theorem field34 (c0 c1 c2 c3 c4 c5 c6 : Value) (W : World) : (Instr.field 34 (.agg #[c0, c1, c2, c3, c4, c5, c6]) 0).run Tryz.prog W = .ok (.agg #[c0, c1, c2, c3, c4, c5]) W := by kernel_rfl

/-- the loop: how many are less, whether it is there -/
def SrRel (w W : World) (wr : World) : Prop := Below W.heap.size W wr ∧ w.heap.size ≤ W.heap.size

set_option maxHeartbeats 2000000 in
set_option maxRecDepth 100000 in
theorem Search_law (v x : V) (D : Nat → Prop) (cv cx : List Value) (w : World) (hv : VRep w D v cv) (hx : VRep w D x cx) (hD : ∀ b, D b → All w b) (hU : U8 w) (hsv : v.Small) (hsx : x.Small) :
    Calls Tryz.prog 6 #[.agg cv.toArray, .agg cx.toArray] w (TrueP w) := by
  have hk : ∀ W, Below w.heap.size w W → VRep W D v cv ∧ VRep W D x cx := fun W hb => ⟨VRep.keep (Same.of_below hb hD) (fun _ h => h) _ _ hv, VRep.keep (Same.of_below hb hD) (fun _ h => h) _ _ hx⟩
  have HC1 := Lib.hid (fun W (hW : Below w.heap.size w W) => zzFits1_any v D cv W (hk _ hW).1 (fun b hb => Nat.lt_of_lt_of_le (hD b hb) hW.size) hsv)
  have HC2 := Lib.hid (fun W (hW : Below w.heap.size w W) => zzFits1_any x D cx W (hk _ hW).2 (fun b hb => Nat.lt_of_lt_of_le (hD b hb) hW.size) hsx)
  obtain ⟨vk, vh, vt, vl, vks, vvs⟩ := v
  obtain ⟨L, K, S, rfl, hL, hK, hS⟩ := hv
  obtain ⟨A1, c1, rfl⟩ := hL.form
  obtain ⟨A2, c2, rfl⟩ := hK.form
  obtain ⟨A3, c3, rfl⟩ := hS.form
  obtain ⟨xk, xh, xt, xl, xks, xvs⟩ := x
  obtain ⟨L, K, S, rfl, hL', hK', hS'⟩ := hx
  obtain ⟨B1, d1, rfl⟩ := hL'.form
  obtain ⟨B2, d2, rfl⟩ := hK'.form
  obtain ⟨B3, d3, rfl⟩ := hS'.form
  have HX := Lib.hid (And.intro hk (And.intro hD (And.intro hU (And.intro hsv hsx))))
  clear hk hD hU hsv hsx hL hK hS hL' hK' hS'
  go_enter Tryz.func6, Tryz.ntmps6
  go_wp2_with fail
  generalize hW : (World.alloc _ _).alloc _ = W0
  have H2 := Lib.hid (alloc2 hW)
  clear hW
  refine (HC1.out W0 H2.out.1).mono ?_
  clear HC1
  rintro e w1 ⟨b, rfl, hb1⟩
  have HB1 := Lib.hid (H2.out.1.trans (hb1.mono H2.out.1.size))
  have HBX := Lib.hid (And.intro ((hb1.block _ (box_lt H2.out.2.2.1)).trans H2.out.2.2.1) ((hb1.block _ (box_lt H2.out.2.2.2)).trans H2.out.2.2.2))
  clear hb1 H2
  cases b with
  | false =>
    go_wp2_with fail
    go_ret
    exact ⟨rfl, HB1.out⟩
  | true =>
    have hbx := HBX.out.1
    have hby := HBX.out.2
    have q0 : w1.cell? ⟨w.heap.size, 0, none⟩ = _ := box_cell hbx 0
    have q1 : w1.cell? ⟨w.heap.size, 1, none⟩ = _ := box_cell hbx 1
    have q2 : w1.cell? ⟨w.heap.size, 2, none⟩ = _ := box_cell hbx 2
    have q3 : w1.cell? ⟨w.heap.size, 3, none⟩ = _ := box_cell hbx 3
    have q4 : w1.cell? ⟨w.heap.size, 4, none⟩ = _ := box_cell hbx 4
    have q5 : w1.cell? ⟨w.heap.size, 5, none⟩ = _ := box_cell hbx 5
    have y0 : w1.cell? ⟨w.heap.size + 1, 0, none⟩ = _ := box_cell hby 0
    have y1 : w1.cell? ⟨w.heap.size + 1, 1, none⟩ = _ := box_cell hby 1
    have y2 : w1.cell? ⟨w.heap.size + 1, 2, none⟩ = _ := box_cell hby 2
    have y3 : w1.cell? ⟨w.heap.size + 1, 3, none⟩ = _ := box_cell hby 3
    have y4 : w1.cell? ⟨w.heap.size + 1, 4, none⟩ = _ := box_cell hby 4
    have y5 : w1.cell? ⟨w.heap.size + 1, 5, none⟩ = _ := box_cell hby 5
    have hlt := box_lt hby
    have hlt0 := box_lt hbx
    clear hbx hby
    go_wp2_with fail
    refine (HC2.out w1 HB1.out).mono ?_
    clear HC2
    rintro e w2 ⟨b, rfl, hb2⟩
    replace HBX := Lib.hid (And.intro ((hb2.block _ (box_lt HBX.out.1)).trans HBX.out.1) ((hb2.block _ (box_lt HBX.out.2)).trans HBX.out.2))
    replace HB1 := Lib.hid (HB1.out.trans (hb2.mono HB1.out.size))
    clear hb2 q0 q1 q2 q3 q4 q5 y0 y1 y2 y3 y4 y5 hlt hlt0
    cases b with
    | false =>
      go_wp2_with fail
      go_ret
      exact ⟨rfl, HB1.out⟩
    | true =>
      have hbx := HBX.out.1
      have hby := HBX.out.2
      have q0 : w2.cell? ⟨w.heap.size, 0, none⟩ = _ := box_cell hbx 0
      have q1 : w2.cell? ⟨w.heap.size, 1, none⟩ = _ := box_cell hbx 1
      have q2 : w2.cell? ⟨w.heap.size, 2, none⟩ = _ := box_cell hbx 2
      have q3 : w2.cell? ⟨w.heap.size, 3, none⟩ = _ := box_cell hbx 3
      have q4 : w2.cell? ⟨w.heap.size, 4, none⟩ = _ := box_cell hbx 4
      have q5 : w2.cell? ⟨w.heap.size, 5, none⟩ = _ := box_cell hbx 5
      have y0 : w2.cell? ⟨w.heap.size + 1, 0, none⟩ = _ := box_cell hby 0
      have y1 : w2.cell? ⟨w.heap.size + 1, 1, none⟩ = _ := box_cell hby 1
      have y2 : w2.cell? ⟨w.heap.size + 1, 2, none⟩ = _ := box_cell hby 2
      have y3 : w2.cell? ⟨w.heap.size + 1, 3, none⟩ = _ := box_cell hby 3
      have y4 : w2.cell? ⟨w.heap.size + 1, 4, none⟩ = _ := box_cell hby 4
      have y5 : w2.cell? ⟨w.heap.size + 1, 5, none⟩ = _ := box_cell hby 5
      have hlt := box_lt hby
      have hlt0 := box_lt hbx
      clear hbx hby
      have HF := Lib.hid (fit2_any (.mk vk vh vt vl vks vvs) (.mk xk xh xt xl xks xvs) D [Value.int .i64 vk, .int .i64 vh, .string vt, .slice A1 vl.length c1, .slice A2 vks.length c2, .slice A3 vvs.length c3] [Value.int .i64 xk, .int .i64 xh, .string xt, .slice B1 xl.length d1, .slice B2 xks.length d2, .slice B3 xvs.length d3] w2 (HX.out.1 _ HB1.out).1 (HX.out.1 _ HB1.out).2 (fun b hb => Nat.lt_of_lt_of_le (HX.out.2.1 b hb) HB1.out.size) (HX.out.2.2.1.below HB1.out HX.out.2.2.1.size) HX.out.2.2.2.1 HX.out.2.2.2.2)
      go_wp2_with fail
      refine HF.out.mono ?_
      clear HF
      rintro e w3 ⟨b, rfl, hgood, hb3⟩
      have HB3 := Lib.hid (HB1.out.trans (hb3.mono HB1.out.size))
      replace HBX := Lib.hid (And.intro ((hb3.block _ (box_lt HBX.out.1)).trans HBX.out.1) ((hb3.block _ (box_lt HBX.out.2)).trans HBX.out.2))
      clear hb3 HB1 q0 q1 q2 q3 q4 q5 y0 y1 y2 y3 y4 y5 hlt hlt0
      cases b with
      | false =>
        clear hgood
        go_wp2_with fail
        go_ret
        exact ⟨rfl, HB3.out⟩
      | true =>
        have hbx := HBX.out.1
        have hby := HBX.out.2
        have q0 : w3.cell? ⟨w.heap.size, 0, none⟩ = _ := box_cell hbx 0
        have q1 : w3.cell? ⟨w.heap.size, 1, none⟩ = _ := box_cell hbx 1
        have q2 : w3.cell? ⟨w.heap.size, 2, none⟩ = _ := box_cell hbx 2
        have q3 : w3.cell? ⟨w.heap.size, 3, none⟩ = _ := box_cell hbx 3
        have q4 : w3.cell? ⟨w.heap.size, 4, none⟩ = _ := box_cell hbx 4
        have q5 : w3.cell? ⟨w.heap.size, 5, none⟩ = _ := box_cell hbx 5
        have y0 : w3.cell? ⟨w.heap.size + 1, 0, none⟩ = _ := box_cell hby 0
        have y1 : w3.cell? ⟨w.heap.size + 1, 1, none⟩ = _ := box_cell hby 1
        have y2 : w3.cell? ⟨w.heap.size + 1, 2, none⟩ = _ := box_cell hby 2
        have y3 : w3.cell? ⟨w.heap.size + 1, 3, none⟩ = _ := box_cell hby 3
        have y4 : w3.cell? ⟨w.heap.size + 1, 4, none⟩ = _ := box_cell hby 4
        have y5 : w3.cell? ⟨w.heap.size + 1, 5, none⟩ = _ := box_cell hby 5
        have hlt := box_lt hby
        have hlt0 := box_lt hbx
        clear hbx hby
        by_cases h5 : vk = 5
        · have h5' : (vk != 5) = false := by simp [h5]
          obtain ⟨⟨jv, hjv, gv⟩, ⟨jx, hjx, gx⟩⟩ := hgood rfl
          obtain ⟨a, rfl⟩ : ∃ a, jv = .arr a := by
            cases jv with
            | bool b => cases b <;> (simp [J.toV] at hjv; omega)
            | arr l => exact ⟨l, rfl⟩
            | _ => simp [J.toV] at hjv; omega
          have hJ : ∀ W, Below w.heap.size w W → SRep W D (.arr a) [Value.int .i64 vk, .int .i64 vh, .string vt, .slice A1 vl.length c1, .slice A2 vks.length c2, .slice A3 vvs.length c3] ∧ SRep W D jx [Value.int .i64 xk, .int .i64 xh, .string xt, .slice B1 xl.length d1, .slice B2 xks.length d2, .slice B3 xvs.length d3] := fun W hb => by
            obtain ⟨h1, h2⟩ := HX.out.1 W hb
            rw [hjv] at h1
            rw [hjx] at h2
            exact ⟨h1, h2⟩
          have HJ := Lib.hid (And.intro hJ (And.intro HX.out.2.1 (And.intro gv.wf gx.wf)))
          have HQ := Lib.hid (Unique_any a D [Value.int .i64 vk, .int .i64 vh, .string vt, .slice A1 vl.length c1, .slice A2 vks.length c2, .slice A3 vvs.length c3] w3 gv.wf (fun b hb => Nat.lt_of_lt_of_le (HX.out.2.1 b hb) HB3.out.size) (hJ _ HB3.out).1)
          clear hgood gv gx hjv hjx hJ h5 HX
          go_wp2_with fail
          refine HQ.out.mono ?_
          clear HQ
          intro e w4 hp
          obtain ⟨j, ⟨u, rfl, hu, wu⟩, E1, e1, E2, e2, E3, e3, rfl, hr, hb4⟩ := dpost_val hp
          simp only [J.kind, J.half, J.text, J.list, J.keys, J.vals, List.length_nil] at hr ⊢
          have HBX4 := Lib.hid (And.intro ((hb4.block _ (box_lt HBX.out.1)).trans HBX.out.1) ((hb4.block _ (box_lt HBX.out.2)).trans HBX.out.2))
          have HB4 := Lib.hid (And.intro (HB3.out.trans (hb4.mono HB3.out.size)) (VRep.keep (D' := fun b => w.heap.size ≤ b ∧ b < w4.heap.size) (fun _ _ => rfl) (fun b hb => ⟨Nat.le_trans HB3.out.size hb.1, hb.2⟩) _ _ hr))
          have HU := Lib.hid hu
          have HUW := Lib.hid (show u.length ≤ 1048576 ∧ WFL u from wu)
          clear hp hr hb4 hu wu q0 q1 q2 q3 q4 q5 y0 y1 y2 y3 y4 y5 hlt hlt0 HBX HB3 h5'
          have HBX := HBX4
          clear HBX4
          have hbx := HBX.out.1
          have hby := HBX.out.2
          have q0 : w4.cell? ⟨w.heap.size, 0, none⟩ = _ := box_cell hbx 0
          have q1 : w4.cell? ⟨w.heap.size, 1, none⟩ = _ := box_cell hbx 1
          have q2 : w4.cell? ⟨w.heap.size, 2, none⟩ = _ := box_cell hbx 2
          have q3 : w4.cell? ⟨w.heap.size, 3, none⟩ = _ := box_cell hbx 3
          have q4 : w4.cell? ⟨w.heap.size, 4, none⟩ = _ := box_cell hbx 4
          have q5 : w4.cell? ⟨w.heap.size, 5, none⟩ = _ := box_cell hbx 5
          have y0 : w4.cell? ⟨w.heap.size + 1, 0, none⟩ = _ := box_cell hby 0
          have y1 : w4.cell? ⟨w.heap.size + 1, 1, none⟩ = _ := box_cell hby 1
          have y2 : w4.cell? ⟨w.heap.size + 1, 2, none⟩ = _ := box_cell hby 2
          have y3 : w4.cell? ⟨w.heap.size + 1, 3, none⟩ = _ := box_cell hby 3
          have y4 : w4.cell? ⟨w.heap.size + 1, 4, none⟩ = _ := box_cell hby 4
          have y5 : w4.cell? ⟨w.heap.size + 1, 5, none⟩ = _ := box_cell hby 5
          have hlt := box_lt hby
          have hlt0 := box_lt hbx
          clear hbx hby
          have hfd := fun W => field34 (.int .i64 5) (.int .i64 0) (.string noText) (.slice E1 u.length e1) (.slice E2 0 e2) (.slice E3 0 e3) (.int .i64 0) W
          go_wp2_with fail
          generalize hW4 : w4.alloc _ = W4
          have hb44 : Below w4.heap.size w4 W4 := by rw [← hW4]; exact (Below.refl _ _).alloc (Nat.le_refl _) _
          have hg4 : W4.heap[w4.heap.size]? = some (.cells #[Value.int .i64 5, .int .i64 0, .string noText, .slice E1 u.length e1, .slice E2 0 e2, .slice E3 0 e3] 26 (0, 0)) := by rw [← hW4]; exact heap_alloc_new w4 _
          have HB5 := Lib.hid (And.intro (HB4.out.1.trans (hb44.mono HB4.out.1.size)) (VRep.keep (D' := fun b => b < W4.heap.size) (fun b hb => hb44.block b hb.2) (fun b hb => Nat.lt_of_lt_of_le hb.2 hb44.size) _ _ HB4.out.2))
          have HBX5 := Lib.hid (And.intro ((hb44.block _ (box_lt HBX.out.1)).trans HBX.out.1) (And.intro ((hb44.block _ (box_lt HBX.out.2)).trans HBX.out.2) hg4))
          have HX5 := Lib.hid (VRep.keep (D' := fun b => b < W4.heap.size) (fun _ _ => rfl) (fun b hb => Nat.lt_of_lt_of_le (HJ.out.2.1 b hb) HB5.out.1.size) _ _ (HJ.out.1 W4 HB5.out.1).2)
          have HJW := Lib.hid (And.intro HJ.out.2.2.1 HJ.out.2.2.2)
          clear hb44 hg4 hW4 q0 q1 q2 q3 q4 q5 y0 y1 y2 y3 y4 y5 hlt hlt0 HBX HB4 hfd
          have hul : u.length ≤ 1048576 := HUW.out.1
          go_loopw [6, 7, 34] (fun vl vt vi wr => ∃ k : Nat, k ≤ u.length ∧ vi = .int .i64 k ∧ vl = .int .i64 (cntL u jx k) ∧ vt = .bool (thrL u jx k) ∧ Hid (Below W4.heap.size W4 wr)) (fun _ _ i _ => u.length - (intOf i).toNat)
          case atStart => exact ⟨0, Nat.zero_le _, rfl, rfl, rfl, Below.refl _ _⟩
          case round =>
            obtain ⟨k, hk, rfl, rfl, rfl, hR⟩ := hrel
            have hcn := cntL_le u jx k
            by_cases ha : k < u.length
            · obtain ⟨b1, o1, rfl, hb1, hrow⟩ : ∃ b o, E1 = some ⟨b, o, none⟩ ∧ b < W4.heap.size ∧ VRow W4 (fun b => b < W4.heap.size) b (toVL u) o := by
                obtain ⟨L, K, S, he, ⟨A', c', rfl, -, -, hr⟩, -, -⟩ := SRep.cells HB5.out.2
                obtain ⟨b, o, hA, hb, hr2⟩ := hr (by show 0 < u.length; omega)
                simp only [List.cons.injEq, Value.slice.injEq] at he
                exact ⟨b, o, he.2.2.2.1.1.trans hA, hb, hr2⟩
              have hs : Same (fun b => b < W4.heap.size) W4 wr := fun b hb => hR.out.block b hb
              obtain ⟨z, hz⟩ : ∃ z, elemJ u k = z := ⟨_, rfl⟩
              have hzg : u[k]? = some z := by rw [List.getElem?_eq_getElem ha, ← hz, elemJ_get ha]
              have wz : z.WF := by rw [← hz, elemJ_get ha]; exact WFL_iff.1 HUW.out.2 _ (List.getElem_mem _)
              obtain ⟨cs1, hl1, hg1, hv1⟩ := (VRow.keep hs (fun _ h => h) _ _ _ hb1 hrow).get (toVL_get hzg)
              have hDr : ∀ W, Below wr.heap.size wr W → ∀ b, b < W4.heap.size → b < W.heap.size := fun W hW b hb => Nat.lt_of_lt_of_le hb (Nat.le_trans hR.out.size hW.size)
              have hxr : SRep wr (fun b => b < W4.heap.size) jx [Value.int .i64 xk, .int .i64 xh, .string xt, .slice B1 xl.length d1, .slice B2 xks.length d2, .slice B3 xvs.length d3] := VRep.keep hs (fun _ h => h) _ _ HX5.out
              have hsW : ∀ W, Below wr.heap.size wr W → Same (fun b => b < W4.heap.size) wr W := fun W hW b hb => hW.block b (Nat.lt_of_lt_of_le hb hR.out.size)
              have HCm := Lib.hid (fun W (hW : Below wr.heap.size wr W) => cmp_all z jx (fun b => b < W4.heap.size) cs1 [Value.int .i64 xk, .int .i64 xh, .string xt, .slice B1 xl.length d1, .slice B2 xks.length d2, .slice B3 xvs.length d3] W wz HJW.out.2 (hDr W hW) (VRep.keep (hsW W hW) (fun _ h => h) _ _ hv1) (VRep.keep (hsW W hW) (fun _ h => h) _ _ hxr))
              have HSm := Lib.hid (fun W (hW : Below wr.heap.size wr W) => same_any jx z (fun b => b < W4.heap.size) [Value.int .i64 xk, .int .i64 xh, .string xt, .slice B1 xl.length d1, .slice B2 xks.length d2, .slice B3 xvs.length d3] cs1 W HJW.out.2 wz (hDr W hW) (VRep.keep (hsW W hW) (fun _ h => h) _ _ hxr) (VRep.keep (hsW W hW) (fun _ h => h) _ _ hv1))
              obtain ⟨F1, f1, F2, f2, F3, f3, rfl⟩ := SRep.six hv1
              have p0 : wr.cell? ⟨b1, o1 + k * 6, none⟩ = _ := hg1 0 _ rfl
              have p1 := hg1 1 _ rfl
              have p2 := hg1 2 _ rfl
              have p3 := hg1 3 _ rfl
              have p4 := hg1 4 _ rfl
              have p5 := hg1 5 _ rfl
              have hby := (hR.out.block _ (box_lt HBX5.out.2.1)).trans HBX5.out.2.1
              have y0 : wr.cell? ⟨w.heap.size + 1, 0, none⟩ = _ := box_cell hby 0
              have y1 : wr.cell? ⟨w.heap.size + 1, 1, none⟩ = _ := box_cell hby 1
              have y2 : wr.cell? ⟨w.heap.size + 1, 2, none⟩ = _ := box_cell hby 2
              have y3 : wr.cell? ⟨w.heap.size + 1, 3, none⟩ = _ := box_cell hby 3
              have y4 : wr.cell? ⟨w.heap.size + 1, 4, none⟩ = _ := box_cell hby 4
              have y5 : wr.cell? ⟨w.heap.size + 1, 5, none⟩ = _ := box_cell hby 5
              have hlt := box_lt hby
              have HZ := Lib.hid (And.intro hz hby)
              clear hrow hs hz hzg wz hl1 hg1 hv1 hDr hxr hsW hby hb1
              obtain ⟨nn, hnn⟩ : ∃ nn, cmpJ z jx = nn := ⟨_, rfl⟩
              obtain ⟨qq, hqq⟩ : ∃ qq, (cmpJ jx z == 0) = qq := ⟨_, rfl⟩
              rw [hnn] at HCm
              rw [hqq] at HSm
              have HN := Lib.hid (show cntL u jx (k + 1) = cntL u jx k + (if nn < 0 then 1 else 0) ∧ thrL u jx (k + 1) = (thrL u jx k || qq) from ⟨by
                rw [← hnn, ← HZ.out.1]; rfl, by rw [← hqq, ← HZ.out.1]; rfl⟩)
              clear hnn hqq
              go_wp2_with fail
              refine (HCm.out _ ((Below.refl _ _).alloc (Nat.le_refl _) _)).mono ?_
              clear HCm
              rintro e w6 ⟨rfl, hb6⟩
              have hb6' : Below wr.heap.size wr w6 := ((Below.refl _ _).alloc (Nat.le_refl _) _).trans (hb6.mono (by simp))
              have hbz := (hb6.block _ (by simp)).trans (heap_alloc_new wr (.cells #[.int .i64 z.kind, .int .i64 z.half, .string z.text, .slice F1 z.list.length f1, .slice F2 z.keys.length f2, .slice F3 z.vals.length f3] 26))
              have hby6 := (hb6'.block _ (box_lt HZ.out.2)).trans HZ.out.2
              have HR6 := Lib.hid (And.intro (hR.out.trans (hb6'.mono hR.out.size)) hb6')
              clear p0 p1 p2 p3 p4 p5 y0 y1 y2 y3 y4 y5 hlt hb6 hb6'
              have s0 : w6.cell? ⟨wr.heap.size, 0, none⟩ = _ := box_cell hbz 0
              have s1 : w6.cell? ⟨wr.heap.size, 1, none⟩ = _ := box_cell hbz 1
              have s2 : w6.cell? ⟨wr.heap.size, 2, none⟩ = _ := box_cell hbz 2
              have s3 : w6.cell? ⟨wr.heap.size, 3, none⟩ = _ := box_cell hbz 3
              have s4 : w6.cell? ⟨wr.heap.size, 4, none⟩ = _ := box_cell hbz 4
              have s5 : w6.cell? ⟨wr.heap.size, 5, none⟩ = _ := box_cell hbz 5
              have y0 : w6.cell? ⟨w.heap.size + 1, 0, none⟩ = _ := box_cell hby6 0
              have y1 : w6.cell? ⟨w.heap.size + 1, 1, none⟩ = _ := box_cell hby6 1
              have y2 : w6.cell? ⟨w.heap.size + 1, 2, none⟩ = _ := box_cell hby6 2
              have y3 : w6.cell? ⟨w.heap.size + 1, 3, none⟩ = _ := box_cell hby6 3
              have y4 : w6.cell? ⟨w.heap.size + 1, 4, none⟩ = _ := box_cell hby6 4
              have y5 : w6.cell? ⟨w.heap.size + 1, 5, none⟩ = _ := box_cell hby6 5
              clear hbz hby6 hR
              obtain ⟨th, hth⟩ : ∃ th, thrL u jx k = th := ⟨_, rfl⟩
              rw [hth] at HN ⊢
              have HTH := Lib.hid hth
              clear hth HTH
              by_cases hneg : nn < 0
              · have e0 : decide (nn < 0) = true := by simpa using hneg
                have HC := Lib.hid (show cntL u jx (k + 1) = cntL u jx k + 1 by rw [HN.out.1, if_pos hneg])
                clear hneg
                cases th with
                | true =>
                  go_wp2_with fail
                  go_roundw
                  case rel => exact ⟨k + 1, by omega, by go_num, by rw [HC.out]; go_num, by rw [HN.out.2]; rfl, HR6.out.1⟩
                  case measure => simp [intOf]; omega
                | false =>
                  go_wp2_with fail
                  refine (HSm.out _ HR6.out.2).mono ?_
                  rintro e w7 ⟨rfl, hb7⟩
                  have HR7 := Lib.hid (HR6.out.1.trans (hb7.mono HR6.out.1.size))
                  clear hb7 HR6 HSm s0 s1 s2 s3 s4 s5 y0 y1 y2 y3 y4 y5
                  go_wp2_with fail
                  go_roundw
                  case rel => exact ⟨k + 1, by omega, by go_num, by rw [HC.out]; go_num, by rw [HN.out.2]; rfl, HR7⟩
                  case measure => simp [intOf]; omega
              · have e0 : decide (nn < 0) = false := by simpa using hneg
                have HC := Lib.hid (show cntL u jx (k + 1) = cntL u jx k by rw [HN.out.1, if_neg hneg]; rfl)
                clear hneg
                cases th with
                | true =>
                  go_wp2_with fail
                  go_roundw
                  case rel => exact ⟨k + 1, by omega, by go_num, by rw [HC.out], by rw [HN.out.2]; rfl, HR6.out.1⟩
                  case measure => simp [intOf]; omega
                | false =>
                  go_wp2_with fail
                  refine (HSm.out _ HR6.out.2).mono ?_
                  rintro e w7 ⟨rfl, hb7⟩
                  have HR7 := Lib.hid (HR6.out.1.trans (hb7.mono HR6.out.1.size))
                  clear hb7 HR6 HSm s0 s1 s2 s3 s4 s5 y0 y1 y2 y3 y4 y5
                  go_wp2_with fail
                  go_roundw
                  case rel => exact ⟨k + 1, by omega, by go_num, by rw [HC.out], by rw [HN.out.2]; rfl, HR7⟩
                  case measure => simp [intOf]; omega
            · have hk' : k = u.length := by omega
              subst hk'
              obtain ⟨cc, hcc⟩ : ∃ cc, cntL u jx u.length = cc := ⟨_, rfl⟩
              obtain ⟨th, hth⟩ : ∃ th, thrL u jx u.length = th := ⟨_, rfl⟩
              rw [hcc] at hcn ⊢
              rw [hth]
              have HCT := Lib.hid (And.intro hcc hth)
              clear hcc hth
              go_wp2_with fail
              refine (Num_any cc wr (by omega) (by omega)).mono ?_
              rintro e w6 ⟨rfl, hb6⟩
              have HR6 := Lib.hid (hR.out.trans (hb6.mono hR.out.size))
              clear hR hb6
              have HJW3 := Lib.hid (show (J.arr u).WF from HUW.out)
              have HFIN := Lib.hid (fun Wf (hf : Below W4.heap.size W4 Wf) => show Below w.heap.size w Wf ∧ SRep Wf (fun b => b < Wf.heap.size) (.arr u) [Value.int .i64 5, .int .i64 0, .string noText, .slice E1 u.length e1, .slice E2 0 e2, .slice E3 0 e3] ∧ SRep Wf (fun b => b < Wf.heap.size) jx [Value.int .i64 xk, .int .i64 xh, .string xt, .slice B1 xl.length d1, .slice B2 xks.length d2, .slice B3 xvs.length d3] from
                ⟨HB5.out.1.trans (hf.mono HB5.out.1.size), VRep.keep (fun b hb => hf.block b hb) (fun b hb => Nat.lt_of_lt_of_le hb hf.size) _ _ HB5.out.2, VRep.keep (fun b hb => hf.block b hb) (fun b hb => Nat.lt_of_lt_of_le hb hf.size) _ _ HX5.out⟩)
              have HANS := Lib.hid (show ∀ j, RBs u jx j → j = .num (2 * (if th = true then (cc : Int) else -1 - (cc : Int))) from fun j ⟨i, hi, hj⟩ => by
                rw [hj, bs_count HU.out.up hi, HCT.out.1, HCT.out.2])
              cases th with
              | true =>
                have HM := Lib.hid (show (-1048578 ≤ (cc : Int) ∧ (cc : Int) ≤ 1048578) ∧ ∀ j, RBs u jx j → j = .num (2 * (cc : Int)) from ⟨by omega, fun j hj => by have := HANS.out j hj; rwa [if_pos rfl] at this⟩)
                clear HANS
                go_wp2_with fail
                generalize hWf : w6.alloc _ = Wf
                have hbf : Below w6.heap.size w6 Wf := by rw [← hWf]; exact (Below.refl _ _).alloc (Nat.le_refl _) _
                have hgf : Wf.heap[w6.heap.size]? = some (.cells #[.int .i64 3, .int .i64 (2 * (cc : Int)), .string noText, .slice none 0 0, .slice none 0 0, .slice none 0 0] 26 (0, 0)) := by rw [← hWf]; exact heap_alloc_new w6 _
                have hbf4 := HR6.out.trans (hbf.mono HR6.out.size)
                have HRF := Lib.hid (HFIN.out Wf hbf4)
                have HBF := Lib.hid (And.intro ((hbf4.block _ (box_lt HBX5.out.2.2)).trans HBX5.out.2.2) (And.intro ((hbf4.block _ (box_lt HBX5.out.2.1)).trans HBX5.out.2.1) hgf))
                clear hWf hbf hgf hbf4 HFIN HR6
                refine wp_region_RG 5 (by kernel_rfl) (by kernel_rfl) (Below Wf.heap.size Wf) (fun _ i v W => SrF #[Value.int .i64 5, .int .i64 0, .string noText, .slice E1 u.length e1, .slice E2 0 e2, .slice E3 0 e3] #[Value.int .i64 xk, .int .i64 xh, .string xt, .slice B1 xl.length d1, .slice B2 xks.length d2, .slice B3 xvs.length d3] (RBs u jx) (cc : Int) i v W) (by simp [AllSteps, frameOf, Act.put, upd]) ((Below.refl _ _).drew) ⟨?s0, ?s1, ?s2, ?s3, ?s4, trivial⟩ ?e
                case s0 =>
                  intro xs d W hd hdeps hG hF K hK
                  clear hdeps
                  have hb := (hG.block _ (box_lt HBF.out.1)).trans HBF.out.1
                  have b0 := box_cell hb 0
                  have b1 := box_cell hb 1
                  have b2 := box_cell hb 2
                  have b3 := box_cell hb 3
                  have b4 := box_cell hb 4
                  have b5 := box_cell hb 5
                  simp at b0 b1 b2 b3 b4 b5
                  clear hb
                  simp only [frameOf, List.take_succ_cons, List.take_zero, Act.put, List.setIfInBounds_toArray, List.set_cons_zero, List.set_cons_succ, Nat.zero_add, Nat.reduceAdd]
                  go_simp
                  exact hK _ _ _ (by simp only [frameOf, List.take_succ_cons, List.take_zero, Act.put, List.setIfInBounds_toArray, List.set_cons_zero, List.set_cons_succ, Nat.zero_add, Nat.reduceAdd]) hG (fun j u _ _ h => h) rfl
                case s1 =>
                  intro xs d W hd hdeps hG hF K hK
                  clear hdeps
                  have hb := (hG.block _ (box_lt HBF.out.2.1)).trans HBF.out.2.1
                  have b0 := box_cell hb 0
                  have b1 := box_cell hb 1
                  have b2 := box_cell hb 2
                  have b3 := box_cell hb 3
                  have b4 := box_cell hb 4
                  have b5 := box_cell hb 5
                  simp at b0 b1 b2 b3 b4 b5
                  clear hb
                  simp only [frameOf, List.take_succ_cons, List.take_zero, Act.put, List.setIfInBounds_toArray, List.set_cons_zero, List.set_cons_succ, Nat.zero_add, Nat.reduceAdd]
                  go_simp
                  exact hK _ _ _ (by simp only [frameOf, List.take_succ_cons, List.take_zero, Act.put, List.setIfInBounds_toArray, List.set_cons_zero, List.set_cons_succ, Nat.zero_add, Nat.reduceAdd]) hG (fun j u _ _ h => h) rfl
                case s2 =>
                  intro xs d W hd hdeps hG hF K hK
                  simp [Region.binds] at hdeps
                  have f0 : xs 0 = _ := hF 0 hdeps.1
                  have f1 : xs 1 = _ := hF 1 hdeps.2
                  have HG2 := Lib.hid (And.intro hG hK)
                  have HBS := Lib.hid (BSearch_any u jx (fun b => b < Wf.heap.size) [Value.int .i64 5, .int .i64 0, .string noText, .slice E1 u.length e1, .slice E2 0 e2, .slice E3 0 e3] [Value.int .i64 xk, .int .i64 xh, .string xt, .slice B1 xl.length d1, .slice B2 xks.length d2, .slice B3 xvs.length d3] W HJW3.out HJW.out.2 (fun b hb => Nat.lt_of_lt_of_le hb hG.size) (VRep.keep (fun b hb => hG.block b hb) (fun _ h => h) _ _ HRF.out.2.1) (VRep.keep (fun b hb => hG.block b hb) (fun _ h => h) _ _ HRF.out.2.2))
                  clear hG hK hF
                  simp only [frameOf, List.take_succ_cons, List.take_zero, Act.put, List.setIfInBounds_toArray, List.set_cons_zero, List.set_cons_succ, Nat.zero_add, Nat.reduceAdd]
                  simp only [f0, f1]
                  go_simp
                  refine HBS.out.mono ?_
                  intro e w9 hp
                  obtain ⟨j, hj, G1, g1, G2, g2, G3, g3, he, hr, hb9⟩ := dpost_val hp
                  subst he
                  obtain ⟨hG, hK⟩ := HG2.out
                  exact hK _ _ _ (by simp only [frameOf, List.take_succ_cons, List.take_zero, Act.put, List.setIfInBounds_toArray, List.set_cons_zero, List.set_cons_succ, Nat.zero_add, Nat.reduceAdd, f0, f1]) (hG.trans (hb9.mono hG.size)) (fun j u _ _ h => h.keep hb9) (.inl ⟨j, G1, g1, G2, g2, G3, g3, hj, rfl, VRep.keep (fun _ _ => rfl) (fun b hb => hb.2) _ _ hr⟩)
                case s3 =>
                  intro xs d W hd hdeps hG hF K hK
                  clear hdeps
                  have hb := (hG.block _ (box_lt HBF.out.2.2)).trans HBF.out.2.2
                  have b0 := box_cell hb 0
                  have b1 := box_cell hb 1
                  have b2 := box_cell hb 2
                  have b3 := box_cell hb 3
                  have b4 := box_cell hb 4
                  have b5 := box_cell hb 5
                  simp at b0 b1 b2 b3 b4 b5
                  clear hb
                  simp only [frameOf, List.take_succ_cons, List.take_zero, Act.put, List.setIfInBounds_toArray, List.set_cons_zero, List.set_cons_succ, Nat.zero_add, Nat.reduceAdd]
                  go_simp
                  exact hK _ _ _ (by simp only [frameOf, List.take_succ_cons, List.take_zero, Act.put, List.setIfInBounds_toArray, List.set_cons_zero, List.set_cons_succ, Nat.zero_add, Nat.reduceAdd]) hG (fun j u _ _ h => h) rfl
                case s4 =>
                  intro xs d W hd hdeps hG hF K hK
                  simp [Region.binds] at hdeps
                  have f2 := hF 2 hdeps.1
                  have f3 : xs 3 = _ := hF 3 hdeps.2.1
                  have HGV := Lib.hid (given_num HM.out.1 HM.out.2 (xs 2) W _ (fun b hb => hb) f2)
                  have HG2 := Lib.hid (And.intro hG hK)
                  clear hG hK hF f2
                  simp only [frameOf, List.take_succ_cons, List.take_zero, Act.put, List.setIfInBounds_toArray, List.set_cons_zero, List.set_cons_succ, Nat.zero_add, Nat.reduceAdd]
                  simp only [f3]
                  go_simp
                  refine HGV.out.mono ?_
                  rintro e w9 ⟨rfl, hb9⟩
                  obtain ⟨hG, hK⟩ := HG2.out
                  exact hK _ _ _ (by simp only [frameOf, List.take_succ_cons, List.take_zero, Act.put, List.setIfInBounds_toArray, List.set_cons_zero, List.set_cons_succ, Nat.zero_add, Nat.reduceAdd, f3]) (hG.trans (hb9.mono hG.size)) (fun j u _ _ h => h.keep hb9) rfl
                case e =>
                intro xs W hG hF
                have f4 : xs 4 = _ := hF 4 (by omega)
                have HE := Lib.hid (HRF.out.1.trans (hG.mono HRF.out.1.size))
                clear hG hF
                simp only [frameOf, List.take_succ_cons, List.take_zero, List.drop_succ_cons, List.drop_zero, Act.put, List.setIfInBounds_toArray, List.set_cons_zero, List.set_cons_succ, Nat.zero_add, Nat.reduceAdd, f4]
                clear f4
                go_wp2_with fail
                go_ret
                exact ⟨rfl, HE.out⟩
              | false =>
                have HM := Lib.hid (show (-1048578 ≤ (-1 - (cc : Int)) ∧ (-1 - (cc : Int)) ≤ 1048578) ∧ ∀ j, RBs u jx j → j = .num (2 * (-1 - (cc : Int))) from ⟨by omega, fun j hj => by have := HANS.out j hj; rwa [if_neg (by simp)] at this⟩)
                clear HANS
                go_wp2_with fail
                generalize hW7 : w6.alloc _ = W7
                have hbf : Below w6.heap.size w6 W7 := by rw [← hW7]; exact (Below.refl _ _).alloc (Nat.le_refl _) _
                have hgf : W7.heap[w6.heap.size]? = some (.cells #[.int .i64 3, .int .i64 (2 * (cc : Int)), .string noText, .slice none 0 0, .slice none 0 0, .slice none 0 0] 26 (0, 0)) := by rw [← hW7]; exact heap_alloc_new w6 _
                have HR7 := Lib.hid (And.intro (HR6.out.trans (hbf.mono HR6.out.size)) hgf)
                have hsz := HR6.out.size
                clear hW7 hbf hgf HR6
                refine (Num_any (-1 - (cc : Int)) W7 (by omega) (by omega)).mono ?_
                rintro e w8 ⟨rfl, hb8⟩
                have hg8 := (hb8.block _ (box_lt HR7.out.2)).trans HR7.out.2
                have fz := box_frozen hg8
                have r0 : w8.cell? ⟨w6.heap.size, 0, none⟩ = _ := box_cell hg8 0
                have r1 : w8.cell? ⟨w6.heap.size, 1, none⟩ = _ := box_cell hg8 1
                have r2 : w8.cell? ⟨w6.heap.size, 2, none⟩ = _ := box_cell hg8 2
                have r3 : w8.cell? ⟨w6.heap.size, 3, none⟩ = _ := box_cell hg8 3
                have r4 : w8.cell? ⟨w6.heap.size, 4, none⟩ = _ := box_cell hg8 4
                have r5 : w8.cell? ⟨w6.heap.size, 5, none⟩ = _ := box_cell hg8 5
                have H8 := Lib.hid (And.intro (HR7.out.1.trans (hb8.mono HR7.out.1.size)) hg8)
                clear hb8 hg8 HR7
                go_wp2_with fail
                generalize hWf : (((((World.setCell _ _ _).setCell _ _).setCell _ _).setCell _ _).setCell _ _).setCell _ _ = Wf
                have hgf : Wf.heap[w6.heap.size]? = some (.cells #[.int .i64 3, .int .i64 (2 * (-1 - (cc : Int))), .string noText, .slice none 0 0, .slice none 0 0, .slice none 0 0] 26 (0, 0)) := by rw [← hWf]; exact store6 H8.out.2 _ _ _ _ _ _
                have hbf4 : Below W4.heap.size W4 Wf := by
                  rw [← hWf]
                  repeat (refine Below.setCell ?_ hsz _)
                  exact H8.out.1
                have HRF := Lib.hid (HFIN.out Wf hbf4)
                have HBF := Lib.hid (And.intro ((hbf4.block _ (box_lt HBX5.out.2.2)).trans HBX5.out.2.2) (And.intro ((hbf4.block _ (box_lt HBX5.out.2.1)).trans HBX5.out.2.1) hgf))
                clear hWf hgf hbf4 HFIN H8 r0 r1 r2 r3 r4 r5 fz
                refine wp_region_RG 5 (by kernel_rfl) (by kernel_rfl) (Below Wf.heap.size Wf) (fun _ i v W => SrF #[Value.int .i64 5, .int .i64 0, .string noText, .slice E1 u.length e1, .slice E2 0 e2, .slice E3 0 e3] #[Value.int .i64 xk, .int .i64 xh, .string xt, .slice B1 xl.length d1, .slice B2 xks.length d2, .slice B3 xvs.length d3] (RBs u jx) (-1 - (cc : Int)) i v W) (by simp [AllSteps, frameOf, Act.put, upd]) ((Below.refl _ _).drew) ⟨?s0, ?s1, ?s2, ?s3, ?s4, trivial⟩ ?e
                case s0 =>
                  intro xs d W hd hdeps hG hF K hK
                  clear hdeps
                  have hb := (hG.block _ (box_lt HBF.out.1)).trans HBF.out.1
                  have b0 := box_cell hb 0
                  have b1 := box_cell hb 1
                  have b2 := box_cell hb 2
                  have b3 := box_cell hb 3
                  have b4 := box_cell hb 4
                  have b5 := box_cell hb 5
                  simp at b0 b1 b2 b3 b4 b5
                  clear hb
                  simp only [frameOf, List.take_succ_cons, List.take_zero, Act.put, List.setIfInBounds_toArray, List.set_cons_zero, List.set_cons_succ, Nat.zero_add, Nat.reduceAdd]
                  go_simp
                  exact hK _ _ _ (by simp only [frameOf, List.take_succ_cons, List.take_zero, Act.put, List.setIfInBounds_toArray, List.set_cons_zero, List.set_cons_succ, Nat.zero_add, Nat.reduceAdd]) hG (fun j u _ _ h => h) rfl
                case s1 =>
                  intro xs d W hd hdeps hG hF K hK
                  clear hdeps
                  have hb := (hG.block _ (box_lt HBF.out.2.1)).trans HBF.out.2.1
                  have b0 := box_cell hb 0
                  have b1 := box_cell hb 1
                  have b2 := box_cell hb 2
                  have b3 := box_cell hb 3
                  have b4 := box_cell hb 4
                  have b5 := box_cell hb 5
                  simp at b0 b1 b2 b3 b4 b5
                  clear hb
                  simp only [frameOf, List.take_succ_cons, List.take_zero, Act.put, List.setIfInBounds_toArray, List.set_cons_zero, List.set_cons_succ, Nat.zero_add, Nat.reduceAdd]
                  go_simp
                  exact hK _ _ _ (by simp only [frameOf, List.take_succ_cons, List.take_zero, Act.put, List.setIfInBounds_toArray, List.set_cons_zero, List.set_cons_succ, Nat.zero_add, Nat.reduceAdd]) hG (fun j u _ _ h => h) rfl
                case s2 =>
                  intro xs d W hd hdeps hG hF K hK
                  simp [Region.binds] at hdeps
                  have f0 : xs 0 = _ := hF 0 hdeps.1
                  have f1 : xs 1 = _ := hF 1 hdeps.2
                  have HG2 := Lib.hid (And.intro hG hK)
                  have HBS := Lib.hid (BSearch_any u jx (fun b => b < Wf.heap.size) [Value.int .i64 5, .int .i64 0, .string noText, .slice E1 u.length e1, .slice E2 0 e2, .slice E3 0 e3] [Value.int .i64 xk, .int .i64 xh, .string xt, .slice B1 xl.length d1, .slice B2 xks.length d2, .slice B3 xvs.length d3] W HJW3.out HJW.out.2 (fun b hb => Nat.lt_of_lt_of_le hb hG.size) (VRep.keep (fun b hb => hG.block b hb) (fun _ h => h) _ _ HRF.out.2.1) (VRep.keep (fun b hb => hG.block b hb) (fun _ h => h) _ _ HRF.out.2.2))
                  clear hG hK hF
                  simp only [frameOf, List.take_succ_cons, List.take_zero, Act.put, List.setIfInBounds_toArray, List.set_cons_zero, List.set_cons_succ, Nat.zero_add, Nat.reduceAdd]
                  simp only [f0, f1]
                  go_simp
                  refine HBS.out.mono ?_
                  intro e w9 hp
                  obtain ⟨j, hj, G1, g1, G2, g2, G3, g3, he, hr, hb9⟩ := dpost_val hp
                  subst he
                  obtain ⟨hG, hK⟩ := HG2.out
                  exact hK _ _ _ (by simp only [frameOf, List.take_succ_cons, List.take_zero, Act.put, List.setIfInBounds_toArray, List.set_cons_zero, List.set_cons_succ, Nat.zero_add, Nat.reduceAdd, f0, f1]) (hG.trans (hb9.mono hG.size)) (fun j u _ _ h => h.keep hb9) (.inl ⟨j, G1, g1, G2, g2, G3, g3, hj, rfl, VRep.keep (fun _ _ => rfl) (fun b hb => hb.2) _ _ hr⟩)
                case s3 =>
                  intro xs d W hd hdeps hG hF K hK
                  clear hdeps
                  have hb := (hG.block _ (box_lt HBF.out.2.2)).trans HBF.out.2.2
                  have b0 := box_cell hb 0
                  have b1 := box_cell hb 1
                  have b2 := box_cell hb 2
                  have b3 := box_cell hb 3
                  have b4 := box_cell hb 4
                  have b5 := box_cell hb 5
                  simp at b0 b1 b2 b3 b4 b5
                  clear hb
                  simp only [frameOf, List.take_succ_cons, List.take_zero, Act.put, List.setIfInBounds_toArray, List.set_cons_zero, List.set_cons_succ, Nat.zero_add, Nat.reduceAdd]
                  go_simp
                  exact hK _ _ _ (by simp only [frameOf, List.take_succ_cons, List.take_zero, Act.put, List.setIfInBounds_toArray, List.set_cons_zero, List.set_cons_succ, Nat.zero_add, Nat.reduceAdd]) hG (fun j u _ _ h => h) rfl
                case s4 =>
                  intro xs d W hd hdeps hG hF K hK
                  simp [Region.binds] at hdeps
                  have f2 := hF 2 hdeps.1
                  have f3 : xs 3 = _ := hF 3 hdeps.2.1
                  have HGV := Lib.hid (given_num HM.out.1 HM.out.2 (xs 2) W _ (fun b hb => hb) f2)
                  have HG2 := Lib.hid (And.intro hG hK)
                  clear hG hK hF f2
                  simp only [frameOf, List.take_succ_cons, List.take_zero, Act.put, List.setIfInBounds_toArray, List.set_cons_zero, List.set_cons_succ, Nat.zero_add, Nat.reduceAdd]
                  simp only [f3]
                  go_simp
                  refine HGV.out.mono ?_
                  rintro e w9 ⟨rfl, hb9⟩
                  obtain ⟨hG, hK⟩ := HG2.out
                  exact hK _ _ _ (by simp only [frameOf, List.take_succ_cons, List.take_zero, Act.put, List.setIfInBounds_toArray, List.set_cons_zero, List.set_cons_succ, Nat.zero_add, Nat.reduceAdd, f3]) (hG.trans (hb9.mono hG.size)) (fun j u _ _ h => h.keep hb9) rfl
                case e =>
                intro xs W hG hF
                have f4 : xs 4 = _ := hF 4 (by omega)
                have HE := Lib.hid (HRF.out.1.trans (hG.mono HRF.out.1.size))
                clear hG hF
                simp only [frameOf, List.take_succ_cons, List.take_zero, List.drop_succ_cons, List.drop_zero, Act.put, List.setIfInBounds_toArray, List.set_cons_zero, List.set_cons_succ, Nat.zero_add, Nat.reduceAdd, f4]
                clear f4
                go_wp2_with fail
                go_ret
                exact ⟨rfl, HE.out⟩
        · have h5' : (vk != 5) = true := by simp [h5]
          clear hgood h5
          go_wp2_with fail
          go_ret
          exact ⟨rfl, HB3.out⟩
end Go.Proofs.YtfhppajnnbbcjaaGreatDoor
end
