/- Walks: spec.Fit, whole; the laws' own size tests.
   Walks: the laws' own size tests; array; fits.
   Walks: the laws' fits.
   Walks: impl.fromGo, the plain kinds.
   Walks: impl.listFromGo.
   A region that draws its order and whose last stores turn cells that its loads read: a load may be taken first while a store that waits for it has not come up.
   The state of impl.mapFromGo's loop, as a relation on worlds. -/
import Derived.Test.YtfhppajnnbbcjaaGreatDoorGx4
import Derived.Test.YtfhppajnnbbcjaaGreatDoorGx3
import Derived.Test.YtfhppajnnbbcjaaGreatDoorGx2
import Derived.OrdersHeld
import Derived.Lib.Hide
import Derived.Deep.RegionLaw
import Derived.Maps.AppendAt

section
namespace Go.Proofs.YtfhppajnnbbcjaaGreatDoor
open Go.RowKit

mutual
theorem value_all : ∀ v : V, VOK v
  | .mk k h t l ks vs => value_of k h t l ks vs (value_alls l) (value_alls vs)
theorem value_alls : ∀ l : List V, ∀ x ∈ l, VOK x
  | [], _, h => absurd h (by simp)
  | a :: l, x, h => (List.mem_cons.1 h).elim (fun e => e ▸ value_all a) (value_alls l x)
end

def FitPost (v : V) (w : World) (e : Ending) (w' : World) : Prop := ∃ b, e = .returned (.bool b) ∧ (b = true → GoodV v 400 2000) ∧ Below w.heap.size w w'

theorem J.Good.mono {a : J} {n m n' m' : Int} (h : a.Good n m) (hn : n ≤ n') (hm : m ≤ m') : a.Good n' m' := ⟨h.wf, h.ok, Int.le_trans h.parts hn, Int.le_trans h.bytes hm⟩
theorem GoodV.mono {v : V} {n m n' m' : Int} (h : GoodV v n m) (hn : n ≤ n') (hm : m ≤ m') : GoodV v n' m' := by
  obtain ⟨j, hj, hg⟩ := h
  exact ⟨j, hj, hg.mono hn hm⟩

set_option maxRecDepth 100000 in
theorem Fit_any (v : V) (D : Nat → Prop) (cs : List Value) (w : World) (hv : VRep w D v cs) (hD : ∀ b, D b → All w b) (hU : U8 w) (hs : v.Small) : Calls Tryz.prog 31 #[.agg cs.toArray] w (FitPost v w) := by
  have hsm : Same D w ((w.alloc (.cells cs.toArray 26)).alloc (.cells #[.int .i64 0, .int .i64 0, .bool false] 75)) := Same.of_below (((Below.refl _ _).alloc (Nat.le_refl _) _).alloc (by simp) _) hD
  have HC := Lib.hid (value_all v D cs ((w.alloc (.cells cs.toArray 26)).alloc (.cells #[.int .i64 0, .int .i64 0, .bool false] 75)) (w.heap.size + 1) 0 0 0 false (VRep.keep hsm (fun _ h => h) _ _ hv)
    (fun i hi => ⟨by have := hD i hi; simp; omega, by have := hD i hi; simp at this; omega⟩) (by have := hU.size; omega) (heap_alloc_new1 w _ _) (hU.below (((Below.refl _ _).alloc (Nat.le_refl _) _).alloc (by simp) _) hU.size) hs (by omega) (by omega) (by omega) (by omega) (by omega) (by omega))
  obtain ⟨k, h, t, l, ks, vs⟩ := v
  obtain ⟨L, K, S, rfl, h3⟩ := hv
  obtain ⟨A1, c1, rfl, -⟩ := h3.1
  obtain ⟨A2, c2, rfl, -⟩ := h3.2.1
  obtain ⟨A3, c3, rfl, -⟩ := h3.2.2
  clear h3 hsm hU hs hD
  go_enter Tryz.func31, Tryz.ntmps31
  go_wp2_with fail
  refine HC.out.mono ?_
  clear HC
  rintro e w1 ⟨rfl, p', b', bad', h1, hC, hg⟩
  have c2 := box_cell h1 2
  simp at c2
  have HN := Lib.hid (And.intro hC hg)
  clear hC hg h1
  go_wp2_with fail
  go_ret
  refine ⟨_, rfl, fun hb => ?_, ?_⟩
  · have hbad : bad' = false := by simpa using hb
    obtain ⟨-, q2, q3, q4, q5⟩ := HN.out.1 hbad
    exact q5.mono (by omega) (by omega)
  · exact (((Below.refl _ _).alloc (Nat.le_refl _) _).alloc (by simp) _).grown HN.out.2 (by simp; omega) (fun g hg => by have := Option.some.inj hg; omega)

end Go.Proofs.YtfhppajnnbbcjaaGreatDoor
end

section
namespace Go.Proofs.YtfhppajnnbbcjaaGreatDoor
open Go.RowKit

def AnyBool (w : World) (e : Ending) (w' : World) : Prop := ∃ b, e = .returned (.bool b) ∧ w' = w
def BoolBelow (w : World) (e : Ending) (w' : World) : Prop := ∃ b, e = .returned (.bool b) ∧ Below w.heap.size w w'

theorem zzFits2_any (ks : List ByteArray) (D : Nat → Prop) (K : Value) (w : World) (hK : SlAt D ks.length K (fun b o => StrRow w b o ks)) (hs : ∀ s ∈ ks, s.size ≤ 281474976710656) :
    Calls Tryz.prog 30 #[K] w (AnyBool w) := by
  obtain ⟨A, c, rfl, hc, hm, hr⟩ := hK
  have hbd : ks.length ≤ 9223372036854775807 := by unfold maxLen at hm; omega
  have HR := Lib.hid (And.intro hr hs)
  clear hr hs hm hc
  by_cases h0 : (ks.length : Int) > 2147483647
  · go_enter Tryz.func30, Tryz.ntmps30
    go_wp2_with fail
    go_ret
    exact ⟨_, rfl, rfl⟩
  · go_enter Tryz.func30, Tryz.ntmps30
    go_wp2_with fail
    go_loopw [10] (fun i wr => ∃ k : Nat, k ≤ ks.length ∧ i = .int .i64 k ∧ wr = w) (fun i _ => ks.length - (intOf i).toNat)
    case atStart => exact ⟨0, Nat.zero_le _, rfl, rfl⟩
    case round =>
      obtain ⟨k, hk, rfl, rfl⟩ := hrel
      by_cases ha : k < ks.length
      · obtain ⟨b, o, rfl, hb, hrow⟩ := HR.out.1 (by omega)
        obtain ⟨s, hs⟩ : ∃ s, ks[k]? = some s := ⟨_, List.getElem?_eq_getElem ha⟩
        have hc := hrow k s hs
        have hsz := HR.out.2 s (List.mem_of_getElem? hs)
        clear hrow hs
        by_cases hb : (s.size : Int) > 2147483647
        · go_wp2_with fail
          go_ret
          exact ⟨_, rfl, rfl⟩
        · go_wp2_with fail
          go_roundw
          case rel => exact ⟨k + 1, by omega, by go_num, by trivial⟩
          case measure => simp [intOf]; omega
      · have hk' : k = ks.length := by omega
        subst hk'
        go_wp2_with fail
        go_ret
        exact ⟨_, rfl, rfl⟩

set_option maxRecDepth 100000 in
theorem zzFits1_any (v : V) (D : Nat → Prop) (cs : List Value) (w : World) (hv : VRep w D v cs) (hD : ∀ b, D b → All w b) (hs : v.Small) :
    Calls Tryz.prog 8 #[.agg cs.toArray] w (BoolBelow w) := by
  obtain ⟨k, h, t, l, ks, vs⟩ := v
  obtain ⟨L, K, S, rfl, h1, h2, h3⟩ := hv
  simp only [V.Small] at hs
  have hK : SlAt D ks.length K (fun b o => StrRow (w.alloc (.cells #[.int .i64 k, .int .i64 h, .string t, L, K, S] 26)) b o ks) := h2.mono (fun _ h => h) fun b o hb hr => hr.keep (Same.of_below ((Below.refl _ _).alloc (Nat.le_refl _) _) hD) hb
  have HZ := Lib.hid (zzFits2_any ks D K _ hK hs.2.1)
  have hb1 : Below w.heap.size w (w.alloc (.cells #[.int .i64 k, .int .i64 h, .string t, L, K, S] 26)) := (Below.refl _ _).alloc (Nat.le_refl _) _
  have HB := Lib.hid hb1
  clear hK hb1
  obtain ⟨A1, c1, rfl, -⟩ := h1
  obtain ⟨A2, c2, rfl, -⟩ := h2
  obtain ⟨A3, c3, rfl, -⟩ := h3
  by_cases t1 : (t.size : Int) > 2147483647
  · go_enter Tryz.func8, Tryz.ntmps8
    go_wp2_with fail
    go_ret
    exact ⟨_, rfl, HB.out⟩
  by_cases t2 : (l.length : Int) > 2147483647
  · go_enter Tryz.func8, Tryz.ntmps8
    go_wp2_with fail
    go_ret
    exact ⟨_, rfl, HB.out⟩
  by_cases t3 : (vs.length : Int) > 2147483647
  all_goals
    go_enter Tryz.func8, Tryz.ntmps8
    go_wp2_with fail
    refine HZ.out.mono ?_
    rintro e w1 ⟨b, rfl, rfl⟩
    cases b
    · go_wp2_with fail
      go_ret
      exact ⟨_, rfl, HB.out⟩
    · go_wp2_with fail
      go_ret
      exact ⟨_, rfl, HB.out⟩

end Go.Proofs.YtfhppajnnbbcjaaGreatDoor
end

section
namespace Go.Proofs.YtfhppajnnbbcjaaGreatDoor
open Go.RowKit

def FitsPost (l : List V) (w : World) (e : Ending) (w' : World) : Prop := ∃ b, e = .returned (.bool b) ∧ (b = true → ∀ v ∈ l, GoodV v 400 2000) ∧ Below w.heap.size w w'

theorem fits_any (l : List V) (D : Nat → Prop) (S : Value) (w : World) (hS : SlAt D l.length S (fun b o => VRow w D b l o)) (hD : ∀ b, D b → All w b) (hU : U8 w) (hs : SmallL l) : Calls Tryz.prog 9 #[S] w (FitsPost l w) := by
  obtain ⟨A, c, rfl, hc, hm, hr⟩ := hS
  have hbd : l.length ≤ 9223372036854775807 := by unfold maxLen at hm; omega
  have HX := Lib.hid (And.intro hr (And.intro hU hs))
  clear hr hU hs hm hc
  go_enter Tryz.func9, Tryz.ntmps9
  go_wp2_with fail
  go_loopw [7] (fun i wr => ∃ k : Nat, k ≤ l.length ∧ i = .int .i64 k ∧ Hid (Below w.heap.size w wr ∧ ∀ v ∈ l.take k, GoodV v 400 2000)) (fun i _ => l.length - (intOf i).toNat)
  case atStart => exact ⟨0, Nat.zero_le _, rfl, Below.refl _ _, by simp⟩
  case round =>
    obtain ⟨k, hk, rfl, hR⟩ := hrel
    by_cases ha : k < l.length
    · obtain ⟨b, o, rfl, hb, hrow⟩ := HX.out.1 (by omega)
      obtain ⟨x, hx⟩ : ∃ x, l[k]? = some x := ⟨_, List.getElem?_eq_getElem ha⟩
      have hB := hR.out.1
      obtain ⟨cs, h6, hcell, hxr⟩ := (VRow.keep (Same.of_below hB hD) (fun _ h => h) _ _ _ hb hrow).get hx
      have hxw : VRep (wr.alloc (.cells cs.toArray 26)) D x cs := VRep.keep (Same.of_below ((Below.refl _ _).alloc (Nat.le_refl _) _) (fun b hb => Nat.lt_of_lt_of_le (hD b hb) hB.size)) (fun _ h => h) _ _ hxr
      have HF := Lib.hid (Fit_any x D cs (wr.alloc (.cells cs.toArray 26)) hxw (fun b hb => by have := hD b hb; have := hB.size; simp; omega) ((HX.out.2.1.below hB HX.out.2.1.size).below ((Below.refl _ _).alloc (Nat.le_refl _) _) (by have := HX.out.2.1.size; have := hB.size; omega)) (SmallL_iff.1 HX.out.2.2 x (List.mem_of_getElem? hx)))
      obtain ⟨xk, xh, xt, xl, xks, xvs⟩ := x
      obtain ⟨XL, XK, XS, rfl, hx3⟩ := hxr
      have p0 : wr.cell? ⟨b, o + k * 6, none⟩ = _ := hcell 0 _ rfl
      have p1 := hcell 1 _ rfl
      have p2 := hcell 2 _ rfl
      have p3 := hcell 3 _ rfl
      have p4 := hcell 4 _ rfl
      have p5 := hcell 5 _ rfl
      obtain ⟨Y1, d1, rfl, -⟩ := hx3.1
      obtain ⟨Y2, d2, rfl, -⟩ := hx3.2.1
      obtain ⟨Y3, d3, rfl, -⟩ := hx3.2.2
      have HG := Lib.hid (And.intro hR.out (And.intro hx ha))
      clear hcell hx3 hx hrow hR hxw hB h6
      go_wp2_with fail
      refine HF.out.mono ?_
      clear HF
      rintro e w1 ⟨ok, rfl, hok, hb1⟩
      have hbw : Below w.heap.size w w1 := (HG.out.1.1.alloc HG.out.1.1.size _).trans (hb1.mono (by have := HG.out.1.1.size; simp; omega))
      have HN := Lib.hid (And.intro hok hbw)
      clear hok hb1 hbw
      cases ok
      · go_wp2_with fail
        go_ret
        exact ⟨_, rfl, (fun h => nomatch h), HN.out.2⟩
      · have HN' := Lib.hid (show Below w.heap.size w w1 ∧ ∀ v ∈ l.take (k + 1), GoodV v 400 2000 from ⟨HN.out.2, fun v hv => by
          rw [take_snocG HG.out.2.1] at hv
          rcases List.mem_append.1 hv with h | h
          · exact HG.out.1.2 v h
          · simp at h; subst h; exact HN.out.1 rfl⟩)
        clear HN
        go_wp2_with fail
        go_roundw
        case rel => exact ⟨k + 1, by have := HG.out.2.2; omega, by go_num, HN'⟩
        case measure => have := HG.out.2.2; simp [intOf]; omega
    · have hk' : k = l.length := by omega
      subst hk'
      go_wp2_with fail
      go_ret
      refine ⟨_, rfl, fun _ => ?_, hR.out.1⟩
      have := hR.out.2
      rwa [List.take_length] at this

end Go.Proofs.YtfhppajnnbbcjaaGreatDoor
end

section
namespace Go.Proofs.YtfhppajnnbbcjaaGreatDoor
open Go.RowKit

def FromGoPost (j : J) (w : World) (e : Ending) (w' : World) : Prop :=
  ∃ cs, e = .returned (.tuple #[.agg cs.toArray, .bool true]) ∧ SRep w' (Fresh w w') j cs ∧ Below w.heap.size w w'

def FromGoOK (j : J) : Prop := ∀ (D : Nat → Prop) (v : Value) (w : World), j.WF → (∀ b, D b → All w b) → ARep w D j v → Calls Tryz.prog 87 #[v] w (FromGoPost j w)

theorem emp (D : Nat → Prop) (R : Nat → Nat → Prop) : SlAt D 0 (.slice none 0 0) R := ⟨_, _, rfl, Nat.le_refl _, by unfold maxLen; omega, fun h => absurd h (by omega)⟩

theorem fromGo_null : FromGoOK .null := by
  intro D v w wj hD hv
  rw [show v = _ from hv]
  go_enter Tryz.func87, Tryz.ntmps87
  go_wp2_with fail
  refine bodyPost_ret (v := .tuple #[.agg #[.int .i64 0, .int .i64 0, .string noText, .slice none 0 0, .slice none 0 0, .slice none 0 0], .bool true]) (by simp [results, Tryz.results87, go_sem]; rfl) rfl ?_
  exact ⟨_, rfl, ⟨_, _, _, rfl, emp _ _, emp _ _, emp _ _⟩, (Below.refl _ _).alloc (Nat.le_refl _) _⟩

set_option maxRecDepth 100000 in
theorem fromGo_bool (b : Bool) : FromGoOK (.bool b) := by
  intro D v w wj hD hv
  rw [show v = _ from hv]
  cases b
  all_goals
    go_enter Tryz.func87, Tryz.ntmps87
    go_wp2_with fail
  · refine bodyPost_ret (v := .tuple #[.agg #[.int .i64 1, .int .i64 0, .string noText, .slice none 0 0, .slice none 0 0, .slice none 0 0], .bool true]) (by simp [results, Tryz.results87, go_sem]; rfl) rfl ?_
    exact ⟨_, rfl, ⟨_, _, _, rfl, emp _ _, emp _ _, emp _ _⟩, (Below.refl _ _).alloc (Nat.le_refl _) _⟩
  · refine bodyPost_ret (v := .tuple #[.agg #[.int .i64 2, .int .i64 0, .string noText, .slice none 0 0, .slice none 0 0, .slice none 0 0], .bool true]) (by simp [results, Tryz.results87, go_sem]; rfl) rfl ?_
    exact ⟨_, rfl, ⟨_, _, _, rfl, emp _ _, emp _ _, emp _ _⟩, (Below.refl _ _).alloc (Nat.le_refl _) _⟩

set_option maxRecDepth 100000 in
theorem fromGo_str (s : ByteArray) : FromGoOK (.str s) := by
  intro D v w wj hD hv
  rw [show v = _ from hv]
  go_enter Tryz.func87, Tryz.ntmps87
  go_wp2_with fail
  refine bodyPost_ret (v := .tuple #[.agg #[.int .i64 4, .int .i64 0, .string s, .slice none 0 0, .slice none 0 0, .slice none 0 0], .bool true]) (by simp [results, Tryz.results87, go_sem]) rfl ?_
  exact ⟨_, rfl, ⟨_, _, _, rfl, emp _ _, emp _ _, emp _ _⟩, (Below.refl _ _).alloc (Nat.le_refl _) _⟩

set_option maxRecDepth 100000 in
theorem fromGo_int (n : Int) (w : World) (lo : -9007199254740992 ≤ n) (hi : n ≤ 9007199254740992) : Calls Tryz.prog 87 #[.iface 3 (.int .i64 n)] w (FromGoPost (.num (2 * n)) w) := by
  go_enter Tryz.func87, Tryz.ntmps87
  go_wp2_with fail
  refine bodyPost_ret (v := .tuple #[.agg #[.int .i64 3, .int .i64 (2 * n), .string noText, .slice none 0 0, .slice none 0 0, .slice none 0 0], .bool true]) (by simp [results, Tryz.results87, go_sem]; exact ⟨rfl, by omega⟩) rfl ?_
  exact ⟨_, rfl, ⟨_, _, _, rfl, emp _ _, emp _ _, emp _ _⟩, (Below.refl _ _).alloc (Nat.le_refl _) _⟩

/-- what the model's Trunc does, of a datum -/
def truncOf (way : Ieee.Toward) (x : Nat) : Ieee.Datum → Sem Value
  | .nan s t => if FloatKind.f64.format.quiet t = t then pure (.float .f64 x) else do
      let kept ← choose (.extern "math.Floor,Ceil,Trunc,RoundToEven.signallingNaN kept" 2)
      pure (.float .f64 (if kept == 1 then x else FloatKind.f64.encode (.nan s (FloatKind.f64.format.quiet t))))
  | d => pure (.float .f64 (FloatKind.f64.encode (d.integral way)))

theorem toIntegral_eq (name : String) (way : Ieee.Toward) (x : Nat) : Extern.MathFloor.toIntegral name way #[.float .f64 x] = truncOf way x (FloatKind.f64.decode x) := rfl

/-- math.Trunc at a double that is an integer -/
theorem trunc_whole (n : Int) (h0 : n ≠ 0) (h : n.natAbs < 2 ^ 53) (w : World) : Calls Tryz.prog 176 #[.float .f64 (fl n 0)] w fun e w' => e = .returned (.float .f64 (fl n 0)) ∧ w = w' := by
  have hx : ∀ W, (callFunc 209 #[.float .f64 (fl n 0)]).run Tryz.prog W = .ok (.value (.float .f64 (fl n 0))) W := fun W => by
    rw [run_callFunc_extern Tryz.func209 (by kernel_rfl) (by kernel_rfl) (by kernel_rfl) (e := Extern.MathFloor.toIntegral "math.archTrunc" .zero) (by kernel_rfl)]
    rw [toIntegral_eq]
    have hr : FloatKind.f64.decode (fl n 0) = .number (n < 0) (sig n.natAbs) (0 + n.natAbs.log2 - 52) := fl_read h0 h (by omega) (by omega)
    have hw := fl_whole h0 h .zero
    rw [show Ieee.double.read (fl n 0) = _ from hr] at hw
    rw [hr]
    show ((pure (Value.float .f64 (FloatKind.f64.encode (Ieee.Datum.integral .zero _))) : Sem Value).run Tryz.prog W).andThen _ = _
    rw [hw]
    rfl
  go_enter Tryz.func176, Tryz.ntmps176
  go_wp2_with fail
  go_ret
  exact ⟨rfl, rfl⟩

set_option exponentiation.threshold 4000 in
theorem fl_orders {n : Int} (h : n.natAbs < 2 ^ 53) : (Ieee.double.order (fl n 0) 14109777632551763968 = some .gt) ∧ (Ieee.double.order (fl n 0) 4886405595696988160 = some .lt) := by
  have c1 : Ieee.double.read 14109777632551763968 = .number true (2 ^ 52) 10 := by decide
  have c2 : Ieee.double.read 4886405595696988160 = .number false (2 ^ 52) 10 := by decide
  obtain ⟨s, K, p, hr, hp, hv⟩ := fl_data (n := n) (by omega) (e := 0) (by omega) (by omega)
  unfold Ieee.Format.order
  rw [hr, c1, c2, order_at (-1074) hp (by omega), order_at (-1074) hp (by omega), show p - -1074 = p + 1074 by omega, hv]
  have e0 : ((0 : Int) + 1074).toNat = 1074 := rfl
  have e1 : Ieee.signed true (2 ^ 52) ((10 : Int) - -1074).toNat = -4611686018427387904 * 2 ^ 1074 := by
    unfold Ieee.signed
    rw [Nat.shiftLeft_eq, show ((10 : Int) - -1074).toNat = 10 + 1074 from rfl, Nat.pow_add, ← Nat.mul_assoc]
    simp only [if_true]
    rw [Int.natCast_mul, ← Int.neg_mul]
    rfl
  have e2 : Ieee.signed false (2 ^ 52) ((10 : Int) - -1074).toNat = 4611686018427387904 * 2 ^ 1074 := by
    unfold Ieee.signed
    rw [Nat.shiftLeft_eq, show ((10 : Int) - -1074).toNat = 10 + 1074 from rfl, Nat.pow_add, ← Nat.mul_assoc]
    simp only [Bool.false_eq_true, if_false]
    rw [Int.natCast_mul]
    rfl
  rw [e0, e1, e2, compare_scale, compare_scale]
  exact ⟨congrArg some (Int.compare_eq_gt.2 (by omega)), congrArg some (Int.compare_eq_lt.2 (by omega))⟩

set_option maxRecDepth 100000 in
/-- impl.half at a double that is an integer -/
theorem half_any (n : Int) (h0 : n ≠ 0) (h : n.natAbs < 2 ^ 53) (w : World) : Calls Tryz.prog 128 #[.float .f64 (fl n 0)] w fun e w' =>
    e = .returned (.tuple #[.agg #[.int .i64 3, .int .i64 n, .string noText, .slice none 0 0, .slice none 0 0, .slice none 0 0], .bool true]) ∧ Below w.heap.size w w' := by
  have hT := trunc_whole n h0 h
  have HT := Lib.hid hT
  have o1 : (FloatKind.f64.format.order (fl n 0) (fl n 0)) = some .eq := order_self h0 h (by omega) (by omega)
  have o2 : (FloatKind.f64.format.order (fl n 0) 14109777632551763968) = some .gt := (fl_orders h).1
  have o3 : (FloatKind.f64.format.order (fl n 0) 4886405595696988160) = some .lt := (fl_orders h).2
  have b1 : (binOp .neq 87 (.float .f64 (fl n 0)) (.float .f64 (fl n 0))) = pure (.bool false) := by rw [binOp_float_cmp_neq, o1]; rfl
  have hcv : ∀ W, (convert 87 3 (.float .f64 (fl n 0))).run Tryz.prog W = .ok (.int .i64 n) W := fun W => by
    have ht : (FloatKind.f64.decode (fl n 0)).toInt .zero = some n := fl_toInt h0 h .zero
    have e1 : IntKind.i64.min = -9223372036854775808 := rfl
    have e2 : IntKind.i64.max = 9223372036854775807 := rfl
    have hfi : Conv.floatToInt .f64 (fl n 0) .i64 = pure (.int .i64 n) := by
      unfold Conv.floatToInt
      rw [ht]
      simp only []
      rw [if_pos (by rw [e1, e2]; omega)]
    simp [convert, run_underlying Tryz.underlying3, run_underlying Tryz.underlying87, hfi]
  clear hT h0 h
  go_enter Tryz.func128, Tryz.ntmps128
  go_wp2_with (go_at_call 176; refine (HT.out _).mono ?_; rintro e w' ⟨rfl, rfl⟩)
  refine bodyPost_ret (v := .tuple #[.agg #[.int .i64 3, .int .i64 n, .string noText, .slice none 0 0, .slice none 0 0, .slice none 0 0], .bool true]) (by simp [results, Tryz.results128, go_sem]; rfl) rfl ?_
  exact ⟨rfl, (Below.refl _ _).alloc (Nat.le_refl _) _⟩

set_option maxRecDepth 100000 in
theorem fromGo_float (n : Int) (w : World) (h0 : n ≠ 0) (h : n.natAbs < 2 ^ 53) : Calls Tryz.prog 87 #[.iface 87 (.float .f64 (fl n (-1)))] w (FromGoPost (.num n) w) := by
  have hmul : ∀ W, (binOp .mul 87 (.float .f64 4611686018427387904) (.float .f64 (fl n (-1)))).run Tryz.prog W = .ok (.float .f64 (fl n 0)) W := fun W => by
    have := fl_two_mul h0 h
    simp only [binOp, Op.floatArith]
    simp [FloatKind.format, this]
  have HH := Lib.hid (half_any n h0 h)
  clear h0 h
  go_enter Tryz.func87, Tryz.ntmps87
  go_wp2_with fail
  refine (HH.out _).mono ?_
  rintro e w1 ⟨rfl, hb1⟩
  have hbox := box_new hb1 (by simp)
  have hsz := box_lt hbox
  have hbb := Lib.hid (((Below.refl w.heap.size w).alloc (Nat.le_refl _) _).trans (hb1.mono (by simp)))
  have f0 := box_frozen hbox
  have c00 : w1.cell? ⟨w.heap.size, 0, none⟩ = _ := box_cell hbox 0
  have c01 : w1.cell? ⟨w.heap.size, 1, none⟩ = _ := box_cell hbox 1
  have c02 : w1.cell? ⟨w.heap.size, 2, none⟩ = _ := box_cell hbox 2
  have c03 : w1.cell? ⟨w.heap.size, 3, none⟩ = _ := box_cell hbox 3
  have c04 : w1.cell? ⟨w.heap.size, 4, none⟩ = _ := box_cell hbox 4
  have c05 : w1.cell? ⟨w.heap.size, 5, none⟩ = _ := box_cell hbox 5
  clear hbox hb1
  go_wp2_with fail
  refine bodyPost_ret (v := .tuple #[.agg #[.int .i64 3, .int .i64 n, .string noText, .slice none 0 0, .slice none 0 0, .slice none 0 0], .bool true]) (by simp [results, Tryz.results87, go_sem, c00, c01, c02, c03, c04, c05]) rfl ?_
  refine ⟨_, rfl, ⟨_, _, _, rfl, emp _ _, emp _ _, emp _ _⟩, ?_⟩
  repeat (refine Below.setCell ?_ (by simp) _)
  exact hbb.out

theorem fromGo_num (h : Int) : FromGoOK (.num h) := by
  intro D v w wj hD hv
  rw [show v = _ from hv]
  simp only [J.WF] at wj
  unfold numV
  by_cases he : h % 2 = 0
  · rw [if_pos he]
    have := fromGo_int (h / 2) w (by omega) (by omega)
    rwa [show 2 * (h / 2) = h by omega] at this
  · rw [if_neg he]
    exact fromGo_float h w (by omega) (by omega)

end Go.Proofs.YtfhppajnnbbcjaaGreatDoor
end

section
namespace Go.Proofs.YtfhppajnnbbcjaaGreatDoor
open Go.RowKit

abbrev noVal : Array Value := #[.int .i64 0, .int .i64 0, .string ⟨#[]⟩, .slice none 0 0, .slice none 0 0, .slice none 0 0]

/-- the list built up to k -/
def LfRel (l : List J) (w wr : World) (k : Nat) : Prop :=
  Below w.heap.size w wr ∧ wr.heap[w.heap.size]? = some (.cells noVal 26 (0, 0)) ∧ ∃ v, wr.heap[w.heap.size + 1]? = some (.cells #[.int .i64 5, .int .i64 0, .string ⟨#[]⟩, v, .slice none 0 0, .slice none 0 0] 26 (0, 0)) ∧
    VGrow wr (w.heap.size + 2) (fun b => w.heap.size + 2 ≤ b) v (l.take k)

set_option maxRecDepth 100000 in
theorem listFromGo_of (l : List J) (hel : ∀ x ∈ l, FromGoOK x) (D : Nat → Prop) (u : Value) (w : World) (wl : WFL l) (hn : l.length ≤ 1048576) (hD : ∀ b, D b → All w b) (hu : SlAt D l.length u (fun b o => ARow w D b l o)) :
    Calls Tryz.prog 129 #[u] w (FromGoPost (.arr l) w) := by
  obtain ⟨A1, c1, rfl, hc1, hm1, hr1⟩ := hu
  unfold maxLen at hm1
  obtain ⟨i26, hi, hz0, hz1, hz2⟩ := info_parts Tryz.info26
  have HI := Lib.hid hi
  have HZ0 := Lib.hid hz0
  have HZ1 := Lib.hid hz1
  have HZ2 := Lib.hid hz2
  clear hi hz0 hz1 hz2
  go_enter Tryz.func129, Tryz.ntmps129
  go_wp2_with fail
  go_loopw [12] (fun i wr => ∃ k : Nat, k ≤ l.length ∧ i = .int .i64 k ∧ Hid (LfRel l w wr k)) (fun i _ => l.length - (intOf i).toNat)
  case atStart =>
    refine ⟨0, Nat.zero_le _, rfl, ((Below.refl _ _).alloc (Nat.le_refl _) _).alloc (by simp) _, ?_, .slice none 0 0, ?_, VGrow.none_ _ _ _⟩
    · rw [Below.heap_alloc _ _ _ (by simp)]; exact heap_alloc_new w _
    · exact heap_alloc_new1 _ _ _
  case round =>
    obtain ⟨k, hk, rfl, hR⟩ := hrel
    by_cases ha : k < l.length
    · obtain ⟨hb, hres, v, hout, hgr⟩ := hR.out
      clear hR
      obtain ⟨b1, o1, rfl, hlt1, hs1⟩ := hr1 (by omega)
      have hx : l[k]? = some l[k] := List.getElem?_eq_getElem ha
      obtain ⟨y, hy, hay⟩ := (ARow.keep (Same.of_below hb hD) (fun _ h => h) _ _ _ hlt1 hs1).get hx
      have HC := Lib.hid (hel l[k] (List.getElem_mem _) D y wr (WFL_iff.1 wl _ (List.getElem_mem _)) (fun b hb' => Nat.lt_of_lt_of_le (hD b hb') hb.size) hay)
      have HB := Lib.hid hb
      have HG := Lib.hid hgr
      have HR := Lib.hid hres
      have HO := Lib.hid hout
      clear hs1 hr1 hb hay hel hgr hres hout
      go_wp2_with fail
      refine HC.out.mono ?_
      rintro e w1 ⟨cs, rfl, hcs, hb1⟩
      obtain ⟨A2, c2, A3, c3, A4, c4, rfl⟩ := SRep.six hcs
      have hout1 := (hb1.block _ (box_lt HO.out)).trans HO.out
      have hsz1 := box_lt hout1
      have p3 : w1.cell? ⟨w.heap.size + 1, 3, none⟩ = some v := box_cell hout1 3
      have f3 := box_frozen hout1 3
      obtain ⟨xs, hown, hch⟩ := HG.out.below hb1
      rw [List.length_take, Nat.min_eq_left hk] at hown
      have hown3 := (hown.alloc (.cells #[.int .i64 l[k].kind, .int .i64 l[k].half, .string l[k].text, .slice A2 l[k].list.length c2, .slice A3 l[k].keys.length c3, .slice A4 l[k].vals.length c4] 26)).alloc (.cells #[.int .i64 l[k].kind, .int .i64 l[k].half, .string l[k].text, .slice A2 l[k].list.length c2, .slice A3 l[k].keys.length c3, .slice A4 l[k].vals.length c4] 26)
      have HOWN := Lib.hid hown3
      have HCH := Lib.hid hch
      have HCS := Lib.hid hcs
      have HB1 := Lib.hid hb1
      have HX := Lib.hid hx
      clear hown3 hown HC hch hcs hb1 hx
      go_wp2_with (at_builtin; refine wpList_append_own_at _ rfl (.tmp 25) (.tmp 27) 23 rfl (w.heap.size + 2) 26 i26 _ 6 104 Tryz.underlying23 HI.out HZ0.out HZ1.out HZ2.out rfl (by decide) v k xs rfl HOWN.out ⟨w1.heap.size + 1, 0, none⟩ 1 1 [.int .i64 l[k].kind, .int .i64 l[k].half, .string l[k].text, .slice A2 l[k].list.length c2, .slice A3 l[k].keys.length c3, .slice A4 l[k].vals.length c4] rfl rfl ?c1 ?c2 ?c3 ?c4 ?c5 ?_)
      case c1 =>
        intro j u hj
        rw [Addr.add_lit, Nat.zero_add, box_cell (heap_alloc_new1 _ _ _)]
        simpa using hj
      case c2 => intro u hu; simp at hu; rcases hu with rfl | rfl | rfl | rfl | rfl | rfl <;> rfl
      case c3 => unfold maxLen; omega
      case c4 => omega
      case c5 => simp; omega
      intro v' w4 hown4 hg4 _ hat4
      have hlt : ∀ g, v.ownBlock = some g → w.heap.size + 2 ≤ g := fun g hg => (HOWN.out.lt g hg).1
      have hout4 : w4.heap[w.heap.size + 1]? = _ := (hg4.block _ (by simp; omega) (fun e => by have := hlt _ e.symm; omega)).trans ((Below.heap_alloc _ _ _ (by simp; omega)).trans ((Below.heap_alloc _ _ _ (by omega)).trans hout1))
      have HN : Hid (∀ A c, v' = .slice A (k + 1) c → LfRel l w (w4.setCell ⟨w.heap.size + 1, 3, none⟩ (.slice A (k + 1) c)) (k + 1)) := by
        intro A c hv'
        have hs4 := hg4.size
        have hs1 := HB1.out.size
        simp only [World.size_alloc] at hs4
        have hbw : Below w.heap.size w w4 := (((HB.out.trans (HB1.out.mono HB.out.size)).alloc (by omega) _).alloc (by simp; omega) _).grown hg4 (by simp; omega) (fun g hg => by have := hlt g hg; omega)
        refine ⟨hbw.setCell (by simp) _, ?_, v', ?_, ?_⟩
        · rw [heap_setCell_other _ _ _ _ (by simp)]
          exact (hg4.block _ (by simp; omega) (fun e => by have := hlt _ e.symm; omega)).trans ((Below.heap_alloc _ _ _ (by simp; omega)).trans ((Below.heap_alloc _ _ _ (by omega)).trans ((HB1.out.block _ (box_lt HR.out)).trans HR.out)))
        · rw [heap_setCell_same _ _ _ _ _ _ hout4, hv']
          rfl
        · rw [take_snoc' HX.out]
          have hst := VGrow.step (D0 := fun b => w.heap.size + 2 ≤ b) (wB := (w1.alloc (.cells #[.int .i64 l[k].kind, .int .i64 l[k].half, .string l[k].text, .slice A2 l[k].list.length c2, .slice A3 l[k].keys.length c3, .slice A4 l[k].vals.length c4] 26)).alloc (.cells #[.int .i64 l[k].kind, .int .i64 l[k].half, .string l[k].text, .slice A2 l[k].list.length c2, .slice A3 l[k].keys.length c3, .slice A4 l[k].vals.length c4] 26)) (v' := v') (w' := w4) HCH.out
            (VRep.keep (fun _ _ => rfl) (fun b hb => ⟨by have := hb.1; have := box_lt HO.out; omega, hb.2, fun e => by have := (HG.out.own_lt b e.symm).2; have := hb.1; omega⟩) _ _ HCS.out) rfl
            (fun b hb => (Below.heap_alloc _ _ _ (by simp; omega)).trans (Below.heap_alloc _ _ _ hb)) (by simp; omega) (by rw [List.length_take, Nat.min_eq_left hk]; exact hown4) hg4 (by rw [World.size_alloc, World.size_alloc]; exact hat4)
          refine hst.keep (fun b hb hd => heap_setCell_other _ _ _ _ ?_) (by simp [World.setCell])
          show b ≠ w.heap.size + 1
          rcases hd with h | h <;> omega
      obtain ⟨A, c, hv'⟩ : ∃ A c, v' = .slice A (k + 1) c := by
        rcases hown4.2 with ⟨rfl, hn⟩ | ⟨g, cap, cur, hv, -⟩
        · omega
        · exact ⟨_, _, hv⟩
      have HN' := Lib.hid (HN A c hv')
      subst hv'
      have q3 : w4.cell? ⟨w.heap.size + 1, 3, none⟩ = some v := box_cell hout4 3
      have r3 := box_frozen hout4 3
      clear HN hown4 hg4 hat4 hlt hout4 hout1 p3 f3
      go_wp2_with fail
      go_roundw
      case rel => exact ⟨k + 1, by omega, by go_num, HN'⟩
      case measure => simp [intOf]; omega
    · have hk' : k = l.length := by omega
      subst hk'
      obtain ⟨hb, hres, v, hout, hgr⟩ := hR.out
      rw [List.take_length] at hgr
      obtain ⟨A, c, rfl⟩ := hgr.form
      have q0 : wr.cell? ⟨w.heap.size + 1, 0, none⟩ = _ := box_cell hout 0
      have q1 : wr.cell? ⟨w.heap.size + 1, 1, none⟩ = _ := box_cell hout 1
      have q2 : wr.cell? ⟨w.heap.size + 1, 2, none⟩ = _ := box_cell hout 2
      have q3 : wr.cell? ⟨w.heap.size + 1, 3, none⟩ = _ := box_cell hout 3
      have q4 : wr.cell? ⟨w.heap.size + 1, 4, none⟩ = _ := box_cell hout 4
      have q5 : wr.cell? ⟨w.heap.size + 1, 5, none⟩ = _ := box_cell hout 5
      have r0 : wr.cell? ⟨w.heap.size, 0, none⟩ = _ := box_cell hres 0
      have r1 : wr.cell? ⟨w.heap.size, 1, none⟩ = _ := box_cell hres 1
      have r2 : wr.cell? ⟨w.heap.size, 2, none⟩ = _ := box_cell hres 2
      have r3 : wr.cell? ⟨w.heap.size, 3, none⟩ = _ := box_cell hres 3
      have r4 : wr.cell? ⟨w.heap.size, 4, none⟩ = _ := box_cell hres 4
      have r5 : wr.cell? ⟨w.heap.size, 5, none⟩ = _ := box_cell hres 5
      have fz := box_frozen hres
      have HB := Lib.hid hb
      have HG := Lib.hid hgr
      have hsz := box_lt hout
      clear hR hb hgr hres hout hr1 hel
      go_wp2_with fail
      refine bodyPost_ret (v := .tuple #[.agg #[.int .i64 5, .int .i64 0, .string noText, .slice A l.length c, .slice none 0 0, .slice none 0 0], .bool true]) (by simp [results, Tryz.results129, go_sem, r0, r1, r2, r3, r4, r5]; rfl) rfl ?_
      have hbel : Below w.heap.size w ((((((wr.setCell ⟨w.heap.size, 0, none⟩ (.int .i64 5)).setCell ⟨w.heap.size, 1, none⟩ (.int .i64 0)).setCell ⟨w.heap.size, 2, none⟩ (.string ⟨#[]⟩)).setCell ⟨w.heap.size, 3, none⟩ (.slice A l.length c)).setCell ⟨w.heap.size, 4, none⟩ (.slice none 0 0)).setCell ⟨w.heap.size, 5, none⟩ (.slice none 0 0)) := by
        repeat (refine Below.setCell ?_ (by simp) _)
        exact HB.out
      refine ⟨_, rfl, ⟨_, _, _, rfl, ?_, emp _ _, emp _ _⟩, hbel⟩
      rw [toVL_length]
      refine (HG.out.slat (D := fun b => w.heap.size + 2 ≤ b ∧ b < wr.heap.size) (fun b h1 h2 => ⟨h1, h2⟩) (fun b h1 h2 => ⟨h1, h2⟩)).mono (fun b hb' => ⟨by omega, by have := hb'.2; simp [World.setCell]; omega⟩) fun b o hb' hr => VRow.keep (fun k hk => ?_) (fun b hb' => ⟨by omega, by have := hb'.2; simp [World.setCell]; omega⟩) _ _ _ hb' hr
      have : k ≠ w.heap.size := by have := hk.1; omega
      iterate 6 rw [heap_setCell_other _ _ _ _ this]

end Go.Proofs.YtfhppajnnbbcjaaGreatDoor
end

section
namespace Go.Proofs.YtfhppajnnbbcjaaGreatDoor
open Go

section
variable {P : Program} {ops : Array Oper} {Q : Exit → Act → World → Prop} {md : Region.Mode} {S : Bool → World → Prop}

/-- whatever order is picked from here on; behind every operation S holds, of the mark whether number st has come up -/
def wpAnyQ (P : Program) (md : Region.Mode) (ops : Array Oper) (Q : Exit → Act → World → Prop) (S : Bool → World → Prop) (st : Nat) : Nat → Array Bool → Act → World → Prop
  | 0, listed, a, w => Region.ready md ops listed = [] ∧ Q .normal a w
  | fuel + 1, listed, a, w =>
    (Region.ready md ops listed = [] → Q .normal a w) ∧
    ∀ i ∈ Region.ready md ops listed, wpOp P ops Q i (fun a' w' => S ((listed.setIfInBounds i true).getD st true) w' ∧ wpAnyQ P md ops Q S st fuel (listed.setIfInBounds i true) a' w') a w

theorem wpAny_of_late {st : Nat} : ∀ (fuel : Nat) (listed : Array Bool) (a : Act) (w : World), wpAnyQ P md ops Q S st fuel listed a w → wpAny P md ops Q fuel listed a w
  | 0, _, _, _, h => h
  | fuel + 1, _, _, _, h => ⟨h.1, fun i hi => wpOp_mono (fun a' w' h' => wpAny_of_late fuel _ a' w' h'.2) (h.2 i hi)⟩

/-- number j waits for number i -/
def waits (md : Region.Mode) (ops : Array Oper) (j i : Nat) : Bool := match ops[j]? with
  | some o => o.after.any fun e => Region.binds md e && e.on == i
  | none => true

theorem wpAnyQ_first {i st : Nat} {oi : Oper} {v : Value} {S0 : World → Prop} (hi : ops[i]? = some oi) (hsel : ∀ (j : Nat) (o : Oper) cs b, ops[j]? = some o → o.op ≠ .select cs b)
    (hQ : ∀ c a w, Q (.panic c) (a.put oi.dst v) w → Q (.panic c) a w) (hist : i ≠ st) :
    ∀ (fuel : Nat) (listed : Array Bool) (a : Act) (w : World), (waits md ops st i = true ∧ listed.getD st true = false ∧ S0 = S false) ∨ (∀ b w, S b w → S0 w) →
      (∀ j oj, ops[j]? = some oj → j ≠ i → listed.getD j true = false → (∀ e ∈ oj.after, Region.binds md e = true → e.on ≠ i) → oi.apart ops oj = true) →
      i ∈ Region.ready md ops listed → YieldsIf P ops S0 oi v a → S (listed.getD st true) w →
      wpAnyQ P md ops Q S st fuel (listed.setIfInBounds i true) (a.put oi.dst v) w → wpAnyQ P md ops Q S st (fuel + 1) listed a w := by
  have hS0 : ∀ {listed : Array Bool} {w : World}, (waits md ops st i = true ∧ listed.getD st true = false ∧ S0 = S false) ∨ (∀ b w, S b w → S0 w) → S (listed.getD st true) w → S0 w := by
    intro listed w hc hS
    rcases hc with ⟨-, h1, rfl⟩ | h1
    · rwa [h1] at hS
    · exact h1 _ _ hS
  intro fuel
  induction fuel with
  | zero =>
    intro listed a w hc _ hr hy hS H
    refine ⟨fun h => (by rw [h] at hr; cases hr), fun j hj => ?_⟩
    by_cases hji : j = i
    · subst hji; exact hy.wpOp hi (hS0 hc hS) ⟨by rw [getD_set_ne true hist]; exact hS, H⟩
    · have := ready_mono hj hji
      rw [H.1] at this
      cases this
  | succ fuel ih =>
    intro listed a w hc hfree hr hy hS H
    refine ⟨fun h => (by rw [h] at hr; cases hr), fun j hj => ?_⟩
    by_cases hji : j = i
    · subst hji; exact hy.wpOp hi (hS0 hc hS) ⟨by rw [getD_set_ne true hist]; exact hS, H⟩
    · have h1 := H.2 j (ready_mono hj hji)
      obtain ⟨hjun, oj, hoj, hall⟩ := mem_ready.1 hj
      have hnot : ∀ e ∈ oj.after, Region.binds md e = true → e.on ≠ i := fun e he hb heq => by
        have h1 := hall e he hb
        have h0 := (mem_ready.1 hr).1
        rw [heq] at h1
        rcases Nat.lt_or_ge i listed.size with h' | h'
        · simp [h'] at h0 h1; rw [h0] at h1; cases h1
        · simp [Array.getElem?_eq_none h'] at h1
      have h2 := wpOp_putIf hoj (hfree j oj hoj hji hjun hnot) (fun cs b => hsel i oi cs b hi) (fun cs b => hsel j oj cs b hoj) hQ hy h1
      have hfree' : ∀ k ok, ops[k]? = some ok → k ≠ i → (listed.setIfInBounds j true).getD k true = false →
          (∀ e ∈ ok.after, Region.binds md e = true → e.on ≠ i) → oi.apart ops ok = true := fun k ok hk hki hun hno => by
        refine hfree k ok hk hki ?_ hno
        by_cases hjk : j = k
        · subst hjk; exact hjun
        · rw [getD_set_ne true hjk] at hun; exact hun
      have hc' : (waits md ops st i = true ∧ (listed.setIfInBounds j true).getD st true = false ∧ S0 = S false) ∨ (∀ b w, S b w → S0 w) := by
        rcases hc with ⟨hst, hun, e0⟩ | hc
        · refine .inl ⟨hst, ?_, e0⟩
          rw [getD_set_ne true ?_]
          · exact hun
          · intro e
            subst e
            unfold waits at hst
            rw [hoj] at hst
            simp only [Array.any_eq_true', Bool.and_eq_true, beq_iff_eq] at hst
            obtain ⟨e, he, h1, h2⟩ := hst
            exact hnot e (by simpa using he) h1 h2
        · exact .inr hc
      refine wpOp_mono (fun a' w' h3 => ?_) h2
      have hS' : S ((listed.setIfInBounds j true).getD st true) w' := by
        have := h3.2.1
        rwa [Array.setIfInBounds_comm _ _ (Ne.symm hji), getD_set_ne true hist] at this
      refine ⟨hS', ih (listed.setIfInBounds j true) a' w' hc' hfree' (ready_mono hr (Ne.symm hji)) h3.1 hS' ?_⟩
      rw [Array.setIfInBounds_comm _ _ hji]
      exact h3.2.2

/-- take number i first: what it reads holds as long as st, which waits for it, has not come up -/
theorem wpAnyQ_take {i st : Nat} {oi : Oper} {v : Value} {fuel : Nat} {listed : Array Bool} {a : Act} {w : World} (hi : ops[i]? = some oi)
    (hs : Region.noSelect ops = true) (hst : (waits md ops st i && !(i == st) && !(listed.getD st true)) = true) (hf : Region.free md ops listed i = true) (hr : (Region.ready md ops listed).contains i = true)
    (hQ : ∀ c a w, Q (.panic c) (a.put oi.dst v) w → Q (.panic c) a w) (hy : YieldsIf P ops (S false) oi v a) (hS : S false w)
    (h : wpAnyQ P md ops Q S st fuel (listed.setIfInBounds i true) (a.put oi.dst v) w) : wpAnyQ P md ops Q S st (fuel + 1) listed a w := by
  simp only [Bool.and_eq_true, Bool.not_eq_true', beq_eq_false_iff_ne] at hst
  refine wpAnyQ_first hi (Region.noSelect_spec hs) hQ hst.1.2 fuel listed a w (.inl ⟨hst.1.1, hst.2, rfl⟩) (Region.free_spec hi hf) (by simpa using hr) hy ?_ h
  rw [hst.2]; exact hS

/-- .. what it reads holds in every world -/
theorem wpAnyQ_take' {i st : Nat} {oi : Oper} {v : Value} {fuel : Nat} {listed : Array Bool} {a : Act} {w : World} {S0 : World → Prop} (hS0 : ∀ b w, S b w → S0 w) (hi : ops[i]? = some oi)
    (hs : Region.noSelect ops = true) (hst : (!(i == st) && !(listed.getD st true)) = true) (hf : Region.free md ops listed i = true) (hr : (Region.ready md ops listed).contains i = true)
    (hQ : ∀ c a w, Q (.panic c) (a.put oi.dst v) w → Q (.panic c) a w) (hy : YieldsIf P ops S0 oi v a) (hS : S false w)
    (h : wpAnyQ P md ops Q S st fuel (listed.setIfInBounds i true) (a.put oi.dst v) w) : wpAnyQ P md ops Q S st (fuel + 1) listed a w := by
  simp only [Bool.and_eq_true, Bool.not_eq_true', beq_eq_false_iff_ne] at hst
  refine wpAnyQ_first hi (Region.noSelect_spec hs) hQ hst.1 fuel listed a w (.inr hS0) (Region.free_spec hi hf) (by simpa using hr) hy ?_ h
  rw [hst.2]; exact hS

/-- the one that may come up -/
theorem wpAnyQ_all {st : Nat} {rs : List Nat} {fuel : Nat} {listed : Array Bool} {a : Act} {w : World} (hr : Region.ready md ops listed = rs) (hne : rs ≠ [])
    (h : ∀ i ∈ rs, wpOp P ops Q i (fun a' w' => S ((listed.setIfInBounds i true).getD st true) w' ∧ wpAnyQ P md ops Q S st fuel (listed.setIfInBounds i true) a' w') a w) : wpAnyQ P md ops Q S st (fuel + 1) listed a w :=
  ⟨fun h0 => absurd (hr ▸ h0) hne, hr ▸ h⟩

theorem wpAnyQ_done {st : Nat} {listed : Array Bool} {a : Act} {w : World} (hr : Region.ready md ops listed = []) (h : Q .normal a w) :
    ∀ fuel, wpAnyQ P md ops Q S st fuel listed a w
  | 0 => ⟨hr, h⟩
  | _ + 1 => ⟨fun _ => h, by rw [hr]; simp⟩

theorem wp_region_late {id st : Nat} {a : Act} {w : World} (S : Bool → World → Prop) (n : Nat) (L : Array Bool) (hm : P.follows .mixedOrders = true) (hn : ops.size = n) (hL : Array.replicate n false = L)
    (h : wpAnyQ P .any ops Q S st n L a w.drew) : (Code.region id ops true).wp P Q a w := by
  subst hn hL
  exact wp_region_any hm (wpAny_of_late _ _ _ _ h)

/-- one operation without a guard, written out -/
theorem wpOp_plainL {i : Nat} {o : Oper} {K : Act → World → Prop} {a : Act} {w : World} (ho : ops[i]? = some o) (hg : o.guard = none) (h : Oper.wp P o a w K Q) : wpOp P ops Q i K a w := by
  have hw : Region.wanted o (yielded ops a.tmps) = true := by simp [Region.wanted, hg]
  unfold wpOp
  simp only [ho, hw, if_true]
  exact .inl h

/-- what follows behind operation number i, shut -/
abbrev Back (P : Program) (md : Region.Mode) (ops : Array Oper) (Q : Exit → Act → World → Prop) (S : Bool → World → Prop) (st fuel : Nat) (listed : Array Bool) (i : Nat) (K' : Act → World → Prop) : Prop :=
  RowKit.Hid (∀ a' w', S ((listed.setIfInBounds i true).getD st true) w' → wpAnyQ P md ops Q S st fuel (listed.setIfInBounds i true) a' w' → K' a' w')

/-- the only one -/
theorem wpAnyQ_one {st i : Nat} {o : Oper} {fuel : Nat} {listed : Array Bool} {a : Act} {w : World} (hr : Region.ready md ops listed = [i]) (ho : ops[i]? = some o) (hg : o.guard = none)
    (h : ∀ K', Back P md ops Q S st fuel listed i K' → Oper.wp P o a w K' Q) : wpAnyQ P md ops Q S st (fuel + 1) listed a w :=
  wpAnyQ_all hr (by simp) fun j hj => by
    simp at hj
    subst hj
    exact wpOp_plainL ho hg (h _ (Lib.hid fun _ _ h1 h2 => ⟨h1, h2⟩))

/-- one of two -/
theorem wpAnyQ_two {st i k : Nat} {o o' : Oper} {fuel : Nat} {listed : Array Bool} {a : Act} {w : World} (hr : Region.ready md ops listed = [i, k]) (ho : ops[i]? = some o) (hg : o.guard = none) (ho' : ops[k]? = some o') (hg' : o'.guard = none)
    (h : ∀ K', Back P md ops Q S st fuel listed i K' → Oper.wp P o a w K' Q)
    (h' : ∀ K', Back P md ops Q S st fuel listed k K' → Oper.wp P o' a w K' Q) : wpAnyQ P md ops Q S st (fuel + 1) listed a w :=
  wpAnyQ_all hr (by simp) fun j hj => by
    simp at hj
    rcases hj with rfl | rfl
    · exact wpOp_plainL ho hg (h _ (Lib.hid fun _ _ h1 h2 => ⟨h1, h2⟩))
    · exact wpOp_plainL ho' hg' (h' _ (Lib.hid fun _ _ h1 h2 => ⟨h1, h2⟩))

/-- append to an own row, as one operation of a region -/
theorem wp_append_ownL {o : Oper} {a : Act} {w : World} {K : Act → World → Prop} (s x : Operand) (t : TypeId)
    (ho : o.op = .call { callee := .builtin .append, args := #[s, x], argTypes := #[t, t] })
    (base : Nat) (e : TypeId) (i : TypeInfo) (z : Value) (size bytes : Nat) (ht : P.underlying t = some (.slice e)) (hi : P.info? e = some i) (hz : i.zero = some z)
    (hsize : i.size = size) (hby : i.bytes = bytes) (hzs : z.cells.size = size) (hsz : 0 < size)
    (v : Value) (n : Nat) (xs : List Value) (hs : a.eval s = v) (hown : w.ownsRow base e size v n xs)
    (ad : Addr) (m c : Nat) (news : List Value) (hx : a.eval x = .slice (some ad) m c) (hl : news.length = m * size) (hnews : ∀ j u, news[j]? = some u → w.cell? (ad.add j) = some u) (h1 : ∀ u ∈ news, u.oneCell' = true)
    (h63 : n + m ≤ maxLen) (hbytes : (n + m) * bytes ≤ 140737488355328) (hbase : base ≤ w.heap.size)
    (h : ∀ v' w', w'.ownsRow base e size v' (n + m) (xs ++ news) → w.grownBy w' v.ownBlock → (v'.ownBlock = v.ownBlock ∨ v'.ownBlock = some w.heap.size) → K (a.put o.dst v') w') :
    Oper.wp P o a w K Q := by
  obtain ⟨v', w', hr, h2, h3, h4, h5⟩ := run_append_own_at (P := P) w base t o.type e i z size bytes ht hi hz hsize hby hzs hsz v n xs hown ad m c news hl hnews h1 h63 hbytes hbase
  unfold Oper.wp execOp
  simp only [ho, resolve, invoke, builtin, Sem.run_bind, Sem.run_pure, Result.andThen_ok, List.map_toArray, List.map_cons, List.map_nil, hs, hx, hr]
  exact h v' w' h2 h3 h5

end
end Go.Proofs.YtfhppajnnbbcjaaGreatDoor
end

section
namespace Go.Proofs.YtfhppajnnbbcjaaGreatDoor
open Go.RowKit

theorem take_snocM {α : Type} {l : List α} {k : Nat} {x : α} (h : l[k]? = some x) : l.take (k + 1) = l.take k ++ [x] := by
  obtain ⟨hk, rfl⟩ := List.getElem?_eq_some_iff.1 h
  exact List.take_succ_eq_append_getElem hk

abbrev D0of (B : Nat) (u : Value) : Nat → Prop := fun b => B ≤ b ∧ some b ≠ u.ownBlock

/-- the world in the loop: the two boxes, the sorted keys kv, the rows u (keys) and v (values) -/
structure MfSt (w W : World) (ks : List ByteArray) (kv u0 v0 : Value) (ku : Nat) (u v : Value) (l : List J) : Prop where
  below : Below w.heap.size w W
  res : ∃ cs, cs = #[Value.int .i64 0, .int .i64 0, .string ⟨#[]⟩, .slice none 0 0, .slice none 0 0, .slice none 0 0] ∧ W.heap[w.heap.size]? = some (.cells cs 26 (0, 0))
  out : W.heap[w.heap.size + 1]? = some (.cells #[.int .i64 6, .int .i64 0, .string ⟨#[]⟩, .slice none 0 0, u0, v0] 26 (0, 0))
  src : W.ownsRow (w.heap.size + 3) 9 1 kv ks.length (ks.map .string)
  keys : W.ownsRow (w.heap.size + 3) 9 1 u ku ((ks.take ku).map .string)
  vals : VGrow W (w.heap.size + 3) (D0of (w.heap.size + 3) u) v l
  apartU : ∀ g, u.ownBlock = some g → v.ownBlock ≠ some g ∧ kv.ownBlock ≠ some g
  apartV : ∀ g, v.ownBlock = some g → kv.ownBlock ≠ some g

variable {w W W' : World} {ks : List ByteArray} {kv u0 v0 u v : Value} {ku : Nat} {l : List J} {x : J} {cs : List Value}

/-- other blocks are made or written -/
theorem MfSt.turn (h : MfSt w W ks kv u0 v0 ku u v l) (hb : Below (w.heap.size + 3) W W') (hk : ∀ b, w.heap.size + 3 ≤ b → b < W.heap.size → W'.heap[b]? = W.heap[b]?) : MfSt w W' ks kv u0 v0 ku u v l where
  below := h.below.trans (hb.mono (by omega))
  res := by obtain ⟨cs, hcs, hh⟩ := h.res; exact ⟨cs, hcs, (hb.block _ (by omega)).trans hh⟩
  out := (hb.block _ (by omega)).trans h.out
  src := ownsRow_turn h.src fun g hg => hk g (h.src.lt g hg).1 (h.src.lt g hg).2
  keys := ownsRow_turn h.keys fun g hg => hk g (h.keys.lt g hg).1 (h.keys.lt g hg).2
  vals := h.vals.turn (fun g hg => hk g (h.vals.own_lt g hg).1 (h.vals.own_lt g hg).2) (fun b hlt hd _ => hk b hd.1 hlt) (fun _ _ h => h) hb.size
  apartU := h.apartU
  apartV := h.apartV

theorem MfSt.size (h : MfSt w W ks kv u0 v0 ku u v l) : w.heap.size + 2 ≤ W.heap.size := by have := box_lt h.out; omega

theorem MfSt.alloc (h : MfSt w W ks kv u0 v0 ku u v l) (hs : w.heap.size + 3 ≤ W.heap.size) (o : Obj) : MfSt w (W.alloc o) ks kv u0 v0 ku u v l :=
  h.turn ((Below.refl _ _).alloc hs _) fun _ _ hlt => Below.heap_alloc _ _ _ hlt

/-- the element that is to be appended -/
abbrev MfX (w W : World) (u v : Value) (x : J) (cs : List Value) : Prop := SRep W (But (D0of (w.heap.size + 3) u) W v) x cs

theorem MfX.turn (hx : MfX w W u v x cs) (hk : ∀ b, w.heap.size + 3 ≤ b → b < W.heap.size → W'.heap[b]? = W.heap[b]?) (hs : W.heap.size ≤ W'.heap.size) : MfX w W' u v x cs :=
  VRep.keep (fun b hb => hk b hb.1.1 hb.2.1) (fun _ hb => ⟨hb.1, Nat.lt_of_lt_of_le hb.2.1 hs, hb.2.2⟩) _ _ hx

theorem MfX.alloc (hx : MfX w W u v x cs) (o : Obj) : MfX w (W.alloc o) u v x cs := hx.turn (fun _ _ hlt => Below.heap_alloc _ _ _ hlt) (by simp)

/-- behind the append of a key -/
theorem MfSt.key {u' : Value} (h : MfSt w W ks kv u0 v0 ku u v l) (hx : MfX w W u v x cs) (hs : w.heap.size + 3 ≤ W.heap.size) {k : ByteArray} (hk : ks[ku]? = some k)
    (hown : W'.ownsRow (w.heap.size + 3) 9 1 u' (ku + 1) ((ks.take ku).map Value.string ++ [Value.string k])) (hg : W.grownBy W' u.ownBlock) (hat : u'.ownBlock = u.ownBlock ∨ u'.ownBlock = some W.heap.size) :
    MfSt w W' ks kv u0 v0 (ku + 1) u' v l ∧ MfX w W' u' v x cs := by
  have hu : ∀ g, u.ownBlock = some g → w.heap.size + 3 ≤ g := fun g hg => (h.keys.lt g hg).1
  have hlow : ∀ b, b < w.heap.size + 3 → b < W.heap.size → W'.heap[b]? = W.heap[b]? := fun b hb hlt => hg.block b hlt fun e => by have := hu b e.symm; omega
  have hD : ∀ b, b < W.heap.size → D0of (w.heap.size + 3) u b → D0of (w.heap.size + 3) u' b := fun b hlt hd => ⟨hd.1, by
    rcases hat with e | e <;> rw [e]
    · exact hd.2
    · simp; omega⟩
  have hsame : ∀ b, b < W.heap.size → D0of (w.heap.size + 3) u b → W'.heap[b]? = W.heap[b]? := fun b hlt hd => hg.block b hlt hd.2
  refine ⟨⟨?_, ?_, ?_, ?_, ?_, ?_, ?_, h.apartV⟩, ?_⟩
  · exact h.below.grown hg (by omega) (fun g hg => by have := hu g hg; omega)
  · obtain ⟨cs, hcs, hh⟩ := h.res
    exact ⟨cs, hcs, (hlow _ (by omega) (by omega)).trans hh⟩
  · exact (hlow _ (by omega) (by omega)).trans h.out
  · exact ownsRow_turn h.src fun g hg' => hg.block g (h.src.lt g hg').2 fun e => (h.apartU g e.symm).2 hg'
  · rw [take_snocM hk, List.map_append]; exact hown
  · exact h.vals.turn (fun g hg' => hg.block g (h.vals.own_lt g hg').2 fun e => (h.apartU g e.symm).1 hg') (fun b hlt hd _ => hsame b hlt hd) hD hg.size
  · intro g hg'
    rcases hat with e | e
    · exact h.apartU g (e ▸ hg')
    · rw [e] at hg'
      simp only [Option.some.injEq] at hg'
      subst hg'
      exact ⟨fun e => by have := h.vals.own_lt _ e; omega, fun e => by have := h.src.lt _ e; omega⟩
  · exact VRep.keep (fun b hb => hsame b hb.2.1 hb.1) (fun b hb => ⟨hD b hb.2.1 hb.1, Nat.lt_of_lt_of_le hb.2.1 hg.size, hb.2.2⟩) _ _ hx

/-- behind the append of a value -/
theorem MfSt.val {v' : Value} {xs : List Value} (h : MfSt w W ks kv u0 v0 ku u v l) (hx : MfX w W u v x cs) (h6 : cs.length = 6) (hs : w.heap.size + 3 ≤ W.heap.size) (hch : VChunks W (But (D0of (w.heap.size + 3) u) W v) l xs)
    (hown : W'.ownsRow (w.heap.size + 3) 26 6 v' (l.length + 1) (xs ++ cs)) (hg : W.grownBy W' v.ownBlock) (hat : v'.ownBlock = v.ownBlock ∨ v'.ownBlock = some W.heap.size) :
    MfSt w W' ks kv u0 v0 ku u v' (l ++ [x]) := by
  have hu : ∀ g, v.ownBlock = some g → w.heap.size + 3 ≤ g := fun g hg => (h.vals.own_lt g hg).1
  have hlow : ∀ b, b < w.heap.size + 3 → b < W.heap.size → W'.heap[b]? = W.heap[b]? := fun b hb hlt => hg.block b hlt fun e => by have := hu b e.symm; omega
  refine ⟨?_, ?_, ?_, ?_, ?_, ?_, ?_, ?_⟩
  · exact h.below.grown hg (by omega) (fun g hg => by have := hu g hg; omega)
  · obtain ⟨cs, hcs, hh⟩ := h.res
    exact ⟨cs, hcs, (hlow _ (by omega) (by omega)).trans hh⟩
  · exact (hlow _ (by omega) (by omega)).trans h.out
  · exact ownsRow_turn h.src fun g hg' => hg.block g (h.src.lt g hg').2 fun e => h.apartV g e.symm hg'
  · exact ownsRow_turn h.keys fun g hg' => hg.block g (h.keys.lt g hg').2 fun e => (h.apartU g hg').1 e.symm
  · exact VGrow.step hch hx h6 (fun _ _ => rfl) (Nat.le_refl _) hown hg hat
  · intro g hg'
    refine ⟨fun e => ?_, (h.apartU g hg').2⟩
    rcases hat with e' | e'
    · exact (h.apartU g hg').1 (e' ▸ e)
    · rw [e'] at e
      simp only [Option.some.injEq] at e
      have := h.keys.lt _ hg'
      omega
  · intro g hg'
    rcases hat with e | e
    · exact h.apartV g (e ▸ hg')
    · rw [e] at hg'
      simp only [Option.some.injEq] at hg'
      subst hg'
      exact fun e => by have := h.src.lt _ e; omega

/-- behind the two stores -/
theorem MfSt.store (h : MfSt w W ks kv u0 v0 ku u v l) : MfSt w ((W.setCell ⟨w.heap.size + 1, 4, none⟩ u).setCell ⟨w.heap.size + 1, 5, none⟩ v) ks kv u v ku u v l := by
  have hne : ∀ b, b ≠ w.heap.size + 1 → ((W.setCell ⟨w.heap.size + 1, 4, none⟩ u).setCell ⟨w.heap.size + 1, 5, none⟩ v).heap[b]? = W.heap[b]? := fun b hb => by
    rw [heap_setCell_other _ _ _ _ hb, heap_setCell_other _ _ _ _ hb]
  refine ⟨?_, ?_, ?_, ?_, ?_, ?_, h.apartU, h.apartV⟩
  · exact (h.below.setCell (by simp) _).setCell (by simp) _
  · obtain ⟨cs, hcs, hh⟩ := h.res
    exact ⟨cs, hcs, (hne _ (by omega)).trans hh⟩
  · rw [heap_setCell_same _ _ _ _ _ _ (heap_setCell_same _ _ _ _ _ _ h.out)]
    rfl
  · exact ownsRow_turn h.src fun g hg => hne g (by have := h.src.lt g hg; omega)
  · exact ownsRow_turn h.keys fun g hg => hne g (by have := h.keys.lt g hg; omega)
  · exact h.vals.turn (fun g hg => hne g (by have := h.vals.own_lt g hg; omega)) (fun b _ hd _ => hne b (by have := hd.1; omega)) (fun _ _ h => h) (by simp [World.setCell])

/-- all that the drawn region keeps: bs are the boxes that the round has made -/
structure MfAll (w W : World) (ks : List ByteArray) (kv u0 v0 : Value) (ku : Nat) (u v : Value) (l : List J) (x : J) (cs : List Value) (bs : List (Nat × Obj)) : Prop where
  st : MfSt w W ks kv u0 v0 ku u v l
  x : MfX w W u v x cs
  size : w.heap.size + 3 ≤ W.heap.size
  box : ∀ p ∈ bs, W.heap[p.1]? = some p.2 ∧ (∀ g, u.ownBlock = some g → g ≠ p.1) ∧ ∀ g, v.ownBlock = some g → g ≠ p.1

variable {bs : List (Nat × Obj)}

theorem MfAll.alloc (h : MfAll w W ks kv u0 v0 ku u v l x cs bs) (o : Obj) : MfAll w (W.alloc o) ks kv u0 v0 ku u v l x cs ((W.heap.size, o) :: bs) where
  st := h.st.alloc h.size o
  x := h.x.alloc o
  size := by have := h.size; simp; omega
  box := fun p hp => by
    rcases List.mem_cons.1 hp with rfl | hp
    · exact ⟨heap_alloc_new W o, fun g hg => by have := h.st.keys.lt g hg; simp; omega, fun g hg => by have := h.st.vals.own_lt g hg; simp; omega⟩
    · obtain ⟨h1, h2⟩ := h.box p hp
      exact ⟨(Below.heap_alloc _ _ _ (box_lt h1)).trans h1, h2⟩

theorem MfAll.key {u' : Value} (h : MfAll w W ks kv u0 v0 ku u v l x cs bs) {k : ByteArray} (hk : ks[ku]? = some k)
    (hown : W'.ownsRow (w.heap.size + 3) 9 1 u' (ku + 1) ((ks.take ku).map Value.string ++ [Value.string k])) (hg : W.grownBy W' u.ownBlock) (hat : u'.ownBlock = u.ownBlock ∨ u'.ownBlock = some W.heap.size) :
    MfAll w W' ks kv u0 v0 (ku + 1) u' v l x cs bs := by
  obtain ⟨h1, h2⟩ := h.st.key h.x h.size hk hown hg hat
  refine ⟨h1, h2, Nat.le_trans h.size hg.size, fun p hp => ?_⟩
  obtain ⟨b1, b2, b3⟩ := h.box p hp
  refine ⟨(hg.block _ (box_lt b1) fun e => b2 _ e.symm rfl).trans b1, fun g hg' => ?_, b3⟩
  rcases hat with e | e
  · exact b2 g (e ▸ hg')
  · rw [e] at hg'
    simp only [Option.some.injEq] at hg'
    have := box_lt b1
    omega

theorem MfAll.val {v' : Value} {xs : List Value} (h : MfAll w W ks kv u0 v0 ku u v l x cs bs) (h6 : cs.length = 6) (hch : VChunks W (But (D0of (w.heap.size + 3) u) W v) l xs)
    (hown : W'.ownsRow (w.heap.size + 3) 26 6 v' (l.length + 1) (xs ++ cs)) (hg : W.grownBy W' v.ownBlock) (hat : v'.ownBlock = v.ownBlock ∨ v'.ownBlock = some W.heap.size) :
    MfSt w W' ks kv u0 v0 ku u v' (l ++ [x]) ∧ ∀ p ∈ bs, W'.heap[p.1]? = some p.2 :=
  ⟨h.st.val h.x h6 h.size hch hown hg hat, fun p hp => (hg.block _ (box_lt (h.box p hp).1) fun e => (h.box p hp).2.2 _ e.symm rfl).trans (h.box p hp).1⟩

/-- what lies in a box -/
theorem MfAll.news {ns : List Value} {t : TypeId} {q : Nat} (h : MfAll w W ks kv u0 v0 ku u v l x cs bs) (hq : (q, Obj.cells ns.toArray t (0, 0)) ∈ bs) : ∀ j y, ns[j]? = some y → W.cell? ((⟨q, 0, none⟩ : Addr).add j) = some y := by
  intro j y hj
  rw [Addr.add_lit, Nat.zero_add, box_cell (h.box _ hq).1]
  simpa using hj

/-- what is handed back -/
theorem MfSt.finish (h : MfSt w W ks kv u v ks.length u v l) (hk : ∀ b, b ≠ w.heap.size → W'.heap[b]? = W.heap[b]?) (hs : W.heap.size ≤ W'.heap.size) :
    SRep W' (Fresh w W') (.obj ks l) [.int .i64 6, .int .i64 0, .string noText, .slice none 0 0, u, v] := by
  refine ⟨_, _, _, rfl, emp _ _, ?_, ?_⟩
  · obtain ⟨A, c, hu, hr, h1, h2⟩ := ownsRow_form h.keys
    refine ⟨A, c, hu, h1, h2, fun hn => ?_⟩
    obtain ⟨g, hA, hg, hlt, hc⟩ := hr hn
    refine ⟨g, 0, hA, ⟨by omega, by omega⟩, fun i s hi => ?_⟩
    rw [World.cell?_of_block (hk g (by omega)), Nat.zero_add]
    exact hc i _ (by simp [hi])
  · rw [toVL_length]
    refine (h.vals.slat (D := fun b => w.heap.size + 3 ≤ b ∧ b < W.heap.size) (fun b h1 h2 => ⟨h1.1, h2⟩) (fun b h1 h2 => ⟨h1, h2⟩)).mono (fun b hb' => ⟨by omega, by omega⟩) fun b o hb' hr => VRow.keep (fun k hk' => hk k ?_) (fun b hb' => ⟨by omega, by omega⟩) _ _ _ hb' hr
    have := hk'.1
    omega

end Go.Proofs.YtfhppajnnbbcjaaGreatDoor
end
