/- Walks: funcOpMul's closures: integers, doubles; errors. -/
import Derived.Test.YtfhppajnnbbcjaaGreatDoorMb1
import Derived.Test.YtfhppajnnbbcjaaGreatDoorGy6
namespace Go.Proofs.YtfhppajnnbbcjaaGreatDoor
open Go.RowKit

@[go_sem] theorem te_147 (x : TypeId) (v : Value) (w : World) : (Instr.typeAssert (.iface 147 v) x 95 true).run Tryz.prog w = .ok (.tuple #[.iface 147 v, .bool true]) w := run_typeAssert_hasB Tryz.underlying95 (by kernel_rfl) v x w

theorem negate_any (l : Int) (hl : -9007199254740992 ≤ l ∧ l ≤ 9007199254740992) (w : World) : Calls Tryz.prog 138 #[.int .i64 l] w fun e w' => e = .returned (.iface 3 (.int .i64 (-l))) ∧ w' = w := by
  go_enter Tryz.func138, Tryz.ntmps138
  go_wp2_with fail
  go_ret
  exact ⟨rfl, rfl⟩

set_option maxRecDepth 100000 in
theorem mulInts_any (l r : Int) (hl : -9007199254740992 ≤ l ∧ l ≤ 9007199254740992) (hr : -9007199254740992 ≤ r ∧ r ≤ 9007199254740992) (hp : -9007199254740992 ≤ l * r ∧ l * r ≤ 9007199254740992) (w : World) :
    Calls Tryz.prog 137 #[.int .i64 l, .int .i64 r] w (RetP fun v w' => v = .iface 3 (.int .i64 (l * r)) ∧ w' = w) := by
  have HN := Lib.hid (negate_any l hl w)
  by_cases h1 : r = -1
  · subst h1
    go_enter Tryz.func137, Tryz.ntmps137
    go_wp2_with (go_at_call 138; refine HN.out.mono ?_; rintro e w' ⟨rfl, rfl⟩)
    go_ret
    exact ⟨_, rfl, by rw [show l * -1 = -l by omega] <;> rfl, rfl⟩
  · have e1 : (r == -1) = false := by simp [h1]
    have hw : IntKind.i64.wrap (l * r) = l * r := IntWalk.i64_in _ (by omega)
    by_cases h0 : r = 0
    · subst h0
      go_enter Tryz.func137, Tryz.ntmps137
      go_wp2_with fail
      go_ret
      exact ⟨_, rfl, by simp, rfl⟩
    · have hq : (l * r).tdiv r = l := Int.mul_tdiv_cancel _ h0
      have e0 : (r == 0) = false := by simp [h0]
      go_enter Tryz.func137, Tryz.ntmps137
      go_wp2_with fail
      go_ret
      exact ⟨_, rfl, rfl, rfl⟩

theorem mulFloats_any (x y z : Nat) (h : Ieee.double.mul x y = some z) (w : World) : Calls Tryz.prog 141 #[.float .f64 x, .float .f64 y] w (RetP fun v w' => v = .iface 87 (.float .f64 z) ∧ w' = w) := by
  have hmul : ∀ W, (binOp .mul 87 (.float .f64 x) (.float .f64 y)).run Tryz.prog W = .ok (.float .f64 z) W := fun W => by
    simp only [binOp, Op.floatArith]
    simp [FloatKind.format, h]
  clear h
  go_enter Tryz.func141, Tryz.ntmps141
  go_wp2_with fail
  go_ret
  exact ⟨_, rfl, rfl, rfl⟩

/-- an error -/
def ErrP (w : World) (v : Value) (w' : World) : Prop := (∃ q, v = .iface 147 q) ∧ Below w.heap.size w w'

set_option maxRecDepth 100000 in
theorem mulStrs_any (a b : ByteArray) (w : World) : Calls Tryz.prog 143 #[.string a, .string b] w (RetP (ErrP w)) := by
  go_enter Tryz.func143, Tryz.ntmps143
  go_wp2_with fail
  go_ret
  exact ⟨_, rfl, ⟨_, rfl⟩, (Below.refl _ _).alloc (Nat.le_refl _) _⟩

set_option maxRecDepth 100000 in
theorem mulArrs_any (A B : Option Addr) (n m c d : Nat) (w : World) : Calls Tryz.prog 144 #[.slice A n c, .slice B m d] w (RetP (ErrP w)) := by
  go_enter Tryz.func144, Tryz.ntmps144
  go_wp2_with fail
  go_ret
  exact ⟨_, rfl, ⟨_, rfl⟩, (Below.refl _ _).alloc (Nat.le_refl _) _⟩

/-- toFloat at what is no number -/
theorem toFloat_none {v : Value} {k : Nat} (hv : Shp v k) (hk : k ≠ 3) (w : World) : Calls Tryz.prog 147 #[v] w fun e w' => e = .returned (.tuple #[.float .f64 0, .bool false]) ∧ w' = w := by
  cases hv
  all_goals first
    | (exact absurd rfl hk)
    | (go_enter Tryz.func147, Tryz.ntmps147
       go_wp2_with fail
       go_ret2
       exact ⟨rfl, rfl⟩)
theorem toFloat_int (i : Int) (w : World) : Calls Tryz.prog 147 #[.iface 3 (.int .i64 i)] w fun e w' => e = .returned (.tuple #[.float .f64 (fl i 0), .bool true]) ∧ w' = w := by
  have hconv := conv_fl
  go_enter Tryz.func147, Tryz.ntmps147
  go_wp2_with fail
  go_ret2
  exact ⟨rfl, rfl⟩

/-- no string -/
def NoStr (v : Value) : Prop := v = .nilIface ∨ ∃ U u, v = .iface U u ∧ U ≠ 9
theorem Shp.noStr {v : Value} {k : Nat} (h : Shp v k) (hk : k ≠ 4) : NoStr v := by
  cases h
  · exact .inl rfl
  · exact .inr ⟨_, _, rfl, by decide⟩
  · exact .inr ⟨_, _, rfl, by decide⟩
  · exact .inr ⟨_, _, rfl, by decide⟩
  · exact absurd rfl hk
  · exact .inr ⟨_, _, rfl, by decide⟩
  · exact .inr ⟨_, _, rfl, by decide⟩

set_option maxRecDepth 100000 in
set_option maxHeartbeats 4000000 in
/-- the rest: a string, and neither a number nor a string -/
theorem mulOther_l (s : ByteArray) {b : Value} {n : Nat} (hb : Shp b n) (h3 : n ≠ 3) (h4 : n ≠ 4) (w : World) : Calls Tryz.prog 146 #[.iface 9 (.string s), b] w (RetP (ErrP w)) := by
  have HB := Lib.hid (fun W => toFloat_none hb h3 W)
  rcases hb.noStr h4 with rfl | ⟨U, u, rfl, hU⟩
  · clear hb
    go_enter Tryz.func146, Tryz.ntmps146
    go_wp2_with (go_at_call 147; refine (HB.out _).mono ?_; rintro e w' ⟨rfl, rfl⟩)
    go_ret
    exact ⟨_, rfl, ⟨_, rfl⟩, (Below.refl _ _).alloc (Nat.le_refl _) _⟩
  · clear hb
    go_enter Tryz.func146, Tryz.ntmps146
    go_wp2_with (go_at_call 147; refine (HB.out _).mono ?_; rintro e w' ⟨rfl, rfl⟩)
    go_ret
    exact ⟨_, rfl, ⟨_, rfl⟩, (Below.refl _ _).alloc (Nat.le_refl _) _⟩

set_option maxRecDepth 100000 in
set_option maxHeartbeats 4000000 in
theorem mulOther_r (s : ByteArray) {a : Value} {n : Nat} (ha : Shp a n) (h3 : n ≠ 3) (h4 : n ≠ 4) (w : World) : Calls Tryz.prog 146 #[a, .iface 9 (.string s)] w (RetP (ErrP w)) := by
  have HB := Lib.hid (fun W => toFloat_none ha h3 W)
  rcases ha.noStr h4 with rfl | ⟨U, u, rfl, hU⟩
  · clear ha
    go_enter Tryz.func146, Tryz.ntmps146
    go_wp2_with (go_at_call 147; refine (HB.out _).mono ?_; rintro e w' ⟨rfl, rfl⟩)
    go_ret
    exact ⟨_, rfl, ⟨_, rfl⟩, (Below.refl _ _).alloc (Nat.le_refl _) _⟩
  · clear ha
    go_enter Tryz.func146, Tryz.ntmps146
    go_wp2_with (go_at_call 147; refine (HB.out _).mono ?_; rintro e w' ⟨rfl, rfl⟩)
    go_ret
    exact ⟨_, rfl, ⟨_, rfl⟩, (Below.refl _ _).alloc (Nat.le_refl _) _⟩

set_option maxRecDepth 100000 in
set_option maxHeartbeats 4000000 in
theorem mulOther_n {a b : Value} (ha : NoStr a) (hb : NoStr b) (w : World) : Calls Tryz.prog 146 #[a, b] w (RetP (ErrP w)) := by
  rcases ha with rfl | ⟨U, u, rfl, hU⟩ <;> rcases hb with rfl | ⟨T, t, rfl, hT⟩
  all_goals
    go_enter Tryz.func146, Tryz.ntmps146
    go_wp2_with fail
    go_ret
    exact ⟨_, rfl, ⟨_, rfl⟩, (Below.refl _ _).alloc (Nat.le_refl _) _⟩

/-- the rest: no product -/
theorem mulOther_err {a b : Value} {k n : Nat} (ha : Shp a k) (hb : Shp b n) (h : k ≠ 4 ∨ n ≠ 3) (h' : k ≠ 3 ∨ n ≠ 4) (h4 : k ≠ 4 ∨ n ≠ 4) (w : World) : Calls Tryz.prog 146 #[a, b] w (RetP (ErrP w)) := by
  by_cases hk : k = 4
  · subst hk
    cases ha with
    | str s => exact mulOther_l s hb (h.resolve_left fun h => h rfl) (h4.resolve_left fun h => h rfl) w
  · by_cases hn : n = 4
    · subst hn
      cases hb with
      | str s => exact mulOther_r s ha (h'.resolve_right fun h => h rfl) hk w
    · exact mulOther_n (ha.noStr hk) (hb.noStr hn) w
end Go.Proofs.YtfhppajnnbbcjaaGreatDoor
