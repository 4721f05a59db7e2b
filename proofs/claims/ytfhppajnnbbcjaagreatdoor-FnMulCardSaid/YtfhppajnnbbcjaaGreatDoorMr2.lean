/- Walks: gojq.repeatString, at a small count; funcOpMul's last closure at a string and an integer. -/
import Derived.Test.YtfhppajnnbbcjaaGreatDoorMr1
import Derived.Test.YtfhppajnnbbcjaaGreatDoorMb2
import Derived.Test.YtfhppajnnbbcjaaGreatDoorMa1
namespace Go.Proofs.YtfhppajnnbbcjaaGreatDoor
open Go.RowKit

/-- c copies of a text -/
def copies (s : ByteArray) (c : Nat) : ByteArray := ⟨(Lib.repeatL s.data.toList c).toArray⟩

theorem repeat_any (s : ByteArray) (c : Nat) (w : World) (hc : c ≤ 10000) (hlen : s.size * c ≤ 10000) : Calls Tryz.prog 198 #[.string s, .int .i64 c] w fun e w' => e = .returned (.string (copies s c)) ∧ Below w.heap.size w w' :=
  Any.strings_Repeat Tryz.lays198 Tryz.Builder_Extra_198 s c w (by omega) (by omega)

set_option maxRecDepth 100000 in
set_option maxHeartbeats 1000000 in
theorem repeatString_any (s : ByteArray) (c : Nat) (w : World) (h1 : 1 ≤ c) (hc : c ≤ 10000) (hlen : s.size * c ≤ 10000) :
    Calls Tryz.prog 148 #[.string s, .float .f64 (fl (c : Int) 0)] w (RetP fun v w' => v = .iface 9 (.string (copies s c)) ∧ Below w.heap.size w w') := by
  have hw := whole_fl (n := (c : Int)) (by omega) (S53_small (by omega)) (by omega)
  have ho : Ieee.double.order (fl (c : Int) 0) 0 = some .gt := by
    have := order_wholes (x := (c : Int)) (y := 0) (by omega) (by omega)
    rw [fl_zero] at this
    rw [this, show compare (c : Int) 0 = .gt from Int.compare_eq_gt.2 (by omega)]
  have hm : Ieee.double.order (fl (c : Int) 0) 4746794007244308480 = some .lt := by
    have := order_wholes (x := (c : Int)) (y := 2147483647) (by omega) (by omega)
    rw [show fl 2147483647 0 = 4746794007244308480 by decide] at this
    rw [this, show compare (c : Int) 2147483647 = .lt from Int.compare_eq_lt.2 (by omega)]
  have HLT := Lib.hid (lt_any (fl (c : Int) 0) 0 .gt w ho hw.self)
  have hmin : ∀ ts t W, (Builtin.min_ ts t #[.float .f64 (fl (c : Int) 0), .float .f64 4746794007244308480]).run Tryz.prog W = .ok (.float .f64 (fl (c : Int) 0)) W := fun ts t W => by
    simp [Builtin.min_, Builtin.min2, FloatKind.format, hm]
  have hcv : ∀ W, (convert 87 3 (.float .f64 (fl (c : Int) 0))).run Tryz.prog W = .ok (.int .i64 (c : Int)) W := fun W => by
    have ht : (FloatKind.f64.decode (fl (c : Int) 0)).toInt .zero = some (c : Int) := hw.int
    have e1 : IntKind.i64.min = -9223372036854775808 := rfl
    have e2 : IntKind.i64.max = 9223372036854775807 := rfl
    have hfi : Conv.floatToInt .f64 (fl (c : Int) 0) .i64 = pure (.int .i64 (c : Int)) := by
      unfold Conv.floatToInt
      rw [ht]
      simp only []
      rw [if_pos (by rw [e1, e2]; omega)]
    simp [convert, run_underlying Tryz.underlying3, run_underlying Tryz.underlying87, hfi]
  have HR := Lib.hid (repeat_any s c w hc hlen)
  have hsz : s.size ≤ 10000 := Nat.le_trans (Nat.le_mul_of_pos_right _ (by omega)) hlen
  obtain ⟨p, hp⟩ : ∃ p : Int, (s.size : Int) * (c : Int) = p := ⟨_, rfl⟩
  have hpb : 0 ≤ p ∧ p ≤ 10000 := by
    have e : (s.size : Int) * (c : Int) = ((s.size * c : Nat) : Int) := by rw [Int.natCast_mul]
    rw [← hp, e]
    omega
  have hp1 : IntKind.u64.wrap p = p := IntWalk.u64_in _ (by omega)
  have hp2 : ¬ (2147483647 ≤ p) := by omega
  clear hw ho hm hlen
  go_enter Tryz.func148, Tryz.ntmps148
  go_wp2_with (first
    | (go_at_call 183; refine HLT.out.mono ?_; rintro e w' ⟨rfl, rfl⟩; clear HLT)
    | (go_at_call 198; refine HR.out.mono ?_; rintro e w' ⟨rfl, hb⟩; clear HR))
  go_ret
  exact ⟨_, rfl, rfl, hb⟩

set_option maxRecDepth 100000 in
theorem mulRepeat_any (s : ByteArray) (c : Nat) (w : World) (h1 : 1 ≤ c) (hc : c ≤ 10000) (hlen : s.size * c ≤ 10000) :
    Calls Tryz.prog 146 #[.iface 9 (.string s), .iface 3 (.int .i64 (c : Int))] w (RetP fun v w' => v = .iface 9 (.string (copies s c)) ∧ Below w.heap.size w w') := by
  have HF := Lib.hid (toFloat_int (c : Int) w)
  have HR := Lib.hid (repeatString_any s c w h1 hc hlen)
  clear h1 hc hlen
  go_enter Tryz.func146, Tryz.ntmps146
  go_wp2_with (first
    | (go_at_call 147; refine HF.out.mono ?_; rintro e w' ⟨rfl, rfl⟩; clear HF)
    | (go_at_call 148; refine HR.out.mono ?_; rintro e w' ⟨v, rfl, rfl, hb⟩; clear HR))
  go_ret
  exact ⟨_, rfl, rfl, hb⟩
end Go.Proofs.YtfhppajnnbbcjaaGreatDoor
