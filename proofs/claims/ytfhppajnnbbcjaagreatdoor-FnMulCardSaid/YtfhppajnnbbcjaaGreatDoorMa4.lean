/- Walks: impl.half, fromGo and result at a double that is an integer or a half, whatever its size. -/
import Derived.Test.YtfhppajnnbbcjaaGreatDoorMa1
namespace Go.Proofs.YtfhppajnnbbcjaaGreatDoor
open Go.RowKit

theorem trunc_gen (y : Nat) (n : Int) (H : WholeW y n) (w : World) : Calls Tryz.prog 176 #[.float .f64 y] w fun e w' => e = .returned (.float .f64 y) ∧ w = w' := by
  have hx : ∀ W, (callFunc 209 #[.float .f64 y]).run Tryz.prog W = .ok (.value (.float .f64 y)) W := fun W => by
    rw [run_callFunc_extern Tryz.func209 (by kernel_rfl) (by kernel_rfl) (by kernel_rfl) (e := Extern.MathFloor.toIntegral "math.archTrunc" .zero) (by kernel_rfl)]
    rw [toIntegral_eq]
    obtain ⟨s, K, p, hr⟩ := H.num
    have hw := H.whole
    have hr' : FloatKind.f64.decode y = .number s K p := hr
    rw [hr] at hw
    rw [hr']
    show ((pure (Value.float .f64 (FloatKind.f64.encode (Ieee.Datum.integral .zero (.number s K p)))) : Sem Value).run Tryz.prog W).andThen _ = _
    rw [show FloatKind.f64.encode (Ieee.Datum.integral .zero (.number s K p)) = y from hw]
    rfl
  clear H
  go_enter Tryz.func176, Tryz.ntmps176
  go_wp2_with fail
  go_ret
  exact ⟨rfl, rfl⟩

set_option maxRecDepth 100000 in
theorem half_gen (y : Nat) (n : Int) (H : WholeW y n) (w : World) : Calls Tryz.prog 128 #[.float .f64 y] w fun e w' =>
    e = .returned (.tuple #[.agg #[.int .i64 3, .int .i64 n, .string noText, .slice none 0 0, .slice none 0 0, .slice none 0 0], .bool true]) ∧ Below w.heap.size w w' := by
  have hT := trunc_gen y n H
  have HT := Lib.hid hT
  have o1 : (FloatKind.f64.format.order y y) = some .eq := H.self
  have o2 : (FloatKind.f64.format.order y 14109777632551763968) = some .gt := H.lo
  have o3 : (FloatKind.f64.format.order y 4886405595696988160) = some .lt := H.hi
  have b1 : (binOp .neq 87 (.float .f64 y) (.float .f64 y)) = pure (.bool false) := by rw [binOp_float_cmp_neq, o1]; rfl
  have hcv : ∀ W, (convert 87 3 (.float .f64 y)).run Tryz.prog W = .ok (.int .i64 n) W := fun W => by
    have ht : (FloatKind.f64.decode y).toInt .zero = some n := H.int
    have hb := H.bd
    have e1 : IntKind.i64.min = -9223372036854775808 := rfl
    have e2 : IntKind.i64.max = 9223372036854775807 := rfl
    have hfi : Conv.floatToInt .f64 y .i64 = pure (.int .i64 n) := by
      unfold Conv.floatToInt
      rw [ht]
      simp only []
      rw [if_pos (by rw [e1, e2]; omega)]
    simp [convert, run_underlying Tryz.underlying3, run_underlying Tryz.underlying87, hfi]
  clear hT H
  go_enter Tryz.func128, Tryz.ntmps128
  go_wp2_with (go_at_call 176; refine (HT.out _).mono ?_; rintro e w' ⟨rfl, rfl⟩)
  refine bodyPost_ret (v := .tuple #[.agg #[.int .i64 3, .int .i64 n, .string noText, .slice none 0 0, .slice none 0 0, .slice none 0 0], .bool true]) (by simp [results, Tryz.results128, go_sem]; rfl) rfl ?_
  exact ⟨rfl, (Below.refl _ _).alloc (Nat.le_refl _) _⟩

set_option maxRecDepth 100000 in
theorem fromGo_gen (x y : Nat) (n : Int) (hm : Ieee.double.mul 4611686018427387904 x = some y) (H : WholeW y n) (w : World) : Calls Tryz.prog 87 #[.iface 87 (.float .f64 x)] w (FromGoPost (.num n) w) := by
  have hmul : ∀ W, (binOp .mul 87 (.float .f64 4611686018427387904) (.float .f64 x)).run Tryz.prog W = .ok (.float .f64 y) W := fun W => by
    simp only [binOp, Op.floatArith]
    simp [FloatKind.format, hm]
  have HH := Lib.hid (half_gen y n H)
  clear hm H
  go_enter Tryz.func87, Tryz.ntmps87
  go_wp2_with fail
  refine (HH.out _).mono ?_
  rintro e w1 ⟨rfl, hb1⟩
  have hbox := box_new hb1 (by simp)
  have hsz := box_lt hbox
  have hbb := Lib.hid (((Below.refl w.heap.size w).alloc (Nat.le_refl _) _).trans (hb1.mono (by simp)))
  have f0 := box_frozen hbox
  have c00 : w1.cell? ⟨w.heap.size, 0, none⟩ = _ := box_cell hbox 0
  have c01 : w1.cell? ⟨w.heap.size, 1, none⟩ = _ := box_cell hbox 1
  have c02 : w1.cell? ⟨w.heap.size, 2, none⟩ = _ := box_cell hbox 2
  have c03 : w1.cell? ⟨w.heap.size, 3, none⟩ = _ := box_cell hbox 3
  have c04 : w1.cell? ⟨w.heap.size, 4, none⟩ = _ := box_cell hbox 4
  have c05 : w1.cell? ⟨w.heap.size, 5, none⟩ = _ := box_cell hbox 5
  clear hbox hb1
  go_wp2_with fail
  refine bodyPost_ret (v := .tuple #[.agg #[.int .i64 3, .int .i64 n, .string noText, .slice none 0 0, .slice none 0 0, .slice none 0 0], .bool true]) (by simp [results, Tryz.results87, go_sem, c00, c01, c02, c03, c04, c05]) rfl ?_
  refine ⟨_, rfl, ⟨_, _, _, rfl, emp _ _, emp _ _, emp _ _⟩, ?_⟩
  repeat (refine Below.setCell ?_ (by simp) _)
  exact hbb.out

set_option maxRecDepth 100000 in
theorem result_float (x y : Nat) (n : Int) (hm : Ieee.double.mul 4611686018427387904 x = some y) (H : WholeW y n) (w : World) : Calls Tryz.prog 43 #[.iface 87 (.float .f64 x)] w (ResOK (.num n) w) := by
  have HC := Lib.hid (fromGo_gen x y n hm H)
  clear hm H
  go_enter Tryz.func43, Tryz.ntmps43
  go_wp2_with fail
  refine (HC.out _).mono ?_
  clear HC
  rintro e w1 ⟨cs, rfl, hcs, hb1⟩
  obtain ⟨A1, c1, A2, c2, A3, c3, rfl⟩ := SRep.six hcs
  have hbox := box_new hb1 (by simp)
  have r0 : w1.cell? ⟨w.heap.size, 0, none⟩ = _ := box_cell hbox 0
  have r1 : w1.cell? ⟨w.heap.size, 1, none⟩ = _ := box_cell hbox 1
  have r2 : w1.cell? ⟨w.heap.size, 2, none⟩ = _ := box_cell hbox 2
  have r3 : w1.cell? ⟨w.heap.size, 3, none⟩ = _ := box_cell hbox 3
  have r4 : w1.cell? ⟨w.heap.size, 4, none⟩ = _ := box_cell hbox 4
  have r5 : w1.cell? ⟨w.heap.size, 5, none⟩ = _ := box_cell hbox 5
  have r6 : w1.cell? ⟨w.heap.size, 6, none⟩ = _ := box_cell hbox 6
  have fz := box_frozen hbox
  have hlt := box_lt hbox
  have HCS := Lib.hid (And.intro hcs (And.intro hb1 hbox))
  clear hcs hb1 hbox
  go_wp2_with fail
  refine bodyPost_ret (v := .agg #[.int .i64 (J.num n).kind, .int .i64 (J.num n).half, .string (J.num n).text, .slice A1 (J.num n).list.length c1, .slice A2 (J.num n).keys.length c2, .slice A3 (J.num n).vals.length c3, .int .i64 0]) (by simp [results, Tryz.results43, go_sem, r0, r1, r2, r3, r4, r5, r6, hlt]) rfl ?_
  refine ⟨_, _, _, _, _, _, rfl, ?_, ?_⟩
  · refine VRep.keep (D := Fresh (w.alloc (.cells #[.int .i64 0, .int .i64 0, .string ⟨#[]⟩, .slice none 0 0, .slice none 0 0, .slice none 0 0, .int .i64 0] 34)) w1) (fun b hb => ?_) (fun b hb => ⟨by have := hb.1; simp at this; omega, by have := hb.2; simp [World.setCell]; omega⟩) _ _ HCS.out.1
    have hne : b ≠ w.heap.size := by have := hb.1; simp at this; omega
    rw [Below.heap_alloc _ _ _ (by simp [World.setCell]; exact hb.2)]
    iterate 7 rw [heap_setCell_other _ _ _ _ hne]
  · refine Below.alloc ?_ (by simp [World.setCell]; omega) _
    repeat (refine Below.setCell ?_ (by simp) _)
    exact ((Below.refl _ _).alloc (Nat.le_refl _) _).trans (HCS.out.2.1.mono (by simp))
end Go.Proofs.YtfhppajnnbbcjaaGreatDoor
