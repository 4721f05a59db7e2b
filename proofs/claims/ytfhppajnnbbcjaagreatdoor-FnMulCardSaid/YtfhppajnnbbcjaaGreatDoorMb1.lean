/- Walks: gojq.binopTypeSwitch at funcOpMul's callbacks; funcOpMul; its door. -/
import Derived.Test.YtfhppajnnbbcjaaGreatDoorGy9
namespace Go.Proofs.YtfhppajnnbbcjaaGreatDoor
open Go.RowKit

/-- the callback that a pair of values is handed to -/
inductive CbM : Value → Value → FuncId → Value → Value → Prop
  | ints (i j : Int) : CbM (.iface 3 (.int .i64 i)) (.iface 3 (.int .i64 j)) 137 (.int .i64 i) (.int .i64 j)
  | intFl (i : Int) (b : Nat) : CbM (.iface 3 (.int .i64 i)) (.iface 87 (.float .f64 b)) 141 (.float .f64 (fl i 0)) (.float .f64 b)
  | flInt (i : Int) (b : Nat) : CbM (.iface 87 (.float .f64 b)) (.iface 3 (.int .i64 i)) 141 (.float .f64 b) (.float .f64 (fl i 0))
  | strs (a b : ByteArray) : CbM (.iface 9 (.string a)) (.iface 9 (.string b)) 143 (.string a) (.string b)
  | arrs (a b : Value) : CbM (.iface 88 a) (.iface 88 b) 144 a b
  | maps (a b : Value) : CbM (.iface 91 a) (.iface 91 b) 145 a b
  | other {a b : Value} {k n : Nat} (ha : Shp a k) (hb : Shp b n) (h : k ≠ n ∨ k < 3) : CbM a b 146 a b

def RetP (P : Value → World → Prop) (e : Ending) (w' : World) : Prop := ∃ v, e = .returned v ∧ P v w'

abbrev mulArgs (v u : Value) : Array Value := #[v, u, .func (.func 137) #[] #[], .func (.func 141) #[] #[], .func (.func 142) #[] #[], .func (.func 143) #[] #[], .func (.func 144) #[] #[], .func (.func 145) #[] #[], .func (.func 146) #[] #[]]

set_option maxRecDepth 100000 in
set_option maxHeartbeats 4000000 in
theorem sw136_any {v u : Value} {f : FuncId} {a b : Value} (hcb : CbM v u f a b) (P : Value → World → Prop) (w : World) (h : Calls Tryz.prog f #[a, b] w (RetP P)) : Calls Tryz.prog 136 (mulArgs v u) w (RetP P) := by
  have H := Lib.hid h
  have hconv := conv_fl
  clear h
  cases hcb with
  | ints i j =>
    go_enter Tryz.func136, Tryz.ntmps136
    go_wp2_with (go_at_call 137; refine H.out.mono ?_; rintro e w' ⟨n, rfl, hp⟩)
    go_ret
    exact ⟨_, rfl, hp⟩
  | intFl i b =>
    go_enter Tryz.func136, Tryz.ntmps136
    go_wp2_with (go_at_call 141; refine H.out.mono ?_; rintro e w' ⟨n, rfl, hp⟩)
    go_ret
    exact ⟨_, rfl, hp⟩
  | flInt i b =>
    go_enter Tryz.func136, Tryz.ntmps136
    go_wp2_with (go_at_call 141; refine H.out.mono ?_; rintro e w' ⟨n, rfl, hp⟩)
    go_ret
    exact ⟨_, rfl, hp⟩
  | strs a b =>
    go_enter Tryz.func136, Tryz.ntmps136
    go_wp2_with (go_at_call 143; refine H.out.mono ?_; rintro e w' ⟨n, rfl, hp⟩)
    go_ret
    exact ⟨_, rfl, hp⟩
  | arrs a b =>
    go_enter Tryz.func136, Tryz.ntmps136
    go_wp2_with (go_at_call 144; refine H.out.mono ?_; rintro e w' ⟨n, rfl, hp⟩)
    go_ret
    exact ⟨_, rfl, hp⟩
  | maps a b =>
    go_enter Tryz.func136, Tryz.ntmps136
    go_wp2_with (go_at_call 145; refine H.out.mono ?_; rintro e w' ⟨n, rfl, hp⟩)
    go_ret
    exact ⟨_, rfl, hp⟩
  | other ha hb h =>
    cases ha <;> cases hb
    all_goals first
      | (exact absurd h (by decide))
      | (go_enter Tryz.func136, Tryz.ntmps136
         go_wp2_with (go_at_call 146; refine H.out.mono ?_; rintro e w' ⟨n, rfl, hp⟩)
         go_ret
         exact ⟨_, rfl, hp⟩)

theorem opMul_any {v u : Value} {f : FuncId} {a b : Value} (hcb : CbM v u f a b) (P : Value → World → Prop) (w : World) (h : Calls Tryz.prog f #[a, b] w (RetP P)) : Calls Tryz.prog 96 #[.nilIface, v, u] w (RetP P) := by
  have H := Lib.hid (sw136_any hcb P w h)
  clear h hcb
  go_enter Tryz.func96, Tryz.ntmps96
  go_wp2_with (go_at_call 136; refine H.out.mono ?_; rintro e w' ⟨n, rfl, hp⟩)
  go_ret
  exact ⟨_, rfl, hp⟩

theorem mul_step {v u : Value} {f : FuncId} {a b : Value} (hcb : CbM v u f a b) (P : Value → World → Prop) (w : World) (h : Calls Tryz.prog f #[a, b] w (RetP P)) : Calls Tryz.prog 51 #[v, u] w (RetP P) := by
  have H := Lib.hid (opMul_any hcb P w h)
  clear h hcb
  go_enter Tryz.func51, Tryz.ntmps51
  go_wp2_with (go_at_call 96; refine H.out.mono ?_; rintro e w' ⟨n, rfl, hp⟩)
  go_ret
  exact ⟨_, rfl, hp⟩
end Go.Proofs.YtfhppajnnbbcjaaGreatDoor
