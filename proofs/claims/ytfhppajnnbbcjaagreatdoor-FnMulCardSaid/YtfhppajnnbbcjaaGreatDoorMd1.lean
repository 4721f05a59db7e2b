/- gojq's product of two values, at whatever the reference speaks of; the reference's times, with it. -/
import Derived.Test.YtfhppajnnbbcjaaGreatDoorMa3
import Derived.Test.YtfhppajnnbbcjaaGreatDoorMa4
import Derived.Test.YtfhppajnnbbcjaaGreatDoorMb4
import Derived.Test.YtfhppajnnbbcjaaGreatDoorMc5
namespace Go.Proofs.YtfhppajnnbbcjaaGreatDoor
open Go.RowKit

theorem ARep.shp {w : World} {D : Nat → Prop} {j : J} {v : Value} (h : ARep w D j v) : ∃ k, Shp v k ∧ ((k : Int) = j.kind ∨ (k = 1 ∧ j.kind = 2)) := by
  cases j with
  | null => rw [show v = _ from h]; exact ⟨0, .nil, .inl rfl⟩
  | bool b =>
    rw [show v = _ from h]
    cases b
    · exact ⟨1, .bool _, .inl rfl⟩
    · exact ⟨1, .bool _, .inr ⟨rfl, rfl⟩⟩
  | num n =>
    rw [show v = _ from h]
    unfold numV
    split
    · exact ⟨3, .int _, .inl rfl⟩
    · exact ⟨3, .fl _, .inl rfl⟩
  | str s => rw [show v = _ from h]; exact ⟨4, .str _, .inl rfl⟩
  | arr l => obtain ⟨S, rfl, -⟩ := h; exact ⟨5, .arr _, .inl rfl⟩
  | obj ks vs => obtain ⟨r, xs, rfl, -⟩ := h; exact ⟨6, .map _, .inl rfl⟩

theorem err_post {Rj : J → Prop} {W : World} {e : Ending} {W' : World} (h : RetP (ErrP W) e W') : ZPostM Rj True W e W' := by
  obtain ⟨v, rfl, ⟨q, rfl⟩, hb⟩ := h
  exact .inr ⟨_, rfl, trivial, result_err 147 q W' (fun x W => te_147 x q W), hb⟩

def Raises (x y : J) : Prop := (x.kind = 3 ∧ y.kind ≠ 3 ∧ y.kind ≠ 4) ∨ (x.kind = 4 ∧ y.kind ≠ 3) ∨ (x.kind = 6 ∧ y.kind ≠ 6) ∨ (x.kind ≠ 3 ∧ x.kind ≠ 4 ∧ x.kind ≠ 6)

theorem arep_arr {w : World} {D : Nat → Prop} {l : List J} {v : Value} (h : ARep w D (.arr l) v) : ∃ A n c, v = .iface 88 (.slice A n c) := by
  obtain ⟨S, rfl, A, c, rfl, -⟩ := h
  exact ⟨A, _, c, rfl⟩
theorem kind_arr {a : J} (h : a.kind = 5) : ∃ l, a = .arr l := by
  cases a with
  | arr l => exact ⟨l, rfl⟩
  | bool b => cases b <;> simp [J.kind] at h
  | _ => simp [J.kind] at h

theorem z_raises {x y : J} (h : Raises x y) (Rj : J → Prop) : ZHypM 51 x y Rj True := by
  intro D v u W hD hx hy
  obtain ⟨k, hk, ek⟩ := hx.shp
  obtain ⟨n, hn, en⟩ := hy.shp
  unfold Raises at h
  have bx := kind_bd x
  have bY := kind_bd y
  by_cases h45 : x.kind = 5 ∧ y.kind = 5
  · obtain ⟨l, rfl⟩ := kind_arr h45.1
    obtain ⟨m, rfl⟩ := kind_arr h45.2
    obtain ⟨A, i, c, rfl⟩ := arep_arr hx
    obtain ⟨B, j, d, rfl⟩ := arep_arr hy
    exact (mul_step (.arrs _ _) _ W (mulArrs_any A B i j c d W)).mono fun e W' h => err_post h
  · by_cases h44 : k = 4 ∧ n = 4
    · obtain ⟨rfl, rfl⟩ := h44
      cases hk with
      | str s =>
        cases hn with
        | str t => exact (mul_step (.strs s t) _ W (mulStrs_any s t W)).mono fun e W' h => err_post h
    · exact (mul_step (.other hk hn (by omega)) _ W (mulOther_err hk hn (by omega) (by omega) (by omega) W)).mono fun e W' h => err_post h

theorem z_objs {ka ks : List ByteArray} {va vs : List J} (wa : (J.obj ka va).WF) (wb : (J.obj ks vs).WF) (pa : (J.obj ka va).parts ≤ 1000) (pb : (J.obj ks vs).parts ≤ 1000) : ZHypM 51 (.obj ka va) (.obj ks vs) (· = mrg (.obj ks vs) (.obj ka va)) False := by
  intro D v u W hD hx hy
  obtain ⟨ra, hv, hra⟩ : ∃ ra, v = .iface 91 ra ∧ ARep W D (.obj ka va) (.iface 91 ra) := by obtain ⟨r, xs, rfl, h⟩ := hx; exact ⟨_, rfl, r, xs, rfl, h⟩
  obtain ⟨rb, hu, hrb⟩ : ∃ rb, u = .iface 91 rb ∧ ARep W D (.obj ks vs) (.iface 91 rb) := by obtain ⟨r, xs, rfl, h⟩ := hy; exact ⟨_, rfl, r, xs, rfl, h⟩
  subst hv hu
  refine (mul_step (.maps ra rb) _ W (deep_all (.obj ks vs) (.obj ka va) D ra rb W rfl rfl wa wb hD hra hrb)).mono fun e W' h => ?_
  obtain ⟨z, rfl, hz, hb⟩ := h
  exact .inl ⟨z, _, rfl, rfl, result_val _ _ _ W' (mrg_WF _ _ wb wa pb pa) (fun b h => by
    rcases h with h | h
    · exact Nat.lt_of_lt_of_le (hD b h) hb.size
    · exact h.2) hz, hb⟩

theorem copies_WF {s : ByteArray} {h : Int} (hk : TextOK s h) : (J.str (copies s (h.tdiv 2).toNat)).WF := by
  obtain ⟨-, h1, h2, h3⟩ := hk
  simp only [J.WF, copies_size]
  have e : ((h.tdiv 2).toNat : Int) = h.tdiv 2 := Int.toNat_of_nonneg (by omega)
  have e2 : (((h.tdiv 2).toNat * s.size : Nat) : Int) = h.tdiv 2 * (s.size : Int) := by rw [Int.natCast_mul, e]
  omega

theorem z_text {s : ByteArray} {h : Int} (hk : TextOK s h) : ZHypM 51 (.str s) (.num h) (· = .str (copies s (h.tdiv 2).toNat)) False := by
  intro D v u W hD hx hy
  have hw := copies_WF hk
  obtain ⟨he, h1, h2, h3⟩ := hk
  have he2 := (tmod_two _).1 he
  have hd := tdiv_two he2
  obtain rfl : v = .iface 9 (.string s) := hx
  obtain rfl : u = numV h := hy
  unfold numV
  rw [if_pos he2, ← hd]
  obtain ⟨c, hc⟩ : ∃ c : Nat, h.tdiv 2 = (c : Int) := ⟨(h.tdiv 2).toNat, by omega⟩
  rw [hc] at h1 h2 h3 hw ⊢
  rw [Int.toNat_natCast] at hw ⊢
  have h4 : s.size * c ≤ 10000 := by
    have e2 : ((s.size * c : Nat) : Int) = (c : Int) * (s.size : Int) := by rw [Int.natCast_mul, Int.mul_comm]
    omega
  refine (mul_step (.other (.str s) (.int (c : Int)) (.inl (by decide))) _ W (mulRepeat_any s c W (by omega) (by omega) h4)).mono fun e W' h => ?_
  obtain ⟨z, rfl, rfl, hb⟩ := h
  exact .inl ⟨_, _, rfl, rfl, result_val _ (fun _ => False) _ W' hw (fun _ h => h.elim) rfl, hb⟩

theorem even_mul {a b : Int} (ha : a % 2 = 0) : (a * b).tdiv 2 = a / 2 * b := by
  have : a * b = 2 * (a / 2 * b) := by
    rw [← Int.mul_assoc, show 2 * (a / 2) = a by omega]
  rw [this, Int.mul_tdiv_cancel_left _ (by decide)]

theorem numOK_WF {n : Int} (h : NumOK n) : (J.num n).WF := by
  obtain ⟨h1, h2⟩ := h
  simp only [J.WF]
  rw [tmod_two] at h2
  omega

theorem float_post {Rj : J → Prop} {n : Int} (hR : Rj (.num n)) (hn : NumOK n) (h0 : n ≠ 0) {W : World} {e : Ending} {W' : World} (h : RetP (fun v w' => v = .iface 87 (.float .f64 (fl n (-1))) ∧ w' = W) e W') : ZPostM Rj False W e W' := by
  obtain ⟨v, rfl, rfl, rfl⟩ := h
  obtain ⟨h1, h2⟩ := hn
  rw [tmod_two] at h2
  have hs := S53_half h1 h2
  exact .inl ⟨_, _, rfl, hR, result_float (fl n (-1)) (fl n 0) n (fl_two_mulS h0 hs) (whole_fl h0 hs h1) _, Below.refl _ _⟩
theorem zero_post {Rj : J → Prop} (hR : Rj (.num 0)) {W : World} {e : Ending} {W' : World} (h : RetP (fun v w' => v = .iface 87 (.float .f64 0) ∧ w' = W) e W') : ZPostM Rj False W e W' := by
  obtain ⟨v, rfl, rfl, rfl⟩ := h
  exact .inl ⟨_, _, rfl, hR, result_float 0 0 0 two_mul_zero whole_zero _, Below.refl _ _⟩

theorem z_nums {a b : Int} (wa : (J.num a).WF) (wb : (J.num b).WF) (hk : MulOK a b) : ZHypM 51 (.num a) (.num b) (· = .num ((a * b).tdiv 2)) False := by
  intro D v u W hD hx hy
  obtain ⟨hs, he, hz, hn⟩ := hk
  have hm := smallB_mul hs
  have he2 := (tmod_two _).1 he
  simp only [J.WF] at wa wb
  obtain rfl : v = numV a := hx
  obtain rfl : u = numV b := hy
  unfold numV
  by_cases pa : a % 2 = 0
  · by_cases pb : b % 2 = 0
    · rw [if_pos pa, if_pos pb]
      have e1 := even_mul (b := b) pa
      have e2 : a / 2 * b = 2 * (a / 2 * (b / 2)) := by rw [← Int.mul_assoc, Int.mul_comm 2, Int.mul_assoc, show 2 * (b / 2) = b by omega]
      have e3 : a * b = 4 * (a / 2 * (b / 2)) := by
        have : a * b = 2 * (a / 2 * b) := by rw [← Int.mul_assoc, show 2 * (a / 2) = a by omega]
        omega
      refine (mul_step (.ints (a / 2) (b / 2)) _ W (mulInts_any (a / 2) (b / 2) (by omega) (by omega) (by omega) W)).mono fun e W' h => ?_
      obtain ⟨z, rfl, rfl, rfl⟩ := h
      refine .inl ⟨_, _, rfl, rfl, result_val _ (fun _ => False) _ _ (numOK_WF hn) (fun _ h => h.elim) ?_, Below.refl _ _⟩
      show _ = numV _
      unfold numV
      rw [e1, e2, if_pos (by omega), show 2 * (a / 2 * (b / 2)) / 2 = a / 2 * (b / 2) by omega]
    · rw [if_pos pa, if_neg pb]
      have e1 := even_mul (b := b) pa
      rw [e1] at hn ⊢
      by_cases ha0 : a = 0
      · subst ha0
        have hb0 : 0 < b := by omega
        have hmul := (fl_mul_zero hb0 (by omega)).1
        refine (mul_step (.intFl (0 / 2) (fl b (-1))) _ W (mulFloats_any (fl (0 / 2) 0) (fl b (-1)) 0 (by rw [show (0 : Int) / 2 = 0 by decide, fl_zero]; exact hmul) W)).mono fun e W' h => zero_post (by simp) h
      · have h0 : a / 2 ≠ 0 := by omega
        have hne : a / 2 * b ≠ 0 := Int.mul_ne_zero h0 (by omega)
        have hn' := hn
        obtain ⟨h1, h2⟩ := hn'
        rw [tmod_two] at h2
        exact (mul_step (.intFl (a / 2) (fl b (-1))) _ W (mulFloats_any _ _ _ (fl_mul_half (by omega) (by omega) (by omega) (S53_half h1 h2) rfl h0) W)).mono fun e W' h => float_post (Rj := fun j => j = .num (a / 2 * b)) rfl hn hne h
  · by_cases pb : b % 2 = 0
    · rw [if_neg pa, if_pos pb]
      have e1 : (a * b).tdiv 2 = b / 2 * a := by rw [Int.mul_comm]; exact even_mul pb
      rw [e1] at hn ⊢
      by_cases hb0 : b = 0
      · subst hb0
        have ha0 : 0 < a := by omega
        have hmul := (fl_mul_zero ha0 (by omega)).2
        refine (mul_step (.flInt (0 / 2) (fl a (-1))) _ W (mulFloats_any (fl a (-1)) (fl (0 / 2) 0) 0 (by rw [show (0 : Int) / 2 = 0 by decide, fl_zero]; exact hmul) W)).mono fun e W' h => zero_post (by simp) h
      · have h0 : b / 2 ≠ 0 := by omega
        have hne : b / 2 * a ≠ 0 := Int.mul_ne_zero h0 (by omega)
        have hn' := hn
        obtain ⟨h1, h2⟩ := hn'
        rw [tmod_two] at h2
        exact (mul_step (.flInt (b / 2) (fl a (-1))) _ W (mulFloats_any _ _ _ (fl_half_mul (by omega) (by omega) (by omega) (S53_half h1 h2) rfl h0) W)).mono fun e W' h => float_post (Rj := fun j => j = .num (b / 2 * a)) rfl hn hne h
    · exfalso
      have e4 : (a * b) % 2 = 1 := by
        rw [Int.mul_emod, show a % 2 = 1 by omega, show b % 2 = 1 by omega]
        rfl
      omega

/-- what the reference says, and that the program's answer is so -/
def OKM (x y : J) (j : J) (how : Int) : Prop := how = 2 ∨ (how = 1 ∧ ZHypM 51 x y (fun _ => False) True) ∨ (how = 0 ∧ j.WF ∧ ZHypM 51 x y (· = j) False)

theorem times_any (x y : J) (wx : x.WF) (wy : y.WF) (px : x.parts ≤ 1000) (py : y.parts ≤ 1000) (D : Nat → Prop) (cx cy : List Value) (w : World) (hD : ∀ b, D b → All w b) (hx : SRep w D x cx) (hy : SRep w D y cy) :
    Calls Tryz.prog 48 #[.agg cx.toArray, .agg cy.toArray] w (fun e w' => ∃ j how, OKM x y j how ∧ SpecD j how D w e w') := by
  by_cases hr : Raises x y
  · exact (times_raises hr D cx cy w hD hx hy).mono fun e w' h => ⟨_, _, .inr (.inl ⟨rfl, z_raises hr _⟩), h⟩
  · unfold Raises at hr
    cases x with
    | num a =>
      cases y with
      | num b =>
        have wa := wx
        have wb := wy
        simp only [J.WF] at wa wb
        obtain ⟨A1, c1, A2, c2, A3, c3, rfl⟩ := SRep.six hx
        obtain ⟨B1, d1, B2, d2, B3, d3, rfl⟩ := SRep.six hy
        refine (times_num a b A1 A2 A3 B1 B2 B3 c1 c2 c3 d1 d2 d3 w (by omega) (by omega)).mono fun e w' h => ?_
        rcases h with ⟨hk, h⟩ | h
        · exact ⟨_, _, .inr (.inr ⟨rfl, numOK_WF hk.2.2.2, z_nums wx wy hk⟩), h.toD⟩
        · exact ⟨_, _, .inl rfl, h.toD⟩
      | str t => exact (times_numStr a t D cx cy w hD hx hy).mono fun e w' h => ⟨_, _, .inl rfl, h⟩
      | bool b => exact absurd (.inl ⟨rfl, by cases b <;> simp [J.kind], by cases b <;> simp [J.kind]⟩) hr
      | _ => exact absurd (.inl ⟨rfl, by simp [J.kind], by simp [J.kind]⟩) hr
    | str s =>
      cases y with
      | num h =>
        have wb := wy
        have ws := wx
        simp only [J.WF] at wb ws
        refine (times_text s h (by omega) ws D cx cy w hx hy).mono fun e w' h => ?_
        rcases h with ⟨hk, h⟩ | h
        · exact ⟨_, _, .inr (.inr ⟨rfl, copies_WF hk, z_text hk⟩), h.toD⟩
        · exact ⟨_, _, .inl rfl, h.toD⟩
      | bool b => exact absurd (.inr (.inl ⟨rfl, by cases b <;> simp [J.kind]⟩)) hr
      | _ => exact absurd (.inr (.inl ⟨rfl, by simp [J.kind]⟩)) hr
    | obj ka va =>
      cases y with
      | obj ks vs => exact (times_objs ka ks va vs wx wy D cx cy w hD hx hy).mono fun e w' h => ⟨_, _, .inr (.inr ⟨rfl, mrg_WF _ _ wy wx py px, z_objs wx wy px py⟩), h⟩
      | bool b => exact absurd (.inr (.inr (.inl ⟨rfl, by cases b <;> simp [J.kind]⟩))) hr
      | _ => exact absurd (.inr (.inr (.inl ⟨rfl, by simp [J.kind]⟩))) hr
    | bool b => exact absurd (.inr (.inr (.inr ⟨by cases b <;> simp [J.kind], by cases b <;> simp [J.kind], by cases b <;> simp [J.kind]⟩))) hr
    | _ => exact absurd (.inr (.inr (.inr ⟨by simp [J.kind], by simp [J.kind], by simp [J.kind]⟩))) hr
end Go.Proofs.YtfhppajnnbbcjaaGreatDoor
