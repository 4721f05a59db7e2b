/- Pure: JSON values and their order, as the reference and the package compare them. No program in sight.
   The memory words: how a struct impl.Value, and a Go value of the package, stands for a JSON value.
   Walks: the reference's order.
   JSON values: their fields as a struct, and which ones are right (bounds).
   Walks: the reference's order, of lists.
   Walks: the reference's order, of values. -/
import GoSem.Op.String
import Derived.Test.YtfhppajnnbbcjaaGreatDoorProg
import Derived.WalkKit
import Derived.Maps.Own
import Derived.Maps.OwnOps
import Derived.Maps.Range
import Derived.WalkLawsBesides
import Derived.BigQuiet
import Derived.Deep.QuietTactic
import Derived.StillTailTactics
import Derived.Lib.Hide

section
namespace Go.Proofs.YtfhppajnnbbcjaaGreatDoor

/-- JSON values; a number by its Half. -/
inductive J where
  | null
  | bool (b : Bool)
  | num (h : Int)
  | str (s : ByteArray)
  | arr (l : List J)
  | obj (ks : List ByteArray) (vs : List J)

def sgn (n : Int) : Int := if n < 0 then -1 else if 0 < n then 1 else 0

theorem sgn_neg_iff {n : Int} : sgn n < 0 ↔ n < 0 := by unfold sgn; split <;> (try split) <;> omega
theorem sgn_zero_iff {n : Int} : sgn n = 0 ↔ n = 0 := by unfold sgn; split <;> (try split) <;> omega
theorem sgn_anti (n : Int) : sgn (-n) = - sgn n := by unfold sgn; split <;> split <;> (try split) <;> (try split) <;> omega
theorem sgn_bd (n : Int) : -1 ≤ sgn n ∧ sgn n ≤ 1 := by unfold sgn; split <;> (try split) <;> omega

theorem bl_irrefl : ∀ l : List UInt8, Op.bytesLess l l = false
  | [] => rfl
  | a :: l => by simp [Op.bytesLess, bl_irrefl l]

theorem bl_trans : ∀ a b c : List UInt8, Op.bytesLess a b = true → Op.bytesLess b c = true → Op.bytesLess a c = true
  | _, [], _, h, _ => by simp [Op.bytesLess] at h
  | _, _ :: _, [], _, h => by simp [Op.bytesLess] at h
  | [], _ :: _, _ :: _, _, _ => rfl
  | x :: a, y :: b, z :: c, h, h' => by
    simp only [Op.bytesLess, Bool.or_eq_true, Bool.and_eq_true, decide_eq_true_eq, beq_iff_eq] at h h' ⊢
    rcases h with h | ⟨rfl, h⟩ <;> rcases h' with h' | ⟨rfl, h'⟩
    · exact .inl (UInt8.lt_trans h h')
    · exact .inl h
    · exact .inl h'
    · exact .inr ⟨rfl, bl_trans a b c h h'⟩

theorem bl_total : ∀ a b : List UInt8, Op.bytesLess a b = false → Op.bytesLess b a = false → a = b
  | [], [], _, _ => rfl
  | [], _ :: _, h, _ => by simp [Op.bytesLess] at h
  | _ :: _, [], _, h => by simp [Op.bytesLess] at h
  | x :: a, y :: b, h, h' => by
    simp only [Op.bytesLess, Bool.or_eq_false_iff, Bool.and_eq_false_iff, decide_eq_false_iff_not, beq_eq_false_iff_ne] at h h'
    have hxy : x = y := by
      have h1 := h.1
      have h2 := h'.1
      exact UInt8.le_antisymm (UInt8.not_lt.1 h2) (UInt8.not_lt.1 h1)
    subst hxy
    rw [bl_total a b (h.2.resolve_left (by simp)) (h'.2.resolve_left (by simp))]

/-- strings by their bytes -/
def cmpB (a b : ByteArray) : Int := if Op.bytesLess a.data.toList b.data.toList then -1 else if Op.bytesLess b.data.toList a.data.toList then 1 else 0

theorem bytes_ext {a b : ByteArray} (h : a.data.toList = b.data.toList) : a = b := by
  obtain ⟨⟨a⟩⟩ := a
  obtain ⟨⟨b⟩⟩ := b
  simp at h
  rw [h]

theorem cmpB_self (a : ByteArray) : cmpB a a = 0 := by simp [cmpB, bl_irrefl]
theorem cmpB_eq {a b : ByteArray} (h : cmpB a b = 0) : a = b := by
  unfold cmpB at h
  split at h
  · omega
  · split at h
    · omega
    · rename_i h1 h2
      exact bytes_ext (bl_total _ _ (by simpa using h1) (by simpa using h2))
theorem cmpB_anti (a b : ByteArray) : cmpB b a = - cmpB a b := by
  unfold cmpB
  by_cases h1 : Op.bytesLess a.data.toList b.data.toList = true
  · have h2 : Op.bytesLess b.data.toList a.data.toList = false := by
      cases h : Op.bytesLess b.data.toList a.data.toList
      · rfl
      · have := bl_trans _ _ _ h1 h
        rw [bl_irrefl] at this
        cases this
    simp [h1, h2]
  · simp only [Bool.not_eq_true] at h1
    by_cases h2 : Op.bytesLess b.data.toList a.data.toList = true <;> simp [h1, h2]
theorem cmpB_lt_iff {a b : ByteArray} : cmpB a b < 0 ↔ Op.bytesLess a.data.toList b.data.toList = true := by
  unfold cmpB
  constructor
  · intro h
    split at h
    · assumption
    · split at h <;> omega
  · intro h
    rw [if_pos h]
    omega
theorem cmpB_trans {a b c : ByteArray} (h : cmpB a b < 0) (h' : cmpB b c < 0) : cmpB a c < 0 := by
  rw [cmpB_lt_iff] at *
  exact bl_trans _ _ _ h h'

def J.kind : J → Int
  | .null => 0
  | .bool false => 1
  | .bool true => 2
  | .num _ => 3
  | .str _ => 4
  | .arr _ => 5
  | .obj _ _ => 6

/-- lists of keys -/
def cmpK : List ByteArray → List ByteArray → Int
  | [], m => - (m.length : Int)
  | a :: l, [] => ((a :: l).length : Int)
  | a :: l, b :: m => if cmpB a b = 0 then cmpK l m else cmpB a b

mutual
def cmpJ : J → J → Int
  | .num x, .num y => sgn (x - y)
  | .str x, .str y => cmpB x y
  | .arr l, .arr m => sgn (cmpL l m)
  | .obj k l, .obj k' m => if cmpK k k' = 0 then sgn (cmpL l m) else sgn (cmpK k k')
  | a, b => sgn (a.kind - b.kind)
def cmpL : List J → List J → Int
  | [], m => - (m.length : Int)
  | a :: l, [] => ((a :: l).length : Int)
  | a :: l, b :: m => if cmpJ a b = 0 then cmpL l m else cmpJ a b
end

theorem cmpJ_kind {a b : J} (h : a.kind ≠ b.kind) : cmpJ a b = sgn (a.kind - b.kind) := by
  cases a <;> cases b <;> first | rfl | (exact absurd rfl h)

theorem kind_bd (a : J) : 0 ≤ a.kind ∧ a.kind ≤ 6 := by
  cases a with
  | bool b => cases b <;> simp [J.kind]
  | _ => simp [J.kind]

theorem cmpK_self : ∀ l, cmpK l l = 0
  | [] => rfl
  | a :: l => by simp [cmpK, cmpB_self, cmpK_self l]
theorem cmpK_eq : ∀ l m, cmpK l m = 0 → l = m
  | [], m, h => by
    have : m.length = 0 := by simp only [cmpK] at h; omega
    exact (List.eq_nil_of_length_eq_zero this).symm
  | a :: l, [], h => by simp only [cmpK, List.length_cons] at h; omega
  | a :: l, b :: m, h => by
    simp only [cmpK] at h
    split at h
    · rename_i h0
      rw [cmpB_eq h0, cmpK_eq l m h]
    · contradiction
theorem cmpK_anti : ∀ l m, cmpK m l = - cmpK l m
  | [], [] => rfl
  | [], b :: m => by simp [cmpK]
  | a :: l, [] => by simp [cmpK]
  | a :: l, b :: m => by
    simp only [cmpK]
    rw [cmpB_anti a b, cmpK_anti l m]
    split <;> split <;> omega
theorem cmpK_trans : ∀ l m n, cmpK l m < 0 → cmpK m n < 0 → cmpK l n < 0
  | [], [], _, h, _ => by simp [cmpK] at h
  | [], _ :: _, [], _, h => by simp only [cmpK, List.length_cons] at h; omega
  | [], _ :: _, _ :: _, _, _ => by simp only [cmpK, List.length_cons]; omega
  | _ :: _, [], _, h, _ => by simp only [cmpK, List.length_cons] at h; omega
  | _ :: _, _ :: _, [], _, h => by simp only [cmpK, List.length_cons] at h; omega
  | a :: l, b :: m, c :: n, h, h' => by
    simp only [cmpK] at h h' ⊢
    split at h
    · rename_i h0
      obtain rfl := cmpB_eq h0
      split at h'
      · rw [if_pos (by assumption)]; exact cmpK_trans l m n h h'
      · rw [if_neg (by assumption)]; exact h'
    · split at h'
      · rename_i h0
        obtain rfl := cmpB_eq h0
        rw [if_neg (by assumption)]
        exact h
      · have := cmpB_trans h h'
        rw [if_neg (by omega)]
        exact this

mutual
theorem cmpJ_self : ∀ a, cmpJ a a = 0
  | .null => rfl
  | .bool b => by simp [cmpJ, sgn]
  | .num h => by simp [cmpJ, sgn]
  | .str s => by simp [cmpJ, cmpB_self]
  | .arr l => by simp [cmpJ, cmpL_self l, sgn]
  | .obj k l => by simp [cmpJ, cmpL_self l, cmpK_self, sgn]
theorem cmpL_self : ∀ l, cmpL l l = 0
  | [] => by simp [cmpL]
  | a :: l => by simp [cmpL, cmpJ_self a, cmpL_self l]
end

theorem kind_of_cmp {a b : J} (h : cmpJ a b = 0) : a.kind = b.kind := by
  apply Classical.byContradiction
  intro hk
  rw [cmpJ_kind hk, sgn_zero_iff] at h
  omega

mutual
theorem cmpJ_eq : ∀ a b, cmpJ a b = 0 → a = b
  | .null, b, h => by
    have hk := kind_of_cmp h
    cases b with
    | bool c => cases c <;> simp [J.kind] at hk
    | null => rfl
    | _ => simp [J.kind] at hk
  | .bool x, b, h => by
    have hk := kind_of_cmp h
    cases b with
    | bool c => cases c <;> cases x <;> first | rfl | (simp [J.kind] at hk)
    | _ => cases x <;> simp [J.kind] at hk
  | .num x, b, h => by
    have hk := kind_of_cmp h
    cases b with
    | num y => simp only [cmpJ, sgn_zero_iff] at h; rw [show x = y by omega]
    | bool c => cases c <;> simp [J.kind] at hk
    | _ => simp [J.kind] at hk
  | .str x, b, h => by
    have hk := kind_of_cmp h
    cases b with
    | str y => simp only [cmpJ] at h; rw [cmpB_eq h]
    | bool c => cases c <;> simp [J.kind] at hk
    | _ => simp [J.kind] at hk
  | .arr x, b, h => by
    have hk := kind_of_cmp h
    cases b with
    | arr y => simp only [cmpJ, sgn_zero_iff] at h; rw [cmpL_eq x y h]
    | bool c => cases c <;> simp [J.kind] at hk
    | _ => simp [J.kind] at hk
  | .obj k x, b, h => by
    have hk := kind_of_cmp h
    cases b with
    | obj k' y =>
      simp only [cmpJ] at h
      split at h
      · rename_i h0
        rw [sgn_zero_iff] at h
        rw [cmpK_eq _ _ h0, cmpL_eq x y h]
      · rw [sgn_zero_iff] at h; contradiction
    | bool c => cases c <;> simp [J.kind] at hk
    | _ => simp [J.kind] at hk
theorem cmpL_eq : ∀ l m, cmpL l m = 0 → l = m
  | [], m, h => by
    have : m.length = 0 := by simp only [cmpL] at h; omega
    exact (List.eq_nil_of_length_eq_zero this).symm
  | a :: l, [], h => by simp only [cmpL, List.length_cons] at h; omega
  | a :: l, b :: m, h => by
    simp only [cmpL] at h
    split at h
    · rename_i h0
      rw [cmpJ_eq a b h0, cmpL_eq l m h]
    · contradiction
end

theorem cmpJ_anti_kind {a b : J} (h : a.kind ≠ b.kind) : cmpJ b a = - cmpJ a b := by
  rw [cmpJ_kind h, cmpJ_kind (Ne.symm h), ← sgn_anti]
  congr 1
  omega

mutual
theorem cmpJ_anti : ∀ a b, cmpJ b a = - cmpJ a b
  | .arr x, .arr y => by simp only [cmpJ]; rw [cmpL_anti x y, sgn_anti]
  | .obj k x, .obj k' y => by
    simp only [cmpJ]
    rw [cmpL_anti x y, cmpK_anti k k', sgn_anti, sgn_anti]
    split <;> split <;> first | rfl | omega
  | .num x, .num y => by simp only [cmpJ]; rw [← sgn_anti]; congr 1; omega
  | .str x, .str y => by simp only [cmpJ]; exact cmpB_anti x y
  | .null, .null => rfl
  | .bool x, .bool y => by cases x <;> cases y <;> simp [cmpJ, J.kind, sgn]
  | .null, .bool y => by cases y <;> simp [cmpJ, J.kind, sgn]
  | .bool y, .null => by cases y <;> simp [cmpJ, J.kind, sgn]
  | .bool y, .num _ => by cases y <;> simp [cmpJ, J.kind, sgn]
  | .bool y, .str _ => by cases y <;> simp [cmpJ, J.kind, sgn]
  | .bool y, .arr _ => by cases y <;> simp [cmpJ, J.kind, sgn]
  | .bool y, .obj _ _ => by cases y <;> simp [cmpJ, J.kind, sgn]
  | .num _, .bool y => by cases y <;> simp [cmpJ, J.kind, sgn]
  | .str _, .bool y => by cases y <;> simp [cmpJ, J.kind, sgn]
  | .arr _, .bool y => by cases y <;> simp [cmpJ, J.kind, sgn]
  | .obj _ _, .bool y => by cases y <;> simp [cmpJ, J.kind, sgn]
  | .null, .num _ => rfl
  | .null, .str _ => rfl
  | .null, .arr _ => rfl
  | .null, .obj _ _ => rfl
  | .num _, .null => rfl
  | .num _, .str _ => rfl
  | .num _, .arr _ => rfl
  | .num _, .obj _ _ => rfl
  | .str _, .null => rfl
  | .str _, .num _ => rfl
  | .str _, .arr _ => rfl
  | .str _, .obj _ _ => rfl
  | .arr _, .null => rfl
  | .arr _, .num _ => rfl
  | .arr _, .str _ => rfl
  | .arr _, .obj _ _ => rfl
  | .obj _ _, .null => rfl
  | .obj _ _, .num _ => rfl
  | .obj _ _, .str _ => rfl
  | .obj _ _, .arr _ => rfl
theorem cmpL_anti : ∀ l m, cmpL m l = - cmpL l m
  | [], [] => by simp [cmpL]
  | [], b :: m => by simp [cmpL]
  | a :: l, [] => by simp [cmpL]
  | a :: l, b :: m => by
    simp only [cmpL]
    rw [cmpJ_anti a b, cmpL_anti l m]
    split <;> split <;> omega
end

theorem kind_le_of_lt {a b : J} (h : cmpJ a b < 0) : a.kind ≤ b.kind := by
  apply Classical.byContradiction
  intro hk
  rw [cmpJ_kind (by omega), sgn_neg_iff] at h
  omega
theorem lt_of_kind {a b : J} (h : a.kind < b.kind) : cmpJ a b < 0 := by
  rw [cmpJ_kind (by omega), sgn_neg_iff]
  omega

mutual
theorem cmpJ_trans : ∀ a b c, cmpJ a b < 0 → cmpJ b c < 0 → cmpJ a c < 0
  | a, b, c, h, h' => by
    have k1 := kind_le_of_lt h
    have k2 := kind_le_of_lt h'
    by_cases hk : a.kind < c.kind
    · exact lt_of_kind hk
    · have e1 : a.kind = b.kind := by omega
      have e2 : b.kind = c.kind := by omega
      match a, b, c with
      | .arr x, .arr y, .arr z =>
        simp only [cmpJ, sgn_neg_iff] at h h' ⊢
        exact cmpL_trans x y z h h'
      | .obj k x, .obj k' y, .obj k'' z =>
        simp only [cmpJ] at h h' ⊢
        split at h
        · rename_i h0
          obtain rfl := cmpK_eq _ _ h0
          split at h'
          · rw [if_pos (by assumption)]
            rw [sgn_neg_iff] at *
            exact cmpL_trans x y z h h'
          · rw [if_neg (by assumption)]; exact h'
        · split at h'
          · rename_i h0
            obtain rfl := cmpK_eq _ _ h0
            rw [if_neg (by assumption)]
            exact h
          · rw [sgn_neg_iff] at h h'
            have := cmpK_trans _ _ _ h h'
            rw [if_neg (by omega), sgn_neg_iff]
            exact this
      | .num x, .num y, .num z => simp only [cmpJ, sgn_neg_iff] at h h' ⊢; omega
      | .str x, .str y, .str z => simp only [cmpJ] at h h' ⊢; exact cmpB_trans h h'
      | .null, .null, _ => simp [cmpJ, sgn] at h
      | .bool x, .bool y, _ => 
        have : x = y := by cases x <;> cases y <;> first | rfl | (simp [J.kind] at e1)
        subst this
        simp [cmpJ, sgn] at h
      | .null, .bool y, _ => cases y <;> simp [J.kind] at e1
      | .bool y, .null, _ => cases y <;> simp [J.kind] at e1
      | .bool y, .num _, _ => cases y <;> simp [J.kind] at e1
      | .bool y, .str _, _ => cases y <;> simp [J.kind] at e1
      | .bool y, .arr _, _ => cases y <;> simp [J.kind] at e1
      | .bool y, .obj _ _, _ => cases y <;> simp [J.kind] at e1
      | .num _, .num _, .bool y => cases y <;> simp [J.kind] at e2
      | .str _, .str _, .bool y => cases y <;> simp [J.kind] at e2
      | .arr _, .arr _, .bool y => cases y <;> simp [J.kind] at e2
      | .obj _ _, .obj _ _, .bool y => cases y <;> simp [J.kind] at e2
theorem cmpL_trans : ∀ l m n, cmpL l m < 0 → cmpL m n < 0 → cmpL l n < 0
  | [], [], _, h, _ => by simp [cmpL] at h
  | [], _ :: _, [], _, h => by simp only [cmpL, List.length_cons] at h; omega
  | [], _ :: _, _ :: _, _, _ => by simp only [cmpL, List.length_cons]; omega
  | _ :: _, [], _, h, _ => by simp only [cmpL, List.length_cons] at h; omega
  | _ :: _, _ :: _, [], _, h => by simp only [cmpL, List.length_cons] at h; omega
  | a :: l, b :: m, c :: n, h, h' => by
    simp only [cmpL] at h h' ⊢
    split at h
    · rename_i h0
      obtain rfl := cmpJ_eq _ _ h0
      split at h'
      · rw [if_pos (by assumption)]; exact cmpL_trans l m n h h'
      · rw [if_neg (by assumption)]; exact h'
    · split at h'
      · rename_i h0
        obtain rfl := cmpJ_eq _ _ h0
        rw [if_neg (by assumption)]
        exact h
      · have := cmpJ_trans a b c h h'
        rw [if_neg (by omega)]
        exact this
end

end Go.Proofs.YtfhppajnnbbcjaaGreatDoor
end

section
namespace Go.Proofs.YtfhppajnnbbcjaaGreatDoor
open Go.RowKit

/-- A struct impl.Value as it comes. -/
inductive V where
  | mk (k h : Int) (t : ByteArray) (l : List V) (ks : List ByteArray) (vs : List V)

def V.kind : V → Int | .mk k _ _ _ _ _ => k
def V.half : V → Int | .mk _ h _ _ _ _ => h
def V.text : V → ByteArray | .mk _ _ t _ _ _ => t
def V.list : V → List V | .mk _ _ _ l _ _ => l
def V.keys : V → List ByteArray | .mk _ _ _ _ ks _ => ks
def V.vals : V → List V | .mk _ _ _ _ _ vs => vs

/-- A slice value of n elements whose array lies in a block of D. -/
def SlAt (D : Nat → Prop) (n : Nat) (v : Value) (Row : Nat → Nat → Prop) : Prop :=
  ∃ A c, v = .slice A n c ∧ n ≤ c ∧ c ≤ maxLen ∧ (0 < n → ∃ b o, A = some ⟨b, o, none⟩ ∧ D b ∧ Row b o)

theorem SlAt.mono {D D' : Nat → Prop} {n : Nat} {v : Value} {R R' : Nat → Nat → Prop} (h : SlAt D n v R) (hD : ∀ b, D b → D' b) (hR : ∀ b o, D b → R b o → R' b o) : SlAt D' n v R' := by
  obtain ⟨A, c, hv, hc, hm, hr⟩ := h
  refine ⟨A, c, hv, hc, hm, fun hn => ?_⟩
  obtain ⟨b, o, hA, hb, hrow⟩ := hr hn
  exact ⟨b, o, hA, hD b hb, hR b o hb hrow⟩

def StrRow (w : World) (b o : Nat) (ks : List ByteArray) : Prop := ∀ i s, ks[i]? = some s → w.cell? ⟨b, o + i, none⟩ = some (.string s)

mutual
def VRep (w : World) (D : Nat → Prop) : V → List Value → Prop
  | .mk k h t l ks vs, cs => ∃ L K S, cs = [.int .i64 k, .int .i64 h, .string t, L, K, S] ∧ SlAt D l.length L (fun b o => VRow w D b l o) ∧
      SlAt D ks.length K (fun b o => StrRow w b o ks) ∧ SlAt D vs.length S (fun b o => VRow w D b vs o)
def VRow (w : World) (D : Nat → Prop) (b : Nat) : List V → Nat → Prop
  | [], _ => True
  | x :: l, o => (∃ cs, cs.length = 6 ∧ (∀ i v, cs[i]? = some v → w.cell? ⟨b, o + i, none⟩ = some v) ∧ VRep w D x cs) ∧ VRow w D b l (o + 6)
end

/-- What lies in D is as it was. -/
def Same (D : Nat → Prop) (w w' : World) : Prop := ∀ k, D k → w'.heap[k]? = w.heap[k]?

/-- all blocks of a world -/
abbrev All (w : World) : Nat → Prop := fun b => b < w.heap.size

theorem Same.of_below {D : Nat → Prop} {B1 : Nat} {w w' : World} (h : Below B1 w w') (hD : ∀ b, D b → b < B1) : Same D w w' := fun k hk => h.block k (hD k hk)
theorem Same.cell {D : Nat → Prop} {w w' : World} (h : Same D w w') {p : Addr} (hp : D p.block) : w'.cell? p = w.cell? p := World.cell?_of_block (h _ hp)
theorem Same.trans {D : Nat → Prop} {a b c : World} (h : Same D a b) (k : Same D b c) : Same D a c := fun i hi => (k i hi).trans (h i hi)
theorem Same.alloc {D : Nat → Prop} {w : World} (hD : ∀ b, D b → All w b) (o : Obj) : Same D w (w.alloc o) := fun k hk => Below.heap_alloc w o k (hD k hk)
theorem All.below {w w' : World} {B : Nat} (h : Below B w w') : ∀ b, All w b → All w' b := fun _ hb => Nat.lt_of_lt_of_le hb h.size

theorem StrRow.keep {D : Nat → Prop} {w w' : World} (hs : Same D w w') {b o : Nat} {ks : List ByteArray} (hb : D b) (h : StrRow w b o ks) : StrRow w' b o ks :=
  fun i s hi => (hs.cell hb).trans (h i s hi)

mutual
theorem VRep.keep {w w' : World} {D D' : Nat → Prop} (hs : Same D w w') (hB : ∀ b, D b → D' b) : ∀ (x : V) (cs : List Value), VRep w D x cs → VRep w' D' x cs
  | .mk k h t l ks vs, cs, hr => by
    obtain ⟨L, K, S, hcs, hL, hK, hS⟩ := hr
    exact ⟨L, K, S, hcs, hL.mono hB fun b o hb hr => VRow.keep hs hB l b o hb hr, hK.mono hB fun b o hb hr => hr.keep hs hb, hS.mono hB fun b o hb hr => VRow.keep hs hB vs b o hb hr⟩
theorem VRow.keep {w w' : World} {D D' : Nat → Prop} (hs : Same D w w') (hB : ∀ b, D b → D' b) : ∀ (l : List V) (b o : Nat), D b → VRow w D b l o → VRow w' D' b l o
  | [], _, _, _, _ => trivial
  | x :: l, b, o, hb, hr => by
    obtain ⟨⟨cs, hl, hc, hx⟩, hr⟩ := hr
    exact ⟨⟨cs, hl, fun i v hi => (hs.cell hb).trans (hc i v hi), VRep.keep hs hB x cs hx⟩, VRow.keep hs hB l b (o + 6) hb hr⟩
end

theorem VRow.get {w : World} {D : Nat → Prop} {b : Nat} : ∀ {l : List V} {o i : Nat} {x : V}, VRow w D b l o → l[i]? = some x →
    ∃ cs, cs.length = 6 ∧ (∀ j v, cs[j]? = some v → w.cell? ⟨b, o + i * 6 + j, none⟩ = some v) ∧ VRep w D x cs
  | [], _, _, _, _, h => by simp at h
  | a :: l, o, 0, x, hr, h => by
    obtain ⟨⟨cs, hl, hc, hx⟩, _⟩ := hr
    simp at h
    subst h
    exact ⟨cs, hl, by simpa using hc, hx⟩
  | a :: l, o, i + 1, x, hr, h => by
    obtain ⟨cs, hl, hc, hx⟩ := VRow.get (i := i) hr.2 (by simpa using h)
    refine ⟨cs, hl, fun j v hj => ?_, hx⟩
    have := hc j v hj
    rwa [show o + (i + 1) * 6 + j = o + 6 + i * 6 + j by omega]

/-! ### JSON values -/

def noText : ByteArray := ⟨#[]⟩

mutual
def J.toV : J → V
  | .null => .mk 0 0 noText [] [] []
  | .bool false => .mk 1 0 noText [] [] []
  | .bool true => .mk 2 0 noText [] [] []
  | .num h => .mk 3 h noText [] [] []
  | .str s => .mk 4 0 s [] [] []
  | .arr l => .mk 5 0 noText (toVL l) [] []
  | .obj ks vs => .mk 6 0 noText [] ks (toVL vs)
def toVL : List J → List V
  | [] => []
  | a :: l => a.toV :: toVL l
end

theorem toVL_map : ∀ l, toVL l = l.map J.toV
  | [] => rfl
  | a :: l => by simp [toVL, toVL_map l]
theorem toVL_length (l : List J) : (toVL l).length = l.length := by simp [toVL_map]
theorem toVL_get {l : List J} {i : Nat} {x : J} (h : l[i]? = some x) : (toVL l)[i]? = some x.toV := by simp [toVL_map, h]

abbrev SRep (w : World) (D : Nat → Prop) (j : J) (cs : List Value) : Prop := VRep w D j.toV cs

end Go.Proofs.YtfhppajnnbbcjaaGreatDoor
end

section
namespace Go.Proofs.YtfhppajnnbbcjaaGreatDoor
open Go.RowKit

theorem sign_any (n : Int) (w : World) : Calls Tryz.prog 55 #[.int .i64 n] w fun e w' => e = .returned (.int .i64 (sgn n)) ∧ w = w' := by
  unfold sgn
  go_enter Tryz.func55, Tryz.ntmps55
  go_wp2
  all_goals (go_ret; simp_all)

theorem ret_int {k : IntKind} {a b : Int} (h : a = b) : Ending.returned (.int k a) = .returned (.int k b) := by rw [h]

theorem toList_data (s : ByteArray) : s.toList = s.data.toList := ByteArray.toList_eq s

theorem texts_any (a b : ByteArray) (w : World) : Calls Tryz.prog 56 #[.string a, .string b] w fun e w' => e = .returned (.int .i64 (cmpB a b)) ∧ w = w' := by
  go_enter Tryz.func56, Tryz.ntmps56
  go_wp2
  all_goals (go_ret; refine ⟨ret_int ?_, rfl⟩; simp only [toList_data] at *; unfold cmpB)
  · rw [if_pos (by assumption)]
  · rename_i h1 h2
    rw [if_neg (by simp [h1])]
    split
    · rfl
    · rename_i h3
      have := bl_total _ _ h1 (by simpa using h3)
      simp [this] at h2
  · rename_i h1 h2
    rw [if_neg (by simp [h1])]
    have : a.data.toList = b.data.toList := by simpa using h2
    rw [this, bl_irrefl]
    rfl

theorem quiet_left {P : Program} {f : FuncId} {args : Array Value} {w : World} {n : Nat} {v : Value}
    (h : Calls P f args (w.drewN n) fun e w' => e = .returned v ∧ w.drewN n = w') : Calls P f args (w.drewN n) fun e w'' => e = .returned v ∧ ∃ m, w'' = w.drewN m :=
  h.mono fun _ _ ⟨he, hm⟩ => ⟨he, n, hm.symm⟩
theorem quiet_add_left {P : Program} {f : FuncId} {args : Array Value} {w : World} {a n : Nat} {v : Value}
    (h : Calls P f args (w.drewN (a + n)) fun e w' => e = .returned v ∧ w.drewN (a + n) = w') :
    Calls P f args (w.drewN (a + n)) fun e w'' => e = .returned v ∧ ∃ m, w'' = w.drewN (a + m) :=
  h.mono fun _ _ ⟨he, hm⟩ => ⟨he, n, hm.symm⟩
theorem below_drewN {B : Nat} {a w : World} (h : Below B a w) (n : Nat) : Below B a (w.drewN n) := ⟨h.os, h.tape, h.output, h.size, h.block⟩

theorem cmpK_drop {a b : List ByteArray} {k : Nat} {x y : ByteArray} (hx : a[k]? = some x) (hy : b[k]? = some y) : cmpK (a.drop k) (b.drop k) = if cmpB x y = 0 then cmpK (a.drop (k + 1)) (b.drop (k + 1)) else cmpB x y := by
  have h1 : a.drop k = x :: a.drop (k + 1) := by
    obtain ⟨h, rfl⟩ := List.getElem?_eq_some_iff.1 hx
    exact List.drop_eq_getElem_cons h
  have h2 : b.drop k = y :: b.drop (k + 1) := by
    obtain ⟨h, rfl⟩ := List.getElem?_eq_some_iff.1 hy
    exact List.drop_eq_getElem_cons h
  rw [h1, h2]
  rfl

theorem cmpK_end {a b : List ByteArray} {k : Nat} (hk : k ≤ a.length) (hk' : k ≤ b.length) (h : k = a.length ∨ k = b.length) : cmpK (a.drop k) (b.drop k) = a.length - b.length := by
  rcases h with rfl | rfl
  · simp [cmpK]; omega
  · simp only [List.drop_length]
    cases h : a.drop b.length with
    | nil =>
      have := congrArg List.length h
      simp at this
      simp [cmpK]; omega
    | cons x l =>
      have := congrArg List.length h
      simp at this
      simp [cmpK]; omega

theorem keys_any (a b : List ByteArray) (D : Nat → Prop) (u v : Value) (w : World) (hu : SlAt D a.length u (fun b o => StrRow w b o a)) (hv : SlAt D b.length v (fun b' o => StrRow w b' o b)) :
    Calls Tryz.prog 58 #[u, v] w fun e w' => e = .returned (.int .i64 (cmpK a b)) ∧ Below w.heap.size w w' := by
  obtain ⟨A1, c1, rfl, hc1, hm1, hr1⟩ := hu
  obtain ⟨A2, c2, rfl, hc2, hm2, hr2⟩ := hv
  unfold maxLen at hm1 hm2
  go_enter Tryz.func58, Tryz.ntmps58
  go_wp2
  go_loopw [5] (fun i wr => ∃ k : Nat, k ≤ a.length ∧ k ≤ b.length ∧ i = .int .i64 k ∧ Hid (cmpK a b = cmpK (a.drop k) (b.drop k)) ∧ ∃ n, wr = w.drewN n) (fun i _ => a.length - (intOf i).toNat)
  case atStart => exact ⟨0, Nat.zero_le _, Nat.zero_le _, rfl, rfl, 0, rfl⟩
  case round =>
    obtain ⟨k, hk1, hk2, rfl, he, n, rfl⟩ := hrel
    by_cases ha : k < a.length
    · by_cases hb : k < b.length
      · obtain ⟨b1, o1, rfl, -, hs1⟩ := hr1 (by omega)
        obtain ⟨b2, o2, rfl, -, hs2⟩ := hr2 (by omega)
        have hx : a[k]? = some a[k] := List.getElem?_eq_getElem ha
        have hy : b[k]? = some b[k] := List.getElem?_eq_getElem hb
        have g1 := hs1 k _ hx
        have g2 := hs2 k _ hy
        have HE := Lib.hid (he.out.trans (cmpK_drop hx hy))
        clear hs1 hs2 he hr1 hr2 hx hy
        go_wp2_with fail
        go_quiet ((go_at_call 56; exact quiet_add_left (texts_any _ _ _)))
        by_cases hc : cmpB a[k] b[k] = 0
        · have HC := Lib.hid hc
          have hc' : (cmpB a[k] b[k] != 0) = false := by simp [hc]
          clear hc
          go_wp2
          go_roundw
          case rel => exact ⟨k + 1, by omega, by omega, by go_num, by rw [HE.out, if_pos HC.out]; rfl, _, rfl⟩
          case measure => simp [intOf]; omega
        · have HC := Lib.hid hc
          have hc' : (cmpB a[k] b[k] != 0) = true := by simp [hc]
          clear hc
          go_wp2
          go_ret
          exact ⟨ret_int (by rw [HE.out, if_neg HC.out]), below_drewN (Below.refl _ _) _⟩
      · have hb' : k = b.length := by omega
        have HE := Lib.hid (he.out.trans (cmpK_end hk1 hk2 (.inr hb')))
        clear hb' hr1 hr2 he
        go_wp2
        go_ret
        exact ⟨ret_int (by rw [HE.out]), below_drewN (Below.refl _ _) _⟩
    · have ha' : k = a.length := by omega
      have HE := Lib.hid (he.out.trans (cmpK_end hk1 hk2 (.inl ha')))
      clear ha' hr1 hr2 he
      go_wp2
      go_ret
      exact ⟨ret_int (by rw [HE.out]), below_drewN (Below.refl _ _) _⟩

end Go.Proofs.YtfhppajnnbbcjaaGreatDoor
end

section
namespace Go.Proofs.YtfhppajnnbbcjaaGreatDoor
open Go.RowKit

def J.half : J → Int | .num h => h | _ => 0
def J.text : J → ByteArray | .str s => s | _ => noText
def J.list : J → List J | .arr l => l | _ => []
def J.keys : J → List ByteArray | .obj ks _ => ks | _ => []
def J.vals : J → List J | .obj _ vs => vs | _ => []

mutual
def J.WF : J → Prop
  | .null => True
  | .bool _ => True
  | .num h => -18014398509481984 ≤ h ∧ h ≤ 18014398509481984 ∧ (h % 2 = 0 ∨ (-9007199254740992 < h ∧ h < 9007199254740992))
  | .str s => s.size ≤ 1048576
  | .arr l => l.length ≤ 1048576 ∧ WFL l
  | .obj ks vs => ks.length = vs.length ∧ ks.length ≤ 1048576 ∧ (∀ s ∈ ks, s.size ≤ 1048576) ∧ ks.Pairwise (fun a b => cmpB a b < 0) ∧ WFL vs
def WFL : List J → Prop
  | [] => True
  | a :: l => a.WF ∧ WFL l
end

theorem WFL_iff : ∀ {l : List J}, WFL l ↔ ∀ x ∈ l, x.WF
  | [] => by simp [WFL]
  | a :: l => by simp [WFL, WFL_iff]

theorem WF_half {a : J} (h : a.WF) : -18014398509481984 ≤ a.half ∧ a.half ≤ 18014398509481984 := by
  cases a <;> simp [J.half]
  simp [J.WF] at h
  omega

theorem WF_list {a : J} (h : a.WF) : WFL a.list := by
  cases a <;> simp [J.list, WFL]
  simp only [J.WF] at h
  exact h.2
theorem WF_vals {a : J} (h : a.WF) : WFL a.vals := by
  cases a <;> simp [J.vals, WFL]
  simp only [J.WF] at h
  exact h.2.2.2.2

theorem SRep.cells {w : World} {D : Nat → Prop} {a : J} {ca : List Value} (h : SRep w D a ca) :
    ∃ L K S, ca = [.int .i64 a.kind, .int .i64 a.half, .string a.text, L, K, S] ∧ SlAt D a.list.length L (fun b o => VRow w D b (toVL a.list) o) ∧
      SlAt D a.keys.length K (fun b o => StrRow w b o a.keys) ∧ SlAt D a.vals.length S (fun b o => VRow w D b (toVL a.vals) o) := by
  unfold SRep at h
  cases a with
  | bool b =>
    cases b <;> (simp only [J.toV, VRep] at h; obtain ⟨L, K, S, hc, hl, hk, hs⟩ := h; exact ⟨L, K, S, hc, hl, hk, hs⟩)
  | arr l =>
    simp only [J.toV, VRep] at h
    obtain ⟨L, K, S, hc, hl, hk, hs⟩ := h
    rw [toVL_length] at hl
    exact ⟨L, K, S, hc, hl, hk, hs⟩
  | obj ks vs =>
    simp only [J.toV, VRep] at h
    obtain ⟨L, K, S, hc, hl, hk, hs⟩ := h
    rw [toVL_length] at hs
    exact ⟨L, K, S, hc, hl, hk, hs⟩
  | _ =>
    simp only [J.toV, VRep] at h
    obtain ⟨L, K, S, hc, hl, hk, hs⟩ := h
    exact ⟨L, K, S, hc, hl, hk, hs⟩

/-- the six cells, the slices opened -/
theorem SRep.six {w : World} {D : Nat → Prop} {a : J} {ca : List Value} (h : SRep w D a ca) :
    ∃ A1 c1 A2 c2 A3 c3, ca = [.int .i64 a.kind, .int .i64 a.half, .string a.text, .slice A1 a.list.length c1, .slice A2 a.keys.length c2, .slice A3 a.vals.length c3] := by
  obtain ⟨L, K, S, rfl, ⟨A1, c1, rfl, -⟩, ⟨A2, c2, rfl, -⟩, ⟨A3, c3, rfl, -⟩⟩ := h.cells
  exact ⟨A1, c1, A2, c2, A3, c3, rfl⟩

theorem cmpJ_same {a m : J} (h : a.kind = m.kind) : cmpJ a m = if a.kind = 3 then sgn (a.half - m.half) else if a.kind = 4 then cmpB a.text m.text else if a.kind = 5 then sgn (cmpL a.list m.list) else
    if a.kind = 6 then (if cmpK a.keys m.keys = 0 then sgn (cmpL a.vals m.vals) else sgn (cmpK a.keys m.keys)) else 0 := by
  cases a with
  | bool x =>
    cases x <;> (cases m with
      | bool y => cases y <;> first | rfl | (simp [J.kind] at h)
      | _ => simp [J.kind] at h)
  | _ =>
    cases m with
    | bool y => cases y <;> simp [J.kind] at h
    | _ => first | rfl | (simp [J.kind] at h)

end Go.Proofs.YtfhppajnnbbcjaaGreatDoor
end

section
namespace Go.Proofs.YtfhppajnnbbcjaaGreatDoor
open Go.RowKit

def CmpOK (j : J) : Prop := ∀ (m : J) (D : Nat → Prop) (ca cb : List Value) (w : World), j.WF → m.WF → (∀ b, D b → All w b) → SRep w D j ca → SRep w D m cb →
  Calls Tryz.prog 23 #[.agg ca.toArray, .agg cb.toArray] w fun e w' => e = .returned (.int .i64 (cmpJ j m)) ∧ Below w.heap.size w w'

theorem cmpL_drop {a b : List J} {k : Nat} {x y : J} (hx : a[k]? = some x) (hy : b[k]? = some y) : cmpL (a.drop k) (b.drop k) = if cmpJ x y = 0 then cmpL (a.drop (k + 1)) (b.drop (k + 1)) else cmpJ x y := by
  have h1 : a.drop k = x :: a.drop (k + 1) := by
    obtain ⟨h, rfl⟩ := List.getElem?_eq_some_iff.1 hx
    exact List.drop_eq_getElem_cons h
  have h2 : b.drop k = y :: b.drop (k + 1) := by
    obtain ⟨h, rfl⟩ := List.getElem?_eq_some_iff.1 hy
    exact List.drop_eq_getElem_cons h
  rw [h1, h2]
  simp only [cmpL]

theorem cmpL_end {a b : List J} {k : Nat} (hk : k ≤ a.length) (hk' : k ≤ b.length) (h : k = a.length ∨ k = b.length) : cmpL (a.drop k) (b.drop k) = a.length - b.length := by
  rcases h with rfl | rfl
  · simp [cmpL]; omega
  · simp only [List.drop_length]
    cases h : a.drop b.length with
    | nil =>
      have := congrArg List.length h
      simp at this
      simp [cmpL]; omega
    | cons x l =>
      have := congrArg List.length h
      simp at this
      simp [cmpL]; omega

theorem region_tail {P : Program} {id : Nat} {Q : Exit → Act → World → Prop} {a : Act} {w : World} {l : List Oper} (n : Nat) (hm : P.follows .mixedOrders = true) (hB : Region.lexTailB .any l.toArray n = true)
    (h : wpStill P l.toArray w.drew (fun a' => wpList P l.toArray Q (l.drop n) a' w.drew) (l.take n) a) : (Code.region id l.toArray true).wp P Q a w := wp_region_still_tail n hm hB h

theorem six_of {cs : List Value} (h : cs.length = 6) : ∃ c0 c1 c2 c3 c4 c5, cs = [c0, c1, c2, c3, c4, c5] := by
  match cs, h with
  | [c0, c1, c2, c3, c4, c5], _ => exact ⟨_, _, _, _, _, _, rfl⟩

set_option maxRecDepth 100000 in
theorem lists_of (a b : List J) (hel : ∀ x ∈ a, CmpOK x) (D : Nat → Prop) (u v : Value) (w : World) (wa : WFL a) (wb : WFL b) (hB : ∀ b, D b → All w b) (hu : SlAt D a.length u (fun b o => VRow w D b (toVL a) o)) (hv : SlAt D b.length v (fun b' o => VRow w D b' (toVL b) o)) :
    Calls Tryz.prog 57 #[u, v] w fun e w' => e = .returned (.int .i64 (cmpL a b)) ∧ Below w.heap.size w w' := by
  obtain ⟨A1, c1, rfl, hc1, hm1, hr1⟩ := hu
  obtain ⟨A2, c2, rfl, hc2, hm2, hr2⟩ := hv
  unfold maxLen at hm1 hm2
  go_enter Tryz.func57, Tryz.ntmps57
  go_wp2
  go_loopw [5] (fun i wr => ∃ k : Nat, k ≤ a.length ∧ k ≤ b.length ∧ i = .int .i64 k ∧ Hid (cmpL a b = cmpL (a.drop k) (b.drop k)) ∧ Below w.heap.size w wr) (fun i _ => a.length - (intOf i).toNat)
  case atStart => exact ⟨0, Nat.zero_le _, Nat.zero_le _, rfl, rfl, Below.refl _ _⟩
  case round =>
    obtain ⟨k, hk1, hk2, rfl, he, hb⟩ := hrel
    have hsame := Same.of_below hb hB
    have hsz := hb.size
    by_cases ha : k < a.length
    · by_cases hb' : k < b.length
      · obtain ⟨b1, o1, rfl, hlt1, hs1⟩ := hr1 (by omega)
        obtain ⟨b2, o2, rfl, hlt2, hs2⟩ := hr2 (by omega)
        have hx : a[k]? = some a[k] := List.getElem?_eq_getElem ha
        have hy : b[k]? = some b[k] := List.getElem?_eq_getElem hb'
        obtain ⟨cs1, hl1, hg1, hv1⟩ := (VRow.keep hsame (fun _ h => h) _ _ _ hlt1 hs1).get (toVL_get hx)
        obtain ⟨cs2, hl2, hg2, hv2⟩ := (VRow.keep hsame (fun _ h => h) _ _ _ hlt2 hs2).get (toVL_get hy)
        have HC := Lib.hid (fun W (hW : Below wr.heap.size wr W) => hel a[k] (List.getElem_mem _) b[k] D cs1 cs2 W (WFL_iff.1 wa _ (List.getElem_mem _)) (WFL_iff.1 wb _ (List.getElem_mem _)) (fun b hb => Nat.lt_of_lt_of_le (Nat.lt_of_lt_of_le (hB b hb) hsz) hW.size) (VRep.keep (Same.of_below hW fun b hb => Nat.lt_of_lt_of_le (hB b hb) hsz) (fun _ h => h) _ _ hv1) (VRep.keep (Same.of_below hW fun b hb => Nat.lt_of_lt_of_le (hB b hb) hsz) (fun _ h => h) _ _ hv2))
        obtain ⟨x0, x1, x2, x3, x4, x5, rfl⟩ := six_of hl1
        obtain ⟨y0, y1, y2, y3, y4, y5, rfl⟩ := six_of hl2
        have p0 : wr.cell? ⟨b1, o1 + k * 6, none⟩ = _ := hg1 0 _ rfl
        have p1 := hg1 1 _ rfl
        have p2 := hg1 2 _ rfl
        have p3 := hg1 3 _ rfl
        have p4 := hg1 4 _ rfl
        have p5 := hg1 5 _ rfl
        have q0 : wr.cell? ⟨b2, o2 + k * 6, none⟩ = _ := hg2 0 _ rfl
        have q1 := hg2 1 _ rfl
        have q2 := hg2 2 _ rfl
        have q3 := hg2 3 _ rfl
        have q4 := hg2 4 _ rfl
        have q5 := hg2 5 _ rfl
        have HE := Lib.hid (he.out.trans (cmpL_drop hx hy))
        clear hs1 hs2 he hr1 hr2 hx hy hg1 hg2 hv1 hv2 hsame hl1 hl2 hel wa wb
        go_wp2_with fail
        refine region_tail 8 (by kernel_rfl) (by kernel_rfl) ?_
        simp only [List.take_succ_cons, List.take_zero, List.drop_succ_cons, List.drop_zero]
        repeat still_step
        refine wpStill_nil ?_
        go_wp2_with fail
        refine (HC.out _ ?_).mono ?_
        · exact (Below.refl _ _).drew
        rintro e w1 ⟨rfl, hb1⟩
        have hb2 : Below w.heap.size w w1 := hb.drew.trans (hb1.mono hsz)
        by_cases hc : cmpJ a[k] b[k] = 0
        · have HZ := Lib.hid hc
          have hc' : (cmpJ a[k] b[k] != 0) = false := by simp [hc]
          clear hc hb1
          go_wp2
          go_roundw
          case rel => exact ⟨k + 1, by omega, by omega, by go_num, by rw [HE.out, if_pos HZ.out]; rfl, hb2⟩
          case measure => simp [intOf]; omega
        · have HZ := Lib.hid hc
          have hc' : (cmpJ a[k] b[k] != 0) = true := by simp [hc]
          clear hc hb1
          go_wp2
          go_ret
          exact ⟨ret_int (by rw [HE.out, if_neg HZ.out]), hb2⟩
      · have hb'' : k = b.length := by omega
        have HE := Lib.hid (he.out.trans (cmpL_end hk1 hk2 (.inr hb'')))
        clear hb'' hr1 hr2 he wa wb
        go_wp2
        go_ret
        exact ⟨ret_int (by rw [HE.out]), hb⟩
    · have ha' : k = a.length := by omega
      have HE := Lib.hid (he.out.trans (cmpL_end hk1 hk2 (.inl ha')))
      clear ha' hr1 hr2 he wa wb
      go_wp2
      go_ret
      exact ⟨ret_int (by rw [HE.out]), hb⟩

end Go.Proofs.YtfhppajnnbbcjaaGreatDoor
end

section
namespace Go.Proofs.YtfhppajnnbbcjaaGreatDoor
open Go.RowKit

def ListsOK (a : List J) : Prop := ∀ (b : List J) (D : Nat → Prop) (u v : Value) (w : World), WFL a → WFL b → (∀ b, D b → All w b) → SlAt D a.length u (fun b o => VRow w D b (toVL a) o) → SlAt D b.length v (fun b' o => VRow w D b' (toVL b) o) →
    Calls Tryz.prog 57 #[u, v] w fun e w' => e = .returned (.int .i64 (cmpL a b)) ∧ Below w.heap.size w w'

set_option maxRecDepth 100000 in
theorem Cmp_of (a : J) (h1 : ListsOK a.list) (h2 : ListsOK a.vals) : CmpOK a := by
  intro m D ca cb w wa wm hB ha hm
  obtain ⟨L, K, S, rfl, hL, hK, hS⟩ := ha.cells
  obtain ⟨L', K', S', rfl, hL', hK', hS'⟩ := hm.cells
  have k1 := kind_bd a
  have k2 := kind_bd m
  have v1 := WF_half wa
  have v2 := WF_half wm
  have hbel : Below w.heap.size w ((w.alloc (.cells #[.int .i64 a.kind, .int .i64 a.half, .string a.text, L, K, S] 26)).alloc (.cells #[.int .i64 m.kind, .int .i64 m.half, .string m.text, L', K', S'] 26)) :=
    ((Below.refl _ _).alloc (Nat.le_refl _) _).alloc (by simp) _
  have hsz : w.heap.size + 2 ≤ ((w.alloc (.cells #[.int .i64 a.kind, .int .i64 a.half, .string a.text, L, K, S] 26)).alloc (.cells #[.int .i64 m.kind, .int .i64 m.half, .string m.text, L', K', S'] 26)).heap.size := by simp
  have hsame : Same D w ((w.alloc (.cells #[.int .i64 a.kind, .int .i64 a.half, .string a.text, L, K, S] 26)).alloc (.cells #[.int .i64 m.kind, .int .i64 m.half, .string m.text, L', K', S'] 26)) := Same.of_below hbel hB
  by_cases hk : a.kind = m.kind
  · have hk0 : (a.kind != m.kind) = false := by simp [hk]
    have hj := cmpJ_same hk
    by_cases e3 : a.kind = 3
    · rw [if_pos e3] at hj
      have HK := Lib.hid hj
      have b3 : (a.kind == 3) = true := by simp [e3]
      clear h1 h2 hL hK hS hL' hK' hS' hk wa wm hj e3 hsz hsame
      go_enter Tryz.func23, Tryz.ntmps23
      go_wp2_with (go_at_call 55; refine (sign_any _ _).mono ?_; rintro e w' ⟨rfl, rfl⟩)
      go_ret
      exact ⟨ret_int HK.out.symm, hbel⟩
    rw [if_neg e3] at hj
    have b3 : (a.kind == 3) = false := by simp [e3]
    by_cases e4 : a.kind = 4
    · rw [if_pos e4] at hj
      have HK := Lib.hid hj
      have b4 : (a.kind == 4) = true := by simp [e4]
      clear h1 h2 hL hK hS hL' hK' hS' hk wa wm hj e3 e4 hsz hsame
      go_enter Tryz.func23, Tryz.ntmps23
      go_wp2_with (go_at_call 56; refine (texts_any _ _ _).mono ?_; rintro e w' ⟨rfl, rfl⟩)
      go_ret
      exact ⟨ret_int HK.out.symm, hbel⟩
    rw [if_neg e4] at hj
    have b4 : (a.kind == 4) = false := by simp [e4]
    by_cases e5 : a.kind = 5
    · rw [if_pos e5] at hj
      have HK := Lib.hid hj
      have b5 : (a.kind == 5) = true := by simp [e5]
      have HC := Lib.hid (h1 m.list D L L' _ (WF_list wa) (WF_list wm) (fun b hb => Nat.lt_of_lt_of_le (hB b hb) hbel.size) (hL.mono (fun _ h => h) fun b o hb hr => VRow.keep hsame (fun _ h => h) _ _ _ hb hr) (hL'.mono (fun _ h => h) fun b o hb hr => VRow.keep hsame (fun _ h => h) _ _ _ hb hr))
      clear h1 h2 hL hK hS hL' hK' hS' hk wa wm hj e3 e4 e5 hsz hsame
      go_enter Tryz.func23, Tryz.ntmps23
      go_wp2_with (first | (go_at_call 57; refine HC.out.mono ?_; rintro e w1 ⟨rfl, hb1⟩) | (go_at_call 55; refine (sign_any _ _).mono ?_; rintro e w' ⟨rfl, rfl⟩))
      go_ret
      exact ⟨ret_int HK.out.symm, hbel.trans (hb1.mono (by simp; omega))⟩
    rw [if_neg e5] at hj
    have b5 : (a.kind == 5) = false := by simp [e5]
    by_cases e6 : a.kind = 6
    · rw [if_pos e6] at hj
      have b6 : (a.kind == 6) = true := by simp [e6]
      have HC := Lib.hid (keys_any a.keys m.keys D K K' _ (hK.mono (fun _ h => h) fun b o hb hr => StrRow.keep hsame hb hr) (hK'.mono (fun _ h => h) fun b o hb hr => StrRow.keep hsame hb hr))
      have HL := Lib.hid (fun W (hW : Below ((w.alloc (.cells #[.int .i64 a.kind, .int .i64 a.half, .string a.text, L, K, S] 26)).alloc (.cells #[.int .i64 m.kind, .int .i64 m.half, .string m.text, L', K', S'] 26)).heap.size ((w.alloc (.cells #[.int .i64 a.kind, .int .i64 a.half, .string a.text, L, K, S] 26)).alloc (.cells #[.int .i64 m.kind, .int .i64 m.half, .string m.text, L', K', S'] 26)) W) =>
        h2 m.vals D S S' W (WF_vals wa) (WF_vals wm) (fun b hb => Nat.lt_of_lt_of_le (Nat.lt_of_lt_of_le (hB b hb) hbel.size) hW.size) (hS.mono (fun _ h => h) fun b o hb hr => VRow.keep (fun k hk => (hW.block k (Nat.lt_of_lt_of_le (hB k hk) hbel.size)).trans (hsame k hk)) (fun _ h => h) _ _ _ hb hr) (hS'.mono (fun _ h => h) fun b o hb hr => VRow.keep (fun k hk => (hW.block k (Nat.lt_of_lt_of_le (hB k hk) hbel.size)).trans (hsame k hk)) (fun _ h => h) _ _ _ hb hr))
      by_cases hz : cmpK a.keys m.keys = 0
      · rw [if_pos hz] at hj
        have HK := Lib.hid hj
        have hz0 : (cmpK a.keys m.keys != 0) = false := by simp [hz]
        clear h1 h2 hL hK hS hL' hK' hS' hk wa wm hj e3 e4 e5 e6 hsz hsame hz
        go_enter Tryz.func23, Tryz.ntmps23
        go_wp2_with fail
        refine HC.out.mono ?_
        rintro e w1 ⟨rfl, hb1⟩
        have c1 : w1.cell? ⟨w.heap.size, 5, none⟩ = some S := (hb1.cell (by simp; omega)).trans (by simp)
        have c2 : w1.cell? ⟨w.heap.size + 1, 5, none⟩ = some S' := (hb1.cell (by simp)).trans (by simp)
        have HL' := Lib.hid (HL.out w1 hb1)
        have hb2 := hbel.trans (hb1.mono (by simp; omega))
        clear HL hb1
        go_wp2_with (first | (go_at_call 57; refine HL'.out.mono ?_; rintro e w2 ⟨rfl, hb3⟩) | (go_at_call 55; refine (sign_any _ _).mono ?_; rintro e w' ⟨rfl, rfl⟩))
        go_ret
        exact ⟨ret_int HK.out.symm, hb2.trans (hb3.mono hb2.size)⟩
      · rw [if_neg hz] at hj
        have HK := Lib.hid hj
        have hz0 : (cmpK a.keys m.keys != 0) = true := by simp [hz]
        clear h1 h2 hL hK hS hL' hK' hS' hk wa wm hj e3 e4 e5 e6 hsz hsame hz HL
        go_enter Tryz.func23, Tryz.ntmps23
        go_wp2_with (first | (go_at_call 58; refine HC.out.mono ?_; rintro e w1 ⟨rfl, hb1⟩) | (go_at_call 55; refine (sign_any _ _).mono ?_; rintro e w' ⟨rfl, rfl⟩))
        go_ret
        exact ⟨ret_int HK.out.symm, hbel.trans (hb1.mono (by simp; omega))⟩
    rw [if_neg e6] at hj
    have b6 : (a.kind == 6) = false := by simp [e6]
    have HK := Lib.hid hj
    clear h1 h2 hL hK hS hL' hK' hS' hk wa wm hj e3 e4 e5 e6 hsz hsame
    go_enter Tryz.func23, Tryz.ntmps23
    go_wp2_with fail
    go_ret
    exact ⟨ret_int HK.out.symm, hbel⟩
  · have HK := Lib.hid (cmpJ_kind hk)
    have hk1 : (a.kind != m.kind) = true := by simp [hk]
    clear h1 h2 hL hK hS hL' hK' hS' hk wa wm hsz hsame
    go_enter Tryz.func23, Tryz.ntmps23
    go_wp2_with (go_at_call 55; refine (sign_any _ _).mono ?_; rintro e w' ⟨rfl, rfl⟩)
    go_ret
    exact ⟨ret_int HK.out.symm, hbel⟩

theorem lists_of' (a : List J) (h : ∀ x ∈ a, CmpOK x) : ListsOK a := fun b D u v w wa wb hB hu hv => lists_of a b h D u v w wa wb hB hu hv
theorem lists_nil : ListsOK [] := lists_of' [] (fun _ h => absurd h (by simp))

mutual
theorem cmp_all : ∀ a : J, CmpOK a
  | .arr l => Cmp_of (.arr l) (lists_of' l (elems_all l)) lists_nil
  | .obj _ vs => Cmp_of (.obj _ vs) lists_nil (lists_of' vs (elems_all vs))
  | .null => Cmp_of .null lists_nil lists_nil
  | .bool b => Cmp_of (.bool b) lists_nil lists_nil
  | .num h => Cmp_of (.num h) lists_nil lists_nil
  | .str s => Cmp_of (.str s) lists_nil lists_nil
theorem elems_all : ∀ l : List J, ∀ x ∈ l, CmpOK x
  | [], _, h => absurd h (by simp)
  | a :: l, x, h => (List.mem_cons.1 h).elim (fun e => e ▸ cmp_all a) (elems_all l x)
end

theorem lists_all (a : List J) : ListsOK a := lists_of' a (elems_all a)

theorem ret_bool {a b : Bool} (h : a = b) : Ending.returned (.bool a) = .returned (.bool b) := by rw [h]

/-- spec.Same -/
theorem same_any (a m : J) (D : Nat → Prop) (ca cb : List Value) (w : World) (wa : a.WF) (wm : m.WF) (hB : ∀ b, D b → All w b) (ha : SRep w D a ca) (hm : SRep w D m cb) :
    Calls Tryz.prog 24 #[.agg ca.toArray, .agg cb.toArray] w fun e w' => e = .returned (.bool (cmpJ a m == 0)) ∧ Below w.heap.size w w' := by
  obtain ⟨L, K, S, rfl, -⟩ := ha.cells
  obtain ⟨L', K', S', rfl, -⟩ := hm.cells
  have HC := Lib.hid (fun W (hW : Below w.heap.size w W) => cmp_all a m D _ _ W wa wm (fun b hb => Nat.lt_of_lt_of_le (hB b hb) hW.size) (VRep.keep (Same.of_below hW hB) (fun _ h => h) _ _ ha) (VRep.keep (Same.of_below hW hB) (fun _ h => h) _ _ hm))
  have hbel : Below w.heap.size w ((w.alloc (.cells #[.int .i64 a.kind, .int .i64 a.half, .string a.text, L, K, S] 26)).alloc (.cells #[.int .i64 m.kind, .int .i64 m.half, .string m.text, L', K', S'] 26)) :=
    ((Below.refl _ _).alloc (Nat.le_refl _) _).alloc (by simp) _
  clear ha hm wa wm
  go_enter Tryz.func24, Tryz.ntmps24
  go_wp2_with (go_at_call 23; refine (HC.out _ hbel).mono ?_; rintro e w1 ⟨rfl, hb1⟩)
  go_ret
  exact ⟨rfl, hbel.trans (hb1.mono hbel.size)⟩

end Go.Proofs.YtfhppajnnbbcjaaGreatDoor
end
