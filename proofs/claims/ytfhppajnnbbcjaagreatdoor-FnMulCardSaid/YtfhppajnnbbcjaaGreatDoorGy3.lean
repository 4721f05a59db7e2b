/- The plain law of spec.Fit: a raw value that passes is a JSON value within the bounds.
   Walks: impl.toGo.
   Walks: impl.mapToGo, impl.toGo.
   Walks: impl.toGo. -/
import Derived.Test.YtfhppajnnbbcjaaGreatDoorGy2
import Derived.Test.YtfhppajnnbbcjaaGreatDoorGy1
import Derived.StringKeys

section
namespace Go.Proofs.YtfhppajnnbbcjaaGreatDoor
open Go.RowKit

def sumK : List ByteArray → Nat
  | [] => 0
  | k :: ks => k.size + sumK ks

mutual
/-- all strings are valid UTF-8 -/
def J.Ok : J → Prop
  | .str s => okS s = true
  | .arr l => OkL l
  | .obj ks vs => (∀ k ∈ ks, okS k = true) ∧ OkL vs
  | _ => True
def OkL : List J → Prop
  | [] => True
  | a :: l => a.Ok ∧ OkL l
end

mutual
/-- how many values -/
def J.parts : J → Nat
  | .arr l => 1 + partsL l
  | .obj _ vs => 1 + partsL vs
  | _ => 1
def partsL : List J → Nat
  | [] => 0
  | a :: l => a.parts + partsL l
end

mutual
/-- how many bytes of text -/
def J.bytes : J → Nat
  | .str s => s.size
  | .arr l => bytesL l
  | .obj ks vs => sumK ks + bytesL vs
  | _ => 0
def bytesL : List J → Nat
  | [] => 0
  | a :: l => a.bytes + bytesL l
end

theorem OkL_iff : ∀ {l : List J}, OkL l ↔ ∀ x ∈ l, x.Ok
  | [] => by simp [OkL]
  | a :: l => by simp [OkL, OkL_iff]

theorem J.parts_pos (a : J) : 1 ≤ a.parts := by cases a <;> simp [J.parts]

theorem partsL_length : ∀ l : List J, l.length ≤ partsL l
  | [] => by simp [partsL]
  | a :: l => by have := partsL_length l; have := a.parts_pos; simp [partsL]; omega

theorem partsL_snoc (a : J) : ∀ l : List J, partsL (l ++ [a]) = partsL l + a.parts
  | [] => by simp [partsL]
  | x :: l => by simp [partsL, partsL_snoc a l]; omega
theorem bytesL_snoc (a : J) : ∀ l : List J, bytesL (l ++ [a]) = bytesL l + a.bytes
  | [] => by simp [bytesL]
  | x :: l => by simp [bytesL, bytesL_snoc a l]; omega
theorem sumK_snoc (a : ByteArray) : ∀ l : List ByteArray, sumK (l ++ [a]) = sumK l + a.size
  | [] => by simp [sumK]
  | x :: l => by simp [sumK, sumK_snoc a l]; omega
theorem sumK_le {k : ByteArray} : ∀ {l : List ByteArray}, k ∈ l → k.size ≤ sumK l
  | [], h => by simp at h
  | x :: l, h => by
    rcases List.mem_cons.1 h with rfl | h
    · simp [sumK]
    · have := sumK_le h; simp [sumK]; omega
theorem toVL_snoc (a : J) (l : List J) : toVL (l ++ [a]) = toVL l ++ [a.toV] := by simp [toVL_map]

/-- a JSON value within the bounds -/
structure J.Good (a : J) (n m : Int) : Prop where
  wf : a.WF
  ok : a.Ok
  parts : (a.parts : Int) ≤ n
  bytes : (a.bytes : Int) ≤ m

def GoodV (v : V) (n m : Int) : Prop := ∃ j : J, v = j.toV ∧ j.Good n m

structure GoodL (js : List J) (n m : Int) : Prop where
  wf : WFL js
  ok : OkL js
  parts : (partsL js : Int) ≤ n
  bytes : (bytesL js : Int) ≤ m

theorem GoodL.snoc {js : List J} {a : J} {n m n' m' : Int} (h : GoodL js n m) (ha : a.Good n' m') : GoodL (js ++ [a]) (n + n') (m + m') where
  wf := WFL_iff.2 fun x hx => by
    rcases List.mem_append.1 hx with h1 | h1
    · exact WFL_iff.1 h.wf x h1
    · simp at h1; subst h1; exact ha.wf
  ok := OkL_iff.2 fun x hx => by
    rcases List.mem_append.1 hx with h1 | h1
    · exact OkL_iff.1 h.ok x h1
    · simp at h1; subst h1; exact ha.ok
  parts := by have := h.parts; have := ha.parts; rw [partsL_snoc]; omega
  bytes := by have := h.bytes; have := ha.bytes; rw [bytesL_snoc]; omega

/-- what has been asked of the fields, of l up to n1, of the keys and values up to n2 -/
structure LkGood (k h : Int) (t : ByteArray) (l : List V) (ks : List ByteArray) (vs : List V) (n1 n2 : Nat) (n m : Int) : Prop where
  k0 : 0 ≤ k
  k6 : k ≤ 6
  half : k = 3 ∨ h = 0
  text : k = 4 ∨ t = ⟨#[]⟩
  list : k = 5 ∨ l.length = 0
  keys : k = 6 ∨ ks.length = 0
  same : ks.length = vs.length
  lo : -18014398509481984 ≤ h
  hi : h ≤ 18014398509481984
  odd : h % 2 = 0 ∨ (-9007199254740992 < h ∧ h < 9007199254740992)
  okt : okS t = true
  size : (t.size : Int) ≤ m
  okks : ∀ s ∈ ks.take n2, okS s = true
  sorted : (ks.take n2).Pairwise (fun a b => cmpB a b < 0)
  rest : ∃ js1 js2, l.take n1 = toVL js1 ∧ vs.take n2 = toVL js2 ∧ WFL js1 ∧ OkL js1 ∧ WFL js2 ∧ OkL js2 ∧ (1 + partsL js1 + partsL js2 : Int) ≤ n ∧ (t.size + bytesL js1 + sumK (ks.take n2) + bytesL js2 : Int) ≤ m

variable {k h : Int} {t : ByteArray} {l : List V} {ks : List ByteArray} {vs : List V} {n1 n2 : Nat} {n m n' m' : Int}

theorem take_snocG {α : Type} {l : List α} {k : Nat} {x : α} (h : l[k]? = some x) : l.take (k + 1) = l.take k ++ [x] := by
  obtain ⟨hk, rfl⟩ := List.getElem?_eq_some_iff.1 h
  exact List.take_succ_eq_append_getElem hk

theorem LkGood.elem (g : LkGood k h t l ks vs n1 n2 n m) {x : V} (hx : l[n1]? = some x) (gx : GoodV x n' m') (hm : 0 ≤ m') : LkGood k h t l ks vs (n1 + 1) n2 (n + n') (m + m') := by
  obtain ⟨j, rfl, gj⟩ := gx
  obtain ⟨js1, js2, h1, h2, w1, o1, w2, o2, hn, hb⟩ := g.rest
  refine { g with size := by have := g.size; omega, rest := ⟨js1 ++ [j], js2, ?_, h2, ?_, ?_, w2, o2, ?_, ?_⟩ }
  · rw [take_snocG hx, h1, toVL_snoc]
  · exact (GoodL.snoc (n := partsL js1) (m := bytesL js1) ⟨w1, o1, Int.le_refl _, Int.le_refl _⟩ gj).wf
  · exact (GoodL.snoc (n := partsL js1) (m := bytesL js1) ⟨w1, o1, Int.le_refl _, Int.le_refl _⟩ gj).ok
  · have := gj.parts; rw [partsL_snoc]; omega
  · have := gj.bytes; rw [bytesL_snoc]; omega

theorem LkGood.entry (g : LkGood k h t l ks vs n1 n2 n m) {s : ByteArray} {x : V} (hs : ks[n2]? = some s) (hx : vs[n2]? = some x) (gx : GoodV x n' m') (hm : 0 ≤ m') (hok : okS s = true) (hlt : ∀ r, n2 ≠ 0 → ks[n2 - 1]? = some r → cmpB r s < 0) :
    LkGood k h t l ks vs n1 (n2 + 1) (n + n') (m + s.size + m') := by
  obtain ⟨j, rfl, gj⟩ := gx
  obtain ⟨js1, js2, h1, h2, w1, o1, w2, o2, hn, hb⟩ := g.rest
  refine { g with size := by have := g.size; omega, okks := ?_, sorted := ?_, rest := ⟨js1, js2 ++ [j], h1, ?_, w1, o1, ?_, ?_, ?_, ?_⟩ }
  · rw [take_snocG hs]
    intro r hr
    rcases List.mem_append.1 hr with h1 | h1
    · exact g.okks r h1
    · simp at h1; subst h1; exact hok
  · rw [take_snocG hs, List.pairwise_append]
    refine ⟨g.sorted, by simp, fun a ha b hb => ?_⟩
    simp at hb
    subst hb
    obtain ⟨i, hi, rfl⟩ := List.getElem_of_mem ha
    have hi2 : i < n2 := by simp at hi; omega
    have hn2 : n2 < ks.length := (List.getElem?_eq_some_iff.1 hs).1
    obtain ⟨r, hr⟩ : ∃ r, ks[n2 - 1]? = some r := ⟨_, List.getElem?_eq_getElem (by omega)⟩
    have hlast := hlt r (by omega) hr
    by_cases he : i = n2 - 1
    · subst he
      rw [List.getElem_take]
      rw [List.getElem?_eq_getElem (by omega)] at hr
      simp at hr
      rw [hr]
      exact hlast
    · have hpw := List.pairwise_iff_getElem.1 g.sorted i (n2 - 1) hi (by simp; omega) (by omega)
      have e2 : (ks.take n2)[n2 - 1]'(by simp; omega) = r := by
        rw [List.getElem_take]
        rw [List.getElem?_eq_getElem (by omega)] at hr
        simpa using hr
      rw [e2] at hpw
      exact cmpB_trans hpw hlast
  · rw [take_snocG hx, h2, toVL_snoc]
  · exact (GoodL.snoc (n := partsL js2) (m := bytesL js2) ⟨w2, o2, Int.le_refl _, Int.le_refl _⟩ gj).wf
  · exact (GoodL.snoc (n := partsL js2) (m := bytesL js2) ⟨w2, o2, Int.le_refl _, Int.le_refl _⟩ gj).ok
  · have := gj.parts; rw [partsL_snoc]; omega
  · have := gj.bytes; rw [bytesL_snoc, take_snocG hs, sumK_snoc]; omega

/-- asked whole -/
theorem LkGood.whole (g : LkGood k h t l ks vs l.length ks.length n m) (hn : n ≤ 400) (hm : m ≤ 2000) : GoodV (.mk k h t l ks vs) n m := by
  obtain ⟨js1, js2, h1, h2, w1, o1, w2, o2, hp, hb⟩ := g.rest
  have hokk := g.okks
  have hso := g.sorted
  have hsame := g.same
  rw [List.take_length] at h1 hokk hso hb
  rw [hsame, List.take_length] at h2
  have hlo := g.lo; have hhi := g.hi; have hodd := g.odd
  have hk0 := g.k0; have hk6 := g.k6
  have hcase : k = 0 ∨ k = 1 ∨ k = 2 ∨ k = 3 ∨ k = 4 ∨ k = 5 ∨ k = 6 := by omega
  have nolist : k ≠ 5 → l = [] := fun h => by rcases g.list with h1 | h1; exact absurd h1 h; exact List.length_eq_zero_iff.1 h1
  have nokeys : k ≠ 6 → ks = [] := fun h => by rcases g.keys with h1 | h1; exact absurd h1 h; exact List.length_eq_zero_iff.1 h1
  have novals : k ≠ 6 → vs = [] := fun h => by
    have := nokeys h
    rw [this] at hsame
    exact List.length_eq_zero_iff.1 hsame.symm
  have nohalf : k ≠ 3 → h = 0 := fun h => by rcases g.half with h1 | h1; exact absurd h1 h; exact h1
  have notext : k ≠ 4 → t = ⟨#[]⟩ := fun h => by rcases g.text with h1 | h1; exact absurd h1 h; exact h1
  have hl1 := partsL_length js1
  have hl2 := partsL_length js2
  have e1 : js1.length = l.length := by rw [h1, toVL_length]
  have e2 : js2.length = vs.length := by rw [h2, toVL_length]
  have hsz := g.size
  rcases hcase with e | e | e | e | e | e | e <;> subst e
  · rw [nolist (by decide), nokeys (by decide), novals (by decide), nohalf (by decide), notext (by decide)]
    exact ⟨.null, rfl, trivial, trivial, by simp [J.parts]; omega, by simp [J.bytes]; omega⟩
  · rw [nolist (by decide), nokeys (by decide), novals (by decide), nohalf (by decide), notext (by decide)]
    exact ⟨.bool false, rfl, trivial, trivial, by simp [J.parts]; omega, by simp [J.bytes]; omega⟩
  · rw [nolist (by decide), nokeys (by decide), novals (by decide), nohalf (by decide), notext (by decide)]
    exact ⟨.bool true, rfl, trivial, trivial, by simp [J.parts]; omega, by simp [J.bytes]; omega⟩
  · rw [nolist (by decide), nokeys (by decide), novals (by decide), notext (by decide)]
    exact ⟨.num h, rfl, ⟨hlo, hhi, hodd⟩, trivial, by simp [J.parts]; omega, by simp [J.bytes]; omega⟩
  · rw [nolist (by decide), nokeys (by decide), novals (by decide), nohalf (by decide)]
    exact ⟨.str t, rfl, show t.size ≤ 1048576 by omega, g.okt, by simp [J.parts]; omega, by simp [J.bytes]; omega⟩
  · rw [nokeys (by decide), novals (by decide), nohalf (by decide), notext (by decide), h1]
    exact ⟨.arr js1, rfl, ⟨by omega, w1⟩, o1, by simp [J.parts]; omega, by simp [J.bytes]; omega⟩
  · rw [nolist (by decide), nohalf (by decide), notext (by decide), h2]
    refine ⟨.obj ks js2, rfl, ⟨by omega, by omega, fun s hs => ?_, hso, w2⟩, ⟨hokk, o2⟩, by simp [J.parts]; omega, by simp [J.bytes]; omega⟩
    have := sumK_le hs
    omega

end Go.Proofs.YtfhppajnnbbcjaaGreatDoor
end

section
namespace Go.Proofs.YtfhppajnnbbcjaaGreatDoor
open Go.RowKit

/-- what is new in w' since w -/
abbrev Fresh (w w' : World) : Nat → Prop := fun b => w.heap.size ≤ b ∧ b < w'.heap.size

def ToGoPost (j : J) (w : World) (e : Ending) (w' : World) : Prop :=
  ∃ v, e = .returned (.tuple #[v, .bool true]) ∧ ARep w' (Fresh w w') j v ∧ Below w.heap.size w w'

def ToGoOK (j : J) : Prop := ∀ (D : Nat → Prop) (ca : List Value) (w : World), j.WF → (∀ b, D b → All w b) → SRep w D j ca → Calls Tryz.prog 42 #[.agg ca.toArray] w (ToGoPost j w)

def ListToGoPost (l : List J) (w : World) (e : Ending) (w' : World) : Prop :=
  ∃ S, e = .returned (.tuple #[S, .bool true]) ∧ SlAt (Fresh w w') l.length S (fun b o => ARow w' (Fresh w w') b l o) ∧ Below w.heap.size w w'

theorem run_make_rowN {P : Program} (t e : TypeId) (i : TypeInfo) (z : Value) (ht : P.underlying t = some (.slice e)) (hi : P.info? e = some i) (hz : i.zero = some z)
    (kl kc : IntKind) (n c : Nat) (hnc : n ≤ c) (hbytes : i.bytes * c ≤ 281474976710656) (h63 : c ≤ 9223372036854775807) (w : World) :
    (Instr.makeSlice t (.int kl (n : Int)) (.int kc (c : Int))).run P w = .ok (.slice (some ⟨w.heap.size, 0, none⟩) n c) (w.alloc (.cells (madeCells z.cells (c * i.size)) e)) := by
  have hb : (i.bytes : Int) * (c : Int) ≤ 281474976710656 := by
    have h : ((i.bytes * c : Nat) : Int) ≤ 281474976710656 := by omega
    rwa [Int.natCast_mul] at h
  have hr := run_make (P := P) w t e i z ht hi hz kl kc n c (by omega) (by omega) hb (by omega)
  simp only [Int.toNat_natCast] at hr
  exact hr
theorem run_makeMap_hint {P : Program} (t k e : TypeId) (kd : IntKind) (n : Int) (ht : P.underlying t = some (.map k e)) (w : World) :
    (Instr.makeMap t (some (.int kd n))).run P w = .ok (.map (some w.heap.size)) (w.alloc (.map #[] 0)) := by
  simp [Instr.makeMap, run_underlying ht]; rfl

theorem Tryz.info20 : (Tryz.prog.info? 20).map (fun i => (i.zero, i.size, i.bytes)) = some (some .nilIface, 1, 16) := by kernel_rfl

/-- what make([]any, n) does -/
theorem make_any (n : Nat) (hn : n ≤ 1048576) (w : World) : ∃ c : Array Value, c.size = n ∧ (Instr.makeSlice 88 (.int .i64 (n : Int)) (.int .i64 (n : Int))).run Tryz.prog w = .ok (.slice (some ⟨w.heap.size, 0, none⟩) n n) (w.alloc (.cells c 20)) := by
  obtain ⟨i, hi, hz, hs, hb⟩ := info_parts Tryz.info20
  exact ⟨_, by rw [hs]; simp [madeCells], run_make_rowN 88 20 i .nilIface Tryz.underlying88 hi hz .i64 .i64 n n (Nat.le_refl _) (by rw [hb]; omega) (by omega) w⟩

theorem ARep.one {w : World} {D : Nat → Prop} {j : J} {v : Value} (h : ARep w D j v) : v.oneCell' = true := by
  cases j with
  | null => rw [show v = _ from h]; rfl
  | bool b => rw [show v = _ from h]; rfl
  | num n => rw [show v = _ from h]; unfold numV; split <;> rfl
  | str s => rw [show v = _ from h]; rfl
  | arr l => obtain ⟨S, rfl, -⟩ := h; rfl
  | obj ks vs => obtain ⟨r, xs, rfl, -⟩ := h; rfl

theorem ARep.shape {w : World} {D : Nat → Prop} {j : J} {v : Value} (h : ARep w D j v) : v = .nilIface ∨ ∃ t u, v = .iface t u := by
  cases j with
  | null => exact .inl h
  | bool b => exact .inr ⟨_, _, h⟩
  | num n => right; rw [show v = _ from h]; unfold numV; split <;> exact ⟨_, _, rfl⟩
  | str s => exact .inr ⟨_, _, h⟩
  | arr l => obtain ⟨S, rfl, -⟩ := h; exact .inr ⟨_, _, rfl⟩
  | obj ks vs => obtain ⟨r, xs, rfl, -⟩ := h; exact .inr ⟨_, _, rfl⟩

@[go_sem] theorem run_store_iface (P : Program) (w : World) (a : Addr) (m : Mode) (t : TypeId) (u : Value) : (store a (.iface t u) m).run P w = stored P w a (.iface t u) m := run_store P w a _ m rfl
@[go_sem] theorem run_store_nilIface (P : Program) (w : World) (a : Addr) (m : Mode) : (store a .nilIface m).run P w = stored P w a .nilIface m := run_store P w a _ m rfl

/-- the row of a new list, filled up to k -/
def LRel (l : List J) (w wr : World) (k : Nat) : Prop :=
  Below w.heap.size w wr ∧ w.heap.size < wr.heap.size ∧ ∃ cur, wr.heap[w.heap.size]? = some (.cells cur 20 (0, 0)) ∧ cur.size = l.length ∧
    ∀ i x, i < k → l[i]? = some x → ∃ v, cur[i]? = some v ∧ ARep wr (fun b => w.heap.size < b ∧ b < wr.heap.size) x v

set_option maxRecDepth 100000 in
theorem listToGo_of (l : List J) (hel : ∀ x ∈ l, ToGoOK x) (D : Nat → Prop) (u : Value) (w : World) (wl : WFL l) (hn : l.length ≤ 1048576) (hD : ∀ b, D b → All w b) (hu : SlAt D l.length u (fun b o => VRow w D b (toVL l) o)) :
    Calls Tryz.prog 85 #[u] w (ListToGoPost l w) := by
  obtain ⟨A1, c1, rfl, hc1, hm1, hr1⟩ := hu
  unfold maxLen at hm1
  obtain ⟨cur0, hcur0, hmk⟩ := make_any l.length hn w
  go_enter Tryz.func85, Tryz.ntmps85
  go_wp2_with fail
  go_loopw [14] (fun i wr => ∃ k : Nat, k ≤ l.length ∧ i = .int .i64 k ∧ Hid (LRel l w wr k)) (fun i _ => l.length - (intOf i).toNat)
  case atStart => exact ⟨0, Nat.zero_le _, rfl, ((Below.refl _ _).alloc (Nat.le_refl _) _), by simp, cur0, heap_alloc_new w _, hcur0, fun i x hi => absurd hi (by omega)⟩
  case round =>
    obtain ⟨k, hk, rfl, hR⟩ := hrel
    obtain ⟨hb, hsz, cur, hcur, hcs, hels⟩ := hR.out
    clear hR
    by_cases ha : k < l.length
    · obtain ⟨b1, o1, rfl, hlt1, hs1⟩ := hr1 (by omega)
      have hx : l[k]? = some l[k] := List.getElem?_eq_getElem ha
      obtain ⟨cs1, hl1, hg1, hv1⟩ := (VRow.keep (Same.of_below hb hD) (fun _ h => h) _ _ _ hlt1 hs1).get (toVL_get hx)
      obtain ⟨A2, c2, A3, c3, A4, c4, rfl⟩ := SRep.six hv1
      have p0 : wr.cell? ⟨b1, o1 + k * 6, none⟩ = _ := hg1 0 _ rfl
      have p1 := hg1 1 _ rfl
      have p2 := hg1 2 _ rfl
      have p3 := hg1 3 _ rfl
      have p4 := hg1 4 _ rfl
      have p5 := hg1 5 _ rfl
      have HC := Lib.hid (fun (o : Obj) => hel l[k] (List.getElem_mem _) D _ (wr.alloc o) (WFL_iff.1 wl _ (List.getElem_mem _)) (fun b hD' => by have := hb.size; have := hD b hD'; simp only [World.size_alloc, All] at *; omega)
        (VRep.keep (Same.alloc (fun b hD' => Nat.lt_of_lt_of_le (hD b hD') hb.size) o) (fun _ h => h) _ _ hv1))
      have HB := Lib.hid hb
      clear hs1 hr1 hg1 hb hv1 hel
      go_wp2_with fail
      refine (HC.out _).mono ?_
      rintro e w1 ⟨v, rfl, hav, hb1⟩
      have hcur1 : w1.heap[w.heap.size]? = some (.cells cur 20 (0, 0)) := (hb1.block _ (by simp; omega)).trans ((Below.heap_alloc _ _ _ hsz).trans hcur)
      have hcell : w1.cell? ⟨w.heap.size, k, none⟩ = some (cur[k]'(by omega)) := by
        rw [cell_of_row _ _ _ _ _ _ hcur1]
        exact Array.getElem?_eq_getElem _
      have hfz : w1.frozen? ⟨w.heap.size, k, none⟩ = false := by simp [World.frozen?, hcur1]
      have HN : Hid (LRel l w (w1.setCell ⟨w.heap.size, k, none⟩ v) (k + 1)) := by
        have hbw1 : Below w.heap.size w w1 := (HB.out.alloc HB.out.size _).trans (hb1.mono (by simp; omega))
        have hs1 := hb1.size
        simp only [World.size_alloc] at hs1
        refine ⟨hbw1.setCell (Nat.le_refl _) _, by simp [World.setCell]; omega, cur.setIfInBounds k v, heap_setCell_same _ _ _ _ _ _ hcur1, by simp [hcs], fun i x hi hix => ?_⟩
        have hother : ∀ b, w.heap.size < b → (w1.setCell ⟨w.heap.size, k, none⟩ v).heap[b]? = w1.heap[b]? := fun b hb' => heap_setCell_other _ _ _ _ (by simp; omega)
        rcases Nat.lt_succ_iff_lt_or_eq.1 hi with hlt | rfl
        · obtain ⟨u, hu, hau⟩ := hels i x hlt hix
          refine ⟨u, by rw [Array.getElem?_setIfInBounds_ne (by omega)]; exact hu, ARep.keep (fun b hb' => ?_) (fun b hb' => ⟨hb'.1, by simp [World.setCell]; omega⟩) _ _ hau⟩
          exact (hother b hb'.1).trans ((hb1.block b (by simp; omega)).trans (Below.heap_alloc _ _ _ hb'.2))
        · rw [hx] at hix
          obtain rfl := Option.some.inj hix
          refine ⟨v, by rw [Array.getElem?_setIfInBounds_self_of_lt (by omega)], ARep.keep (fun b hb' => hother b ?_) (fun b hb' => ⟨?_, by have := hb'.2; simp [World.setCell]; omega⟩) _ _ hav⟩
          · have := hb'.1; simp at this; omega
          · have := hb'.1; simp at this; omega
      have hshape := hav.shape
      clear HC hav hb1 hcur1 hels hcur HB hx
      rcases hshape with rfl | ⟨t, u, rfl⟩
      all_goals
        go_wp2_with fail
        go_roundw
        case rel => exact ⟨k + 1, by omega, by go_num, HN⟩
        case measure => simp [intOf]; omega
    · have hk' : k = l.length := by omega
      have HR : Hid (LRel l w wr l.length) := by rw [← hk']; exact ⟨hb, hsz, cur, hcur, hcs, hels⟩
      clear hk' hels hcur hr1 hel
      go_wp2_with fail
      go_ret2
      obtain ⟨hb, hsz, cur, hcur, hcs, hels⟩ := HR.out
      refine ⟨_, rfl, ⟨_, _, rfl, Nat.le_refl _, by unfold maxLen; omega, fun hn => ⟨w.heap.size, 0, rfl, ⟨Nat.le_refl _, hsz⟩, ARow.mk fun i x hi => ?_⟩⟩, hb⟩
      obtain ⟨v, hv, ha⟩ := hels i x (List.getElem?_eq_some_iff.1 hi).1 hi
      exact ⟨v, by rw [cell_of_row _ _ _ _ _ _ hcur]; simpa using hv, ARep.keep (fun _ _ => rfl) (fun b hb => ⟨by omega, hb.2⟩) _ _ ha⟩

end Go.Proofs.YtfhppajnnbbcjaaGreatDoor
end

section
namespace Go.Proofs.YtfhppajnnbbcjaaGreatDoor
open Go.RowKit

def MapToGoPost (ks : List ByteArray) (vs : List J) (w : World) (e : Ending) (w' : World) : Prop :=
  ∃ r xs, e = .returned (.tuple #[.map (some r), .bool true]) ∧ Fresh w w' r ∧ MapIs w' r ks.length ks xs ∧ ks.length = xs.length ∧ AList w' (Fresh w w') vs xs ∧ Below w.heap.size w w'

/-- the map filled up to k -/
def MRel (ks : List ByteArray) (vs : List J) (cs : Array Value) (w wr : World) (k : Nat) : Prop :=
  Below w.heap.size w wr ∧ w.heap.size + 1 < wr.heap.size ∧ wr.heap[w.heap.size]? = some (.cells cs 26 (0, 0)) ∧ ∃ xs, MapIs wr (w.heap.size + 1) k (ks.take k) xs ∧ xs.length = k ∧
    AList wr (fun b => w.heap.size + 1 < b ∧ b < wr.heap.size) (vs.take k) xs

theorem take_snoc' {α : Type} {l : List α} {k : Nat} {x : α} (h : l[k]? = some x) : l.take (k + 1) = l.take k ++ [x] := by
  obtain ⟨hk, rfl⟩ := List.getElem?_eq_some_iff.1 h
  exact List.take_succ_eq_append_getElem hk

set_option maxRecDepth 100000 in
theorem mapToGo_of (ks : List ByteArray) (vs : List J) (hel : ∀ x ∈ vs, ToGoOK x) (D : Nat → Prop) (ca : List Value) (w : World) (wj : (J.obj ks vs).WF) (hD : ∀ b, D b → All w b) (hj : SRep w D (.obj ks vs) ca) :
    Calls Tryz.prog 86 #[.agg ca.toArray] w (MapToGoPost ks vs w) := by
  obtain ⟨L, K, S, rfl, ⟨A1, c1, rfl, -⟩, ⟨A2, c2, rfl, hc2, hm2, hr2⟩, ⟨A3, c3, rfl, hc3, hm3, hr3⟩⟩ := hj.cells
  simp only [J.WF] at wj
  obtain ⟨hlen, hn, hsz, hsorted, wl⟩ := wj
  have hvl : (J.obj ks vs).vals.length = vs.length := rfl
  have hkl : (J.obj ks vs).keys.length = ks.length := rfl
  have hlen' : ((ks.length : Int) != (vs.length : Int)) = false := by simp [hlen]
  simp only [hvl, hkl] at hc2 hr2 hc3 hr3 ⊢
  clear hvl hkl
  change Calls Tryz.prog 86 #[.agg #[.int .i64 6, .int .i64 0, .string noText, .slice A1 0 c1, .slice A2 ks.length c2, .slice A3 vs.length c3]] w (MapToGoPost ks vs w)
  generalize hcs : #[Value.int .i64 6, .int .i64 0, .string noText, .slice A1 0 c1, .slice A2 ks.length c2, .slice A3 vs.length c3] = cs
  have hc0 : cs = #[Value.int .i64 6, .int .i64 0, .string noText, .slice A1 0 c1, .slice A2 ks.length c2, .slice A3 vs.length c3] := hcs.symm
  rw [hc0]
  have HCS := Lib.hid hc0
  clear hcs hc0
  unfold maxLen at hm2 hm3
  have hmk := fun W => run_makeMap_hint (P := Tryz.prog) 91 9 20 .i64 (ks.length : Int) Tryz.underlying91 W
  have HL := Lib.hid hlen
  clear hlen
  go_enter Tryz.func86, Tryz.ntmps86
  go_wp2_with fail
  go_loopw [23] (fun i wr => ∃ k : Nat, k ≤ ks.length ∧ i = .int .i64 k ∧ Hid (MRel ks vs cs w wr k)) (fun i _ => ks.length - (intOf i).toNat)
  case atStart =>
    refine ⟨0, Nat.zero_le _, rfl, ((Below.refl _ _).alloc (Nat.le_refl _) _).alloc (by simp) _, by simp, ?_, [], ?_, rfl, by simp [AList]⟩
    · rw [HCS.out, Below.heap_alloc _ _ _ (by simp)]; exact heap_alloc_new w _
    · have := World.ownsMap_made (w.alloc (.cells #[.int .i64 6, .int .i64 0, .string noText, .slice A1 0 c1, .slice A2 ks.length c2, .slice A3 vs.length c3] 26)) Tryz.prog 9 Rh
      simpa [MapIs, mapD, entriesOf] using this
  case round =>
    obtain ⟨k, hk, rfl, hR⟩ := hrel
    obtain ⟨hb, hsz1, hbox, xs, hown, hxl, hal⟩ := hR.out
    clear hR
    have b4 : wr.cell? ⟨w.heap.size, 4, none⟩ = some (.slice A2 ks.length c2) := by rw [cell_of_row _ _ _ _ _ _ hbox, HCS.out]; rfl
    have b5 : wr.cell? ⟨w.heap.size, 5, none⟩ = some (.slice A3 vs.length c3) := by rw [cell_of_row _ _ _ _ _ _ hbox, HCS.out]; rfl
    by_cases ha : k < ks.length
    · have ha' : k < vs.length := by have := HL.out; omega
      obtain ⟨b2, o2, rfl, hlt2, hs2⟩ := hr2 (by omega)
      obtain ⟨b3, o3, rfl, hlt3, hs3⟩ := hr3 (by omega)
      have hx : ks[k]? = some ks[k] := List.getElem?_eq_getElem ha
      have hy : vs[k]? = some vs[k] := List.getElem?_eq_getElem ha'
      have hsm := Same.of_below hb hD
      have g2 := (hs2.keep hsm hlt2) k _ hx
      obtain ⟨cs1, hl1, hg1, hv1⟩ := (VRow.keep hsm (fun _ h => h) _ _ _ hlt3 hs3).get (toVL_get hy)
      obtain ⟨A4, c4, A5, c5, A6, c6, rfl⟩ := SRep.six hv1
      have p0 : wr.cell? ⟨b3, o3 + k * 6, none⟩ = _ := hg1 0 _ rfl
      have p1 := hg1 1 _ rfl
      have p2 := hg1 2 _ rfl
      have p3 := hg1 3 _ rfl
      have p4 := hg1 4 _ rfl
      have p5 := hg1 5 _ rfl
      have HC := Lib.hid (hel vs[k] (List.getElem_mem _) D _ wr (WFL_iff.1 wl _ (List.getElem_mem _)) (fun b hb' => Nat.lt_of_lt_of_le (hD b hb') hb.size) hv1)
      have hbig : ∀ s ∈ ks.take k, cmpB s ks[k] < 0 := by
        intro s hs
        obtain ⟨i, hi, rfl⟩ := List.getElem_of_mem hs
        have hik : i < k := by simp at hi; omega
        rw [List.getElem_take]
        exact List.pairwise_iff_getElem.1 hsorted i k (by omega) ha hik
      have hput := put_last (ks := ks.take k) (xs := xs) (by simp; omega) ks[k]
      have hkey : keyOf Tryz.prog 9 (.string ks[k]) = some (litS ks[k]) := WideMaps.keyOf_string_mk Tryz.underlying9 (by have := hsz _ (List.getElem_mem ha); unfold maxLen; omega)
      have HB := Lib.hid hb
      have HG : 0 < k → wr.cell? ⟨b2, o2 + (k - 1), none⟩ = some (.string (ks[k - 1]'(by omega))) ∧ Op.bytesLess (ks[k - 1]'(by omega)).toList ks[k].toList = true := fun hpos => by
        have hx' : ks[k - 1]? = some ks[k - 1] := List.getElem?_eq_getElem (by omega)
        have hlt : cmpB ks[k - 1] ks[k] < 0 := List.pairwise_iff_getElem.1 hsorted (k - 1) k (by omega) ha (by omega)
        exact ⟨(hs2.keep hsm hlt2) (k - 1) _ hx', by rw [toList_data, toList_data]; exact cmpB_lt_iff.1 hlt⟩
      have HFIN : ∀ (v : Value) (w1 w2 : World), ToGoPost vs[k] wr (.returned (.tuple #[v, .bool true])) w1 → w2.ownsMap Tryz.prog 9 Rh (w.heap.size + 1) (k + 1) ((mapD (ks.take k) xs).put (litS ks[k]) (.held v)) →
          w1.grownBy w2 (some (w.heap.size + 1)) → Hid (MRel ks vs cs w w2 (k + 1)) := by
        rintro v w1 w2 ⟨v', hv', hav, hb1⟩ hown2 hg
        have hbw1 : Below w.heap.size w w1 := HB.out.trans (hb1.mono HB.out.size)
        have hvv : v = v' := by
          have := Ending.returned.inj hv'
          simpa using this
        subst hvv
        refine ⟨hbw1.grown hg (by have := hb1.size; omega) (fun k hk => by have := Option.some.inj hk; omega), by have := hb1.size; have := hg.size; omega, ?_, xs ++ [v], ?_, by simp [hxl], ?_⟩
        · exact (hg.block _ (by have := hb1.size; omega) (by simp)).trans ((hb1.block _ (by omega)).trans hbox)
        · rw [hput v hbig, ← take_snoc' hx] at hown2
          exact hown2
        · rw [take_snoc' hy]
          refine AList.snoc (AList.keep (D := fun b => w.heap.size + 1 < b ∧ b < wr.heap.size) (fun b hb' => ?_) (fun b hb' => ⟨hb'.1, by have := hb1.size; have := hg.size; omega⟩) _ _ hal) (ARep.keep (fun b hb' => ?_) (fun b hb' => ⟨by have := hb'.1; omega, Nat.lt_of_lt_of_le hb'.2 hg.size⟩) _ _ hav)
          · exact (hg.block _ (by have := hb1.size; omega) (by simp; omega)).trans (hb1.block _ hb'.2)
          · exact hg.block _ hb'.2 (by have := hb'.1; simp; omega)
      have hkm : k < maxLen := by unfold maxLen; omega
      clear hs2 hs3 hr2 hr3 hg1 hb hv1 hel hsm hput hbig hal hbox hx hy hsorted
      have HFIN' := Lib.hid HFIN
      clear HFIN
      rcases Nat.eq_zero_or_pos k with h0 | hpos
      · have hz : ¬ (0 < k) := by omega
        clear HG h0
        go_wp2_with fail
        refine HC.out.mono ?_
        intro e w1 hpost
        obtain ⟨v, rfl, hav, hb1⟩ := hpost
        have hown1 : w1.ownsMap Tryz.prog 9 Rh (w.heap.size + 1) k (mapD (ks.take k) xs) := MapIs.keep (D := fun b => b < wr.heap.size) (fun b hb' => hb1.block b hb') hsz1 hown
        have HF := Lib.hid (fun w2 => HFIN'.out v w1 w2 ⟨v, rfl, hav, hb1⟩)
        clear HFIN' hav hb1 HC hown
        go_wp2_with (at_mapUpdate; refine wpList_mapUpdate_own _ rfl _ _ _ 91 rfl 9 20 (Maps.string_keyed Tryz.underlying9) Tryz.underlying91 Rh (w.heap.size + 1) k _ rfl hown1 hkm _ _ (litS ks[k]) rfl rfl hkey (.held v) [] rfl ?_)
        intro w2 hown2 hgrow2
        have HN := HF.out w2 hown2 hgrow2
        clear HF hown2 hgrow2 hown1
        go_wp2_with fail
        go_roundw
        case rel => exact ⟨k + 1, by omega, by go_num, HN⟩
        case measure => simp [intOf]; omega
      · obtain ⟨g3, hbl⟩ := HG hpos
        have e1 : IntKind.i64.wrap ((k : Int) - 1) = ((k - 1 : Nat) : Int) := by rw [IntWalk.i64_in _ (by omega)]; omega
        clear HG
        go_wp2_with fail
        refine HC.out.mono ?_
        intro e w1 hpost
        obtain ⟨v, rfl, hav, hb1⟩ := hpost
        have hown1 : w1.ownsMap Tryz.prog 9 Rh (w.heap.size + 1) k (mapD (ks.take k) xs) := MapIs.keep (D := fun b => b < wr.heap.size) (fun b hb' => hb1.block b hb') hsz1 hown
        have HF := Lib.hid (fun w2 => HFIN'.out v w1 w2 ⟨v, rfl, hav, hb1⟩)
        clear HFIN' hav hb1 HC g3 hbl e1 hown
        go_wp2_with (at_mapUpdate; refine wpList_mapUpdate_own _ rfl _ _ _ 91 rfl 9 20 (Maps.string_keyed Tryz.underlying9) Tryz.underlying91 Rh (w.heap.size + 1) k _ rfl hown1 hkm _ _ (litS ks[k]) rfl rfl hkey (.held v) [] rfl ?_)
        intro w2 hown2 hgrow2
        have HN := HF.out w2 hown2 hgrow2
        clear HF hown2 hgrow2 hown1
        go_wp2_with fail
        go_roundw
        case rel => exact ⟨k + 1, by omega, by go_num, HN⟩
        case measure => simp [intOf]; omega
    · have hk' : k = ks.length := by omega
      subst hk'
      have HR : Hid (MRel ks vs cs w wr ks.length) := ⟨hb, hsz1, hbox, xs, hown, hxl, hal⟩
      clear hown hal hr2 hr3 hel hbox
      go_wp2_with fail
      go_ret2
      obtain ⟨hb, hsz1, hbox, xs, hown, hxl, hal⟩ := HR.out
      rw [List.take_length] at hown
      rw [show vs.take ks.length = vs from by rw [HL.out]; exact List.take_length] at hal
      exact ⟨_, xs, rfl, ⟨by omega, by omega⟩, hown, hxl.symm, AList.keep (D := fun b => w.heap.size + 1 < b ∧ b < wr.heap.size) (fun _ _ => rfl) (fun b hb' => ⟨by omega, hb'.2⟩) _ _ hal, hb⟩

end Go.Proofs.YtfhppajnnbbcjaaGreatDoor
end

section
namespace Go.Proofs.YtfhppajnnbbcjaaGreatDoor
open Go.RowKit

theorem tmod_two (h : Int) : h.tmod 2 = 0 ↔ h % 2 = 0 := by
  rcases Int.le_total 0 h with hp | hn
  · rw [Int.tmod_eq_emod_of_nonneg hp]
  · have h1 : h = -(-h) := by omega
    rw [h1, Int.neg_tmod, Int.tmod_eq_emod_of_nonneg (by omega)]
    omega
theorem tdiv_two {h : Int} (he : h % 2 = 0) : h.tdiv 2 = h / 2 := by
  rcases Int.le_total 0 h with hp | hn
  · rw [Int.tdiv_eq_ediv_of_nonneg hp]
  · have h1 : h.tdiv 2 = -((-h).tdiv 2) := by rw [Int.neg_tdiv]; omega
    rw [h1, Int.tdiv_eq_ediv_of_nonneg (by omega)]
    omega

theorem toGo_num (h : Int) : ToGoOK (.num h) := by
  intro D ca w wj hD hj
  obtain ⟨L, K, S, rfl, -⟩ := hj.cells
  simp only [J.WF] at wj
  obtain ⟨lo, hi, hw⟩ := wj
  change Calls Tryz.prog 42 #[.agg #[.int .i64 3, .int .i64 h, .string noText, L, K, S]] w _
  have hbel : Below w.heap.size w (w.alloc (.cells #[.int .i64 3, .int .i64 h, .string noText, L, K, S] 26)) := (Below.refl _ _).alloc (Nat.le_refl _) _
  by_cases he : h % 2 = 0
  · have e1 : (h.tmod 2 == 0) = true := by simpa using (tmod_two h).2 he
    have HV : Hid (numV h = .iface 3 (.int .i64 (h.tdiv 2))) := by
      show _ = _
      unfold numV
      rw [if_pos he, tdiv_two he]
    clear hw he
    go_enter Tryz.func42, Tryz.ntmps42
    go_wp2_with fail
    go_ret2
    exact ⟨_, rfl, by simp only [ARep]; exact HV.out.symm, hbel⟩
  · have hw' : h.natAbs < 2 ^ 53 := by omega
    have h0 : h ≠ 0 := by omega
    have e1 : (h.tmod 2 == 0) = false := by simpa using fun h' => he ((tmod_two h).1 h')
    have HV : Hid (numV h = .iface 87 (.float .f64 (fl h (-1)))) := by
      show _ = _
      unfold numV
      rw [if_neg he]
    have hconv : ∀ W, (convert 3 87 (.int .i64 h)).run Tryz.prog W = .ok (.float .f64 (fl h 0)) W := fun W => by
      simp [convert, run_underlying Tryz.underlying3, run_underlying Tryz.underlying87, Conv.intToFloat]; rfl
    have hdiv : ∀ W, (binOp .quo 87 (.float .f64 (fl h 0)) (.float .f64 4611686018427387904)).run Tryz.prog W = .ok (.float .f64 (fl h (-1))) W := fun W => by
      have := fl_div_two h0 hw'
      simp only [binOp, Op.floatArith]
      simp [FloatKind.format, this]
    clear hw he hw' h0
    go_enter Tryz.func42, Tryz.ntmps42
    go_wp2_with fail
    go_ret2
    exact ⟨_, rfl, by simp only [ARep]; exact HV.out.symm, hbel⟩

theorem toGo_null : ToGoOK .null := by
  intro D ca w wj hD hj
  obtain ⟨L, K, S, rfl, -⟩ := hj.cells
  change Calls Tryz.prog 42 #[.agg #[.int .i64 0, .int .i64 0, .string noText, L, K, S]] w _
  go_enter Tryz.func42, Tryz.ntmps42
  go_wp2_with fail
  go_ret2
  exact ⟨_, rfl, rfl, (Below.refl _ _).alloc (Nat.le_refl _) _⟩

theorem toGo_bool (b : Bool) : ToGoOK (.bool b) := by
  intro D ca w wj hD hj
  obtain ⟨L, K, S, rfl, -⟩ := hj.cells
  cases b
  · change Calls Tryz.prog 42 #[.agg #[.int .i64 1, .int .i64 0, .string noText, L, K, S]] w _
    go_enter Tryz.func42, Tryz.ntmps42
    go_wp2_with fail
    go_ret2
    exact ⟨_, rfl, rfl, (Below.refl _ _).alloc (Nat.le_refl _) _⟩
  · change Calls Tryz.prog 42 #[.agg #[.int .i64 2, .int .i64 0, .string noText, L, K, S]] w _
    go_enter Tryz.func42, Tryz.ntmps42
    go_wp2_with fail
    go_ret2
    exact ⟨_, rfl, rfl, (Below.refl _ _).alloc (Nat.le_refl _) _⟩

theorem toGo_str (s : ByteArray) : ToGoOK (.str s) := by
  intro D ca w wj hD hj
  obtain ⟨L, K, S, rfl, -⟩ := hj.cells
  change Calls Tryz.prog 42 #[.agg #[.int .i64 4, .int .i64 0, .string s, L, K, S]] w _
  go_enter Tryz.func42, Tryz.ntmps42
  go_wp2_with fail
  go_ret2
  exact ⟨_, rfl, rfl, (Below.refl _ _).alloc (Nat.le_refl _) _⟩

theorem toGo_arr (l : List J) (hel : ∀ x ∈ l, ToGoOK x) : ToGoOK (.arr l) := by
  intro D ca w wj hD hj
  obtain ⟨L, K, S, rfl, hL, -⟩ := hj.cells
  simp only [J.WF] at wj
  have hbel : Below w.heap.size w (w.alloc (.cells #[.int .i64 5, .int .i64 0, .string noText, L, K, S] 26)) := (Below.refl _ _).alloc (Nat.le_refl _) _
  have HC := Lib.hid (listToGo_of l hel D L (w.alloc (.cells #[.int .i64 5, .int .i64 0, .string noText, L, K, S] 26)) wj.2 wj.1 (fun b hb => All.below hbel b (hD b hb)) (hL.mono (fun _ h => h) fun b o hb hr => VRow.keep (Same.alloc hD _) (fun _ h => h) _ _ _ hb hr))
  clear wj hL
  change Calls Tryz.prog 42 #[.agg #[.int .i64 5, .int .i64 0, .string noText, L, K, S]] w _
  go_enter Tryz.func42, Tryz.ntmps42
  go_wp2_with fail
  refine HC.out.mono ?_
  rintro e w1 ⟨S', rfl, hS, hb1⟩
  go_wp2_with fail
  go_ret2
  refine ⟨_, rfl, ⟨S', rfl, hS.mono (fun b hb => ⟨by have := hb.1; simp at this; omega, hb.2⟩) fun b o hb hr => ARow.keep (fun _ _ => rfl) (fun b hb => ⟨by have := hb.1; simp at this; omega, hb.2⟩) _ _ _ hb hr⟩, hbel.trans (hb1.mono hbel.size)⟩

theorem toGo_obj (ks : List ByteArray) (vs : List J) (hel : ∀ x ∈ vs, ToGoOK x) : ToGoOK (.obj ks vs) := by
  intro D ca w wj hD hj
  have hsix := hj.six
  obtain ⟨A1, c1, A2, c2, A3, c3, rfl⟩ := hsix
  have hbel : Below w.heap.size w (w.alloc (.cells #[.int .i64 (J.obj ks vs).kind, .int .i64 (J.obj ks vs).half, .string (J.obj ks vs).text, .slice A1 (J.obj ks vs).list.length c1, .slice A2 (J.obj ks vs).keys.length c2, .slice A3 (J.obj ks vs).vals.length c3] 26)) := (Below.refl _ _).alloc (Nat.le_refl _) _
  have HC := Lib.hid (mapToGo_of ks vs hel D _ _ wj (fun b hb => All.below hbel b (hD b hb)) (VRep.keep (Same.alloc hD (.cells #[.int .i64 (J.obj ks vs).kind, .int .i64 (J.obj ks vs).half, .string (J.obj ks vs).text, .slice A1 (J.obj ks vs).list.length c1, .slice A2 (J.obj ks vs).keys.length c2, .slice A3 (J.obj ks vs).vals.length c3] 26)) (fun _ h => h) _ _ hj))
  have k6 : (J.obj ks vs).kind = 6 := rfl
  rw [k6] at HC hbel ⊢
  clear k6 wj hj
  go_enter Tryz.func42, Tryz.ntmps42
  go_wp2_with fail
  refine HC.out.mono ?_
  rintro e w1 ⟨r, xs, rfl, hr, hm, hl, ha, hb1⟩
  go_wp2_with fail
  go_ret2
  refine ⟨_, rfl, ⟨r, xs, rfl, ⟨by have := hr.1; simp at this; omega, hr.2⟩, hm, hl, AList.keep (fun _ _ => rfl) (fun b hb => ⟨by have := hb.1; simp at this; omega, hb.2⟩) _ _ ha⟩, hbel.trans (hb1.mono hbel.size)⟩

mutual
theorem toGo_all : ∀ a : J, ToGoOK a
  | .arr l => toGo_arr l (toGo_elems l)
  | .obj ks vs => toGo_obj ks vs (toGo_elems vs)
  | .null => toGo_null
  | .bool b => toGo_bool b
  | .num h => toGo_num h
  | .str s => toGo_str s
theorem toGo_elems : ∀ l : List J, ∀ x ∈ l, ToGoOK x
  | [], _, h => absurd h (by simp)
  | a :: l, x, h => (List.mem_cons.1 h).elim (fun e => e ▸ toGo_all a) (toGo_elems l x)
end

end Go.Proofs.YtfhppajnnbbcjaaGreatDoor
end
