/- Walks: gojq.deepMergeObjects. -/
import Derived.Test.YtfhppajnnbbcjaaGreatDoorMb2
import Derived.Test.YtfhppajnnbbcjaaGreatDoorMb3
namespace Go.Proofs.YtfhppajnnbbcjaaGreatDoor
open Go.RowKit Go.Maps Go.Sort

theorem MapIs.tight {w : World} {r n : Nat} {ks : List ByteArray} {xs : List Value} (h : MapIs w r n ks xs) (hl : ks.length = xs.length) : MapIs w r ks.length ks xs := by
  obtain ⟨es, clock, hb, F, hs, hD⟩ := h
  refine ⟨es, clock, hb, F, ?_, hD⟩
  unfold mapD at hD
  have h1 := DataW.map.inj hD
  have h2 := congrArg List.length h1
  rw [(Go.WideShapes.sorted_perm _).length_eq] at h2
  have h3 : (entriesOf ks xs).length = ks.length := by unfold entriesOf; rw [List.length_map, List.length_zip]; omega
  rw [h3, List.length_map] at h2
  have h4 : es.toList.length = es.size := Array.length_toList
  have h5 : es.size ≤ ks.length := by rw [← h4, ← h2]; exact Nat.le_refl _
  exact h5

theorem grown_self (w : World) : w.grownBy w none := ⟨rfl, rfl, rfl, Nat.le_refl _, fun _ _ _ => rfl⟩

theorem kind_obj {a : J} (h : a.kind = 6) : ∃ ka va, a = .obj ka va := by
  cases a with
  | obj ka va => exact ⟨ka, va, rfl⟩
  | bool b => cases b <;> simp [J.kind] at h
  | _ => simp [J.kind] at h

theorem mrg_keep {b a : J} (h : b.kind ≠ 6 ∨ a.kind ≠ 6) : mrg b a = b := by
  cases b with
  | obj ks vs =>
    cases a with
    | obj ka va => exact absurd rfl (h.resolve_left fun h => h rfl)
    | _ => rfl
  | _ => cases a <;> rfl

/-- no map -/
def NoMap (v : Value) : Prop := v = .nilIface ∨ ∃ U u, v = .iface U u ∧ U ≠ 91
theorem ARep.noMap {w : World} {D : Nat → Prop} {j : J} {v : Value} (h : ARep w D j v) (hk : j.kind ≠ 6) : NoMap v := by
  cases j with
  | null => exact .inl h
  | bool b => exact .inr ⟨_, _, h, by decide⟩
  | num n => right; rw [show v = _ from h]; unfold numV; split <;> exact ⟨_, _, rfl, by decide⟩
  | str s => exact .inr ⟨_, _, h, by decide⟩
  | arr l => obtain ⟨S, rfl, -⟩ := h; exact .inr ⟨_, _, rfl, by decide⟩
  | obj ks vs => exact absurd rfl hk

theorem look_mrgV {ks ka : List ByteArray} {vs va : List J} (hs : SortedK ks) {s : ByteArray} {v : J} (h : lookV s ks vs = some v) : lookV s ks (mrgV vs ks ka va) = some (mrg v ((lookV s ka va).getD .null)) := by
  obtain ⟨i, h1, h2⟩ := lookV_at h
  exact lookV_get hs h1 (mrgV_get h2 h1)

abbrev Dt (D : Nat → Prop) (it : Nat) (W : World) : Nat → Prop := fun b => D b ∨ (it < b ∧ b < W.heap.size)

/-- what the target says at each key -/
def DmSays (ks : List ByteArray) (mv : List J) (ka : List ByteArray) (va : List J) (left : Lit → Bool) (kt : List ByteArray) (jt : List J) : Prop :=
  ∀ s, lookV s kt jt = if left (litS s) = true then lookV s ka va else (lookV s ks mv).or (lookV s ka va)

structure DmRel (ks : List ByteArray) (mv : List J) (ka : List ByteArray) (va : List J) (D : Nat → Prop) (it : Nat) (left : Lit → Bool) (cnt : Nat) (w wr : World) : Prop where
  below : Below w.heap.size w wr
  tgt : ∃ (n : Nat) (kt : List ByteArray) (jt : List J) (xt : List Value), MapIs wr w.heap.size n kt xt ∧ AList wr (Dt D it wr) jt xt ∧ n + cnt ≤ ka.length + ks.length ∧ SortedK kt ∧ kt.length = jt.length ∧ DmSays ks mv ka va left kt jt
  sub : ∀ s, left (litS s) = true → s ∈ ks

theorem DmRel.step {ks ka kt : List ByteArray} {mv va jt : List J} {xt : List Value} {D : Nat → Prop} {it n cnt cnt2 : Nat} {left : Lit → Bool} {w wr W w3 : World} {s : ByteArray} {z : J} {c : Value}
    (hD : ∀ b, D b → b < w.heap.size) (hB : w.heap.size < it) (hbe : Below w.heap.size w W) (h1 : AList wr (Dt D it wr) jt xt) (hW : ∀ b, b < wr.heap.size → b ≠ it → W.heap[b]? = wr.heap[b]?) (hsW : wr.heap.size ≤ W.heap.size) (hsw : w.heap.size ≤ wr.heap.size)
    (h2 : n + cnt ≤ ka.length + ks.length) (hlt : cnt2 < cnt) (h3 : SortedK kt) (h4 : kt.length = jt.length) (h5 : DmSays ks mv ka va left kt jt) (hsub : ∀ s, left (litS s) = true → s ∈ ks)
    (hz : lookV s ks mv = some z) (hzr : ARep W (Dt D it W) z c) (hown3 : w3.ownsMap Tryz.prog 9 Rh w.heap.size (n + 1) ((mapD kt xt).put (litS s) (.held c))) (hg3 : W.grownBy w3 (some w.heap.size)) :
    DmRel ks mv ka va D it (fun z => left z && !z.sameKey (litS s)) cnt2 w w3 := by
  have hlx := h1.length
  rw [put_ins h3 (by omega)] at hown3
  have hs3 := hg3.size
  refine ⟨hbe.grown hg3 hbe.size (fun k hk => by have := Option.some.inj hk; omega), ⟨n + 1, _, _, _, hown3, AList.ins (ARep.keep (fun b hb => hg3.block b ?_ ?_) (fun b hb => ?_) _ _ hzr) h4 (AList.keep (fun b hb => (hg3.block b ?_ ?_).trans (hW b ?_ ?_)) (fun b hb => ?_) _ _ h1), by omega, sorted_insK h3, length_insV h4, fun q => ?_⟩, fun q hq => hsub q (by simp at hq; exact hq.1)⟩
  · rcases hb with h | h
    · have := hD b h; have := hbe.size; omega
    · exact h.2
  · rcases hb with h | h
    · have := hD b h; simp; omega
    · simp; omega
  · exact hb.imp id fun h => ⟨h.1, by have := h.2; omega⟩
  · rcases hb with h | h
    · have := hD b h; omega
    · have := h.2; omega
  · rcases hb with h | h
    · have := hD b h; simp; omega
    · simp; omega
  · rcases hb with h | h
    · have := hD b h; omega
    · exact h.2
  · rcases hb with h | h
    · have := hD b h; omega
    · omega
  · exact hb.imp id fun h => ⟨h.1, by have := h.2; omega⟩
  · rw [lookV_insV h4, h5 q]
    have hsq : (litS q).sameKey (litS s) = decide (q = s) := litS_same q s
    by_cases e : s = q
    · subst e
      rw [if_pos rfl, hz]
      simp [hsq]
    · rw [if_neg e]
      have hqs : decide (q = s) = false := by simpa using Ne.symm e
      rw [hqs] at hsq
      simp [hsq]

def DeepOK (b : J) : Prop := ∀ (a : J) (D : Nat → Prop) (ra rb : Value) (w : World), a.kind = 6 → b.kind = 6 → a.WF → b.WF → (∀ b, D b → All w b) → ARep w D a (.iface 91 ra) → ARep w D b (.iface 91 rb) →
  Calls Tryz.prog 145 #[ra, rb] w (RetP fun u w' => ARep w' (fun b => D b ∨ Fresh w w' b) (mrg b a) u ∧ Below w.heap.size w w')

set_option maxRecDepth 100000 in
set_option maxHeartbeats 4000000 in
theorem deep_of (ks : List ByteArray) (vs : List J) (hel : ∀ x ∈ vs, DeepOK x) : DeepOK (.obj ks vs) := by
  intro a D va' vb' w ka6 _ wa wb hD ha hb
  obtain ⟨ka, va, rfl⟩ := kind_obj ka6
  clear ka6
  obtain ⟨ra, xa, ea, hDa, hma, hla, hAa⟩ := ha
  obtain ⟨rb, xb, eb, hDb, hmb, hlb, hAb⟩ := hb
  obtain rfl : va' = .map (some ra) := by injection ea
  obtain rfl : vb' = .map (some rb) := by injection eb
  clear ea eb
  have hwb : (ks.length = vs.length ∧ ks.length ≤ 1048576 ∧ (∀ s ∈ ks, s.size ≤ 1048576) ∧ SortedK ks ∧ WFL vs) := by simpa only [J.WF] using wb
  have hwa : (ka.length = va.length ∧ ka.length ≤ 1048576 ∧ (∀ s ∈ ka, s.size ≤ 1048576) ∧ SortedK ka ∧ WFL va) := by simpa only [J.WF] using wa
  have hlA := MapIs.len hma hla
  have hlB := MapIs.len hmb hlb
  have hmk := fun n W => run_makeMap_hint (P := Tryz.prog) 91 9 20 .i64 n Tryz.underlying91 W
  have hna := hwa.2.1
  have hnb := hwb.2.1
  have hra : ra < w.heap.size := hD ra hDa
  have hrb : rb < w.heap.size := hD rb hDb
  have HC := Lib.hid (copy_any ra w.heap.size ka.length ka xa (w.alloc (.map #[] 0)) (World.ownsMap.alloc hma _) (by have := World.ownsMap_made w Tryz.prog 9 Rh; simpa [MapIs, mapD, entriesOf] using this) (by omega) hwa.2.2.2.1 hla hna)
  have HE := Lib.hid (And.intro hel (And.intro hwb (And.intro hwa (And.intro hD (And.intro hmb (And.intro hlb (And.intro hAa hAb)))))))
  clear hel hwb hwa hD hma hmb hAa hAb wa wb hla hlb hDa
  replace hDb := Lib.hid hDb
  go_enter Tryz.func145, Tryz.ntmps145
  go_wp2_with fail
  clear hlA hlB hmk
  refine HC.out.mono ?_
  clear HC
  rintro e w1 ⟨rfl, hm1, hg1⟩
  have hbw1 : Below w.heap.size w w1 := ((Below.refl _ _).alloc (Nat.le_refl _) _).grown hg1 (by simp) (fun k hk => by have := Option.some.inj hk; omega)
  have hs1 : w.heap.size < w1.heap.size := by have := hg1.size; simp at this; omega
  have hmb1 : MapIs w1 rb ks.length ks xb := MapIs.keep (D := D) (Same.of_below hbw1 HE.out.2.2.2.1) hDb.out HE.out.2.2.2.2.1
  have H1 := Lib.hid (And.intro hm1 hbw1)
  clear hm1 hg1 hbw1
  go_wp2_with (at_range; refine wpList_range_own _ rfl _ 91 rfl 9 20 keyed9 Tryz.underlying91 Rh rb ks.length (mapD ks xb) rfl hmb1 ?_; intro w0 hrg0 hg0 hs0)
  go_frame
  obtain ⟨it, hit⟩ : ∃ it, w1.heap.size = it := ⟨_, rfl⟩
  have H0 : Hid (DmRel ks (mrgV vs ks ka va) ka va D it (Maps.has (mapD ks xb)) (Maps.size (mapD ks xb)) w w0) := by
    have hb0 : Below w.heap.size w w0 := H1.out.2.grown hg0 (by omega) (fun k hk => nomatch hk)
    refine ⟨hb0, ⟨ka.length, ka, va, xa, H1.out.1.grown hg0 (by simp), AList.keep (Same.of_below hb0 HE.out.2.2.2.1) (fun b hb => .inl hb) _ _ HE.out.2.2.2.2.2.2.1, by rw [size_mapD HE.out.2.2.2.2.2.1]; omega, HE.out.2.2.1.2.2.2.1, HE.out.2.2.1.1, fun s => ?_⟩, fun s h => (has_iff HE.out.2.2.2.2.2.1 s).1 h⟩
    cases h : Maps.has (mapD ks xb) (litS s) with
    | true => rfl
    | false =>
      rw [if_neg Bool.false_ne_true, lookV_none (ks := ks) (xs := mrgV vs ks ka va) (fun hm => by rw [(has_iff HE.out.2.2.2.2.2.1 s).2 hm] at h; cases h)]
      rfl
  rw [hit] at hrg0 hs0 ⊢
  have hBi : w.heap.size < it := by omega
  clear hit hmb1 H1 hg0 hs0 hs1 w1
  go_loopw [] (fun wr => ∃ (left : Lit → Bool) (cnt : Nat), wr.ranges Tryz.prog 9 Rh rb it ks.length (mapD ks xb) left cnt ∧ Hid (DmRel ks (mrgV vs ks ka va) ka va D it left cnt w wr)) (fun wr => wr.rangeLeft rb it)
  case atStart => exact ⟨_, _, hrg0, H0⟩
  case round =>
    clear H0 hrg0 w0
    obtain ⟨left, cnt, hrg, hC⟩ := hrel
    go_wp2_with (at_next; refine wpList_next_ranges _ rfl _ rfl 9 keyed9 Rh Value.string id key_inv (fun v y hv => ⟨v, rfl⟩) rb it ks.length _ _ _ rfl hrg ?_ ?_)
    · intro hc0 hl0
      obtain ⟨n, kt, jt, xt, h1, h2, h3, h4, h5, h6⟩ := hC.out.tgt
      have hext := look_ext h4 (sorted_insKs (ks := ks) HE.out.2.2.1.2.2.2.1) h5 (length_insVs (ks := ks) (xs := mrgV vs ks ka va) (by rw [mrgV_length HE.out.2.1.1]; exact HE.out.2.1.1) HE.out.2.2.1.1) (fun q => by
        rw [h6 q, hl0, if_neg Bool.false_ne_true, look_insVs HE.out.2.1.2.2.2.1 (by rw [mrgV_length HE.out.2.1.1]; exact HE.out.2.1.1) HE.out.2.2.1.1])
      have hx := h2.length
      have HF := Lib.hid (And.intro (h1.tight (by omega)) (And.intro h2 (And.intro hext (And.intro hC.out.below (show kt.length = xt.length by omega)))))
      have hlt := World.ownsMap.lt h1
      clear h1 h2 h3 h4 h5 h6 hext hx hC hrg
      go_wp2_with fail
      go_ret
      obtain ⟨e1, e2⟩ := HF.out.2.2.1
      refine ⟨_, rfl, ?_, HF.out.2.2.2.1⟩
      simp only [mrg]
      rw [← e1, ← e2]
      exact ⟨w.heap.size, xt, rfl, .inr ⟨Nat.le_refl _, hlt⟩, HF.out.1, HF.out.2.2.2.2, AList.keep (fun _ _ => rfl) (fun b hb => hb.imp id fun h => ⟨by omega, h.2⟩) _ _ HF.out.2.1⟩
    · intro s c kl yd yp w2 cnt2 hkey hlk hv hat hrg2 hlt hg2 hs2 hen
      obtain ⟨n, kt, jt, xt, h1, h2, h3, h4, h5, h6⟩ := hC.out.tgt
      have hsub := hC.out.sub
      have hbw := hC.out.below
      obtain rfl := key_lit hkey
      have hsk := hsub s hlk
      obtain ⟨v, hv1⟩ := lookV_some HE.out.2.1.1 hsk
      obtain ⟨c', hc1, hvc⟩ := AList.look HE.out.2.2.2.2.2.2.2 v hv1
      obtain rfl : c = c' := by have := at_look HE.out.2.1.2.2.2.1 HE.out.2.2.2.2.2.1 hsk ⟨_, hv⟩ hat; rw [hc1] at this; exact (Option.some.inj this).symm
      have hvm := (lookV_mem hv1).2
      have hz := look_mrgV (ka := ka) (va := va) HE.out.2.1.2.2.2.1 hv1
      have hsz := HE.out.2.1.2.2.1 s hsk
      have hnow : lookV s kt jt = lookV s ka va := by rw [h6 s, if_pos hlk]
      have hB2 : Below w.heap.size w w2 := hbw.grown hg2 hbw.size (fun k hk => by have := Option.some.inj hk; omega)
      have hlx := h2.length
      have h1' : MapIs w2 w.heap.size n kt xt := h1.grown hg2 (by simp; omega)
      have hW2 : ∀ b, b < wr.heap.size → b ≠ it → w2.heap[b]? = wr.heap[b]? := fun b hb hne => hg2.block b hb (by simpa using hne)
      have hDt2 : Same (Dt D it wr) wr w2 := fun b hb => by
        rcases hb with h | h
        · have := HE.out.2.2.2.1 b h; have := hbw.size; exact hW2 b (by omega) (by omega)
        · exact hW2 b h.2 (by omega)
      have hvc2 : ARep w2 (Dt D it w2) v c := ARep.keep (Same.of_below hB2 HE.out.2.2.2.1) (fun b hb => .inl hb) _ _ hvc
      have hrest : ∀ (W w3 : World) (cc : Value), w2.grownBy W none → ARep W (Dt D it W) (mrg v ((lookV s ka va).getD .null)) cc → w3.ownsMap Tryz.prog 9 Rh w.heap.size (n + 1) ((mapD kt xt).put (litS s) (.held cc)) → W.grownBy w3 (some w.heap.size) →
          DmRel ks (mrgV vs ks ka va) ka va D it (fun z => left z && !z.sameKey (litS s)) cnt2 w w3 ∧ w3.ranges Tryz.prog 9 Rh rb it ks.length (mapD ks xb) (fun z => left z && !z.sameKey (litS s)) cnt2 := fun W w3 cc hWg hzr hown3 hg3 =>
        ⟨DmRel.step HE.out.2.2.2.1 hBi (hB2.grown hWg hB2.size (fun k hk => nomatch hk)) h2 (fun b hb hne => (hWg.block b (by omega) (by simp)).trans (hW2 b hb hne)) (by have := hWg.size; omega) hbw.size h3 hlt h4 h5 h6 hsub hz hzr hown3 hg3,
          (hrg2.kept hWg (by simp) (by simp)).kept hg3 (by simp; omega) (by simp; omega)⟩
      have HR := Lib.hid hrest
      have HRG := Lib.hid hrg2
      have hmx : n < maxLen := by unfold maxLen; have := HE.out.2.1.2.1; have := HE.out.2.2.1.2.1; omega
      have HLR := Lib.hid (And.intro hrg.left_eq hlt)
      have HV := Lib.hid (And.intro hvm (And.intro hvc2 (And.intro hB2 (WFL_iff.1 HE.out.2.1.2.2.2.2 v hvm))))
      cases hla : lookV s ka va with
      | none =>
        rw [hla] at hnow
        have hnk : s ∉ kt := fun hm => by obtain ⟨x, hx⟩ := lookV_some h5 hm; rw [hnow] at hx; cases hx
        have hmiss := (MapIs.miss h1' hnk hsz).2
        have HZ := Lib.hid (show ARep w2 (Dt D it w2) (mrg v ((lookV s ka va).getD .null)) c by rw [hla, Option.getD_none, mrg_keep (.inr (by simp [J.kind]))]; exact hvc2)
        clear h2 h3 h4 h5 h6 hsub hbw hsk hv1 hc1 hvc hvm hz hsz hnow hB2 hlx hW2 hDt2 hvc2 hrest hv hat hlk hlt hg2 hs2 hrg hC h1 hrg2
        go_wp2_with (at_mapUpdate; refine wpList_mapUpdate_own _ rfl _ _ _ 91 rfl 9 20 (Maps.string_keyed Tryz.underlying9) Tryz.underlying91 Rh w.heap.size n _ rfl h1' hmx _ _ (litS s) rfl rfl hkey (.held (c)) [] rfl ?_)
        intro w3 hown3 hg3
        obtain ⟨hC3, hrg3⟩ := HR.out w2 w3 (c) (grown_self w2) HZ.out hown3 hg3
        have HC3 := Lib.hid hC3
        clear hown3 hg3 hC3 HR h1' hmx hkey hen HZ
        go_wp2_with fail
        go_roundw
        case rel => exact ⟨_, cnt2, hrg3, HC3⟩
        case measure => rw [hrg3.left_eq, HLR.out.1]; exact HLR.out.2
      | some x =>
        rw [hla] at hnow
        obtain ⟨u, hu1, hxu⟩ := AList.look h2 x hnow
        obtain ⟨i, hi1, hi2⟩ := lookV_at hu1
        have hhit := (MapIs.hit h1' h4 hi1 hi2 hsz).2
        have hxu2 : ARep w2 (Dt D it w2) x u := ARep.keep hDt2 (fun b hb => hb.imp id fun h => ⟨h.1, by omega⟩) _ _ hxu
        have hwx : x.WF := WFL_iff.1 HE.out.2.2.1.2.2.2.2 x (lookV_mem hla).2
        clear hu1 hi1 hi2 hxu
        by_cases hkx : x.kind = 6
        · obtain ⟨kx, vx, rfl⟩ := kind_obj hkx
          obtain ⟨rx, xx, rfl, hrx⟩ := hxu2
          by_cases hkv : v.kind = 6
          · obtain ⟨kv, vv, rfl⟩ := kind_obj hkv
            obtain ⟨rv, xv, rfl, hrv⟩ := hvc2
            have hm := HE.out.1 _ hvm (.obj kx vx) (Dt D it w2) (.map (some rx)) (.map (some rv)) w2 rfl rfl hwx HV.out.2.2.2 (fun b hb => by
              rcases hb with h | h
              · exact Nat.lt_of_lt_of_le (HE.out.2.2.2.1 b h) hB2.size
              · exact h.2) ⟨rx, xx, rfl, hrx⟩ ⟨rv, xv, rfl, hrv⟩
            have HM := Lib.hid hm
            clear hm hrx hrv
            have HLA := Lib.hid hla
            have H1' := Lib.hid h1'
            clear h2 h3 h4 h5 h6 hsub hbw hsk hv1 hc1 hvc hvm hz hsz hnow hB2 hlx hW2 hDt2 hrest hv hat hlk hlt hg2 hs2 hrg hC h1 hrg2
            clear hwx hkx hkv hla h1'
            go_wp2_with fail
            refine HM.out.mono ?_
            clear HM
            rintro e w4 ⟨u, rfl, hu, hb4⟩
            have hg4 : w2.grownBy w4 none := ⟨hb4.os, hb4.tape, hb4.output, hb4.size, fun k hk _ => hb4.block k hk⟩
            have HG4 := Lib.hid hg4
            have h1' : MapIs w4 w.heap.size n kt xt := H1'.out.grown hg4 (by simp)
            have HZ := Lib.hid (show ARep w4 (Dt D it w4) (mrg (.obj kv vv) ((lookV s ka va).getD .null)) u by
              rw [HLA.out, Option.getD_some]
              have hBI := hBi
              have hs4 := hb4.size
              have hitl := World.ranges.lt (HRG.out)
              exact ARep.keep (fun _ _ => rfl) (fun b hb => by
                rcases hb with h | h
                · exact h.imp id fun h => ⟨h.1, by omega⟩
                · exact .inr ⟨by omega, h.2⟩) _ _ hu)
            clear hu hb4 hg4 H1'
            go_wp2_with (at_mapUpdate; refine wpList_mapUpdate_own _ rfl _ _ _ 91 rfl 9 20 (Maps.string_keyed Tryz.underlying9) Tryz.underlying91 Rh w.heap.size n _ rfl h1' hmx _ _ (litS s) rfl rfl hkey (.held (u)) [] rfl ?_)
            intro w3 hown3 hg3
            obtain ⟨hC3, hrg3⟩ := HR.out w4 w3 (u) (HG4.out) HZ.out hown3 hg3
            have HC3 := Lib.hid hC3
            clear hown3 hg3 hC3 HR h1' hmx hkey hen HZ
            go_wp2_with fail
            go_roundw
            case rel => exact ⟨_, cnt2, hrg3, HC3⟩
            case measure => rw [hrg3.left_eq, HLR.out.1]; exact HLR.out.2
          · have HZ := Lib.hid (show ARep w2 (Dt D it w2) (mrg v ((lookV s ka va).getD .null)) c by rw [hla, Option.getD_some, mrg_keep (.inl hkv)]; exact hvc2)
            have hnm := hvc2.noMap hkv
            clear hrx
            clear h2 h3 h4 h5 h6 hsub hbw hsk hv1 hc1 hvc hvm hz hsz hnow hB2 hlx hW2 hDt2 hvc2 hrest hv hat hlk hlt hg2 hs2 hrg hC h1 hrg2
            clear hwx hkx hkv hla
            rcases hnm with rfl | ⟨U, q, rfl, hU⟩
            · go_wp2_with (at_mapUpdate; refine wpList_mapUpdate_own _ rfl _ _ _ 91 rfl 9 20 (Maps.string_keyed Tryz.underlying9) Tryz.underlying91 Rh w.heap.size n _ rfl h1' hmx _ _ (litS s) rfl rfl hkey (.held (.nilIface)) [] rfl ?_)
              intro w3 hown3 hg3
              obtain ⟨hC3, hrg3⟩ := HR.out w2 w3 (.nilIface) (grown_self w2) HZ.out hown3 hg3
              have HC3 := Lib.hid hC3
              clear hown3 hg3 hC3 HR h1' hmx hkey hen HZ
              go_wp2_with fail
              go_roundw
              case rel => exact ⟨_, cnt2, hrg3, HC3⟩
              case measure => rw [hrg3.left_eq, HLR.out.1]; exact HLR.out.2
            · go_wp2_with (at_mapUpdate; refine wpList_mapUpdate_own _ rfl _ _ _ 91 rfl 9 20 (Maps.string_keyed Tryz.underlying9) Tryz.underlying91 Rh w.heap.size n _ rfl h1' hmx _ _ (litS s) rfl rfl hkey (.held (.iface U q)) [] rfl ?_)
              intro w3 hown3 hg3
              obtain ⟨hC3, hrg3⟩ := HR.out w2 w3 (.iface U q) (grown_self w2) HZ.out hown3 hg3
              have HC3 := Lib.hid hC3
              clear hown3 hg3 hC3 HR h1' hmx hkey hen HZ
              go_wp2_with fail
              go_roundw
              case rel => exact ⟨_, cnt2, hrg3, HC3⟩
              case measure => rw [hrg3.left_eq, HLR.out.1]; exact HLR.out.2
        · have HZ := Lib.hid (show ARep w2 (Dt D it w2) (mrg v ((lookV s ka va).getD .null)) c by rw [hla, Option.getD_some, mrg_keep (.inr hkx)]; exact hvc2)
          have hnm := hxu2.noMap hkx
          clear hxu2
          clear h2 h3 h4 h5 h6 hsub hbw hsk hv1 hc1 hvc hvm hz hsz hnow hB2 hlx hW2 hDt2 hvc2 hrest hv hat hlk hlt hg2 hs2 hrg hC h1 hrg2
          clear hwx hkx hla
          rcases hnm with rfl | ⟨U, q, rfl, hU⟩
          · go_wp2_with (at_mapUpdate; refine wpList_mapUpdate_own _ rfl _ _ _ 91 rfl 9 20 (Maps.string_keyed Tryz.underlying9) Tryz.underlying91 Rh w.heap.size n _ rfl h1' hmx _ _ (litS s) rfl rfl hkey (.held (c)) [] rfl ?_)
            intro w3 hown3 hg3
            obtain ⟨hC3, hrg3⟩ := HR.out w2 w3 (c) (grown_self w2) HZ.out hown3 hg3
            have HC3 := Lib.hid hC3
            clear hown3 hg3 hC3 HR h1' hmx hkey hen HZ
            go_wp2_with fail
            go_roundw
            case rel => exact ⟨_, cnt2, hrg3, HC3⟩
            case measure => rw [hrg3.left_eq, HLR.out.1]; exact HLR.out.2
          · go_wp2_with (at_mapUpdate; refine wpList_mapUpdate_own _ rfl _ _ _ 91 rfl 9 20 (Maps.string_keyed Tryz.underlying9) Tryz.underlying91 Rh w.heap.size n _ rfl h1' hmx _ _ (litS s) rfl rfl hkey (.held (c)) [] rfl ?_)
            intro w3 hown3 hg3
            obtain ⟨hC3, hrg3⟩ := HR.out w2 w3 (c) (grown_self w2) HZ.out hown3 hg3
            have HC3 := Lib.hid hC3
            clear hown3 hg3 hC3 HR h1' hmx hkey hen HZ
            go_wp2_with fail
            go_roundw
            case rel => exact ⟨_, cnt2, hrg3, HC3⟩
            case measure => rw [hrg3.left_eq, HLR.out.1]; exact HLR.out.2

mutual
theorem deep_all : ∀ b : J, DeepOK b
  | .obj ks vs => deep_of ks vs (deep_alls vs)
  | .null => fun _ _ _ _ _ _ h => by simp [J.kind] at h
  | .bool b => fun _ _ _ _ _ _ h => by cases b <;> simp [J.kind] at h
  | .num _ => fun _ _ _ _ _ _ h => by simp [J.kind] at h
  | .str _ => fun _ _ _ _ _ _ h => by simp [J.kind] at h
  | .arr _ => fun _ _ _ _ _ _ h => by simp [J.kind] at h
theorem deep_alls : ∀ l : List J, ∀ x ∈ l, DeepOK x
  | [], _, h => absurd h (by simp)
  | a :: l, x, h => (List.mem_cons.1 h).elim (fun e => e ▸ deep_all a) (deep_alls l x)
end
end Go.Proofs.YtfhppajnnbbcjaaGreatDoor
