/- Walks: maps.Copy into an empty map. -/
import Derived.Test.YtfhppajnnbbcjaaGreatDoorGy9
import Derived.Test.YtfhppajnnbbcjaaGreatDoorMa2
namespace Go.Proofs.YtfhppajnnbbcjaaGreatDoor
open Go.RowKit Go.Maps Go.Sort

theorem MapIs.mono {w : World} {r n n' : Nat} {ks : List ByteArray} {xs : List Value} (h : MapIs w r n ks xs) (hn : n ≤ n') : MapIs w r n' ks xs := by
  obtain ⟨es, clock, hb, F, hs, hD⟩ := h
  exact ⟨es, clock, hb, F, Nat.le_trans hs hn, hD⟩

theorem MapIs.grown {w w' : World} {r n : Nat} {ks : List ByteArray} {xs : List Value} {row : Option Nat} (h : MapIs w r n ks xs) (hg : w.grownBy w' row) (hr : some r ≠ row) : MapIs w' r n ks xs := by
  have hlt := World.ownsMap.lt h
  obtain ⟨es, clock, hb, F, hs, hD⟩ := h
  exact ⟨es, clock, (hg.block r hlt hr).trans hb, F, hs, hD⟩

theorem key_inv (key : Value) (kl : Lit) (h : keyOf Tryz.prog 9 key = some kl) : ∃ s : ByteArray, key = .string s := by
  obtain ⟨x, hx, -⟩ := Maps.keyOf_str Tryz.underlying9 h
  exact ⟨_, hx⟩
theorem key_lit {s : ByteArray} {kl : Lit} (h : keyOf Tryz.prog 9 (.string s) = some kl) : kl = litS s := by
  obtain ⟨x, hx, rfl, -⟩ := Maps.keyOf_str Tryz.underlying9 h
  have : s = ⟨x.toArray⟩ := Value.string.inj hx
  subst this
  simp [litS]

theorem has_iff {ks : List ByteArray} {xs : List Value} (hl : ks.length = xs.length) (s : ByteArray) : Maps.has (mapD ks xs) (litS s) = true ↔ s ∈ ks := by
  unfold mapD
  rw [has_find]
  constructor
  · intro h
    apply Classical.byContradiction
    intro hn
    rw [find_none hn] at h
    cases h
  · intro h
    obtain ⟨x, hx⟩ := lookV_some hl h
    obtain ⟨i, h1, h2⟩ := lookV_at hx
    cases hf : (entriesOf ks xs).find? (fun p => p.1.sameKey (litS s)) with
    | some p => rfl
    | none =>
      rw [List.find?_eq_none] at hf
      have hm : (litS s, DataW.held x) ∈ entriesOf ks xs := by
        unfold entriesOf
        refine List.mem_map.2 ⟨(s, x), ?_, rfl⟩
        rw [List.mem_iff_getElem?]
        exact ⟨i, by rw [List.getElem?_zip_eq_some]; exact ⟨h1, h2⟩⟩
      have := hf _ hm
      rw [litS_same] at this
      simp at this

theorem at_look {ks : List ByteArray} {xs : List Value} (hs : SortedK ks) (hl : ks.length = xs.length) {s : ByteArray} (hk : s ∈ ks) {c : Value} {y : DataW Value} (hv : ∃ ps, Rh c = some (y, ps)) (hat : ∀ zd, (mapD ks xs).atKey (litS s) zd = y) : lookV s ks xs = some c := by
  obtain ⟨x, hx⟩ := lookV_some hl hk
  obtain ⟨i, h1, h2⟩ := lookV_at hx
  have hf := find_entries (not_before hs h1) h1 h2
  have := hat (.held .nilIface)
  unfold mapD DataW.atKey at this
  simp only [hf] at this
  obtain ⟨ps, hv⟩ := hv
  simp only [Rh, Option.some.injEq, Prod.mk.injEq] at hv
  rw [← this] at hv
  have e : c = x := DataW.held.inj hv.1
  rw [hx, e]

/-- the target while it is filled -/
structure CpRel (ka : List ByteArray) (xa : List Value) (m : Nat) (left : Lit → Bool) (cnt : Nat) (w wr : World) : Prop where
  tgt : ∃ (n : Nat) (kt : List ByteArray) (xt : List Value), MapIs wr m n kt xt ∧ n + cnt ≤ ka.length ∧ SortedK kt ∧ kt.length = xt.length ∧ ∀ s, lookV s kt xt = if left (litS s) = true then none else lookV s ka xa
  sub : ∀ s, left (litS s) = true → s ∈ ka
  grown : w.grownBy wr (some m)

set_option maxRecDepth 100000 in
set_option maxHeartbeats 1000000 in
theorem copy_any (r m n : Nat) (ka : List ByteArray) (xa : List Value) (w : World) (hm : MapIs w r n ka xa) (hd : MapIs w m 0 [] []) (hne : m ≠ r) (hs : SortedK ka) (hl : ka.length = xa.length) (hn : ka.length ≤ 1048576) :
    Calls Tryz.prog 196 #[.map (some m), .map (some r)] w fun e w' => e = .returned (.tuple #[]) ∧ MapIs w' m ka.length ka xa ∧ w.grownBy w' (some m) := by
  have hsz := size_mapD hl
  have hown := Lib.hid hm
  have HD := Lib.hid hd
  have hmlt := World.ownsMap.lt hd
  have HS := Lib.hid (And.intro hs hl)
  clear hm hd hs hl
  go_enter Tryz.func196, Tryz.ntmps196
  go_wp2_with (at_range; refine wpList_range_own _ rfl _ 91 rfl 9 20 keyed9 Tryz.underlying91 Rh r n (mapD ka xa) rfl hown.out ?_; intro w0 hrg0 hg0 hs0)
  go_frame
  have H0 : Hid (CpRel ka xa m (Maps.has (mapD ka xa)) (Maps.size (mapD ka xa)) w w0) := by
    refine ⟨⟨0, [], [], HD.out.grown hg0 (by simp), by omega, by simp, rfl, fun s => ?_⟩, fun s h => (has_iff HS.out.2 s).1 h, ⟨hg0.os, hg0.tape, hg0.output, hg0.size, fun k hk _ => hg0.block k hk (by simp)⟩⟩
    cases h : Maps.has (mapD ka xa) (litS s) with
    | true => rfl
    | false =>
      rw [if_neg Bool.false_ne_true, lookV_none (ks := ka) (xs := xa) (fun hm => by rw [(has_iff HS.out.2 s).2 hm] at h; cases h)]
      rfl
  go_loopw [] (fun wr => ∃ (left : Lit → Bool) (cnt : Nat), wr.ranges Tryz.prog 9 Rh r w.heap.size n (mapD ka xa) left cnt ∧ Hid (CpRel ka xa m left cnt w wr)) (fun wr => wr.rangeLeft r w.heap.size)
  case atStart => exact ⟨_, _, hrg0, H0⟩
  case round =>
    clear H0 hrg0
    obtain ⟨left, cnt, hrg, hC⟩ := hrel
    go_wp2_with (at_next; refine wpList_next_ranges _ rfl _ rfl 9 keyed9 Rh Value.string id key_inv (fun v y hv => ⟨v, rfl⟩) r w.heap.size n _ _ _ rfl hrg ?_ ?_)
    · intro hc0 hl0
      obtain ⟨⟨n', kt, xt, h1, h2, h3, h4, h5⟩, -, hg⟩ := hC.out
      have hext := look_ext h3 HS.out.1 h4 HS.out.2 (fun q => by
        rw [h5 q, hl0, if_neg Bool.false_ne_true])
      rw [hext.1, hext.2] at h1
      have HE := Lib.hid (And.intro (h1.mono (show n' ≤ ka.length by omega)) hg)
      clear h1 h2 h3 h4 h5 hg hext hrg hC
      go_wp2_with fail
      refine bodyPost_end (v := .tuple #[]) (by simp [results, Tryz.results196, go_sem]) rfl ?_
      exact ⟨rfl, HE.out.1, HE.out.2⟩
    · intro s c kl yd yp w2 cnt2 hkey hlk hv hat hrg2 hlt hg2 hs2 hen
      obtain ⟨⟨n', kt, xt, h1, h2, h3, h4, h5⟩, hsub, hg⟩ := hC.out
      obtain rfl := key_lit hkey
      have hsk := hsub s hlk
      have hlook := at_look HS.out.1 HS.out.2 hsk ⟨_, hv⟩ hat
      have hne2 : m ≠ w.heap.size := by omega
      have h1' : MapIs w2 m n' kt xt := h1.grown hg2 (by simpa using hne2)
      have hmx : n' < maxLen := by unfold maxLen; omega
      have HF : Hid (∀ w3, w3.ownsMap Tryz.prog 9 Rh m (n' + 1) ((mapD kt xt).put (litS s) (.held c)) → w2.grownBy w3 (some m) → CpRel ka xa m (fun z => left z && !z.sameKey (litS s)) cnt2 w w3 ∧ w3.ranges Tryz.prog 9 Rh r w.heap.size n (mapD ka xa) (fun z => left z && !z.sameKey (litS s)) cnt2) := by
        intro w3 hown3 hg3
        rw [put_ins h3 h4] at hown3
        refine ⟨⟨⟨n' + 1, _, _, hown3, by omega, sorted_insK h3, length_insV h4, fun q => ?_⟩, fun q hq => hsub q (by simp at hq; exact hq.1), ?_⟩, hrg2.kept hg3 (by simpa using Ne.symm hne) (by simpa using Ne.symm hne2)⟩
        · rw [lookV_insV h4, h5 q, litS_same]
          by_cases e : s = q
          · subst e
            rw [if_pos rfl]
            simp [hlook]
          · rw [if_neg e]
            have : decide (q = s) = false := by simpa using Ne.symm e
            simp [this]
        · exact ⟨hg3.os.trans (hg2.os.trans hg.os), hg3.tape.trans (hg2.tape.trans hg.tape), hg3.output.trans (hg2.output.trans hg.output), Nat.le_trans hg.size (Nat.le_trans hg2.size hg3.size), fun k hk hkr =>
            (hg3.block k (by have := hg.size; have := hg2.size; omega) hkr).trans ((hg2.block k (by have := hg.size; omega) (by simp; omega)).trans (hg.block k hk hkr))⟩
      have hlr := hrg.left_eq
      clear h1 h2 h3 h4 h5 hsub hg hsk hlook hat hv hlk hrg2 hrg hC hg2 hs2 hsz
      have HLR := Lib.hid (And.intro hlr hlt)
      clear hlr hlt
      go_wp2_with (at_mapUpdate; refine wpList_mapUpdate_own _ rfl _ _ _ 91 rfl 9 20 (Maps.string_keyed Tryz.underlying9) Tryz.underlying91 Rh m n' _ rfl h1' hmx _ _ (litS s) rfl rfl hkey (.held c) [] rfl ?_)
      intro w3 hown3 hg3
      obtain ⟨hC3, hrg3⟩ := HF.out w3 hown3 hg3
      have HC3 := Lib.hid hC3
      clear hown3 hg3 hC3 HF h1' hmx hkey hen
      go_wp2_with fail
      go_roundw
      case rel => exact ⟨_, cnt2, hrg3, HC3⟩
      case measure => rw [hrg3.left_eq, HLR.out.1]; exact HLR.out.2
end Go.Proofs.YtfhppajnnbbcjaaGreatDoor
