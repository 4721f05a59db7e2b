/- slices.Sorted(maps.Keys(m)) at this program: the shelf's contracts, laid by its own program in plain words; then the keys of a map, sorted.
   Walks: impl.mapFromGo.
   Walks: impl.fromGo, whole.
   Laws: type assertions on the interface error.
   Walks: impl.result.
   Walks: the laws' told and array. -/
import Derived.Shelf.SlIter.Nil
import Derived.Shelf.SortM.Plain
import Derived.Shelf.SortM.SortNone
import Derived.Ground.GgzProg
import Derived.Ground.SlgmProg
import Derived.Test.YtfhppajnnbbcjaaGreatDoorGx2
import Derived.Test.YtfhppajnnbbcjaaGreatDoorGx5
import Derived.Stop.Asserts

section
namespace Go.Proofs
open Go.RowKit Go.Maps Go.Sort Go.Shelf
def Tryz.keys178_ren : Go.Shelf.Ren := ⟨fun | 7 => 178 | 10 => 213 | n => n, fun | 23 => 91 | 26 => 9 | 3 => 20 | 28 => 179 | 0 => 0 | 27 => 178 | 33 => 114 | 4 => 4 | n => n, fun | n => n⟩
theorem Tryz.keys178 : Go.Proofs.SlLaysZ.n7 Tryz.prog Tryz.keys178_ren := {
  mixed := by kernel_rfl
  f7 := ⟨Tryz.f178.name, by decide, Tryz.func178.trans (congrArg some (by kernel_rfl))⟩
  f10 := ⟨Tryz.f213.name, by decide, Tryz.func213.trans (congrArg some (by kernel_rfl))⟩
  t0 := Tryz.underlying0
  a0 := Tryz.isAgg0
  z0 := Tryz.sizeOf0
  v0 := Tryz.zeroValue0
  t4 := Tryz.underlying4
  a4 := Tryz.isAgg4
  z4 := Tryz.sizeOf4
  v4 := Tryz.zeroValue4
  t23 := Tryz.underlying91
  a23 := Tryz.isAgg91
  z23 := Tryz.sizeOf91
  v23 := Tryz.zeroValue91
  t26 := Tryz.underlying9
  a26 := Tryz.isAgg9
  z26 := Tryz.sizeOf9
  v26 := Tryz.zeroValue9
  t27 := Tryz.underlying178
  a27 := Tryz.isAgg178
  z27 := Tryz.sizeOf178
  v27 := Tryz.zeroValue178
  t28 := Tryz.underlying179
  a28 := Tryz.isAgg179
  z28 := Tryz.sizeOf179
  v28 := Tryz.zeroValue179
  t33 := Tryz.underlying114
  a33 := Tryz.isAgg114
  z33 := Tryz.sizeOf114
  v33 := Tryz.zeroValue114 }
def Tryz.sorted177_ren : Go.Shelf.Ren := ⟨fun | 6 => 177 | 8 => 211 | 9 => 212 | 11 => 252 | 13 => 254 | 12 => 253 | 23 => 292 | 24 => 293 | 14 => 283 | 15 => 284 | 16 => 285 | 17 => 286 | 18 => 287 | 19 => 288 | 20 => 289 | 21 => 290 | 22 => 291 | 25 => 323 | 26 => 324 | 27 => 325 | 28 => 326 | 29 => 327 | 30 => 217 | 31 => 341 | n => n, fun | 26 => 9 | 28 => 179 | 24 => 24 | 0 => 0 | 3 => 3 | 37 => 118 | 48 => 255 | 50 => 200 | 4 => 4 | 40 => 312 | 39 => 311 | 45 => 82 | 5 => 5 | 9 => 9 | 51 => 341 | 55 => 344 | 57 => 358 | 58 => 359 | 33 => 114 | n => n, fun | n => n⟩
theorem Tryz.sorted177 : Go.Proofs.SlLaysZ.n6 Tryz.prog Tryz.sorted177_ren := {
  mixed := by kernel_rfl
  f6 := ⟨Tryz.f177.name, by decide, Tryz.func177.trans (congrArg some (by kernel_rfl))⟩
  f8 := ⟨Tryz.f211.name, by decide, Tryz.func211.trans (congrArg some (by kernel_rfl))⟩
  f11 := ⟨Tryz.f252.name, by decide, Tryz.func252.trans (congrArg some (by kernel_rfl))⟩
  t0 := Tryz.underlying0
  a0 := Tryz.isAgg0
  z0 := Tryz.sizeOf0
  v0 := Tryz.zeroValue0
  t24 := Tryz.underlying24
  a24 := Tryz.isAgg24
  z24 := Tryz.sizeOf24
  v24 := Tryz.zeroValue24
  t26 := Tryz.underlying9
  a26 := Tryz.isAgg9
  z26 := Tryz.sizeOf9
  v26 := Tryz.zeroValue9
  t28 := Tryz.underlying179
  a28 := Tryz.isAgg179
  z28 := Tryz.sizeOf179
  v28 := Tryz.zeroValue179
  i26 := by kernel_rfl }
def Tryz.sort212_ren : Go.Shelf.Ren := ⟨fun | 6 => 212 | 8 => 254 | 9 => 253 | 19 => 292 | 20 => 293 | 21 => 283 | 22 => 284 | 23 => 285 | 24 => 286 | 25 => 287 | 26 => 288 | 27 => 289 | 28 => 290 | 29 => 291 | 36 => 323 | 31 => 324 | 32 => 325 | 37 => 326 | 38 => 327 | 39 => 217 | 41 => 341 | n => n, fun | 27 => 24 | 29 => 9 | 3 => 3 | 32 => 118 | 26 => 24 | 0 => 0 | 44 => 255 | 46 => 200 | 4 => 4 | 36 => 312 | 35 => 311 | 41 => 82 | 5 => 5 | 9 => 9 | 53 => 341 | 57 => 344 | 63 => 358 | 64 => 359 | n => n, fun | n => n⟩
theorem Tryz.sort212 : Go.Proofs.SlLaysM.n6 Tryz.prog Tryz.sort212_ren := {
  mixed := by kernel_rfl
  f6 := ⟨Tryz.f212.name, by decide, Tryz.func212.trans (congrArg some (by kernel_rfl))⟩
  f8 := Tryz.func254.trans (congrArg some (by kernel_rfl))
  f9 := ⟨Tryz.f253.name, by decide, Tryz.func253.trans (congrArg some (by kernel_rfl))⟩
  f19 := Tryz.func292.trans (congrArg some (by kernel_rfl))
  f20 := Tryz.func293.trans (congrArg some (by kernel_rfl))
  f21 := ⟨Tryz.f283.name, by decide, Tryz.func283.trans (congrArg some (by kernel_rfl))⟩
  f22 := ⟨Tryz.f284.name, by decide, Tryz.func284.trans (congrArg some (by kernel_rfl))⟩
  f23 := ⟨Tryz.f285.name, by decide, Tryz.func285.trans (congrArg some (by kernel_rfl))⟩
  f24 := ⟨Tryz.f286.name, by decide, Tryz.func286.trans (congrArg some (by kernel_rfl))⟩
  f25 := ⟨Tryz.f287.name, by decide, Tryz.func287.trans (congrArg some (by kernel_rfl))⟩
  f26 := ⟨Tryz.f288.name, by decide, Tryz.func288.trans (congrArg some (by kernel_rfl))⟩
  f27 := ⟨Tryz.f289.name, by decide, Tryz.func289.trans (congrArg some (by kernel_rfl))⟩
  f28 := ⟨Tryz.f290.name, by decide, Tryz.func290.trans (congrArg some (by kernel_rfl))⟩
  f29 := ⟨Tryz.f291.name, by decide, Tryz.func291.trans (congrArg some (by kernel_rfl))⟩
  f31 := Tryz.func324.trans (congrArg some (by kernel_rfl))
  f32 := Tryz.func325.trans (congrArg some (by kernel_rfl))
  f36 := ⟨Tryz.f323.name, by decide, Tryz.func323.trans (congrArg some (by kernel_rfl))⟩
  f37 := ⟨Tryz.f326.name, by decide, Tryz.func326.trans (congrArg some (by kernel_rfl))⟩
  f38 := ⟨Tryz.f327.name, by decide, Tryz.func327.trans (congrArg some (by kernel_rfl))⟩
  f39 := ⟨Tryz.f217.name, by decide, Tryz.func217.trans (congrArg some (by kernel_rfl))⟩
  f41 := ⟨Tryz.f341.name, by decide, Tryz.func341.trans (congrArg some (by kernel_rfl))⟩
  t0 := Tryz.underlying0
  a0 := Tryz.isAgg0
  z0 := Tryz.sizeOf0
  v0 := Tryz.zeroValue0
  t3 := Tryz.underlying3
  a3 := Tryz.isAgg3
  z3 := Tryz.sizeOf3
  v3 := Tryz.zeroValue3
  t4 := Tryz.underlying4
  a4 := Tryz.isAgg4
  z4 := Tryz.sizeOf4
  v4 := Tryz.zeroValue4
  t5 := Tryz.underlying5
  a5 := Tryz.isAgg5
  z5 := Tryz.sizeOf5
  v5 := Tryz.zeroValue5
  t9 := Tryz.underlying9
  a9 := Tryz.isAgg9
  z9 := Tryz.sizeOf9
  v9 := Tryz.zeroValue9
  t26 := Tryz.underlying24
  a26 := Tryz.isAgg24
  z26 := Tryz.sizeOf24
  v26 := Tryz.zeroValue24
  t27 := Tryz.underlying24
  a27 := Tryz.isAgg24
  z27 := Tryz.sizeOf24
  v27 := Tryz.zeroValue24
  t29 := Tryz.underlying9
  a29 := Tryz.isAgg9
  z29 := Tryz.sizeOf9
  v29 := Tryz.zeroValue9
  t32 := Tryz.underlying118
  a32 := Tryz.isAgg118
  z32 := Tryz.sizeOf118
  v32 := Tryz.zeroValue118
  t35 := Tryz.underlying311
  a35 := Tryz.isAgg311
  z35 := Tryz.sizeOf311
  v35 := Tryz.zeroValue311
  t36 := Tryz.underlying312
  a36 := Tryz.isAgg312
  z36 := Tryz.sizeOf312
  v36 := Tryz.zeroValue312
  t41 := Tryz.underlying82
  a41 := Tryz.isAgg82
  z41 := Tryz.sizeOf82
  v41 := Tryz.zeroValue82
  t44 := Tryz.underlying255
  a44 := Tryz.isAgg255
  z44 := Tryz.sizeOf255
  v44 := Tryz.zeroValue255
  t46 := Tryz.underlying200
  a46 := Tryz.isAgg200
  z46 := Tryz.sizeOf200
  v46 := Tryz.zeroValue200
  t53 := Tryz.underlying341
  a53 := Tryz.isAgg341
  z53 := Tryz.sizeOf341
  v53 := Tryz.zeroValue341
  t57 := Tryz.underlying344
  a57 := Tryz.isAgg344
  z57 := Tryz.sizeOf344
  v57 := Tryz.zeroValue344
  t63 := Tryz.underlying358
  a63 := Tryz.isAgg358
  z63 := Tryz.sizeOf358
  v63 := Tryz.zeroValue358
  t64 := Tryz.underlying359
  a64 := Tryz.isAgg359
  z64 := Tryz.sizeOf359
  v64 := Tryz.zeroValue359 }
/-- slices.Sort's two contracts at this dump, at the fence that asks nothing. -/
theorem Tryz.sorts177 (m : Nat) : AnyZ.SortsIn Tryz.prog Tryz.sorted177_ren Fence.wide m :=
  ⟨fun blk off cap ss W hH hblk hsz => callsIn_wide.2 (AnyM.slices_Sort_string Tryz.sort212 blk off cap ss W hH hblk hsz),
   fun p cap W => callsIn_wide.2 (AnyM.slices_Sort_string_none Tryz.sort212 p cap W)⟩

/-- **maps.Keys[map[string]any,string,any], at whatever map, the nil one too:** a function value over ONE NEW BLOCK, which holds the map. -/
theorem Tryz.maps_Keys_178 (mb : Option Nat) (W : World) : CallsIn Fence.wide 5 Tryz.prog 178 #[.map mb] W fun e w' => e = .returned (.func (.func 213) #[] #[.pointer (some ⟨W.heap.size, 0, none⟩)]) ∧ w' = W.alloc (.cells #[.map mb] 91) :=
  AnyZ.keys_in Tryz.keys178 Fence.wide 5 trivial rfl mb W

set_option maxHeartbeats 1000000 in
/-- **slices.Sorted[string] AT WHAT maps.Keys[map[string]any,string,any] HANDED BACK FOR A MAP THAT IS NOT nil** ('w': the world AHEAD of maps.Keys' call): A NEW SLICE THAT HOLDS THE MAP's KEYS, SORTED; nil just where it has none; nothing that lay before has turned. -/
theorem Tryz.slices_Sorted_keys_177_178 {H : Type} (b nn : Nat) (D0 : DataW H) (R : Value → Option (DataW H × List MemPlace)) (w : World) (hown : w.ownsMap Tryz.prog 9 R b nn D0) (hmax : Maps.size D0 ≤ maxLen) (hbytes : Maps.size D0 * 16 ≤ 140737488355328) :
    CallsIn Fence.wide 5 Tryz.prog 177 #[.func (.func 213) #[] #[.pointer (some ⟨w.heap.size, 0, none⟩)]] (w.alloc (.cells #[.map (some b)] 91)) fun e w' => ∃ (v : Value) (ss : List (List UInt8)), e = .returned v ∧ ss.Perm (strKeys D0) ∧
      w'.ownsRow (w.alloc (.cells #[.map (some b)] 91)).heap.size 9 1 v ss.length ((ss.mergeSort (fun x y => decide (x ≤ y))).map encStr) ∧ (v = .slice none 0 0 ↔ ss = []) ∧ Below (w.alloc (.cells #[.map (some b)] 91)).heap.size (w.alloc (.cells #[.map (some b)] 91)) w' := by
  have hbl := hown.lt
  have hseq : SeqGives Fence.wide 2 Tryz.prog 213 #[.pointer (some ⟨w.heap.size, 0, none⟩)] encStr (fun ss => ss.Perm (strKeys D0)) (Maps.size D0) (w.alloc (.cells #[.map (some b)] 91)) :=
    AnyZ.keys_gives (ρ := Tryz.keys178_ren) { Tryz.keys178 with } Fence.wide _ trivial rfl (by omega) w.heap.size b nn D0 _ (by simp) (by simp) (by
      obtain ⟨es, clock, hb, Ft, hs, hD⟩ := hown
      exact ⟨es, clock, (Below.heap_alloc _ _ b hbl).trans hb, Ft, hs, hD⟩)
  exact AnyZ.sorted_in Tryz.sorted177 Fence.wide 5 trivial trivial trivial trivial rfl (by omega) (Tryz.sorts177 _) (enters_of Tryz.func212 (by kernel_rfl) rfl) 213 #[.pointer (some ⟨w.heap.size, 0, none⟩)] trivial (enters_of Tryz.func213 (by kernel_rfl) rfl) _ _ hmax hbytes _ hseq

end Go.Proofs

namespace Go.Proofs.YtfhppajnnbbcjaaGreatDoor
open Go.RowKit

theorem mapsKeys_any (r : Nat) (w : World) : Calls Tryz.prog 178 #[.map (some r)] w fun e w' => e = .returned (.func (.func 213) #[] #[.pointer (some ⟨w.heap.size, 0, none⟩)]) ∧ w' = w.alloc (.cells #[.map (some r)] 91) :=
  callsIn_wide.1 (Tryz.maps_Keys_178 (some r) w)

theorem strKeys_mapD {ks : List ByteArray} {xs : List Value} (h : ks.length = xs.length) : Go.strKeys (mapD ks xs) = ks.map fun k => k.data.toList := by
  show (entriesOf ks xs).map _ = _
  unfold entriesOf
  rw [List.map_map]
  have : (List.map ((fun p : Lit × DataW Value => Go.strOf p.1) ∘ fun p : ByteArray × Value => (litS p.1, DataW.held p.2)) (ks.zip xs)) = (ks.zip xs).map (fun p => p.1.data.toList) := rfl
  have e : (ks.zip xs).map (fun p : ByteArray × Value => p.1.data.toList) = ((ks.zip xs).map Prod.fst).map (fun k => k.data.toList) := by rw [List.map_map]; rfl
  rw [this, e, List.map_fst_zip (by omega)]

theorem sorted_keys {ks : List ByteArray} (hs : ks.Pairwise (fun a b => cmpB a b < 0)) : (ks.map fun k => k.data.toList).mergeSort (fun x y => decide (x ≤ y)) = ks.map fun k => k.data.toList := by
  apply List.mergeSort_of_pairwise
  rw [List.pairwise_map]
  refine hs.imp fun {a b} h => ?_
  rw [cmpB_lt_iff, bytesLess_eq] at h
  simp only [decide_eq_true_eq] at h ⊢
  exact List.le_of_lt h

theorem sortedKeys_any (r n : Nat) (ks : List ByteArray) (xs : List Value) (w : World) (hm : MapIs w r n ks xs) (hl : ks.length = xs.length) (hs : ks.Pairwise (fun a b => cmpB a b < 0)) (hn : ks.length ≤ 1048576) :
    Calls Tryz.prog 177 #[.func (.func 213) #[] #[.pointer (some ⟨w.heap.size, 0, none⟩)]] (w.alloc (.cells #[.map (some r)] 91)) fun e w' => ∃ v, e = .returned v ∧
      w'.ownsRow (w.heap.size + 1) 9 1 v ks.length (ks.map Value.string) ∧ Below (w.heap.size + 1) (w.alloc (.cells #[.map (some r)] 91)) w' := by
  have hsz : Maps.size (mapD ks xs) = ks.length := by
    show (entriesOf ks xs).length = _
    simp [entriesOf]
    omega
  refine (callsIn_wide.1 (Tryz.slices_Sorted_keys_177_178 r n (mapD ks xs) Rh w hm (by rw [hsz]; unfold maxLen; omega) (by rw [hsz]; omega))).mono ?_
  rintro e w' ⟨v, ss, rfl, hp, hown, -, hb⟩
  rw [World.size_alloc] at hown hb
  refine ⟨v, rfl, ?_, hb⟩
  rw [strKeys_mapD hl] at hp
  have h1 := Go.mergeSort_of_perm hp
  have h2 : ss.mergeSort (fun x y => decide (x ≤ y)) = ks.map fun k => k.data.toList := h1.trans (sorted_keys hs)
  rw [h2] at hown
  have h3 : ss.length = ks.length := by rw [hp.length_eq]; simp
  rw [h3, List.map_map] at hown
  exact hown

end Go.Proofs.YtfhppajnnbbcjaaGreatDoor
end

section
namespace Go.Proofs.YtfhppajnnbbcjaaGreatDoor
open Go.RowKit

def MfRel (ks : List ByteArray) (l : List J) (w : World) (kv : Value) (wr : World) (k : Nat) : Prop := ∃ u v, MfSt w wr ks kv u v k u v (l.take k)

theorem Tryz.info9 : (Tryz.prog.info? 9).map (fun i => (i.zero, i.size, i.bytes)) = some (some (.string ⟨#[]⟩), 1, 16) := by kernel_rfl

set_option maxRecDepth 100000 in
theorem mapFromGo_of (ks : List ByteArray) (l : List J) (hel : ∀ x ∈ l, FromGoOK x) (D : Nat → Prop) (r : Nat) (xs : List Value) (w : World) (wj : (J.obj ks l).WF) (hD : ∀ b, D b → All w b) (hDr : D r)
    (hm : MapIs w r ks.length ks xs) (hlx : ks.length = xs.length) (hal : AList w D l xs) :
    Calls Tryz.prog 130 #[.map (some r)] w (FromGoPost (.obj ks l) w) := by
  simp only [J.WF] at wj
  obtain ⟨hlen, hn, hsz, hsorted, wl⟩ := wj
  obtain ⟨i26, hi, hz0, hz1, hz2⟩ := info_parts Tryz.info26
  obtain ⟨i9, hi9, hy0, hy1, hy2⟩ := info_parts Tryz.info9
  have HI := Lib.hid (And.intro hi (And.intro hz0 (And.intro hz1 hz2)))
  have HI9 := Lib.hid (And.intro hi9 (And.intro hy0 (And.intro hy1 hy2)))
  clear hi hz0 hz1 hz2 hi9 hy0 hy1 hy2
  have HK := fun W => Lib.hid (mapsKeys_any r W)
  go_enter Tryz.func130, Tryz.ntmps130
  go_wp2_with fail
  refine (HK _).out.mono ?_
  rintro e w1 ⟨rfl, rfl⟩
  clear HK
  have hm2 : MapIs ((w.alloc (.cells #[.int .i64 0, .int .i64 0, .string ⟨#[]⟩, .slice none 0 0, .slice none 0 0, .slice none 0 0] 26)).alloc (.cells #[.int .i64 6, .int .i64 0, .string ⟨#[]⟩, .slice none 0 0, .slice none 0 0, .slice none 0 0] 26)) r ks.length ks xs := World.ownsMap.alloc (World.ownsMap.alloc hm _) _
  have HS := Lib.hid (sortedKeys_any r ks.length ks xs _ hm2 hlx hsorted hn)
  clear hm2
  go_wp2_with fail
  rw [World.size_alloc, World.size_alloc] at HS
  refine HS.out.mono ?_
  rintro e w1 ⟨kv, rfl, hkv, hb1⟩
  clear HS
  have h0 : MfRel ks l w kv w1 0 := by
    have hA : ∀ b, b < w.heap.size + 3 → w1.heap[b]? = _ := fun b hb => hb1.block b hb
    refine ⟨.slice none 0 0, .slice none 0 0, ?_, ⟨_, rfl, ?_⟩, ?_, hkv, ⟨by simp, .inl ⟨rfl, rfl⟩⟩, VGrow.none_ _ _ _, fun _ hg => (by cases hg), fun _ hg => (by cases hg)⟩
    · exact (((Below.refl _ _).alloc (Nat.le_refl _) _).alloc (by simp) _).alloc (by simp; omega) _ |>.trans (hb1.mono (by omega))
    · rw [hA _ (by omega), Below.heap_alloc _ _ _ (by simp; omega), Below.heap_alloc _ _ _ (by simp)]
      exact heap_alloc_new w _
    · rw [hA _ (by omega), Below.heap_alloc _ _ _ (by simp)]
      exact heap_alloc_new1 _ _ _
  obtain ⟨AK, cK, rfl, -⟩ := ownsRow_form hkv
  have H0 := Lib.hid h0
  clear h0 hkv hb1
  go_wp2_with fail
  go_loopw [14] (fun i wr => ∃ k : Nat, k ≤ ks.length ∧ i = .int .i64 k ∧ Hid (MfRel ks l w (.slice AK ks.length cK) wr k)) (fun i _ => ks.length - (intOf i).toNat)
  case atStart => exact ⟨0, Nat.zero_le _, rfl, H0⟩
  case round =>
    clear H0
    obtain ⟨k, hk, rfl, hR⟩ := hrel
    obtain ⟨u, v, hst⟩ := hR.out
    clear hR
    by_cases ha : k < ks.length
    · obtain ⟨x, hx⟩ : ∃ x, l[k]? = some x := ⟨_, List.getElem?_eq_getElem (by omega)⟩
      obtain ⟨kk, hkx⟩ : ∃ s, ks[k]? = some s := ⟨_, List.getElem?_eq_getElem ha⟩
      obtain ⟨y, hy, hay⟩ := (AList.keep (Same.of_below hst.below hD) (fun _ h => h) _ _ hal).get hx
      obtain ⟨A', c', he', hg', hc', hc''⟩ := ownsRow_form hst.src
      obtain ⟨g, hA, hg1, hg2, hg3⟩ := hg' (by omega)
      cases he'
      subst hA
      have hkc : wr.cell? ⟨g, k, none⟩ = some (.string kk) := hg3 k _ (by simp [hkx])
      clear hg3 hg'
      have hmr : MapIs wr r ks.length ks xs := hm.keep (Same.of_below hst.below hD) hDr
      obtain ⟨hlk, -⟩ := hmr.hit hsorted hkx hy (hsz _ (List.mem_of_getElem? hkx))
      clear hmr
      have HC := Lib.hid (hel x (List.mem_of_getElem? hx) D y wr (WFL_iff.1 wl _ (List.mem_of_getElem? hx)) (fun b hb' => Nat.lt_of_lt_of_le (hD b hb') hst.below.size) hay)
      have HST := Lib.hid hst
      have HL := Lib.hid hlen
      have HX := Lib.hid (And.intro hx hkx)
      have HW := Lib.hid (And.intro hsorted (And.intro hsz wl))
      have HM := Lib.hid (And.intro hm (And.intro hal hel))
      clear hst hay hlen hx hkx hsorted hsz wl hm hal hy hel
      go_wp2_with fail
      refine HC.out.mono ?_
      rintro e w1 ⟨cs, rfl, hcs, hb1⟩
      clear HC hlk hkc
      obtain ⟨A2, c2, A3, c3, A4, c4, rfl⟩ := SRep.six hcs
      have HA : Hid (MfAll w (w1.alloc (.cells #[.int .i64 x.kind, .int .i64 x.half, .string x.text, .slice A2 x.list.length c2, .slice A3 x.keys.length c3, .slice A4 x.vals.length c4] 26)).drew ks (.slice (some ⟨g, 0, none⟩) ks.length cK) u v k u v (l.take k) x [.int .i64 x.kind, .int .i64 x.half, .string x.text, .slice A2 x.list.length c2, .slice A3 x.keys.length c3, .slice A4 x.vals.length c4] [(w1.heap.size, .cells #[.int .i64 x.kind, .int .i64 x.half, .string x.text, .slice A2 x.list.length c2, .slice A3 x.keys.length c3, .slice A4 x.vals.length c4] 26)]) := by
        have hge : w.heap.size + 3 ≤ w1.heap.size := by have := hb1.size; omega
        have hs1 := HST.out.turn (hb1.mono (by omega)) (fun b _ hlt => hb1.block b hlt)
        have hx1 : MfX w w1 u v x [.int .i64 x.kind, .int .i64 x.half, .string x.text, .slice A2 x.list.length c2, .slice A3 x.keys.length c3, .slice A4 x.vals.length c4] := VRep.keep (fun _ _ => rfl) (fun b hb => ⟨⟨by have := hb.1; omega, fun e => by have := HST.out.keys.lt b e.symm; have := hb.1; omega⟩, hb.2, fun e => by have := HST.out.vals.own_lt b e.symm; have := hb.1; omega⟩) _ _ hcs
        have h0 : MfAll w w1 ks (.slice (some ⟨g, 0, none⟩) ks.length cK) u v k u v (l.take k) x [.int .i64 x.kind, .int .i64 x.half, .string x.text, .slice A2 x.list.length c2, .slice A3 x.keys.length c3, .slice A4 x.vals.length c4] [] := ⟨hs1, hx1, hge, fun p hp => by cases hp⟩
        have h1 := h0.alloc (.cells #[.int .i64 x.kind, .int .i64 x.half, .string x.text, .slice A2 x.list.length c2, .slice A3 x.keys.length c3, .slice A4 x.vals.length c4] 26)
        exact ⟨h1.st.turn (below_drewN (Below.refl _ _) 1) (fun _ _ _ => rfl), h1.x.turn (fun _ _ _ => rfl) (Nat.le_refl _), h1.size, h1.box⟩
      have hbx : w.heap.size + 3 ≤ w1.heap.size := by have := hb1.size; omega
      have HLX := Lib.hid hlx
      clear hcs hb1 hlx hD HM
      go_wp2_with fail
      refine wp_region_late (st := 11) (fun b W' => (b = false → W'.heap[w.heap.size + 1]? = some (.cells #[.int .i64 6, .int .i64 0, .string ⟨#[]⟩, .slice none 0 0, u, v] 26 (0, 0))) ∧
        W'.heap[w1.heap.size]? = some (.cells #[.int .i64 x.kind, .int .i64 x.half, .string x.text, .slice A2 x.list.length c2, .slice A3 x.keys.length c3, .slice A4 x.vals.length c4] 26 (0, 0))) 14 #[false, false, false, false, false, false, false, false, false, false, false, false, false, false] (by kernel_rfl) rfl rfl ?_
      generalize (w1.alloc (.cells #[.int .i64 x.kind, .int .i64 x.half, .string x.text, .slice A2 x.list.length c2, .slice A3 x.keys.length c3, .slice A4 x.vals.length c4] 26)).drew = W at HA ⊢
      have HS : ∀ W' : World, W'.heap[w.heap.size + 1]? = some (.cells #[.int .i64 6, .int .i64 0, .string ⟨#[]⟩, .slice none 0 0, u, v] 26 (0, 0)) → W'.heap[w1.heap.size]? = some (.cells #[.int .i64 x.kind, .int .i64 x.half, .string x.text, .slice A2 x.list.length c2, .slice A3 x.keys.length c3, .slice A4 x.vals.length c4] 26 (0, 0)) → (fun (b : Bool) (W' : World) => (b = false → W'.heap[w.heap.size + 1]? = some (.cells #[.int .i64 6, .int .i64 0, .string ⟨#[]⟩, .slice none 0 0, u, v] 26 (0, 0))) ∧
        W'.heap[w1.heap.size]? = some (.cells #[.int .i64 x.kind, .int .i64 x.half, .string x.text, .slice A2 x.list.length c2, .slice A3 x.keys.length c3, .slice A4 x.vals.length c4] 26 (0, 0))) false W' := fun _ h1 h2 => ⟨fun _ => h1, h2⟩
      have hS := HS _ HA.out.st.out (HA.out.box (w1.heap.size, _) (by simp)).1
      refine wpAnyQ_take' (S0 := fun _ => True) (i := 0) (oi := ⟨some 28, .fieldAddr 26 (.tmp 4) 4, _, _, _, _⟩) (v := ?_) (fun _ _ _ => trivial) rfl (by kernel_rfl) (by kernel_rfl) (by kernel_rfl) (by kernel_rfl) (fun _ _ _ h => h) (Or.inl ⟨by rfl, ?_⟩) hS ?_
      rotate_left
      · intro W' _; go_simp; with_reducible rfl
      simp only [Act.put, List.setIfInBounds_toArray, List.set_cons_zero, List.set_cons_succ]
      refine wpAnyQ_take (i := 1) (oi := ⟨some 29, .load 24 (.tmp 28), _, _, _, _⟩) (v := ?_) rfl (by kernel_rfl) (by kernel_rfl) (by kernel_rfl) (by kernel_rfl) (fun _ _ _ h => h) (Or.inl ⟨by rfl, ?_⟩) hS ?_
      rotate_left
      · intro W' hW'
        have hc : W'.cell? ⟨w.heap.size + 1, 4, none⟩ = some u := box_cell (hW'.1 rfl) 4
        go_simp; with_reducible rfl
      simp only [Act.put, List.setIfInBounds_toArray, List.set_cons_zero, List.set_cons_succ]
      refine wpAnyQ_take' (S0 := fun _ => True) (i := 2) (oi := ⟨some 30, .move (.tmp 6), _, _, _, _⟩) (v := ?_) (fun _ _ _ => trivial) rfl (by kernel_rfl) (by kernel_rfl) (by kernel_rfl) (by kernel_rfl) (fun _ _ _ h => h) (Or.inl ⟨by rfl, ?_⟩) hS ?_
      rotate_left
      · intro W' _; go_simp; with_reducible rfl
      simp only [Act.put, List.setIfInBounds_toArray, List.set_cons_zero, List.set_cons_succ]
      refine wpAnyQ_take' (S0 := fun _ => True) (i := 5) (oi := ⟨some 33, .fieldAddr 26 (.tmp 4) 5, _, _, _, _⟩) (v := ?_) (fun _ _ _ => trivial) rfl (by kernel_rfl) (by kernel_rfl) (by kernel_rfl) (by kernel_rfl) (fun _ _ _ h => h) (Or.inl ⟨by rfl, ?_⟩) hS ?_
      rotate_left
      · intro W' _; go_simp; with_reducible rfl
      simp only [Act.put, List.setIfInBounds_toArray, List.set_cons_zero, List.set_cons_succ]
      refine wpAnyQ_take (i := 6) (oi := ⟨some 34, .load 23 (.tmp 33), _, _, _, _⟩) (v := ?_) rfl (by kernel_rfl) (by kernel_rfl) (by kernel_rfl) (by kernel_rfl) (fun _ _ _ h => h) (Or.inl ⟨by rfl, ?_⟩) hS ?_
      rotate_left
      · intro W' hW'
        have hc : W'.cell? ⟨w.heap.size + 1, 5, none⟩ = some v := box_cell (hW'.1 rfl) 5
        go_simp; with_reducible rfl
      simp only [Act.put, List.setIfInBounds_toArray, List.set_cons_zero, List.set_cons_succ]
      refine wpAnyQ_take' (S0 := fun W' => W'.heap[w1.heap.size]? = some (.cells #[.int .i64 x.kind, .int .i64 x.half, .string x.text, .slice A2 x.list.length c2, .slice A3 x.keys.length c3, .slice A4 x.vals.length c4] 26 (0, 0))) (i := 7) (oi := ⟨some 35, .load 26 (.tmp 7), _, _, _, _⟩) (v := ?_) (fun _ _ h => h.2) rfl (by kernel_rfl) (by kernel_rfl) (by kernel_rfl) (by kernel_rfl) (fun _ _ _ h => h) (Or.inl ⟨by rfl, ?_⟩) hS ?_
      rotate_left
      · intro W' hW'
        have hc0 : W'.cell? ⟨w1.heap.size, 0, none⟩ = some _ := box_cell hW' 0
        have hc1 : W'.cell? ⟨w1.heap.size, 1, none⟩ = some _ := box_cell hW' 1
        have hc2 : W'.cell? ⟨w1.heap.size, 2, none⟩ = some _ := box_cell hW' 2
        have hc3 : W'.cell? ⟨w1.heap.size, 3, none⟩ = some _ := box_cell hW' 3
        have hc4 : W'.cell? ⟨w1.heap.size, 4, none⟩ = some _ := box_cell hW' 4
        have hc5 : W'.cell? ⟨w1.heap.size, 5, none⟩ = some _ := box_cell hW' 5
        go_simp; with_reducible rfl
      simp only [Act.put, List.setIfInBounds_toArray, List.set_cons_zero, List.set_cons_succ]
      refine wpAnyQ_two (i := 3) (k := 8) (o := ⟨some 31, .buildSlice 24 1 #[(0, .tmp 30)], _, _, _, _⟩) (o' := ⟨some 36, .buildSlice 23 1 #[(0, .tmp 35)], _, _, _, _⟩) (by kernel_rfl) rfl rfl rfl rfl (fun K' hK => ?_) (fun K' hK => ?_)
      · go_simp
        have HA := Lib.hid (HA.out.alloc (.cells #[.string kk] 9))
        refine hK.out _ _ ⟨fun _ => HA.out.st.out, (HA.out.box (w1.heap.size, _) (by simp)).1⟩ ?_
        have hS := HS _ HA.out.st.out (HA.out.box (w1.heap.size, _) (by simp)).1
        clear hK K'
        refine wpAnyQ_two (i := 4) (k := 8) (o := ⟨some 32, .call { callee := .builtin .append, args := #[.tmp 29, .tmp 31], argTypes := #[24, 24] }, _, _, _, _⟩) (o' := ⟨some 36, .buildSlice 23 1 #[(0, .tmp 35)], _, _, _, _⟩) (by kernel_rfl) rfl rfl rfl rfl (fun K' hK => ?_) (fun K' hK => ?_)
        · refine wp_append_ownL (.tmp 29) (.tmp 31) 24 rfl (w.heap.size + 3) 9 i9 _ 1 16 Tryz.underlying24 HI9.out.1 HI9.out.2.1 HI9.out.2.2.1 HI9.out.2.2.2 rfl (by decide) u k _ rfl HA.out.st.keys ⟨_, 0, none⟩ 1 1 [.string kk] rfl rfl ?c1 ?c2 ?c3 ?c4 ?c5 ?_
          case c1 => exact HA.out.news (t := 9) (by simp)
          case c2 => intro y hy; simp at hy; subst hy; rfl
          case c3 => unfold maxLen; omega
          case c4 => omega
          case c5 => exact HA.out.size
          intro u' W2 hown2 hg2 hat2
          have HA := Lib.hid (HA.out.key HX.out.2 hown2 hg2 hat2)
          clear hown2 hg2 hat2
          refine hK.out _ _ ⟨fun _ => HA.out.st.out, (HA.out.box (w1.heap.size, _) (by simp)).1⟩ ?_
          have hS := HS _ HA.out.st.out (HA.out.box (w1.heap.size, _) (by simp)).1
          clear hK K'
          simp only [Act.put, List.setIfInBounds_toArray, List.set_cons_zero, List.set_cons_succ]
          refine wpAnyQ_take' (S0 := fun _ => True) (i := 10) (oi := ⟨some 38, .fieldAddr 26 (.tmp 4) 4, _, _, _, _⟩) (v := ?_) (fun _ _ _ => trivial) rfl (by kernel_rfl) (by kernel_rfl) (by kernel_rfl) (by kernel_rfl) (fun _ _ _ h => h) (Or.inl ⟨by rfl, ?_⟩) hS ?_
          rotate_left
          · intro W' _; go_simp; with_reducible rfl
          simp only [Act.put, List.setIfInBounds_toArray, List.set_cons_zero, List.set_cons_succ]
          refine wpAnyQ_one (i := 8) (o := ⟨some 36, .buildSlice 23 1 #[(0, .tmp 35)], _, _, _, _⟩) (by kernel_rfl) rfl rfl fun K' hK => ?_
          go_simp
          have HA := Lib.hid (HA.out.alloc (.cells #[.int .i64 x.kind, .int .i64 x.half, .string x.text, .slice A2 x.list.length c2, .slice A3 x.keys.length c3, .slice A4 x.vals.length c4] 26))
          refine hK.out _ _ ⟨fun _ => HA.out.st.out, (HA.out.box (w1.heap.size, _) (by simp)).1⟩ ?_
          have hS := HS _ HA.out.st.out (HA.out.box (w1.heap.size, _) (by simp)).1
          clear hK K'
          refine wpAnyQ_one (i := 9) (o := ⟨some 37, .call { callee := .builtin .append, args := #[.tmp 34, .tmp 36], argTypes := #[23, 23] }, _, _, _, _⟩) (by kernel_rfl) rfl rfl fun K' hK => ?_
          obtain ⟨ys, hown8, hch8⟩ := HA.out.st.vals
          have hlt8 : (l.take k).length = k := by rw [List.length_take, Nat.min_eq_left (by have := HL.out; omega)]
          refine wp_append_ownL (.tmp 34) (.tmp 36) 23 rfl (w.heap.size + 3) 26 i26 _ 6 104 Tryz.underlying23 HI.out.1 HI.out.2.1 HI.out.2.2.1 HI.out.2.2.2 rfl (by decide) v (l.take k).length ys rfl hown8 ⟨_, 0, none⟩ 1 1 [.int .i64 x.kind, .int .i64 x.half, .string x.text, .slice A2 x.list.length c2, .slice A3 x.keys.length c3, .slice A4 x.vals.length c4] rfl rfl ?d1 ?d2 ?d3 ?d4 ?d5 ?_
          case d1 => exact HA.out.news (t := 26) (by simp)
          case d2 => intro y hy; simp at hy; rcases hy with rfl | rfl | rfl | rfl | rfl | rfl <;> rfl
          case d3 => unfold maxLen; omega
          case d4 => omega
          case d5 => exact HA.out.size
          intro v' W3 hown3 hg3 hat3
          have HV := Lib.hid (HA.out.val rfl hch8 hown3 hg3 hat3)
          have hl8 : (l.take k ++ [x]).length = k + 1 := by simp; have := HL.out; omega
          clear hown3 hg3 hat3 hown8 hch8 hlt8 HA
          obtain ⟨Au, cu, rfl, -⟩ := ownsRow_form HV.out.1.keys
          obtain ⟨Av, cv, hv'⟩ := HV.out.1.vals.form
          rw [hl8] at hv'
          subst hv'
          clear hl8
          refine hK.out _ _ ⟨fun _ => HV.out.1.out, HV.out.2 (w1.heap.size, _) (by simp)⟩ ?_
          have hS := HS _ HV.out.1.out (HV.out.2 (w1.heap.size, _) (by simp))
          clear hK K'
          simp only [Act.put, List.setIfInBounds_toArray, List.set_cons_zero, List.set_cons_succ]
          refine wpAnyQ_one (i := 11) (o := ⟨none, .store 24 (.tmp 38) (.tmp 32), _, _, _, _⟩) (by kernel_rfl) rfl rfl fun K' hK => ?_
          have g4 := box_cell HV.out.1.out 4
          have g4' := box_frozen HV.out.1.out 4
          simp at g4
          go_simp
          refine hK.out _ _ ⟨(fun h => nomatch (show true = false from h)), ?_⟩ ?_
          · rw [heap_setCell_other _ _ _ _ (by simp; omega)]; exact HV.out.2 (w1.heap.size, _) (by simp)
          clear hK K'
          refine wpAnyQ_one (i := 12) (o := ⟨some 39, .fieldAddr 26 (.tmp 4) 5, _, _, _, _⟩) (by kernel_rfl) rfl rfl fun K' hK => ?_
          go_simp
          refine hK.out _ _ ⟨(fun h => nomatch (show true = false from h)), ?_⟩ ?_
          · rw [heap_setCell_other _ _ _ _ (by simp; omega)]; exact HV.out.2 (w1.heap.size, _) (by simp)
          clear hK K'
          refine wpAnyQ_one (i := 13) (o := ⟨none, .store 23 (.tmp 39) (.tmp 37), _, _, _, _⟩) (by kernel_rfl) rfl rfl fun K' hK => ?_
          have g5 := box_cell HV.out.1.out 5
          have g5' := box_frozen HV.out.1.out 5
          simp at g5
          go_simp
          refine hK.out _ _ ⟨(fun h => nomatch (show true = false from h)), ?_⟩ ?_
          · rw [heap_setCell_other _ _ _ _ (by simp; omega), heap_setCell_other _ _ _ _ (by simp; omega)]; exact HV.out.2 (w1.heap.size, _) (by simp)
          clear hK K'
          refine wpAnyQ_done (by kernel_rfl) ?_ _
          have h13 := HV.out.1.store
          rw [← take_snoc' HX.out.1] at h13
          have HN := Lib.hid (show MfRel ks l w (.slice (some ⟨g, 0, none⟩) ks.length cK) _ (k + 1) from ⟨_, _, h13⟩)
          clear h13
          clear hS
          go_wp2_with fail
          go_roundw
          case rel => exact ⟨k + 1, by omega, by go_num, HN⟩
          case measure => simp [intOf]; omega
        · go_simp
          have HA := Lib.hid (HA.out.alloc (.cells #[.int .i64 x.kind, .int .i64 x.half, .string x.text, .slice A2 x.list.length c2, .slice A3 x.keys.length c3, .slice A4 x.vals.length c4] 26))
          refine hK.out _ _ ⟨fun _ => HA.out.st.out, (HA.out.box (w1.heap.size, _) (by simp)).1⟩ ?_
          have hS := HS _ HA.out.st.out (HA.out.box (w1.heap.size, _) (by simp)).1
          clear hK K'
          refine wpAnyQ_one (i := 4) (o := ⟨some 32, .call { callee := .builtin .append, args := #[.tmp 29, .tmp 31], argTypes := #[24, 24] }, _, _, _, _⟩) (by kernel_rfl) rfl rfl fun K' hK => ?_
          refine wp_append_ownL (.tmp 29) (.tmp 31) 24 rfl (w.heap.size + 3) 9 i9 _ 1 16 Tryz.underlying24 HI9.out.1 HI9.out.2.1 HI9.out.2.2.1 HI9.out.2.2.2 rfl (by decide) u k _ rfl HA.out.st.keys ⟨_, 0, none⟩ 1 1 [.string kk] rfl rfl ?c1 ?c2 ?c3 ?c4 ?c5 ?_
          case c1 => exact HA.out.news (t := 9) (by simp)
          case c2 => intro y hy; simp at hy; subst hy; rfl
          case c3 => unfold maxLen; omega
          case c4 => omega
          case c5 => exact HA.out.size
          intro u' W2 hown2 hg2 hat2
          have HA := Lib.hid (HA.out.key HX.out.2 hown2 hg2 hat2)
          clear hown2 hg2 hat2
          refine hK.out _ _ ⟨fun _ => HA.out.st.out, (HA.out.box (w1.heap.size, _) (by simp)).1⟩ ?_
          have hS := HS _ HA.out.st.out (HA.out.box (w1.heap.size, _) (by simp)).1
          clear hK K'
          simp only [Act.put, List.setIfInBounds_toArray, List.set_cons_zero, List.set_cons_succ]
          refine wpAnyQ_take' (S0 := fun _ => True) (i := 10) (oi := ⟨some 38, .fieldAddr 26 (.tmp 4) 4, _, _, _, _⟩) (v := ?_) (fun _ _ _ => trivial) rfl (by kernel_rfl) (by kernel_rfl) (by kernel_rfl) (by kernel_rfl) (fun _ _ _ h => h) (Or.inl ⟨by rfl, ?_⟩) hS ?_
          rotate_left
          · intro W' _; go_simp; with_reducible rfl
          simp only [Act.put, List.setIfInBounds_toArray, List.set_cons_zero, List.set_cons_succ]
          refine wpAnyQ_one (i := 9) (o := ⟨some 37, .call { callee := .builtin .append, args := #[.tmp 34, .tmp 36], argTypes := #[23, 23] }, _, _, _, _⟩) (by kernel_rfl) rfl rfl fun K' hK => ?_
          obtain ⟨ys, hown8, hch8⟩ := HA.out.st.vals
          have hlt8 : (l.take k).length = k := by rw [List.length_take, Nat.min_eq_left (by have := HL.out; omega)]
          refine wp_append_ownL (.tmp 34) (.tmp 36) 23 rfl (w.heap.size + 3) 26 i26 _ 6 104 Tryz.underlying23 HI.out.1 HI.out.2.1 HI.out.2.2.1 HI.out.2.2.2 rfl (by decide) v (l.take k).length ys rfl hown8 ⟨_, 0, none⟩ 1 1 [.int .i64 x.kind, .int .i64 x.half, .string x.text, .slice A2 x.list.length c2, .slice A3 x.keys.length c3, .slice A4 x.vals.length c4] rfl rfl ?d1 ?d2 ?d3 ?d4 ?d5 ?_
          case d1 => exact HA.out.news (t := 26) (by simp)
          case d2 => intro y hy; simp at hy; rcases hy with rfl | rfl | rfl | rfl | rfl | rfl <;> rfl
          case d3 => unfold maxLen; omega
          case d4 => omega
          case d5 => exact HA.out.size
          intro v' W3 hown3 hg3 hat3
          have HV := Lib.hid (HA.out.val rfl hch8 hown3 hg3 hat3)
          have hl8 : (l.take k ++ [x]).length = k + 1 := by simp; have := HL.out; omega
          clear hown3 hg3 hat3 hown8 hch8 hlt8 HA
          obtain ⟨Au, cu, rfl, -⟩ := ownsRow_form HV.out.1.keys
          obtain ⟨Av, cv, hv'⟩ := HV.out.1.vals.form
          rw [hl8] at hv'
          subst hv'
          clear hl8
          refine hK.out _ _ ⟨fun _ => HV.out.1.out, HV.out.2 (w1.heap.size, _) (by simp)⟩ ?_
          have hS := HS _ HV.out.1.out (HV.out.2 (w1.heap.size, _) (by simp))
          clear hK K'
          simp only [Act.put, List.setIfInBounds_toArray, List.set_cons_zero, List.set_cons_succ]
          refine wpAnyQ_one (i := 11) (o := ⟨none, .store 24 (.tmp 38) (.tmp 32), _, _, _, _⟩) (by kernel_rfl) rfl rfl fun K' hK => ?_
          have g4 := box_cell HV.out.1.out 4
          have g4' := box_frozen HV.out.1.out 4
          simp at g4
          go_simp
          refine hK.out _ _ ⟨(fun h => nomatch (show true = false from h)), ?_⟩ ?_
          · rw [heap_setCell_other _ _ _ _ (by simp; omega)]; exact HV.out.2 (w1.heap.size, _) (by simp)
          clear hK K'
          refine wpAnyQ_one (i := 12) (o := ⟨some 39, .fieldAddr 26 (.tmp 4) 5, _, _, _, _⟩) (by kernel_rfl) rfl rfl fun K' hK => ?_
          go_simp
          refine hK.out _ _ ⟨(fun h => nomatch (show true = false from h)), ?_⟩ ?_
          · rw [heap_setCell_other _ _ _ _ (by simp; omega)]; exact HV.out.2 (w1.heap.size, _) (by simp)
          clear hK K'
          refine wpAnyQ_one (i := 13) (o := ⟨none, .store 23 (.tmp 39) (.tmp 37), _, _, _, _⟩) (by kernel_rfl) rfl rfl fun K' hK => ?_
          have g5 := box_cell HV.out.1.out 5
          have g5' := box_frozen HV.out.1.out 5
          simp at g5
          go_simp
          refine hK.out _ _ ⟨(fun h => nomatch (show true = false from h)), ?_⟩ ?_
          · rw [heap_setCell_other _ _ _ _ (by simp; omega), heap_setCell_other _ _ _ _ (by simp; omega)]; exact HV.out.2 (w1.heap.size, _) (by simp)
          clear hK K'
          refine wpAnyQ_done (by kernel_rfl) ?_ _
          have h13 := HV.out.1.store
          rw [← take_snoc' HX.out.1] at h13
          have HN := Lib.hid (show MfRel ks l w (.slice (some ⟨g, 0, none⟩) ks.length cK) _ (k + 1) from ⟨_, _, h13⟩)
          clear h13
          clear hS
          go_wp2_with fail
          go_roundw
          case rel => exact ⟨k + 1, by omega, by go_num, HN⟩
          case measure => simp [intOf]; omega
      · go_simp
        have HA := Lib.hid (HA.out.alloc (.cells #[.int .i64 x.kind, .int .i64 x.half, .string x.text, .slice A2 x.list.length c2, .slice A3 x.keys.length c3, .slice A4 x.vals.length c4] 26))
        refine hK.out _ _ ⟨fun _ => HA.out.st.out, (HA.out.box (w1.heap.size, _) (by simp)).1⟩ ?_
        have hS := HS _ HA.out.st.out (HA.out.box (w1.heap.size, _) (by simp)).1
        clear hK K'
        refine wpAnyQ_one (i := 3) (o := ⟨some 31, .buildSlice 24 1 #[(0, .tmp 30)], _, _, _, _⟩) (by kernel_rfl) rfl rfl fun K' hK => ?_
        go_simp
        have HA := Lib.hid (HA.out.alloc (.cells #[.string kk] 9))
        refine hK.out _ _ ⟨fun _ => HA.out.st.out, (HA.out.box (w1.heap.size, _) (by simp)).1⟩ ?_
        have hS := HS _ HA.out.st.out (HA.out.box (w1.heap.size, _) (by simp)).1
        clear hK K'
        refine wpAnyQ_one (i := 4) (o := ⟨some 32, .call { callee := .builtin .append, args := #[.tmp 29, .tmp 31], argTypes := #[24, 24] }, _, _, _, _⟩) (by kernel_rfl) rfl rfl fun K' hK => ?_
        refine wp_append_ownL (.tmp 29) (.tmp 31) 24 rfl (w.heap.size + 3) 9 i9 _ 1 16 Tryz.underlying24 HI9.out.1 HI9.out.2.1 HI9.out.2.2.1 HI9.out.2.2.2 rfl (by decide) u k _ rfl HA.out.st.keys ⟨_, 0, none⟩ 1 1 [.string kk] rfl rfl ?c1 ?c2 ?c3 ?c4 ?c5 ?_
        case c1 => exact HA.out.news (t := 9) (by simp)
        case c2 => intro y hy; simp at hy; subst hy; rfl
        case c3 => unfold maxLen; omega
        case c4 => omega
        case c5 => exact HA.out.size
        intro u' W2 hown2 hg2 hat2
        have HA := Lib.hid (HA.out.key HX.out.2 hown2 hg2 hat2)
        clear hown2 hg2 hat2
        refine hK.out _ _ ⟨fun _ => HA.out.st.out, (HA.out.box (w1.heap.size, _) (by simp)).1⟩ ?_
        have hS := HS _ HA.out.st.out (HA.out.box (w1.heap.size, _) (by simp)).1
        clear hK K'
        simp only [Act.put, List.setIfInBounds_toArray, List.set_cons_zero, List.set_cons_succ]
        refine wpAnyQ_take' (S0 := fun _ => True) (i := 10) (oi := ⟨some 38, .fieldAddr 26 (.tmp 4) 4, _, _, _, _⟩) (v := ?_) (fun _ _ _ => trivial) rfl (by kernel_rfl) (by kernel_rfl) (by kernel_rfl) (by kernel_rfl) (fun _ _ _ h => h) (Or.inl ⟨by rfl, ?_⟩) hS ?_
        rotate_left
        · intro W' _; go_simp; with_reducible rfl
        simp only [Act.put, List.setIfInBounds_toArray, List.set_cons_zero, List.set_cons_succ]
        refine wpAnyQ_one (i := 9) (o := ⟨some 37, .call { callee := .builtin .append, args := #[.tmp 34, .tmp 36], argTypes := #[23, 23] }, _, _, _, _⟩) (by kernel_rfl) rfl rfl fun K' hK => ?_
        obtain ⟨ys, hown8, hch8⟩ := HA.out.st.vals
        have hlt8 : (l.take k).length = k := by rw [List.length_take, Nat.min_eq_left (by have := HL.out; omega)]
        refine wp_append_ownL (.tmp 34) (.tmp 36) 23 rfl (w.heap.size + 3) 26 i26 _ 6 104 Tryz.underlying23 HI.out.1 HI.out.2.1 HI.out.2.2.1 HI.out.2.2.2 rfl (by decide) v (l.take k).length ys rfl hown8 ⟨_, 0, none⟩ 1 1 [.int .i64 x.kind, .int .i64 x.half, .string x.text, .slice A2 x.list.length c2, .slice A3 x.keys.length c3, .slice A4 x.vals.length c4] rfl rfl ?d1 ?d2 ?d3 ?d4 ?d5 ?_
        case d1 => exact HA.out.news (t := 26) (by simp)
        case d2 => intro y hy; simp at hy; rcases hy with rfl | rfl | rfl | rfl | rfl | rfl <;> rfl
        case d3 => unfold maxLen; omega
        case d4 => omega
        case d5 => exact HA.out.size
        intro v' W3 hown3 hg3 hat3
        have HV := Lib.hid (HA.out.val rfl hch8 hown3 hg3 hat3)
        have hl8 : (l.take k ++ [x]).length = k + 1 := by simp; have := HL.out; omega
        clear hown3 hg3 hat3 hown8 hch8 hlt8 HA
        obtain ⟨Au, cu, rfl, -⟩ := ownsRow_form HV.out.1.keys
        obtain ⟨Av, cv, hv'⟩ := HV.out.1.vals.form
        rw [hl8] at hv'
        subst hv'
        clear hl8
        refine hK.out _ _ ⟨fun _ => HV.out.1.out, HV.out.2 (w1.heap.size, _) (by simp)⟩ ?_
        have hS := HS _ HV.out.1.out (HV.out.2 (w1.heap.size, _) (by simp))
        clear hK K'
        simp only [Act.put, List.setIfInBounds_toArray, List.set_cons_zero, List.set_cons_succ]
        refine wpAnyQ_one (i := 11) (o := ⟨none, .store 24 (.tmp 38) (.tmp 32), _, _, _, _⟩) (by kernel_rfl) rfl rfl fun K' hK => ?_
        have g4 := box_cell HV.out.1.out 4
        have g4' := box_frozen HV.out.1.out 4
        simp at g4
        go_simp
        refine hK.out _ _ ⟨(fun h => nomatch (show true = false from h)), ?_⟩ ?_
        · rw [heap_setCell_other _ _ _ _ (by simp; omega)]; exact HV.out.2 (w1.heap.size, _) (by simp)
        clear hK K'
        refine wpAnyQ_one (i := 12) (o := ⟨some 39, .fieldAddr 26 (.tmp 4) 5, _, _, _, _⟩) (by kernel_rfl) rfl rfl fun K' hK => ?_
        go_simp
        refine hK.out _ _ ⟨(fun h => nomatch (show true = false from h)), ?_⟩ ?_
        · rw [heap_setCell_other _ _ _ _ (by simp; omega)]; exact HV.out.2 (w1.heap.size, _) (by simp)
        clear hK K'
        refine wpAnyQ_one (i := 13) (o := ⟨none, .store 23 (.tmp 39) (.tmp 37), _, _, _, _⟩) (by kernel_rfl) rfl rfl fun K' hK => ?_
        have g5 := box_cell HV.out.1.out 5
        have g5' := box_frozen HV.out.1.out 5
        simp at g5
        go_simp
        refine hK.out _ _ ⟨(fun h => nomatch (show true = false from h)), ?_⟩ ?_
        · rw [heap_setCell_other _ _ _ _ (by simp; omega), heap_setCell_other _ _ _ _ (by simp; omega)]; exact HV.out.2 (w1.heap.size, _) (by simp)
        clear hK K'
        refine wpAnyQ_done (by kernel_rfl) ?_ _
        have h13 := HV.out.1.store
        rw [← take_snoc' HX.out.1] at h13
        have HN := Lib.hid (show MfRel ks l w (.slice (some ⟨g, 0, none⟩) ks.length cK) _ (k + 1) from ⟨_, _, h13⟩)
        clear h13
        clear hS
        go_wp2_with fail
        go_roundw
        case rel => exact ⟨k + 1, by omega, by go_num, HN⟩
        case measure => simp [intOf]; omega
    · have hk' : k = ks.length := by omega
      subst hk'
      obtain ⟨A, c, rfl, -⟩ := ownsRow_form hst.keys
      rw [List.take_of_length_le (by omega)] at hst
      obtain ⟨A', c', rfl⟩ := hst.vals.form
      obtain ⟨rs, rfl, hres⟩ := hst.res
      have hout := hst.out
      have q0 : wr.cell? ⟨w.heap.size + 1, 0, none⟩ = _ := box_cell hout 0
      have q1 : wr.cell? ⟨w.heap.size + 1, 1, none⟩ = _ := box_cell hout 1
      have q2 : wr.cell? ⟨w.heap.size + 1, 2, none⟩ = _ := box_cell hout 2
      have q3 : wr.cell? ⟨w.heap.size + 1, 3, none⟩ = _ := box_cell hout 3
      have q4 : wr.cell? ⟨w.heap.size + 1, 4, none⟩ = _ := box_cell hout 4
      have q5 : wr.cell? ⟨w.heap.size + 1, 5, none⟩ = _ := box_cell hout 5
      have r0 : wr.cell? ⟨w.heap.size, 0, none⟩ = _ := box_cell hres 0
      have r1 : wr.cell? ⟨w.heap.size, 1, none⟩ = _ := box_cell hres 1
      have r2 : wr.cell? ⟨w.heap.size, 2, none⟩ = _ := box_cell hres 2
      have r3 : wr.cell? ⟨w.heap.size, 3, none⟩ = _ := box_cell hres 3
      have r4 : wr.cell? ⟨w.heap.size, 4, none⟩ = _ := box_cell hres 4
      have r5 : wr.cell? ⟨w.heap.size, 5, none⟩ = _ := box_cell hres 5
      have fz := box_frozen hres
      have HST := Lib.hid hst
      have hsz := box_lt hout
      clear hst hres hout hel
      go_wp2_with fail
      refine bodyPost_ret (v := .tuple #[.agg #[.int .i64 6, .int .i64 0, .string noText, .slice none 0 0, .slice A l.length c, .slice A' l.length c'], .bool true]) (by simp [results, Tryz.results130, go_sem, r0, r1, r2, r3, r4, r5]; exact ⟨rfl, by omega⟩) rfl ?_
      refine ⟨_, rfl, ?_, ?_⟩
      · have := HST.out.finish (W' := (((((wr.setCell ⟨w.heap.size, 0, none⟩ (.int .i64 6)).setCell ⟨w.heap.size, 1, none⟩ (.int .i64 0)).setCell ⟨w.heap.size, 2, none⟩ (.string ⟨#[]⟩)).setCell ⟨w.heap.size, 3, none⟩ (.slice none 0 0)).setCell ⟨w.heap.size, 4, none⟩ (.slice A xs.length c)).setCell ⟨w.heap.size, 5, none⟩ (.slice A' l.length c')) (fun b hb => by iterate 6 rw [heap_setCell_other _ _ _ _ hb]) (by simp [World.setCell])
        rw [hlen] at this
        exact this
      · repeat (refine Below.setCell ?_ (by simp) _)
        exact HST.out.below

end Go.Proofs.YtfhppajnnbbcjaaGreatDoor
end

section
namespace Go.Proofs.YtfhppajnnbbcjaaGreatDoor
open Go.RowKit

set_option maxRecDepth 100000 in
theorem fromGo_arr (l : List J) (hel : ∀ x ∈ l, FromGoOK x) : FromGoOK (.arr l) := by
  intro D v w wj hD hv
  obtain ⟨S, rfl, hS⟩ := hv
  simp only [J.WF] at wj
  have hS' : SlAt D l.length S (fun b o => ARow (w.alloc (.cells #[.int .i64 0, .int .i64 0, .string ⟨#[]⟩, .slice none 0 0, .slice none 0 0, .slice none 0 0] 26)) D b l o) :=
    hS.mono (fun _ h => h) fun b o hb hr => ARow.keep (Same.of_below ((Below.refl _ _).alloc (Nat.le_refl _) _) hD) (fun _ h => h) _ _ _ hb hr
  have HC := Lib.hid (listFromGo_of l hel D S (w.alloc (.cells #[.int .i64 0, .int .i64 0, .string ⟨#[]⟩, .slice none 0 0, .slice none 0 0, .slice none 0 0] 26)) wj.2 wj.1 (fun b hb => by have := hD b hb; simp; omega) hS')
  clear hS hS' hel hD
  go_enter Tryz.func87, Tryz.ntmps87
  go_wp2_with fail
  refine HC.out.mono ?_
  clear HC
  rintro e w1 ⟨cs, rfl, hcs, hb1⟩
  obtain ⟨A2, c2, A3, c3, A4, c4, rfl⟩ := SRep.six hcs
  have hbox := box_new hb1 (by simp)
  have r0 : w1.cell? ⟨w.heap.size, 0, none⟩ = _ := box_cell hbox 0
  have r1 : w1.cell? ⟨w.heap.size, 1, none⟩ = _ := box_cell hbox 1
  have r2 : w1.cell? ⟨w.heap.size, 2, none⟩ = _ := box_cell hbox 2
  have r3 : w1.cell? ⟨w.heap.size, 3, none⟩ = _ := box_cell hbox 3
  have r4 : w1.cell? ⟨w.heap.size, 4, none⟩ = _ := box_cell hbox 4
  have r5 : w1.cell? ⟨w.heap.size, 5, none⟩ = _ := box_cell hbox 5
  have fz := box_frozen hbox
  have HCS := Lib.hid (And.intro hcs hb1)
  clear hcs hb1 hbox
  go_wp2_with fail
  refine bodyPost_ret (v := .tuple #[.agg #[.int .i64 (J.arr l).kind, .int .i64 (J.arr l).half, .string (J.arr l).text, .slice A2 (J.arr l).list.length c2, .slice A3 (J.arr l).keys.length c3, .slice A4 (J.arr l).vals.length c4], .bool true]) (by simp [results, Tryz.results87, go_sem, r0, r1, r2, r3, r4, r5]) rfl ?_
  refine ⟨_, rfl, VRep.keep (fun b hb => ?_) (fun b hb => ⟨by have := hb.1; simp at this; omega, by have := hb.2; simp [World.setCell]; exact this⟩) _ _ HCS.out.1, ?_⟩
  · have : b ≠ w.heap.size := by have := hb.1; simp at this; omega
    iterate 6 rw [heap_setCell_other _ _ _ _ this]
  · repeat (refine Below.setCell ?_ (by simp) _)
    exact ((Below.refl _ _).alloc (Nat.le_refl _) _).trans (HCS.out.2.mono (by simp))

set_option maxRecDepth 100000 in
theorem fromGo_obj (ks : List ByteArray) (l : List J) (hel : ∀ x ∈ l, FromGoOK x) : FromGoOK (.obj ks l) := by
  intro D v w wj hD hv
  obtain ⟨r, xs, rfl, hDr, hm, hlx, hal⟩ := hv
  have hsm : Same D w (w.alloc (.cells #[.int .i64 0, .int .i64 0, .string ⟨#[]⟩, .slice none 0 0, .slice none 0 0, .slice none 0 0] 26)) := Same.of_below ((Below.refl _ _).alloc (Nat.le_refl _) _) hD
  have HC := Lib.hid (mapFromGo_of ks l hel D r xs (w.alloc (.cells #[.int .i64 0, .int .i64 0, .string ⟨#[]⟩, .slice none 0 0, .slice none 0 0, .slice none 0 0] 26)) wj (fun b hb => by have := hD b hb; simp; omega) hDr (hm.keep hsm hDr) hlx (AList.keep hsm (fun _ h => h) _ _ hal))
  clear hsm hm hal hlx hDr hel hD
  go_enter Tryz.func87, Tryz.ntmps87
  go_wp2_with fail
  refine HC.out.mono ?_
  clear HC
  rintro e w1 ⟨cs, rfl, hcs, hb1⟩
  obtain ⟨A2, c2, A3, c3, A4, c4, rfl⟩ := SRep.six hcs
  have hbox := box_new hb1 (by simp)
  have r0 : w1.cell? ⟨w.heap.size, 0, none⟩ = _ := box_cell hbox 0
  have r1 : w1.cell? ⟨w.heap.size, 1, none⟩ = _ := box_cell hbox 1
  have r2 : w1.cell? ⟨w.heap.size, 2, none⟩ = _ := box_cell hbox 2
  have r3 : w1.cell? ⟨w.heap.size, 3, none⟩ = _ := box_cell hbox 3
  have r4 : w1.cell? ⟨w.heap.size, 4, none⟩ = _ := box_cell hbox 4
  have r5 : w1.cell? ⟨w.heap.size, 5, none⟩ = _ := box_cell hbox 5
  have fz := box_frozen hbox
  have HCS := Lib.hid (And.intro hcs hb1)
  clear hcs hb1 hbox
  go_wp2_with fail
  refine bodyPost_ret (v := .tuple #[.agg #[.int .i64 (J.obj ks l).kind, .int .i64 (J.obj ks l).half, .string (J.obj ks l).text, .slice A2 (J.obj ks l).list.length c2, .slice A3 (J.obj ks l).keys.length c3, .slice A4 (J.obj ks l).vals.length c4], .bool true]) (by simp [results, Tryz.results87, go_sem, r0, r1, r2, r3, r4, r5]) rfl ?_
  refine ⟨_, rfl, VRep.keep (fun b hb => ?_) (fun b hb => ⟨by have := hb.1; simp at this; omega, by have := hb.2; simp [World.setCell]; exact this⟩) _ _ HCS.out.1, ?_⟩
  · have : b ≠ w.heap.size := by have := hb.1; simp at this; omega
    iterate 6 rw [heap_setCell_other _ _ _ _ this]
  · repeat (refine Below.setCell ?_ (by simp) _)
    exact ((Below.refl _ _).alloc (Nat.le_refl _) _).trans (HCS.out.2.mono (by simp))

mutual
theorem fromGo_all : ∀ a : J, FromGoOK a
  | .null => fromGo_null
  | .bool b => fromGo_bool b
  | .num h => fromGo_num h
  | .str s => fromGo_str s
  | .arr l => fromGo_arr l (fromGo_alls l)
  | .obj ks vs => fromGo_obj ks vs (fromGo_alls vs)
theorem fromGo_alls : ∀ l : List J, ∀ x ∈ l, FromGoOK x
  | [], _, h => absurd h (by simp)
  | a :: l, x, h => (List.mem_cons.1 h).elim (fun e => e ▸ fromGo_all a) (fromGo_alls l x)
end

end Go.Proofs.YtfhppajnnbbcjaaGreatDoor
end

section
namespace Go.Proofs.YtfhppajnnbbcjaaGreatDoor
open Go.RowKit

@[go_sem] theorem te_nil (x : TypeId) (w : World) : (Instr.typeAssert .nilIface x 95 true).run Tryz.prog w = .ok (.tuple #[.nilIface, .bool false]) w := by kernel_rfl
@[go_sem] theorem te_4 (x : TypeId) (v : Value) (w : World) : (Instr.typeAssert (.iface 4 v) x 95 true).run Tryz.prog w = .ok (.tuple #[.nilIface, .bool false]) w := run_typeAssert_lacksB Tryz.underlying95 (by kernel_rfl) (by kernel_rfl) v x w
@[go_sem] theorem te_3 (x : TypeId) (v : Value) (w : World) : (Instr.typeAssert (.iface 3 v) x 95 true).run Tryz.prog w = .ok (.tuple #[.nilIface, .bool false]) w := run_typeAssert_lacksB Tryz.underlying95 (by kernel_rfl) (by kernel_rfl) v x w
@[go_sem] theorem te_87 (x : TypeId) (v : Value) (w : World) : (Instr.typeAssert (.iface 87 v) x 95 true).run Tryz.prog w = .ok (.tuple #[.nilIface, .bool false]) w := run_typeAssert_lacksB Tryz.underlying95 (by kernel_rfl) (by kernel_rfl) v x w
@[go_sem] theorem te_9 (x : TypeId) (v : Value) (w : World) : (Instr.typeAssert (.iface 9 v) x 95 true).run Tryz.prog w = .ok (.tuple #[.nilIface, .bool false]) w := run_typeAssert_lacksB Tryz.underlying95 (by kernel_rfl) (by kernel_rfl) v x w
@[go_sem] theorem te_88 (x : TypeId) (v : Value) (w : World) : (Instr.typeAssert (.iface 88 v) x 95 true).run Tryz.prog w = .ok (.tuple #[.nilIface, .bool false]) w := run_typeAssert_lacksB Tryz.underlying95 (by kernel_rfl) (by kernel_rfl) v x w
@[go_sem] theorem te_91 (x : TypeId) (v : Value) (w : World) : (Instr.typeAssert (.iface 91 v) x 95 true).run Tryz.prog w = .ok (.tuple #[.nilIface, .bool false]) w := run_typeAssert_lacksB Tryz.underlying95 (by kernel_rfl) (by kernel_rfl) v x w
@[go_sem] theorem te_159 (x : TypeId) (v : Value) (w : World) : (Instr.typeAssert (.iface 159 v) x 95 true).run Tryz.prog w = .ok (.tuple #[.iface 159 v, .bool true]) w := run_typeAssert_hasB Tryz.underlying95 (by kernel_rfl) v x w
@[go_sem] theorem te_162 (x : TypeId) (v : Value) (w : World) : (Instr.typeAssert (.iface 162 v) x 95 true).run Tryz.prog w = .ok (.tuple #[.iface 162 v, .bool true]) w := run_typeAssert_hasB Tryz.underlying95 (by kernel_rfl) v x w
@[go_sem] theorem te_205 (x : TypeId) (v : Value) (w : World) : (Instr.typeAssert (.iface 205 v) x 95 true).run Tryz.prog w = .ok (.tuple #[.iface 205 v, .bool true]) w := run_typeAssert_hasB Tryz.underlying95 (by kernel_rfl) v x w
@[go_sem] theorem te_211 (x : TypeId) (v : Value) (w : World) : (Instr.typeAssert (.iface 211 v) x 95 true).run Tryz.prog w = .ok (.tuple #[.iface 211 v, .bool true]) w := run_typeAssert_hasB Tryz.underlying95 (by kernel_rfl) v x w

end Go.Proofs.YtfhppajnnbbcjaaGreatDoor
end

section
namespace Go.Proofs.YtfhppajnnbbcjaaGreatDoor
open Go.RowKit

theorem te_json {w : World} {D : Nat → Prop} {j : J} {v : Value} (h : ARep w D j v) (x : TypeId) (W : World) : (Instr.typeAssert v x 95 true).run Tryz.prog W = .ok (.tuple #[.nilIface, .bool false]) W := by
  cases j with
  | null => rw [show v = _ from h]; exact te_nil x W
  | bool b => rw [show v = _ from h]; exact te_4 x _ W
  | num h' =>
    rw [show v = _ from h]
    unfold numV
    split
    · exact te_3 x _ W
    · exact te_87 x _ W
  | str s => rw [show v = _ from h]; exact te_9 x _ W
  | arr l => obtain ⟨S, rfl, -⟩ := h; exact te_88 x _ W
  | obj ks vs => obtain ⟨r, xs, rfl, -⟩ := h; exact te_91 x _ W

/-- an answer that is a value -/
def ResOK (j : J) (w : World) (e : Ending) (w' : World) : Prop := ∃ A1 c1 A2 c2 A3 c3, e = .returned (.agg #[.int .i64 j.kind, .int .i64 j.half, .string j.text, .slice A1 j.list.length c1, .slice A2 j.keys.length c2, .slice A3 j.vals.length c3, .int .i64 0]) ∧
  SRep w' (Fresh w w') j [.int .i64 j.kind, .int .i64 j.half, .string j.text, .slice A1 j.list.length c1, .slice A2 j.keys.length c2, .slice A3 j.vals.length c3] ∧ Below w.heap.size w w'

/-- an answer that is an error -/
def ResErr (w : World) (e : Ending) (w' : World) : Prop := e = .returned (.agg #[.int .i64 0, .int .i64 0, .string ⟨#[]⟩, .slice none 0 0, .slice none 0 0, .slice none 0 0, .int .i64 1]) ∧ Below w.heap.size w w'

set_option maxRecDepth 100000 in
theorem result_err (T : TypeId) (v : Value) (w : World) (hT : ∀ (x : TypeId) (W : World), (Instr.typeAssert (.iface T v) x 95 true).run Tryz.prog W = .ok (.tuple #[.iface T v, .bool true]) W) :
    Calls Tryz.prog 43 #[.iface T v] w (ResErr w) := by
  go_enter Tryz.func43, Tryz.ntmps43
  go_wp2_with fail
  refine bodyPost_ret (v := .agg #[.int .i64 0, .int .i64 0, .string ⟨#[]⟩, .slice none 0 0, .slice none 0 0, .slice none 0 0, .int .i64 1]) (by simp [results, Tryz.results43, go_sem]) rfl ?_
  refine ⟨rfl, ?_⟩
  repeat (refine Below.setCell ?_ (by simp) _)
  exact (Below.refl _ _).alloc (Nat.le_refl _) _

set_option maxRecDepth 100000 in
theorem result_val (j : J) (D : Nat → Prop) (v : Value) (w : World) (wj : j.WF) (hD : ∀ b, D b → All w b) (hv : ARep w D j v) : Calls Tryz.prog 43 #[v] w (ResOK j w) := by
  have hT := te_json hv
  have hv1 : ARep (w.alloc (.cells #[.int .i64 0, .int .i64 0, .string ⟨#[]⟩, .slice none 0 0, .slice none 0 0, .slice none 0 0, .int .i64 0] 34)) D j v := ARep.keep (Same.of_below ((Below.refl _ _).alloc (Nat.le_refl _) _) hD) (fun _ h => h) _ _ hv
  have HC := Lib.hid (fromGo_all j D v (w.alloc (.cells #[.int .i64 0, .int .i64 0, .string ⟨#[]⟩, .slice none 0 0, .slice none 0 0, .slice none 0 0, .int .i64 0] 34)) wj (fun b hb => by have := hD b hb; simp; omega) hv1)
  clear hv hv1 hD
  go_enter Tryz.func43, Tryz.ntmps43
  go_wp2_with fail
  refine HC.out.mono ?_
  clear HC
  rintro e w1 ⟨cs, rfl, hcs, hb1⟩
  obtain ⟨A1, c1, A2, c2, A3, c3, rfl⟩ := SRep.six hcs
  have hbox := box_new hb1 (by simp)
  have r0 : w1.cell? ⟨w.heap.size, 0, none⟩ = _ := box_cell hbox 0
  have r1 : w1.cell? ⟨w.heap.size, 1, none⟩ = _ := box_cell hbox 1
  have r2 : w1.cell? ⟨w.heap.size, 2, none⟩ = _ := box_cell hbox 2
  have r3 : w1.cell? ⟨w.heap.size, 3, none⟩ = _ := box_cell hbox 3
  have r4 : w1.cell? ⟨w.heap.size, 4, none⟩ = _ := box_cell hbox 4
  have r5 : w1.cell? ⟨w.heap.size, 5, none⟩ = _ := box_cell hbox 5
  have r6 : w1.cell? ⟨w.heap.size, 6, none⟩ = _ := box_cell hbox 6
  have fz := box_frozen hbox
  have hlt := box_lt hbox
  have HCS := Lib.hid (And.intro hcs (And.intro hb1 hbox))
  clear hcs hb1 hbox
  go_wp2_with fail
  refine bodyPost_ret (v := .agg #[.int .i64 j.kind, .int .i64 j.half, .string j.text, .slice A1 j.list.length c1, .slice A2 j.keys.length c2, .slice A3 j.vals.length c3, .int .i64 0]) (by simp [results, Tryz.results43, go_sem, r0, r1, r2, r3, r4, r5, r6, hlt]) rfl ?_
  refine ⟨_, _, _, _, _, _, rfl, ?_, ?_⟩
  · refine VRep.keep (D := Fresh (w.alloc (.cells #[.int .i64 0, .int .i64 0, .string ⟨#[]⟩, .slice none 0 0, .slice none 0 0, .slice none 0 0, .int .i64 0] 34)) w1) (fun b hb => ?_) (fun b hb => ⟨by have := hb.1; simp at this; omega, by have := hb.2; simp [World.setCell]; omega⟩) _ _ HCS.out.1
    have hne : b ≠ w.heap.size := by have := hb.1; simp at this; omega
    rw [Below.heap_alloc _ _ _ (by simp [World.setCell]; exact hb.2)]
    iterate 7 rw [heap_setCell_other _ _ _ _ hne]
  · refine Below.alloc ?_ (by simp [World.setCell]; omega) _
    repeat (refine Below.setCell ?_ (by simp) _)
    exact ((Below.refl _ _).alloc (Nat.le_refl _) _).trans (HCS.out.2.1.mono (by simp))

end Go.Proofs.YtfhppajnnbbcjaaGreatDoor
end

section
namespace Go.Proofs.YtfhppajnnbbcjaaGreatDoor
open Go.RowKit

theorem told_raises (r0 r1 r2 r3 r4 r5 : Value) (x : Array Value) (n : Int) (w : World) (hx : x.size = 6) :
    Calls Tryz.prog 11 #[.agg #[r0, r1, r2, r3, r4, r5, .int .i64 n], .agg x, .int .i64 1] w fun e w' => e = .returned (.bool (n == 1)) ∧ Below w.heap.size w w' := by
  obtain ⟨x0, x1, x2, x3, x4, x5, hx'⟩ : ∃ x0 x1 x2 x3 x4 x5, x.toList = [x0, x1, x2, x3, x4, x5] := six_of (by simpa using hx)
  have : x = #[x0, x1, x2, x3, x4, x5] := by rw [← Array.toArray_toList (xs := x), hx']
  subst this
  clear hx hx'
  go_enter Tryz.func11, Tryz.ntmps11
  go_wp2_with fail
  go_ret
  exact ⟨rfl, ((Below.refl _ _).alloc (Nat.le_refl _) _).alloc (by simp) _⟩

def ArrPost (l : List V) (D : Nat → Prop) (S : Value) (w : World) (e : Ending) (w' : World) : Prop := e = .returned (.agg #[.int .i64 5, .int .i64 0, .string noText, S, .slice none 0 0, .slice none 0 0]) ∧
  VRep w' D (.mk 5 0 noText l [] []) [.int .i64 5, .int .i64 0, .string noText, S, .slice none 0 0, .slice none 0 0] ∧ Below w.heap.size w w'

set_option maxRecDepth 100000 in
theorem array_any (l : List V) (D : Nat → Prop) (S : Value) (w : World) (hS : SlAt D l.length S (fun b o => VRow w D b l o)) (hD : ∀ b, D b → All w b) :
    Calls Tryz.prog 17 #[S] w (ArrPost l D S w) := by
  have KEY : Hid (∀ w' : World, Below w.heap.size w w' → ArrPost l D S w (.returned (.agg #[.int .i64 5, .int .i64 0, .string noText, S, .slice none 0 0, .slice none 0 0])) w') := fun w' hb =>
    ⟨rfl, ⟨_, _, _, rfl, hS.mono (fun _ h => h) fun b o hb' hr => VRow.keep (Same.of_below hb hD) (fun _ h => h) _ _ _ hb' hr, emp _ _, emp _ _⟩, hb⟩
  obtain ⟨A, c, rfl, -⟩ := hS
  go_enter Tryz.func17, Tryz.ntmps17
  go_wp2_with fail
  refine bodyPost_ret (v := .agg #[.int .i64 5, .int .i64 0, .string noText, .slice A l.length c, .slice none 0 0, .slice none 0 0]) (by simp [results, Tryz.results17, go_sem]; rfl) rfl ?_
  refine KEY.out _ ?_
  repeat (refine Below.setCell ?_ (by simp) _)
  exact (Below.refl _ _).alloc (Nat.le_refl _) _

end Go.Proofs.YtfhppajnnbbcjaaGreatDoor
end
