/- DERIVED: THE SHELF's CONTRACTS AT THIS DUMP, IN PLAIN WORDS (tools/lay-plain.mjs out of 'YtmjegeipnaalnaaGreatDoorKeysL.lean', which tools/lay-shelf.mjs wrote): THE SAME DECLARATIONS UNDER THE SAME NAMES: 'import', 'namespace', 'open', 'def', 'theorem' AND NOTHING ELSE: no command of the shelf's: FOR A HAND-IN. Each laying: the table of numbers ('.._ren') and one theorem, a field a fact of the dump's own or the kernel's comparison; each contract: ONE APPLICATION. slices.Sorted(maps.Keys(m)) at this program: the shelf's contracts (printed by the kit's lay-iter.mjs). The keys of a map that stands for a tree, sorted, are the tree's keys. -/
import Derived.Shelf.SlIter.Nil
import Derived.Shelf.SortM.Plain
import Derived.Shelf.SortM.SortNone
import Derived.Ground.GgzProg
import Derived.Ground.SlgmProg
import Derived.Test.YtmjegeipnaalnaaGreatDoorProg
import Derived.Test.YtmjegeipnaalnaaGreatDoorGrFroG

/- DERIVED: THE SHELF's CONTRACTS AT THIS DUMP, IN PLAIN WORDS (tools/lay-plain.mjs out of 'YtmjegeipnaalnaaGreatDoorKeysL.lean', which tools/lay-shelf.mjs wrote): THE SAME DECLARATIONS UNDER THE SAME NAMES: 'import', 'namespace', 'open', 'def', 'theorem' AND NOTHING ELSE: no command of the shelf's: FOR A HAND-IN. Each laying: the table of numbers ('.._ren') and one theorem, a field a fact of the dump's own or the kernel's comparison; each contract: ONE APPLICATION. -/
namespace Go.Proofs
open Go.Shelf
def Tryz.keys197_ren : Go.Shelf.Ren := ⟨fun | 7 => 197 | 10 => 236 | n => n, fun | 23 => 83 | 26 => 9 | 3 => 20 | 28 => 187 | 0 => 0 | 27 => 186 | 33 => 100 | 4 => 4 | n => n, fun | n => n⟩
theorem Tryz.keys197 : Go.Proofs.SlLaysZ.n7 Tryz.prog Tryz.keys197_ren := {
  mixed := by kernel_rfl
  f7 := ⟨Tryz.f197.name, by decide, Tryz.func197.trans (congrArg some (by kernel_rfl))⟩
  f10 := ⟨Tryz.f236.name, by decide, Tryz.func236.trans (congrArg some (by kernel_rfl))⟩
  t0 := Tryz.underlying0
  a0 := Tryz.isAgg0
  z0 := Tryz.sizeOf0
  v0 := Tryz.zeroValue0
  t4 := Tryz.underlying4
  a4 := Tryz.isAgg4
  z4 := Tryz.sizeOf4
  v4 := Tryz.zeroValue4
  t23 := Tryz.underlying83
  a23 := Tryz.isAgg83
  z23 := Tryz.sizeOf83
  v23 := Tryz.zeroValue83
  t26 := Tryz.underlying9
  a26 := Tryz.isAgg9
  z26 := Tryz.sizeOf9
  v26 := Tryz.zeroValue9
  t27 := Tryz.underlying186
  a27 := Tryz.isAgg186
  z27 := Tryz.sizeOf186
  v27 := Tryz.zeroValue186
  t28 := Tryz.underlying187
  a28 := Tryz.isAgg187
  z28 := Tryz.sizeOf187
  v28 := Tryz.zeroValue187
  t33 := Tryz.underlying100
  a33 := Tryz.isAgg100
  z33 := Tryz.sizeOf100
  v33 := Tryz.zeroValue100 }
def Tryz.sorted196_ren : Go.Shelf.Ren := ⟨fun | 6 => 196 | 8 => 234 | 9 => 235 | 11 => 279 | 13 => 281 | 12 => 280 | 23 => 327 | 24 => 328 | 14 => 318 | 15 => 319 | 16 => 320 | 17 => 321 | 18 => 322 | 19 => 323 | 20 => 324 | 21 => 325 | 22 => 326 | 25 => 348 | 26 => 349 | 27 => 350 | 28 => 351 | 29 => 352 | 30 => 253 | 31 => 365 | n => n, fun | 26 => 9 | 28 => 187 | 24 => 24 | 0 => 0 | 3 => 3 | 37 => 104 | 48 => 263 | 50 => 215 | 4 => 4 | 40 => 334 | 39 => 333 | 45 => 73 | 5 => 5 | 9 => 9 | 51 => 358 | 55 => 361 | 57 => 373 | 58 => 374 | 33 => 100 | n => n, fun | n => n⟩
theorem Tryz.sorted196 : Go.Proofs.SlLaysZ.n6 Tryz.prog Tryz.sorted196_ren := {
  mixed := by kernel_rfl
  f6 := ⟨Tryz.f196.name, by decide, Tryz.func196.trans (congrArg some (by kernel_rfl))⟩
  f8 := ⟨Tryz.f234.name, by decide, Tryz.func234.trans (congrArg some (by kernel_rfl))⟩
  f11 := ⟨Tryz.f279.name, by decide, Tryz.func279.trans (congrArg some (by kernel_rfl))⟩
  t0 := Tryz.underlying0
  a0 := Tryz.isAgg0
  z0 := Tryz.sizeOf0
  v0 := Tryz.zeroValue0
  t24 := Tryz.underlying24
  a24 := Tryz.isAgg24
  z24 := Tryz.sizeOf24
  v24 := Tryz.zeroValue24
  t26 := Tryz.underlying9
  a26 := Tryz.isAgg9
  z26 := Tryz.sizeOf9
  v26 := Tryz.zeroValue9
  t28 := Tryz.underlying187
  a28 := Tryz.isAgg187
  z28 := Tryz.sizeOf187
  v28 := Tryz.zeroValue187
  i26 := by kernel_rfl }
def Tryz.sort235_ren : Go.Shelf.Ren := ⟨fun | 6 => 235 | 8 => 281 | 9 => 280 | 19 => 327 | 20 => 328 | 21 => 318 | 22 => 319 | 23 => 320 | 24 => 321 | 25 => 322 | 26 => 323 | 27 => 324 | 28 => 325 | 29 => 326 | 36 => 348 | 31 => 349 | 32 => 350 | 37 => 351 | 38 => 352 | 39 => 253 | 41 => 365 | n => n, fun | 27 => 24 | 29 => 9 | 3 => 3 | 32 => 104 | 26 => 24 | 0 => 0 | 44 => 263 | 46 => 215 | 4 => 4 | 36 => 334 | 35 => 333 | 41 => 73 | 5 => 5 | 9 => 9 | 53 => 358 | 57 => 361 | 63 => 373 | 64 => 374 | n => n, fun | n => n⟩
theorem Tryz.sort235 : Go.Proofs.SlLaysM.n6 Tryz.prog Tryz.sort235_ren := {
  mixed := by kernel_rfl
  f6 := ⟨Tryz.f235.name, by decide, Tryz.func235.trans (congrArg some (by kernel_rfl))⟩
  f8 := Tryz.func281.trans (congrArg some (by kernel_rfl))
  f9 := ⟨Tryz.f280.name, by decide, Tryz.func280.trans (congrArg some (by kernel_rfl))⟩
  f19 := Tryz.func327.trans (congrArg some (by kernel_rfl))
  f20 := Tryz.func328.trans (congrArg some (by kernel_rfl))
  f21 := ⟨Tryz.f318.name, by decide, Tryz.func318.trans (congrArg some (by kernel_rfl))⟩
  f22 := ⟨Tryz.f319.name, by decide, Tryz.func319.trans (congrArg some (by kernel_rfl))⟩
  f23 := ⟨Tryz.f320.name, by decide, Tryz.func320.trans (congrArg some (by kernel_rfl))⟩
  f24 := ⟨Tryz.f321.name, by decide, Tryz.func321.trans (congrArg some (by kernel_rfl))⟩
  f25 := ⟨Tryz.f322.name, by decide, Tryz.func322.trans (congrArg some (by kernel_rfl))⟩
  f26 := ⟨Tryz.f323.name, by decide, Tryz.func323.trans (congrArg some (by kernel_rfl))⟩
  f27 := ⟨Tryz.f324.name, by decide, Tryz.func324.trans (congrArg some (by kernel_rfl))⟩
  f28 := ⟨Tryz.f325.name, by decide, Tryz.func325.trans (congrArg some (by kernel_rfl))⟩
  f29 := ⟨Tryz.f326.name, by decide, Tryz.func326.trans (congrArg some (by kernel_rfl))⟩
  f31 := Tryz.func349.trans (congrArg some (by kernel_rfl))
  f32 := Tryz.func350.trans (congrArg some (by kernel_rfl))
  f36 := ⟨Tryz.f348.name, by decide, Tryz.func348.trans (congrArg some (by kernel_rfl))⟩
  f37 := ⟨Tryz.f351.name, by decide, Tryz.func351.trans (congrArg some (by kernel_rfl))⟩
  f38 := ⟨Tryz.f352.name, by decide, Tryz.func352.trans (congrArg some (by kernel_rfl))⟩
  f39 := ⟨Tryz.f253.name, by decide, Tryz.func253.trans (congrArg some (by kernel_rfl))⟩
  f41 := ⟨Tryz.f365.name, by decide, Tryz.func365.trans (congrArg some (by kernel_rfl))⟩
  t0 := Tryz.underlying0
  a0 := Tryz.isAgg0
  z0 := Tryz.sizeOf0
  v0 := Tryz.zeroValue0
  t3 := Tryz.underlying3
  a3 := Tryz.isAgg3
  z3 := Tryz.sizeOf3
  v3 := Tryz.zeroValue3
  t4 := Tryz.underlying4
  a4 := Tryz.isAgg4
  z4 := Tryz.sizeOf4
  v4 := Tryz.zeroValue4
  t5 := Tryz.underlying5
  a5 := Tryz.isAgg5
  z5 := Tryz.sizeOf5
  v5 := Tryz.zeroValue5
  t9 := Tryz.underlying9
  a9 := Tryz.isAgg9
  z9 := Tryz.sizeOf9
  v9 := Tryz.zeroValue9
  t26 := Tryz.underlying24
  a26 := Tryz.isAgg24
  z26 := Tryz.sizeOf24
  v26 := Tryz.zeroValue24
  t27 := Tryz.underlying24
  a27 := Tryz.isAgg24
  z27 := Tryz.sizeOf24
  v27 := Tryz.zeroValue24
  t29 := Tryz.underlying9
  a29 := Tryz.isAgg9
  z29 := Tryz.sizeOf9
  v29 := Tryz.zeroValue9
  t32 := Tryz.underlying104
  a32 := Tryz.isAgg104
  z32 := Tryz.sizeOf104
  v32 := Tryz.zeroValue104
  t35 := Tryz.underlying333
  a35 := Tryz.isAgg333
  z35 := Tryz.sizeOf333
  v35 := Tryz.zeroValue333
  t36 := Tryz.underlying334
  a36 := Tryz.isAgg334
  z36 := Tryz.sizeOf334
  v36 := Tryz.zeroValue334
  t41 := Tryz.underlying73
  a41 := Tryz.isAgg73
  z41 := Tryz.sizeOf73
  v41 := Tryz.zeroValue73
  t44 := Tryz.underlying263
  a44 := Tryz.isAgg263
  z44 := Tryz.sizeOf263
  v44 := Tryz.zeroValue263
  t46 := Tryz.underlying215
  a46 := Tryz.isAgg215
  z46 := Tryz.sizeOf215
  v46 := Tryz.zeroValue215
  t53 := Tryz.underlying358
  a53 := Tryz.isAgg358
  z53 := Tryz.sizeOf358
  v53 := Tryz.zeroValue358
  t57 := Tryz.underlying361
  a57 := Tryz.isAgg361
  z57 := Tryz.sizeOf361
  v57 := Tryz.zeroValue361
  t63 := Tryz.underlying373
  a63 := Tryz.isAgg373
  z63 := Tryz.sizeOf373
  v63 := Tryz.zeroValue373
  t64 := Tryz.underlying374
  a64 := Tryz.isAgg374
  z64 := Tryz.sizeOf374
  v64 := Tryz.zeroValue374 }
end Go.Proofs

/- slices.Sorted(maps.Keys(m)) at this program: the shelf's contracts (printed by the kit's lay-iter.mjs). -/
namespace Go.Proofs
open Go.RowKit Go.Maps Go.Sort Go.Shelf

/-- slices.Sort's two contracts at this dump, at the fence that asks nothing. -/
theorem Tryz.sorts196 (m : Nat) : AnyZ.SortsIn Tryz.prog Tryz.sorted196_ren Fence.wide m :=
  ⟨fun blk off cap ss W hH hblk hsz => callsIn_wide.2 (AnyM.slices_Sort_string Tryz.sort235 blk off cap ss W hH hblk hsz),
   fun p cap W => callsIn_wide.2 (AnyM.slices_Sort_string_none Tryz.sort235 p cap W)⟩

/-- **maps.Keys[map[string]any,string,any], at whatever map, the nil one too:** a function value over ONE NEW BLOCK, which holds the map. -/
theorem Tryz.maps_Keys_197 (mb : Option Nat) (W : World) : CallsIn Fence.wide 5 Tryz.prog 197 #[.map mb] W fun e w' => e = .returned (.func (.func 236) #[] #[.pointer (some ⟨W.heap.size, 0, none⟩)]) ∧ w' = W.alloc (.cells #[.map mb] 83) :=
  AnyZ.keys_in Tryz.keys197 Fence.wide 5 trivial rfl mb W

set_option maxHeartbeats 1000000 in
/-- **slices.Sorted[string] AT WHAT maps.Keys[map[string]any,string,any] HANDED BACK FOR A MAP THAT IS NOT nil** ('w': the world AHEAD of maps.Keys' call): A NEW SLICE THAT HOLDS THE MAP's KEYS, SORTED; nil just where it has none; nothing that lay before has turned. -/
theorem Tryz.slices_Sorted_keys_196_197 {H : Type} (b nn : Nat) (D0 : DataW H) (R : Value → Option (DataW H × List MemPlace)) (w : World) (hown : w.ownsMap Tryz.prog 9 R b nn D0) (hmax : Maps.size D0 ≤ maxLen) (hbytes : Maps.size D0 * 16 ≤ 140737488355328) :
    CallsIn Fence.wide 5 Tryz.prog 196 #[.func (.func 236) #[] #[.pointer (some ⟨w.heap.size, 0, none⟩)]] (w.alloc (.cells #[.map (some b)] 83)) fun e w' => ∃ (v : Value) (ss : List (List UInt8)), e = .returned v ∧ ss.Perm (strKeys D0) ∧
      w'.ownsRow (w.alloc (.cells #[.map (some b)] 83)).heap.size 9 1 v ss.length ((ss.mergeSort (fun x y => decide (x ≤ y))).map encStr) ∧ (v = .slice none 0 0 ↔ ss = []) ∧ Below (w.alloc (.cells #[.map (some b)] 83)).heap.size (w.alloc (.cells #[.map (some b)] 83)) w' := by
  have hbl := hown.lt
  have hseq : SeqGives Fence.wide 2 Tryz.prog 236 #[.pointer (some ⟨w.heap.size, 0, none⟩)] encStr (fun ss => ss.Perm (strKeys D0)) (Maps.size D0) (w.alloc (.cells #[.map (some b)] 83)) :=
    AnyZ.keys_gives (ρ := Tryz.keys197_ren) { Tryz.keys197 with } Fence.wide _ trivial rfl (by omega) w.heap.size b nn D0 _ (by simp) (by simp) (by
      obtain ⟨es, clock, hb, Ft, hs, hD⟩ := hown
      exact ⟨es, clock, (Below.heap_alloc _ _ b hbl).trans hb, Ft, hs, hD⟩)
  exact AnyZ.sorted_in Tryz.sorted196 Fence.wide 5 trivial trivial trivial trivial rfl (by omega) (Tryz.sorts196 _) (enters_of Tryz.func235 (by kernel_rfl) rfl) 236 #[.pointer (some ⟨w.heap.size, 0, none⟩)] trivial (enters_of Tryz.func236 (by kernel_rfl) rfl) _ _ hmax hbytes _ hseq

set_option maxHeartbeats 1000000 in
/-- **.. AND FOR THE nil MAP: nil.** -/
theorem Tryz.slices_Sorted_keys_nil_196_197 (w : World) :
    CallsIn Fence.wide 5 Tryz.prog 196 #[.func (.func 236) #[] #[.pointer (some ⟨w.heap.size, 0, none⟩)]] (w.alloc (.cells #[.map none] 83)) fun e w' => ∃ (v : Value) (ss : List (List UInt8)), e = .returned v ∧ ss = [] ∧
      w'.ownsRow (w.alloc (.cells #[.map none] 83)).heap.size 9 1 v ss.length ((ss.mergeSort (fun x y => decide (x ≤ y))).map encStr) ∧ (v = .slice none 0 0 ↔ ss = []) ∧ Below (w.alloc (.cells #[.map none] 83)).heap.size (w.alloc (.cells #[.map none] 83)) w' := by
  have hseq : SeqGives Fence.wide 2 Tryz.prog 236 #[.pointer (some ⟨w.heap.size, 0, none⟩)] encStr (fun ss : List (List UInt8) => ss = []) 0 (w.alloc (.cells #[.map none] 83)) :=
    AnyZ.keys_gives_nil (ρ := Tryz.keys197_ren) { Tryz.keys197 with } Fence.wide _ trivial rfl w.heap.size _ (by simp) (by simp)
  exact AnyZ.sorted_in Tryz.sorted196 Fence.wide 5 trivial trivial trivial trivial rfl (by omega) (Tryz.sorts196 _) (enters_of Tryz.func235 (by kernel_rfl) rfl) 236 #[.pointer (some ⟨w.heap.size, 0, none⟩)] trivial (enters_of Tryz.func236 (by kernel_rfl) rfl) _ 0 (Nat.zero_le _) (by omega) _ hseq
end Go.Proofs

/- The keys of a map that stands for a tree, sorted, are the tree's keys. -/
namespace Go.Proofs.YtmjegeipnaalnaaGreatDoor
open Go.RowKit

section
open Go.Maps Go.MapKept Go.WideElems
/-- How an entry's value reads here: it does not matter. -/
def noR (_ : Value) : Option (DataW Unit × List MemPlace) := some (.nil, [])
theorem nodup_le {α : Type} : ∀ {l m : List α}, l.Nodup → (∀ x ∈ l, x ∈ m) → l.length ≤ m.length
  | [], _, _, _ => Nat.zero_le _
  | a :: l, m, hd, hs => by
    obtain ⟨s, t, rfl⟩ := List.append_of_mem (hs a (by simp))
    have hd' := List.nodup_cons.1 hd
    have := nodup_le (m := s ++ t) hd'.2 fun x hx => by
      have h1 := hs x (by simp [hx])
      simp only [List.mem_append, List.mem_cons] at h1 ⊢
      rcases h1 with h1 | h1 | h1
      · exact .inl h1
      · exact absurd (h1 ▸ hx) hd'.1
      · exact .inr h1
    simp at this ⊢
    omega
theorem rising_sorted : ∀ {ks : List ByteArray} {p : Option ByteArray}, Rising p ks → (ks.map fun k => k.data.toList).Pairwise (· < ·)
  | [], _, _ => by simp
  | a :: ks, p, h => by
    unfold Rising at h
    rw [List.map_cons, List.pairwise_cons]
    refine ⟨fun y hy => ?_, rising_sorted h.2⟩
    obtain ⟨k, hk, rfl⟩ := List.mem_map.1 hy
    have := rising_all h.2 k hk
    unfold keyLt at this
    rw [Lib.toList_data, Lib.toList_data, bytesLess_eq] at this
    simpa using this

theorem keys_of_map {w : World} {b : Nat} {ks : List ByteArray} {es : List MapEntry} {clock : Nat} (hb : w.heap[b]? = some (.map (List.toArray es) clock)) (h9 : ∀ e ∈ es, e.born < clock) (h10 : (es.map (·.born)).Nodup)
    (h11 : ∀ q ∈ prs es, ∃ k ∈ ks, q.1 = .string k) (h12 : ((prs es).map (·.1)).Nodup) (hall : ∀ k ∈ ks, ∃ c, (Value.string k, c) ∈ prs es) (hr : Rising none ks) (hs : ∀ k ∈ ks, k.size ≤ 140737488351232) (hn : ks.length ≤ 1002) :
    ∃ D0 : DataW Unit, w.ownsMap Tryz.prog 9 noR b es.length D0 ∧ Maps.size D0 ≤ 1002 ∧ ∀ ss : List (List UInt8), ss.Perm (strKeys D0) → (ss.mergeSort (fun x y => decide (x ≤ y))).map encStr = ks.map Value.string := by
  have hrd : ∀ e ∈ es, ∃ k ∈ ks, e.key = .string k ∧ rd Tryz.prog 9 noR e = some (.string k.data.toList, .nil) := by
    intro e he
    obtain ⟨k, hk, e1⟩ := h11 (e.key, e.val) (List.mem_map.2 ⟨e, he, rfl⟩)
    refine ⟨k, hk, e1, ?_⟩
    have hle : k.size ≤ maxLen := by have := hs k hk; unfold maxLen; omega
    cases e with
    | mk ek ev eb =>
      simp only at e1
      subst e1
      exact rd_mk (yv := (.nil, [])) (by simp [keyOf, Tryz.underlying9, mapKey, hle]) rfl
  have hlen : es.length ≤ 1002 := by
    have h1 : ((prs es).map (·.1)).length ≤ (ks.map Value.string).length := nodup_le h12 fun x hx => by
      obtain ⟨q, hq, rfl⟩ := List.mem_map.1 hx
      obtain ⟨k, hk, e⟩ := h11 q hq
      exact List.mem_map.2 ⟨k, hk, e.symm⟩
    simp [prs] at h1
    omega
  have hF : Fit Tryz.prog 9 noR (List.toArray es) clock := ⟨by simp [maxLen]; omega, ⟨by simpa using h9, by simpa using h10, by simpa [prs, Function.comp_def] using h12⟩, fun x hx => by
    obtain ⟨k, _, _, e⟩ := hrd x (by simpa using hx)
    exact ⟨_, e⟩⟩
  have hown : w.ownsMap Tryz.prog 9 noR b es.length (.map ((es.map (rg Tryz.prog 9 noR)).foldr DataW.insert [])) := ⟨List.toArray es, clock, hb, hF, by simp, by simp⟩
  refine ⟨_, hown, by have := hown.size_le; omega, fun ss hss => ?_⟩
  have hsort := rising_sorted hr
  have hks : (ks.map fun k => k.data.toList).Nodup := hsort.imp fun h e => by subst e; exact List.lt_irrefl _ h
  have hst : (strKeys (.map ((es.map (rg Tryz.prog 9 noR)).foldr DataW.insert []))).Perm (ks.map fun k => k.data.toList) := by
    refine (List.perm_ext_iff_of_nodup ?_ hks).2 fun x => ?_
    · obtain ⟨es', hD, hpw, _⟩ := hown.entries (Go.Maps.string_keyed Tryz.underlying9)
      obtain ⟨es'', hD', hko⟩ := hown.keysOf
      rw [hD] at hD' ⊢
      obtain rfl : es' = es'' := by simpa using hD'
      show (es'.map fun p => strOf p.1).Nodup
      refine List.pairwise_map.2 (hpw.imp_of_mem fun {p q} hp' hq' hne e => hne ?_)
      obtain ⟨a, ha⟩ := hko p hp'
      obtain ⟨b, hb⟩ := hko q hq'
      obtain ⟨x1, _, e1, _⟩ := Maps.keyOf_str Tryz.underlying9 ha
      obtain ⟨x2, _, e2, _⟩ := Maps.keyOf_str Tryz.underlying9 hb
      rw [e1, e2] at e ⊢
      exact congrArg _ e
    · show x ∈ ((es.map (rg Tryz.prog 9 noR)).foldr DataW.insert []).map (fun p => strOf p.1) ↔ _
      simp only [List.mem_map]
      constructor
      · rintro ⟨p, hp, rfl⟩
        obtain ⟨e, he, rfl⟩ := List.mem_map.1 (mem_sorted.1 hp)
        obtain ⟨k, hk, _, e2⟩ := hrd e he
        exact ⟨k, hk, by rw [rg_of e2]; rfl⟩
      · rintro ⟨k, hk, rfl⟩
        obtain ⟨c, hc⟩ := hall k hk
        obtain ⟨e, he, e2⟩ := List.mem_map.1 hc
        obtain ⟨k2, _, e3, e4⟩ := hrd e he
        have : k2 = k := by
          have h : e.key = .string k := congrArg Prod.fst e2
          rw [e3] at h
          injection h
        subst this
        exact ⟨_, mem_sorted.2 (List.mem_map.2 ⟨e, he, rfl⟩), by rw [rg_of e4]; rfl⟩
  have hp := hss.trans hst
  have : ss.mergeSort (fun x y => decide (x ≤ y)) = ks.map fun k => k.data.toList := by
    have tr : ∀ a b c : List UInt8, leB a b = true → leB b c = true → leB a c = true := fun a b c h1 h2 => by simp only [leB, decide_eq_true_eq] at *; exact List.le_trans h1 h2
    have tot : ∀ a b : List UInt8, (leB a b || leB b a) = true := fun a b => by simp only [leB, Bool.or_eq_true, decide_eq_true_eq]; exact List.le_total a b
    refine List.Perm.eq_of_pairwise (le := fun a b => leB a b = true) (fun a b _ _ h1 h2 => ?_) (List.pairwise_mergeSort tr tot ss) (hsort.imp fun h => by simp only [leB, decide_eq_true_eq]; exact List.le_of_lt h) ((List.mergeSort_perm ss leB).trans hp)
    simp only [leB, decide_eq_true_eq] at h1 h2
    exact List.le_antisymm h1 h2
  rw [this, List.map_map]
  exact List.map_congr_left fun k _ => by simp [encStr]
end
end Go.Proofs.YtmjegeipnaalnaaGreatDoor
