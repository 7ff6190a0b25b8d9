/- DERIVED: THE SHELF's CONTRACTS AT THIS DUMP, IN PLAIN WORDS (tools/lay-plain.mjs out of 'YtmjegeipnaalnaaGreatDoorStabL.lean', which tools/lay-shelf.mjs wrote): THE SAME DECLARATIONS UNDER THE SAME NAMES: 'import', 'namespace', 'open', 'def', 'theorem' AND NOTHING ELSE: no command of the shelf's: FOR A HAND-IN. Each laying: the table of numbers ('.._ren') and one theorem, a field a fact of the dump's own or the kernel's comparison; each contract: ONE APPLICATION. sort.SliceStable over the package's items, at whatever length: the row ends in the stable order of the keys. -/
import Derived.Shelf.GgSortMore.Stable
import Derived.Ground.GgtProg
import Derived.Test.YtmjegeipnaalnaaGreatDoorProg
import Derived.Test.YtmjegeipnaalnaaGreatDoorGrOrdA

/- DERIVED: THE SHELF's CONTRACTS AT THIS DUMP, IN PLAIN WORDS (tools/lay-plain.mjs out of 'YtmjegeipnaalnaaGreatDoorStabL.lean', which tools/lay-shelf.mjs wrote): THE SAME DECLARATIONS UNDER THE SAME NAMES: 'import', 'namespace', 'open', 'def', 'theorem' AND NOTHING ELSE: no command of the shelf's: FOR A HAND-IN. Each laying: the table of numbers ('.._ren') and one theorem, a field a fact of the dump's own or the kernel's comparison; each contract: ONE APPLICATION. -/
namespace Go.Proofs
open Go.Shelf
def Tryz.stable203_ren : Go.Shelf.Ren := ⟨fun | 8 => 203 | 13 => 248 | 14 => 249 | 16 => 251 | 15 => 250 | 29 => 305 | 30 => 306 | 42 => 339 | 49 => 357 | n => n, fun | 20 => 20 | 26 => 119 | 36 => 267 | 0 => 0 | 38 => 269 | 42 => 273 | 3 => 3 | 4 => 4 | 47 => 104 | 17 => 17 | 33 => 264 | 34 => 265 | 89 => 447 | 12 => 12 | 56 => 263 | 82 => 441 | 5 => 5 | 83 => 442 | 84 => 443 | 85 => 323 | 86 => 444 | 87 => 445 | n => n, fun | n => n⟩
theorem Tryz.stable203 : Go.Proofs.LaysGt.n8 Tryz.prog Tryz.stable203_ren := {
  mixed := by kernel_rfl
  f8 := Tryz.func203.trans (congrArg some (by kernel_rfl))
  f13 := Tryz.func248.trans (congrArg some (by kernel_rfl))
  f14 := Tryz.func249.trans (congrArg some (by kernel_rfl))
  f15 := Tryz.func250.trans (congrArg some (by kernel_rfl))
  f16 := Tryz.func251.trans (congrArg some (by kernel_rfl))
  f29 := Tryz.func305.trans (congrArg some (by kernel_rfl))
  f30 := Tryz.func306.trans (congrArg some (by kernel_rfl))
  f42 := Tryz.func339.trans (congrArg some (by kernel_rfl))
  f49 := Tryz.func357.trans (congrArg some (by kernel_rfl))
  t0 := Tryz.underlying0
  a0 := Tryz.isAgg0
  z0 := Tryz.sizeOf0
  v0 := Tryz.zeroValue0
  i0 := by kernel_rfl
  t3 := Tryz.underlying3
  a3 := Tryz.isAgg3
  z3 := Tryz.sizeOf3
  v3 := Tryz.zeroValue3
  i3 := by kernel_rfl
  t4 := Tryz.underlying4
  a4 := Tryz.isAgg4
  z4 := Tryz.sizeOf4
  v4 := Tryz.zeroValue4
  i4 := by kernel_rfl
  t5 := Tryz.underlying5
  a5 := Tryz.isAgg5
  z5 := Tryz.sizeOf5
  v5 := Tryz.zeroValue5
  i5 := by kernel_rfl
  t12 := Tryz.underlying12
  a12 := Tryz.isAgg12
  z12 := Tryz.sizeOf12
  v12 := Tryz.zeroValue12
  i12 := by kernel_rfl
  t17 := Tryz.underlying17
  a17 := Tryz.isAgg17
  z17 := Tryz.sizeOf17
  v17 := Tryz.zeroValue17
  i17 := by kernel_rfl
  t20 := Tryz.underlying20
  a20 := Tryz.isAgg20
  z20 := Tryz.sizeOf20
  v20 := Tryz.zeroValue20
  i20 := by kernel_rfl
  t26 := Tryz.underlying119
  a26 := Tryz.isAgg119
  z26 := Tryz.sizeOf119
  v26 := Tryz.zeroValue119
  i26 := by kernel_rfl
  t33 := Tryz.underlying264
  a33 := Tryz.isAgg264
  z33 := Tryz.sizeOf264
  v33 := Tryz.zeroValue264
  i33 := by kernel_rfl
  t34 := Tryz.underlying265
  a34 := Tryz.isAgg265
  z34 := Tryz.sizeOf265
  v34 := Tryz.zeroValue265
  i34 := by kernel_rfl
  t36 := Tryz.underlying267
  a36 := Tryz.isAgg267
  z36 := Tryz.sizeOf267
  v36 := Tryz.zeroValue267
  i36 := by kernel_rfl
  t38 := Tryz.underlying269
  a38 := Tryz.isAgg269
  z38 := Tryz.sizeOf269
  v38 := Tryz.zeroValue269
  i38 := by kernel_rfl
  t42 := Tryz.underlying273
  a42 := Tryz.isAgg273
  z42 := Tryz.sizeOf273
  v42 := Tryz.zeroValue273
  i42 := by kernel_rfl
  t47 := Tryz.underlying104
  a47 := Tryz.isAgg104
  z47 := Tryz.sizeOf104
  v47 := Tryz.zeroValue104
  i47 := by kernel_rfl
  t56 := Tryz.underlying263
  a56 := Tryz.isAgg263
  z56 := Tryz.sizeOf263
  v56 := Tryz.zeroValue263
  i56 := by kernel_rfl
  t82 := Tryz.underlying441
  a82 := Tryz.isAgg441
  z82 := Tryz.sizeOf441
  v82 := Tryz.zeroValue441
  i82 := by kernel_rfl
  t83 := Tryz.underlying442
  a83 := Tryz.isAgg442
  z83 := Tryz.sizeOf442
  v83 := Tryz.zeroValue442
  i83 := by kernel_rfl
  t84 := Tryz.underlying443
  a84 := Tryz.isAgg443
  z84 := Tryz.sizeOf443
  v84 := Tryz.zeroValue443
  i84 := by kernel_rfl
  t85 := Tryz.underlying323
  a85 := Tryz.isAgg323
  z85 := Tryz.sizeOf323
  v85 := Tryz.zeroValue323
  i85 := by kernel_rfl
  t86 := Tryz.underlying444
  a86 := Tryz.isAgg444
  z86 := Tryz.sizeOf444
  v86 := Tryz.zeroValue444
  i86 := by kernel_rfl
  t87 := Tryz.underlying445
  a87 := Tryz.isAgg445
  z87 := Tryz.sizeOf445
  v87 := Tryz.zeroValue445
  i87 := by kernel_rfl
  t89 := Tryz.underlying447
  a89 := Tryz.isAgg447
  z89 := Tryz.sizeOf447
  v89 := Tryz.zeroValue447
  i89 := by kernel_rfl }
end Go.Proofs

/- sort.SliceStable over the package's items, at whatever length: the row ends in the stable order of the keys. -/
namespace Go.Proofs.YtmjegeipnaalnaaGreatDoor
open Go.RowKit Go.Sort
variable {n blk bx : Nat} {pb : Nat → Nat} {vv kv : Nat → Value} {kt : Nat → JV}

theorem stableF_tiny (lt : Nat → Nat → Bool) (d : Array Nat) (h : d.size ≤ 1) : stableF lt d = d := by
  have e : blkF lt d.size d.size 0 d = d := by
    rw [blkF_end lt _ _ _ _ (by omega)]
    unfold Sort.insertionSort
    exact insOuter_stop _ _ _ _ _ (by omega)
  unfold stableF
  rw [e]
  exact allF_end lt _ _ _ _ (by omega)

theorem swapper_ge (n : Nat) (h2 : 2 ≤ n) : Lib.swapperK n Tryz.t143 22 = 3 := by
  have a : Tryz.t143.hasPointers = true := by kernel_rfl
  have b : Tryz.t143.bytes = 8 := by kernel_rfl
  have c : (n == 0) = false := by simp; omega
  have d : (n == 1) = false := by simp; omega
  simp [Lib.swapperK, a, b, c, d]

theorem slice140 : Tryz.prog.info? 140 = some Tryz.t140 := by kernel_rfl
theorem desc140 : Tryz.t140.desc = .slice 143 := by kernel_rfl
theorem packed140 : Tryz.prog.packed 140 = false := by kernel_rfl
theorem info143 : Tryz.prog.info? 143 = some Tryz.t143 := by kernel_rfl
theorem kind143 (w : World) : (Extern.Rtype.kind 143).run Tryz.prog w = .ok 22 w := by kernel_rfl
theorem swapper1 : Tryz.prog.funcs.findIdx? (·.name == "internal/reflectlite" ++ ".Swapper$" ++ toString 1) = some 296 := by kernel_rfl
theorem swapper2 : Tryz.prog.funcs.findIdx? (·.name == "internal/reflectlite" ++ ".Swapper$" ++ toString 2) = some 297 := by kernel_rfl
theorem swapper3 : Tryz.prog.funcs.findIdx? (·.name == "internal/reflectlite" ++ ".Swapper$" ++ toString 3) = some 298 := by kernel_rfl

set_option maxRecDepth 100000 in
theorem sliceStable_walk {d : Array Nat} {w : World} (h : RowI n blk bx pb vv kv kt d w) (hg : ∀ i, i < n → Good (kt i) ∧ Short (kt i)) (hn : n < 1000000000) :
    Calls Tryz.prog 203 #[.iface 140 (.slice (some ⟨blk, 0, none⟩) n n), .func (.func 204) #[] #[.pointer (some ⟨bx, 0, none⟩)]] w fun e w' => e = .returned (.tuple #[]) ∧ RowI n blk bx pb vv kv kt (stableF (itemLt kt) d) w' ∧ Moves blk w w' := by
  rcases Nat.lt_or_ge n 2 with h2 | h2
  · obtain ⟨f, hf⟩ : ∃ f, Tryz.prog.funcs.findIdx? (·.name == "internal/reflectlite" ++ ".Swapper$" ++ toString (Lib.swapperK n Tryz.t143 22)) = some f := by
      rcases Nat.lt_or_ge n 1 with h1 | h1
      · obtain rfl : n = 0 := by omega
        exact ⟨296, swapper1⟩
      · obtain rfl : n = 1 := by omega
        exact ⟨297, swapper2⟩
    have c := Any.sort_SliceStable_tiny Tryz.stable203 140 143 Tryz.t140 Tryz.t143 slice140 desc140 packed140 info143 22 kind143 (some ⟨blk, 0, none⟩) n n (by omega) f hf (.func 204) #[] #[.pointer (some ⟨bx, 0, none⟩)] w
    change Calls Tryz.prog 203 _ _ _ at c
    refine c.mono ?_
    rintro e w' ⟨rfl, os, rfl⟩
    have hb : Below w.heap.size w (Sort.grow w os) := below_growN (Below.refl _ _) (Nat.le_refl _) os
    rw [stableF_tiny _ _ (by rw [h.size]; omega)]
    exact ⟨rfl, h.grow hb, Moves.of_below hb⟩
  · have hf : Tryz.prog.funcs.findIdx? (·.name == "internal/reflectlite" ++ ".Swapper$" ++ toString (Lib.swapperK n Tryz.t143 22)) = some 298 := by rw [swapper_ge n h2]; exact swapper3
    have hsw : SwapSwaps Tryz.prog 298 #[.slice (some ⟨blk, 0, none⟩) n n, typeHandle Tryz.prog 143] (itemV pb) blk 0 n :=
      swapSwaps_of_literal true 298 (fun args W => run_callFunc_extern Tryz.func298 (by kernel_rfl) (by kernel_rfl) (by kernel_rfl) (e := Extern.ReflectliteSwapper.swap true) (by kernel_rfl) args W) 143 Tryz.t143 info143 (by kernel_rfl) (fun _ => by kernel_rfl) (itemV pb) (fun _ => rfl) blk 0 n n
    have hS := srt_items (n := n) (blk := blk) (bx := bx) (pb := pb) (vv := vv) (kv := kv) (kt := kt) 298 _ hg hn hsw
    have hB : sliceBound Tryz.prog 143 Tryz.t143 22 (some ⟨blk, 0, none⟩) n n = #[.slice (some ⟨blk, 0, none⟩) n n, typeHandle Tryz.prog 143] := by
      unfold sliceBound; rw [if_neg (by rw [swapper_ge n h2]; omega)]
    have hW : Below w.heap.size w (stableWorld Tryz.prog Tryz.stable203_ren 140 (some ⟨blk, 0, none⟩) n n w) := by
      unfold stableWorld
      exact ((Below.refl _ _).alloc (Nat.le_refl _) _).alloc (by simp) _
    have hp := stable_walk hS hn d _ (h.grow hW)
    have c := Any.sort_SliceStable_of_stable Tryz.stable203 140 143 Tryz.t140 Tryz.t143 slice140 desc140 packed140 info143 22 kind143 (some ⟨blk, 0, none⟩) n n (by omega) 298 hf (.func 204) #[] #[.pointer (some ⟨bx, 0, none⟩)] w
      (fun w' => RowI n blk bx pb vv kv kt (stableF (itemLt kt) d) w' ∧ Moves blk w w') (by
        rw [hB]
        refine hp.mono ?_
        rintro e w' ⟨rfl, hr, hm⟩
        exact ⟨rfl, hr, (Moves.of_below hW).trans hm⟩)
    exact c
end Go.Proofs.YtmjegeipnaalnaaGreatDoor
