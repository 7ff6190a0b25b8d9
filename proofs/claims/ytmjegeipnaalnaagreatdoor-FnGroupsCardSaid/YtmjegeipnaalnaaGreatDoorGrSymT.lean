/- The library's stable sort as plain functions of what 'less' says of two elements: swaps, rotations, merges, blocks. What the library's stable sort asks of its row, its less and its swap; swaps of two ranges, and rotations. Rotations, walked. A merge whose first range has one element, walked. A merge whose second range has one element, walked. The insertion sort, walked: its less may lay blocks. What every swap keeps, the stable sort keeps. -/
import Derived.Sort.WalkA
import Derived.Test.YtmjegeipnaalnaaGreatDoorProg
import Derived.WalkKit
import Derived.Lib.Hide
import Derived.Below

/- The library's stable sort as plain functions of what 'less' says of two elements: swaps, rotations, merges, blocks. -/
namespace Go.Proofs.YtmjegeipnaalnaaGreatDoor
open Go.Sort
variable {α : Type} [Inhabited α]

/-- So many rounds of swaps of two ranges, from a place on. -/
def swpR (a b : Nat) : Nat → Nat → Array α → Array α
  | 0, _, d => d
  | r + 1, i, d => swpR a b r (i + 1) (swp d (a + i) (b + i))
/-- Two neighbouring ranges change places. -/
def rotF (m : Nat) : Nat → Nat → Nat → Array α → Array α
  | 0, _, _, d => d
  | f + 1, i, j, d => if i = j then swpR (m - i) m i 0 d else if j < i then rotF m f (i - j) j (swpR (m - i) m j 0 d) else rotF m f i (j - i) (swpR (m - i) (m + j - i) i 0 d)
/-- A search by halves. -/
def halfF (p : Nat → Bool) : Nat → Nat → Nat → Nat
  | 0, i, _ => i
  | f + 1, i, j => if i < j then (if p ((i + j) / 2) then halfF p f ((i + j) / 2 + 1) j else halfF p f i ((i + j) / 2)) else i
/-- An element goes up, down, by swaps of neighbours. -/
def upF : Nat → Nat → Array α → Array α
  | 0, _, d => d
  | r + 1, k, d => upF r (k + 1) (swp d k (k + 1))
def downF : Nat → Nat → Array α → Array α
  | 0, _, d => d
  | r + 1, k, d => downF r (k - 1) (swp d k (k - 1))
/-- Where the search for the cut of a merge begins, and ends. -/
def cutLo (a m b : Nat) : Nat := if (a + b) / 2 < m then (a + b) / 2 + m - b else a
def cutHi (a m b : Nat) : Nat := if (a + b) / 2 < m then (a + b) / 2 else m
def cutAt (lt : α → α → Bool) (a m b : Nat) (d : Array α) : Nat :=
  halfF (fun c => !lt d[(a + b) / 2 + m - 1 - c]! d[c]!) b (cutLo a m b) (cutHi a m b)
/-- A merge in place. -/
def symF (lt : α → α → Bool) : Nat → Nat → Nat → Nat → Array α → Array α
  | 0, _, _, _, d => d
  | f + 1, a, m, b, d =>
    if m - a = 1 then upF (halfF (fun h => lt d[h]! d[a]!) b m b - 1 - a) a d
    else if b - m = 1 then downF (m - halfF (fun h => !lt d[m]! d[h]!) b a m) m d
    else
      let s := cutAt lt a m b d
      let e := (a + b) / 2 + m - s
      let d1 := if s < m ∧ m < e then rotF m b (m - s) (e - m) d else d
      let d2 := if a < s ∧ s < (a + b) / 2 then symF lt f a s ((a + b) / 2) d1 else d1
      if (a + b) / 2 < e ∧ e < b then symF lt f ((a + b) / 2) e b d2 else d2
/-- Blocks of twenty, each sorted. -/
def blkF (lt : α → α → Bool) (n : Nat) : Nat → Nat → Array α → Array α
  | 0, a, d => insertionSort lt d a n
  | f + 1, a, d => if a + 20 ≤ n then blkF lt n f (a + 20) (insertionSort lt d a (a + 20)) else insertionSort lt d a n
/-- Merges of neighbouring blocks of one size. -/
def rowF (lt : α → α → Bool) (n s : Nat) : Nat → Nat → Array α → Array α
  | 0, _, d => d
  | f + 1, a, d => if a + 2 * s ≤ n then rowF lt n s f (a + 2 * s) (symF lt n a (a + s) (a + 2 * s) d) else if a + s < n then symF lt n a (a + s) n d else d
def allF (lt : α → α → Bool) (n : Nat) : Nat → Nat → Array α → Array α
  | 0, _, d => d
  | f + 1, s, d => if s < n then allF lt n f (2 * s) (rowF lt n s n 0 d) else d
/-- The stable sort. -/
def stableF (lt : α → α → Bool) (d : Array α) : Array α := allF lt d.size d.size 20 (blkF lt d.size d.size 0 d)

theorem size_swp' (d : Array α) (i j : Nat) : (swp d i j).size = d.size := by unfold swp; simp
theorem swpR_size (a b : Nat) : ∀ (r i : Nat) (d : Array α), (swpR a b r i d).size = d.size
  | 0, _, _ => rfl
  | r + 1, i, d => by unfold swpR; rw [swpR_size a b r, size_swp']
theorem rotF_size (m : Nat) : ∀ (f i j : Nat) (d : Array α), (rotF m f i j d).size = d.size
  | 0, _, _, _ => rfl
  | f + 1, i, j, d => by
    unfold rotF
    split
    · exact swpR_size _ _ _ _ _
    · split
      · rw [rotF_size m f, swpR_size]
      · rw [rotF_size m f, swpR_size]
theorem upF_size : ∀ (r k : Nat) (d : Array α), (upF r k d).size = d.size
  | 0, _, _ => rfl
  | r + 1, k, d => by unfold upF; rw [upF_size r, size_swp']
theorem downF_size : ∀ (r k : Nat) (d : Array α), (downF r k d).size = d.size
  | 0, _, _ => rfl
  | r + 1, k, d => by unfold downF; rw [downF_size r, size_swp']
theorem symF_size (lt : α → α → Bool) : ∀ (f a m b : Nat) (d : Array α), (symF lt f a m b d).size = d.size
  | 0, _, _, _, _ => rfl
  | f + 1, a, m, b, d => by
    unfold symF
    split
    · exact upF_size _ _ _
    · split
      · exact downF_size _ _ _
      · dsimp only
        split
        · rw [symF_size lt f]
          split
          · rw [symF_size lt f]; split
            · exact rotF_size _ _ _ _ _
            · rfl
          · split
            · exact rotF_size _ _ _ _ _
            · rfl
        · split
          · rw [symF_size lt f]; split
            · exact rotF_size _ _ _ _ _
            · rfl
          · split
            · exact rotF_size _ _ _ _ _
            · rfl
/-- A search by halves ends between its bounds. -/
theorem halfF_in (p : Nat → Bool) : ∀ (f i j : Nat), i ≤ j → i ≤ halfF p f i j ∧ halfF p f i j ≤ j
  | 0, i, j, h => by unfold halfF; omega
  | f + 1, i, j, h => by
    unfold halfF
    split
    · split
      · have := halfF_in p f ((i + j) / 2 + 1) j (by omega); omega
      · have := halfF_in p f i ((i + j) / 2) (by omega); omega
    · omega
theorem halfF_go (p : Nat → Bool) (f i j : Nat) (h : i < j) : halfF p (f + 1) i j = if p ((i + j) / 2) then halfF p f ((i + j) / 2 + 1) j else halfF p f i ((i + j) / 2) := by
  conv => lhs; unfold halfF
  rw [if_pos h]
/-- More rounds than the search has places are all one. -/
theorem halfF_fuel (p : Nat → Bool) : ∀ (f g i j : Nat), j ≤ i + f → j ≤ i + g → halfF p f i j = halfF p g i j
  | 0, 0, _, _, _, _ => rfl
  | 0, g + 1, i, j, h1, _ => by
    conv => rhs; unfold halfF
    rw [if_neg (by omega)]; rfl
  | f + 1, 0, i, j, _, h2 => by
    conv => lhs; unfold halfF
    rw [if_neg (by omega)]; rfl
  | f + 1, g + 1, i, j, h1, h2 => by
    unfold halfF
    split
    · rw [halfF_fuel p f g ((i + j) / 2 + 1) j (by omega) (by omega), halfF_fuel p f g i ((i + j) / 2) (by omega) (by omega)]
    · rfl
end Go.Proofs.YtmjegeipnaalnaaGreatDoor

/- What the library's stable sort asks of its row, its less and its swap; swaps of two ranges, and rotations. -/
namespace Go.Proofs.YtmjegeipnaalnaaGreatDoor
open Go.RowKit Go.Sort

/-- Only one block may be another one. -/
structure Moves (blk : Nat) (w w' : World) : Prop where
  size : w.heap.size ≤ w'.heap.size
  block : ∀ k, k ≠ blk → k < w.heap.size → w'.heap[k]? = w.heap[k]?
  os : w'.os = w.os
  tape : w'.tape = w.tape
  output : w'.output = w.output
theorem Moves.refl (blk : Nat) (w : World) : Moves blk w w := ⟨Nat.le_refl _, fun _ _ _ => rfl, rfl, rfl, rfl⟩
theorem Moves.trans {blk : Nat} {a b c : World} (h : Moves blk a b) (k : Moves blk b c) : Moves blk a c :=
  ⟨Nat.le_trans h.1 k.1, fun i hi hl => (k.2 i hi (Nat.lt_of_lt_of_le hl h.1)).trans (h.2 i hi hl), k.os.trans h.os, k.tape.trans h.tape, k.output.trans h.output⟩
theorem Moves.alloc {blk : Nat} {w w' : World} {o : Obj} (h : Moves blk (w.alloc o) w') : Moves blk w w' :=
  ⟨by have := h.1; simp at this; omega, fun k hk hl => (h.2 k hk (by simp; omega)).trans (Below.heap_alloc w o k hl), h.os, h.tape, h.output⟩
theorem Moves.of_below {blk : Nat} {w w' : World} (h : Below w.heap.size w w') : Moves blk w w' := ⟨h.size, fun k _ hl => h.block k hl, h.os, h.tape, h.output⟩
theorem Moves.below {blk B : Nat} {w w' : World} (h : Moves blk w w') (h1 : B ≤ blk) (h2 : B ≤ w.heap.size) : Below B w w' := ⟨h.os, h.tape, h.output, h.size, fun k hk => h.block k (by omega) (by omega)⟩

/-- The row, its less and its swap: what each answers, and that the row stays one. -/
structure Srt {α : Type} [Inhabited α] (g : Nat) (lb : Array Value) (sf : Nat) (sb : Array Value) (n blk : Nat) (lt : α → α → Bool) (Row : Array α → World → Prop) : Prop where
  enters : ∀ args w, (callFunc g args).run Tryz.prog w = .ok (.enter g args) w
  size : ∀ d w, Row d w → d.size = n
  low : ∀ d w, Row d w → blk < w.heap.size
  grow : ∀ d w w', Row d w → Below w.heap.size w w' → Row d w'
  less : ∀ d w, Row d w → ∀ i j : Nat, i < n → j < n → Calls Tryz.prog g (#[.int .i64 i, .int .i64 j] ++ lb) w fun e w' => e = .returned (.bool (lt d[i]! d[j]!)) ∧ Below w.heap.size w w'
  swap : ∀ d w, Row d w → ∀ i j : Nat, i < n → j < n → ∃ w', (callFunc sf (#[.int .i64 i, .int .i64 j] ++ sb)).run Tryz.prog w = .ok (.value (.tuple #[])) w' ∧ Row (swp d i j) w' ∧ Moves blk w w'

theorem alloc_here (w : World) (o : Obj) : (w.alloc o).heap[w.heap.size]? = some o := by
  show (w.heap.push o)[w.heap.size]? = _
  simp
theorem box2' {w : World} {k : Nat} {a0 a1 : Value} {T : TypeId} {fr : Nat × Nat} (h : w.heap[k]? = some (.cells #[a0, a1] T fr)) :
    w.cell? ⟨k, 0, none⟩ = some a0 ∧ w.cell? ⟨k, 1, none⟩ = some a1 := by
  constructor <;> simp [World.cell?, h]

variable {α : Type} [Inhabited α] {g : Nat} {lb : Array Value} {sf : Nat} {sb : Array Value} {n blk : Nat} {lt : α → α → Bool} {Row : Array α → World → Prop}

theorem swpR_go (a b r i : Nat) (d : Array α) (h : i < r) : swpR a b (r - i) i d = swpR a b (r - (i + 1)) (i + 1) (swp d (a + i) (b + i)) := by
  obtain ⟨k, rfl⟩ : ∃ k, r = i + k + 1 := ⟨r - i - 1, by omega⟩
  rw [show i + k + 1 - i = k + 1 by omega, show i + k + 1 - (i + 1) = k by omega]
  rfl

set_option maxHeartbeats 2000000 in
set_option maxRecDepth 100000 in
theorem swapRange_walk (hs : Srt g lb sf sb n blk lt Row) (a b r : Nat) (d : Array α) (w : World) (hR : Row d w) (ha : a + r ≤ n) (hb : b + r ≤ n) (hn : n < 4611686018427387904) :
    Calls Tryz.prog 357 #[.agg #[.func (.func g) #[] lb, .func (.func sf) #[] sb], .int .i64 a, .int .i64 b, .int .i64 r] w fun e w' =>
      e = .returned (.tuple #[]) ∧ Row (swpR a b r 0 d) w' ∧ Moves blk w w' := by
  have hlow := hs.low d w hR
  have hR1 := hs.grow d w _ hR ((Below.refl w.heap.size w).alloc (Nat.le_refl _) (.cells #[.func (.func g) #[] lb, .func (.func sf) #[] sb] 273))
  have hbx : (w.alloc (.cells #[.func (.func g) #[] lb, .func (.func sf) #[] sb] 273)).heap[w.heap.size]? = some (.cells #[.func (.func g) #[] lb, .func (.func sf) #[] sb] 273) := alloc_here w _
  go_enter Tryz.func357, Tryz.ntmps357
  go_wp2
  go_loopw [8] (fun vi wr => ∃ (i : Nat) (di : Array α), vi = .int .i64 i ∧ i ≤ r ∧ Row di wr ∧ swpR a b (r - i) i di = swpR a b r 0 d ∧ Moves blk (w.alloc (.cells #[.func (.func g) #[] lb, .func (.func sf) #[] sb] 273)) wr) (fun vi _ => r - (intOf vi).toNat)
  case atStart => exact ⟨0, d, rfl, by omega, hR1, rfl, Moves.refl _ _⟩
  case round =>
    obtain ⟨i, di, rfl, hi, hRi, he, hM⟩ := hrel
    have hbi := (hM.2 w.heap.size (by omega) (by simp)).trans hbx
    obtain ⟨c0, c1⟩ := box2' hbi
    by_cases hlt : i < r
    · obtain ⟨w2, hrun, hR2, hM2⟩ := hs.swap di wr hRi (a + i) (b + i) (by omega) (by omega)
      rw [show ((a + i : Nat) : Int) = (a : Int) + i by omega, show ((b + i : Nat) : Int) = (b : Int) + i by omega] at hrun
      go_wp2
      go_roundw
      case rel =>
        refine ⟨i + 1, swp di (a + i) (b + i), by go_num, by omega, hR2, ?_, hM.trans hM2⟩
        rw [← he, swpR_go a b r i di hlt]
      case measure => simp [intOf]; omega
    · go_wp2
      go_end0
      have : i = r := by omega
      subst this
      refine ⟨rfl, ?_, hM.alloc⟩
      rw [← he, Nat.sub_self]
      exact hRi

theorem rotF_more (m : Nat) : ∀ (f g i j : Nat) (d : Array α), 0 < i → 0 < j → i + j ≤ f → i + j ≤ g → rotF m f i j d = rotF m g i j d
  | 0, _, _, _, _, _, _, _, _ => by omega
  | _ + 1, 0, _, _, _, _, _, _, _ => by omega
  | f + 1, g + 1, i, j, d, hi, hj, hf, hg => by
    unfold rotF
    split
    · rfl
    · split
      · exact rotF_more m f g _ _ _ (by omega) hj (by omega) (by omega)
      · exact rotF_more m f g _ _ _ hi (by omega) (by omega) (by omega)

end Go.Proofs.YtmjegeipnaalnaaGreatDoor

/- Rotations, walked. -/
namespace Go.Proofs.YtmjegeipnaalnaaGreatDoor
open Go.RowKit Go.Sort
variable {α : Type} [Inhabited α] {g : Nat} {lb : Array Value} {sf : Nat} {sb : Array Value} {n blk : Nat} {lt : α → α → Bool} {Row : Array α → World → Prop}

set_option maxHeartbeats 2000000 in
set_option maxRecDepth 100000 in
theorem rotate_walk (hs : Srt g lb sf sb n blk lt Row) (a m b f : Nat) (d : Array α) (w : World) (hR : Row d w) (ha : a < m) (hm : m < b) (hb : b ≤ n) (hf : b - a ≤ f) (hn : n < 4611686018427387904) :
    Calls Tryz.prog 339 #[.agg #[.func (.func g) #[] lb, .func (.func sf) #[] sb], .int .i64 a, .int .i64 m, .int .i64 b] w fun e w' =>
      e = .returned (.tuple #[]) ∧ Row (rotF m f (m - a) (b - m) d) w' ∧ Moves blk w w' := by
  have hlow := hs.low d w hR
  have hR1 := hs.grow d w _ hR ((Below.refl w.heap.size w).alloc (Nat.le_refl _) (.cells #[.func (.func g) #[] lb, .func (.func sf) #[] sb] 273))
  have hbx : (w.alloc (.cells #[.func (.func g) #[] lb, .func (.func sf) #[] sb] 273)).heap[w.heap.size]? = some (.cells #[.func (.func g) #[] lb, .func (.func sf) #[] sb] 273) := alloc_here w _
  go_enter Tryz.func339, Tryz.ntmps339
  go_wp2
  go_loopw [8, 9] (fun vi vj wr => ∃ (i j : Nat) (di : Array α), vi = .int .i64 i ∧ vj = .int .i64 j ∧ 0 < i ∧ 0 < j ∧ i ≤ m - a ∧ j ≤ b - m ∧ Row di wr ∧ rotF m (i + j) i j di = rotF m f (m - a) (b - m) d ∧ Moves blk (w.alloc (.cells #[.func (.func g) #[] lb, .func (.func sf) #[] sb] 273)) wr) (fun vi vj _ => (intOf vi).toNat + (intOf vj).toNat)
  case atStart => exact ⟨m - a, b - m, d, by go_num, by go_num, by omega, by omega, by omega, by omega, hR1, rotF_more m _ _ _ _ _ (by omega) (by omega) (by omega) (by omega), Moves.refl _ _⟩
  case round =>
    obtain ⟨i, j, di, rfl, rfl, hi0, hj0, hi, hj, hRi, he, hM⟩ := hrel
    have hbi := (hM.2 w.heap.size (by omega) (by simp)).trans hbx
    obtain ⟨c0, c1⟩ := box2' hbi
    have HE := Lib.hid he
    have HM := Lib.hid hM
    clear he hM hbi hbx hR hR1
    by_cases h1 : i = j
    · subst h1
      have hc := swapRange_walk hs (m - i) m i di wr hRi (by omega) (by omega) hn
      rw [show ((m - i : Nat) : Int) = (m : Int) - i by omega] at hc
      have HC := Lib.hid hc
      clear hc
      go_wp2_with (go_at_call 357; refine HC.out.mono ?_; rintro e w2 ⟨rfl, hR2, hM2⟩)
      go_end0
      refine ⟨rfl, ?_, (HM.out.trans hM2).alloc⟩
      rw [← HE.out, show i + i = (i + i - 1) + 1 by omega]
      unfold rotF
      rw [if_pos rfl]
      exact hR2
    · by_cases h2 : j < i
      · have hc := swapRange_walk hs (m - i) m j di wr hRi (by omega) (by omega) hn
        rw [show ((m - i : Nat) : Int) = (m : Int) - i by omega] at hc
        have HC := Lib.hid hc
        clear hc
        go_wp2_with (go_at_call 357; refine HC.out.mono ?_; rintro e w2 ⟨rfl, hR2, hM2⟩)
        go_roundw
        case rel =>
          refine ⟨i - j, j, _, by go_num, rfl, by omega, hj0, by omega, hj, hR2, ?_, HM.out.trans hM2⟩
          rw [← HE.out, show i + j = (i + j - 1) + 1 by omega]
          conv => rhs; unfold rotF
          rw [if_neg h1, if_pos h2]
          exact rotF_more m _ _ _ _ _ (by omega) hj0 (by omega) (by omega)
        case measure => simp [intOf]; omega
      · have hc := swapRange_walk hs (m - i) (m + j - i) i di wr hRi (by omega) (by omega) hn
        rw [show ((m - i : Nat) : Int) = (m : Int) - i by omega, show ((m + j - i : Nat) : Int) = (m : Int) + j - i by omega] at hc
        have HC := Lib.hid hc
        clear hc
        go_wp2_with (go_at_call 357; refine HC.out.mono ?_; rintro e w2 ⟨rfl, hR2, hM2⟩)
        go_roundw
        case rel =>
          refine ⟨i, j - i, _, rfl, by go_num, hi0, by omega, hi, by omega, hR2, ?_, HM.out.trans hM2⟩
          rw [← HE.out, show i + j = (i + j - 1) + 1 by omega]
          conv => rhs; unfold rotF
          rw [if_neg h1, if_neg h2]
          exact rotF_more m _ _ _ _ _ hi0 (by omega) (by omega) (by omega)
        case measure => simp [intOf]; omega
end Go.Proofs.YtmjegeipnaalnaaGreatDoor

/- A merge whose first range has one element, walked. -/
namespace Go.Proofs.YtmjegeipnaalnaaGreatDoor
open Go.RowKit Go.Sort
variable {α : Type} [Inhabited α] {g : Nat} {lb : Array Value} {sf : Nat} {sb : Array Value} {n blk : Nat} {lt : α → α → Bool} {Row : Array α → World → Prop}

theorem upF_go (r k : Nat) (d : Array α) (h : k < r) : upF (r - k) k d = upF (r - (k + 1)) (k + 1) (swp d k (k + 1)) := by
  obtain ⟨q, rfl⟩ : ∃ q, r = k + q + 1 := ⟨r - k - 1, by omega⟩
  rw [show k + q + 1 - k = q + 1 by omega, show k + q + 1 - (k + 1) = q by omega]
  rfl

set_option maxHeartbeats 2000000 in
set_option maxRecDepth 100000 in
theorem merge_up (hs : Srt g lb sf sb n blk lt Row) (f a m b : Nat) (d : Array α) (w : World) (hR : Row d w) (ha : a < m) (hm : m < b) (hb : b ≤ n) (hn : n < 4611686018427387904) (h1 : m = a + 1) :
    Calls Tryz.prog 306 #[.agg #[.func (.func g) #[] lb, .func (.func sf) #[] sb], .int .i64 a, .int .i64 m, .int .i64 b] w fun e w' =>
      e = .returned (.tuple #[]) ∧ Row (symF lt (f + 1) a m b d) w' ∧ Moves blk w w' := by
  have hlow := hs.low d w hR
  have eg := hs.enters
  have hR1 := hs.grow d w _ hR ((Below.refl w.heap.size w).alloc (Nat.le_refl _) (.cells #[.func (.func g) #[] lb, .func (.func sf) #[] sb] 273))
  have hbx : (w.alloc (.cells #[.func (.func g) #[] lb, .func (.func sf) #[] sb] 273)).heap[w.heap.size]? = some (.cells #[.func (.func g) #[] lb, .func (.func sf) #[] sb] 273) := alloc_here w _
  have e1 : ((m : Int) - a == 1) = true := by simp; omega
  have H1 := Lib.hid h1
  clear h1
  go_enter Tryz.func306, Tryz.ntmps306
  go_wp2
  go_loopw [8, 9] (fun vi vj wr => ∃ (i j : Nat), vi = .int .i64 i ∧ vj = .int .i64 j ∧ m ≤ i ∧ i ≤ j ∧ j ≤ b ∧ Row d wr ∧ halfF (fun h => lt d[h]! d[a]!) b i j = halfF (fun h => lt d[h]! d[a]!) b m b ∧ Moves blk (w.alloc (.cells #[.func (.func g) #[] lb, .func (.func sf) #[] sb] 273)) wr) (fun vi vj _ => (intOf vj).toNat - (intOf vi).toNat)
  case atStart => exact ⟨m, b, rfl, rfl, by omega, by omega, by omega, hR1, rfl, Moves.refl _ _⟩
  case round =>
    obtain ⟨i, j, rfl, rfl, hmi, hij, hjb, hRi, hF, hM⟩ := hrel
    obtain ⟨c0, c1⟩ := box2' ((hM.2 w.heap.size (by omega) (by simp)).trans hbx)
    have HF := Lib.hid hF
    have HM := Lib.hid hM
    clear hF hM hR1 hbx
    by_cases hlt : i < j
    · have hl := hs.less d _ hRi ((i + j) / 2) a (by omega) (by omega)
      rw [show (((i + j) / 2 : Nat) : Int) = ((i : Int) + j) / 2 by omega] at hl
      have HL := Lib.hid hl
      clear hl
      cases hlv : lt d[(i + j) / 2]! d[a]! with
      | true =>
        rw [hlv] at HL
        go_wp2_with (with_reducible (refine HL.out.mono ?_); rintro e w2 ⟨rfl, hb2⟩)
        go_roundw
        case rel =>
          refine ⟨(i + j) / 2 + 1, j, by go_num, rfl, by omega, by omega, hjb, hs.grow d _ _ hRi hb2, ?_, HM.out.trans (Moves.of_below hb2)⟩
          rw [← HF.out, halfF_fuel _ b (b + 1) i j (by omega) (by omega), halfF_go _ b i j hlt, hlv, if_pos rfl]
        case measure => simp [intOf]; omega
      | false =>
        rw [hlv] at HL
        go_wp2_with (with_reducible (refine HL.out.mono ?_); rintro e w2 ⟨rfl, hb2⟩)
        go_roundw
        case rel =>
          refine ⟨i, (i + j) / 2, rfl, by go_num, by omega, by omega, by omega, hs.grow d _ _ hRi hb2, ?_, HM.out.trans (Moves.of_below hb2)⟩
          rw [← HF.out, halfF_fuel _ b (b + 1) i j (by omega) (by omega), halfF_go _ b i j hlt, hlv, if_neg (by decide)]
        case measure => simp [intOf]; omega
    · have hij' : i = j := by omega
      subst hij'
      have hfin : halfF (fun h => lt d[h]! d[a]!) b m b = i := by
        have := halfF_in (fun h => lt d[h]! d[a]!) b i i (Nat.le_refl _)
        rw [← HF.out]; omega
      have HFIN := Lib.hid hfin
      clear hfin
      go_wp2
      go_loopw [11] (fun vk wq => ∃ (k : Nat) (dk : Array α), vk = .int .i64 k ∧ a ≤ k ∧ k ≤ i - 1 ∧ Row dk wq ∧ upF (i - 1 - k) k dk = upF (i - 1 - a) a d ∧ Moves blk (w.alloc (.cells #[.func (.func g) #[] lb, .func (.func sf) #[] sb] 273)) wq) (fun vk _ => i - (intOf vk).toNat)
      case atStart => exact ⟨a, d, rfl, by omega, by omega, hRi, rfl, HM.out⟩
      case round =>
        obtain ⟨k, dk, rfl, hak, hki, hRk, hU, hMk⟩ := hrel
        obtain ⟨c0, c1⟩ := box2' ((hMk.2 w.heap.size (by omega) (by simp)).trans (alloc_here w _))
        have HU := Lib.hid hU
        have HMk := Lib.hid hMk
        clear hU hMk
        by_cases hlt2 : k < i - 1
        · obtain ⟨w3, hrun, hR3, hM3⟩ := hs.swap dk _ hRk k (k + 1) (by omega) (by omega)
          rw [show (((k + 1 : Nat) : Int)) = (k : Int) + 1 by omega] at hrun
          go_wp2
          go_roundw
          case rel =>
            refine ⟨k + 1, _, by go_num, by omega, by omega, hR3, ?_, HMk.out.trans hM3⟩
            rw [← HU.out, upF_go _ _ _ hlt2]
          case measure => simp [intOf]; omega
        · have hk : k = i - 1 := by omega
          go_wp2
          (try simp only [Exit.inBlock, Exit.then])
          refine bodyPost_ret (results_none rfl _ _ _) rfl ?_
          refine ⟨rfl, ?_, HMk.out.alloc⟩
          have h1 := H1.out
          unfold symF
          rw [if_pos (by omega), HFIN.out, ← HU.out, hk, Nat.sub_self]
          exact hRk
end Go.Proofs.YtmjegeipnaalnaaGreatDoor

/- A merge whose second range has one element, walked. -/
namespace Go.Proofs.YtmjegeipnaalnaaGreatDoor
open Go.RowKit Go.Sort
variable {α : Type} [Inhabited α] {g : Nat} {lb : Array Value} {sf : Nat} {sb : Array Value} {n blk : Nat} {lt : α → α → Bool} {Row : Array α → World → Prop}

theorem downF_go (r k : Nat) (d : Array α) (h : r < k) : downF (k - r) k d = downF (k - 1 - r) (k - 1) (swp d k (k - 1)) := by
  obtain ⟨q, rfl⟩ : ∃ q, k = r + q + 1 := ⟨k - r - 1, by omega⟩
  rw [show r + q + 1 - r = q + 1 by omega, show r + q + 1 - 1 - r = q by omega]
  rfl

set_option maxHeartbeats 2000000 in
set_option maxRecDepth 100000 in
theorem merge_down (hs : Srt g lb sf sb n blk lt Row) (f a m b : Nat) (d : Array α) (w : World) (hR : Row d w) (ha : a < m) (hm : m < b) (hb : b ≤ n) (hn : n < 4611686018427387904) (h0 : m ≠ a + 1) (h1 : b = m + 1) :
    Calls Tryz.prog 306 #[.agg #[.func (.func g) #[] lb, .func (.func sf) #[] sb], .int .i64 a, .int .i64 m, .int .i64 b] w fun e w' =>
      e = .returned (.tuple #[]) ∧ Row (symF lt (f + 1) a m b d) w' ∧ Moves blk w w' := by
  have hlow := hs.low d w hR
  have eg := hs.enters
  have hR1 := hs.grow d w _ hR ((Below.refl w.heap.size w).alloc (Nat.le_refl _) (.cells #[.func (.func g) #[] lb, .func (.func sf) #[] sb] 273))
  have hbx : (w.alloc (.cells #[.func (.func g) #[] lb, .func (.func sf) #[] sb] 273)).heap[w.heap.size]? = some (.cells #[.func (.func g) #[] lb, .func (.func sf) #[] sb] 273) := alloc_here w _
  have e0 : ((m : Int) - a == 1) = false := by simp; omega
  have e1 : ((b : Int) - m == 1) = true := by simp; omega
  have H0 := Lib.hid h0
  clear h0
  have H1 := Lib.hid h1
  clear h1
  go_enter Tryz.func306, Tryz.ntmps306
  go_wp2
  go_loopw [12, 13] (fun vi vj wr => ∃ (i j : Nat), vi = .int .i64 i ∧ vj = .int .i64 j ∧ a ≤ i ∧ i ≤ j ∧ j ≤ m ∧ Row d wr ∧ halfF (fun h => !lt d[m]! d[h]!) b i j = halfF (fun h => !lt d[m]! d[h]!) b a m ∧ Moves blk (w.alloc (.cells #[.func (.func g) #[] lb, .func (.func sf) #[] sb] 273)) wr) (fun vi vj _ => (intOf vj).toNat - (intOf vi).toNat)
  case atStart => exact ⟨a, m, rfl, rfl, by omega, by omega, by omega, hR1, rfl, Moves.refl _ _⟩
  case round =>
    obtain ⟨i, j, rfl, rfl, hmi, hij, hjb, hRi, hF, hM⟩ := hrel
    obtain ⟨c0, c1⟩ := box2' ((hM.2 w.heap.size (by omega) (by simp)).trans hbx)
    have HF := Lib.hid hF
    have HM := Lib.hid hM
    clear hF hM hR1 hbx
    by_cases hlt : i < j
    · have hl := hs.less d _ hRi m ((i + j) / 2) (by omega) (by omega)
      rw [show (((i + j) / 2 : Nat) : Int) = ((i : Int) + j) / 2 by omega] at hl
      have HL := Lib.hid hl
      clear hl
      cases hlv : lt d[m]! d[(i + j) / 2]! with
      | false =>
        rw [hlv] at HL
        go_wp2_with (with_reducible (refine HL.out.mono ?_); rintro e w2 ⟨rfl, hb2⟩)
        go_roundw
        case rel =>
          refine ⟨(i + j) / 2 + 1, j, by go_num, rfl, by omega, by omega, hjb, hs.grow d _ _ hRi hb2, ?_, HM.out.trans (Moves.of_below hb2)⟩
          rw [← HF.out, halfF_fuel _ b (b + 1) i j (by omega) (by omega), halfF_go _ b i j hlt, hlv]; rfl
        case measure => simp [intOf]; omega
      | true =>
        rw [hlv] at HL
        go_wp2_with (with_reducible (refine HL.out.mono ?_); rintro e w2 ⟨rfl, hb2⟩)
        go_roundw
        case rel =>
          refine ⟨i, (i + j) / 2, rfl, by go_num, by omega, by omega, by omega, hs.grow d _ _ hRi hb2, ?_, HM.out.trans (Moves.of_below hb2)⟩
          rw [← HF.out, halfF_fuel _ b (b + 1) i j (by omega) (by omega), halfF_go _ b i j hlt, hlv]; rfl
        case measure => simp [intOf]; omega
    · have hij' : i = j := by omega
      subst hij'
      have hfin : halfF (fun h => !lt d[m]! d[h]!) b a m = i := by
        have := halfF_in (fun h => !lt d[m]! d[h]!) b i i (Nat.le_refl _)
        rw [← HF.out]; omega
      have HFIN := Lib.hid hfin
      clear hfin
      go_wp2
      go_loopw [15] (fun vk wq => ∃ (k : Nat) (dk : Array α), vk = .int .i64 k ∧ i ≤ k ∧ k ≤ m ∧ Row dk wq ∧ downF (k - i) k dk = downF (m - i) m d ∧ Moves blk (w.alloc (.cells #[.func (.func g) #[] lb, .func (.func sf) #[] sb] 273)) wq) (fun vk _ => (intOf vk).toNat)
      case atStart => exact ⟨m, d, rfl, by omega, by omega, hRi, rfl, HM.out⟩
      case round =>
        obtain ⟨k, dk, rfl, hak, hki, hRk, hU, hMk⟩ := hrel
        obtain ⟨c0, c1⟩ := box2' ((hMk.2 w.heap.size (by omega) (by simp)).trans (alloc_here w _))
        have HU := Lib.hid hU
        have HMk := Lib.hid hMk
        clear hU hMk
        by_cases hlt2 : i < k
        · obtain ⟨w3, hrun, hR3, hM3⟩ := hs.swap dk _ hRk k (k - 1) (by omega) (by omega)
          rw [show (((k - 1 : Nat) : Int)) = (k : Int) - 1 by omega] at hrun
          go_wp2
          go_roundw
          case rel =>
            refine ⟨k - 1, _, by go_num, by omega, by omega, hR3, ?_, HMk.out.trans hM3⟩
            rw [← HU.out, downF_go _ _ _ hlt2]
          case measure => simp [intOf]; omega
        · have hk : k = i := by omega
          go_wp2
          (try simp only [Exit.inBlock, Exit.then])
          refine bodyPost_ret (results_none rfl _ _ _) rfl ?_
          refine ⟨rfl, ?_, HMk.out.alloc⟩
          have h0 := H0.out
          have h1 := H1.out
          unfold symF
          rw [if_neg (by omega), if_pos (by omega), HFIN.out, ← HU.out, hk, Nat.sub_self]
          exact hRk
end Go.Proofs.YtmjegeipnaalnaaGreatDoor

/- The insertion sort, walked: its less may lay blocks. -/
namespace Go.Proofs.YtmjegeipnaalnaaGreatDoor
open Go.RowKit Go.Sort
variable {α : Type} [Inhabited α] {g : Nat} {lb : Array Value} {sf : Nat} {sb : Array Value} {n blk : Nat} {lt : α → α → Bool} {Row : Array α → World → Prop}

set_option maxHeartbeats 2000000 in
set_option maxRecDepth 100000 in
theorem insertion_walk (hs : Srt g lb sf sb n blk lt Row) (a b : Nat) (d : Array α) (w : World) (hR : Row d w) (hab : a ≤ b) (hb : b ≤ n) (hn : n < 4611686018427387904) :
    Calls Tryz.prog 305 #[.agg #[.func (.func g) #[] lb, .func (.func sf) #[] sb], .int .i64 a, .int .i64 b] w fun e w' =>
      e = .returned (.tuple #[]) ∧ Row (Sort.insertionSort lt d a b) w' ∧ Moves blk w w' := by
  have hlow := hs.low d w hR
  have eg := hs.enters
  have hR1 := hs.grow d w _ hR ((Below.refl w.heap.size w).alloc (Nat.le_refl _) (.cells #[.func (.func g) #[] lb, .func (.func sf) #[] sb] 273))
  have hbx : (w.alloc (.cells #[.func (.func g) #[] lb, .func (.func sf) #[] sb] 273)).heap[w.heap.size]? = some (.cells #[.func (.func g) #[] lb, .func (.func sf) #[] sb] 273) := alloc_here w _
  go_enter Tryz.func305, Tryz.ntmps305
  go_wp2
  go_loopw [6] (fun vi wr => ∃ (i : Nat) (di : Array α), vi = .int .i64 i ∧ a < i ∧ i ≤ b + 1 ∧ Row di wr ∧ insOuter lt a b i di = insOuter lt a b (a + 1) d ∧ Moves blk (w.alloc (.cells #[.func (.func g) #[] lb, .func (.func sf) #[] sb] 273)) wr) (fun vi _ => b + 1 - (intOf vi).toNat)
  case atStart => exact ⟨a + 1, d, by go_num, by omega, by omega, hR1, rfl, Moves.refl _ _⟩
  case round =>
    obtain ⟨i, di, rfl, hai, hib, hRi, hO, hM⟩ := hrel
    have HO := Lib.hid hO
    have HM := Lib.hid hM
    clear hO hM hR1
    by_cases hlt : i < b
    · go_wp2
      go_loopw [7] (fun vj wr2 => ∃ (j : Nat) (dj : Array α), vj = .int .i64 j ∧ a ≤ j ∧ j ≤ i ∧ Row dj wr2 ∧ insInner lt a j dj = insInner lt a i di ∧ Moves blk (w.alloc (.cells #[.func (.func g) #[] lb, .func (.func sf) #[] sb] 273)) wr2) (fun vj _ => (intOf vj).toNat)
      case atStart => exact ⟨i, di, rfl, by omega, Nat.le_refl _, hRi, rfl, HM.out⟩
      case round =>
        obtain ⟨j, dj, rfl, haj, hji, hRj, hI, hMj⟩ := hrel
        obtain ⟨c0, c1⟩ := box2' ((hMj.2 w.heap.size (by omega) (by simp)).trans hbx)
        have C1 := Lib.hid (fun w2 (h : Below _ _ w2) => (box2' (((hMj.trans (Moves.of_below h)).2 w.heap.size (by omega) (by simp)).trans hbx)).2)
        have HI := Lib.hid hI
        have HMj := Lib.hid hMj
        clear hI hMj hbx
        have out : (j ≤ a ∨ lt dj[j]! dj[j - 1]! = false) → ∀ w', Row dj w' → Moves blk (w.alloc (.cells #[.func (.func g) #[] lb, .func (.func sf) #[] sb] 273)) w' →
            ∃ (i' : Nat) (d' : Array α), Value.int .i64 ((i : Int) + 1) = .int .i64 (i' : Nat) ∧ a < i' ∧ i' ≤ b + 1 ∧ Row d' w' ∧ insOuter lt a b i' d' = insOuter lt a b (a + 1) d ∧ Moves blk (w.alloc (.cells #[.func (.func g) #[] lb, .func (.func sf) #[] sb] 273)) w' := fun hst w' h1 h2 =>
          ⟨i + 1, dj, by go_num, by omega, by omega, h1, by rw [← HO.out, insOuter_go _ _ _ _ _ hlt, ← HI.out, insInner_stop _ _ _ _ hst], h2⟩
        have OUT := Lib.hid out
        clear out
        by_cases hja : a < j
        · have hl := hs.less dj _ hRj j (j - 1) (by omega) (by omega)
          rw [show (((j - 1 : Nat) : Int)) = (j : Int) - 1 by omega] at hl
          have HL := Lib.hid hl
          clear hl
          cases hlv : lt dj[j]! dj[j - 1]! with
          | true =>
            rw [hlv] at HL
            go_wp2_with (with_reducible (refine HL.out.mono ?_); rintro e w2 ⟨rfl, hb2⟩; have c1' := C1.out w2 hb2; obtain ⟨w3, hrun, hR3, hM3⟩ := hs.swap dj w2 (hs.grow dj _ w2 hRj hb2) j (j - 1) (by omega) (by omega); rw [show (((j - 1 : Nat) : Int)) = (j : Int) - 1 by omega] at hrun)
            go_roundw
            case rel =>
              refine ⟨j - 1, swp dj j (j - 1), by go_num, by omega, by omega, hR3, ?_, HMj.out.trans ((Moves.of_below hb2).trans hM3)⟩
              rw [← HI.out, insInner_go lt a j dj hja hlv]
            case measure => simp [intOf]; omega
          | false =>
            rw [hlv] at HL
            go_wp2_with (with_reducible (refine HL.out.mono ?_); rintro e w2 ⟨rfl, hb2⟩)
            go_roundw
            case rel => exact OUT.out (Or.inr hlv) _ (hs.grow dj _ _ hRj hb2) (HMj.out.trans (Moves.of_below hb2))
            case measure => simp [intOf]; omega
        · go_wp2
          go_roundw
          case rel => exact OUT.out (Or.inl (by omega)) _ hRj HMj.out
          case measure => simp [intOf]; omega
    · have hge : ¬ i < b := hlt
      go_wp2
      go_end0
      exact ⟨rfl, by unfold Sort.insertionSort; rw [← HO.out, insOuter_stop _ _ _ _ _ hge]; exact hRi, HM.out.alloc⟩
end Go.Proofs.YtmjegeipnaalnaaGreatDoor

/- What every swap keeps, the stable sort keeps. -/
namespace Go.Proofs.YtmjegeipnaalnaaGreatDoor
open Go.Sort
variable {α : Type} [Inhabited α] {Q : Array α → Prop} (lt : α → α → Bool)

theorem swpR_Q (hQ : ∀ d i j, Q d → Q (swp d i j)) (a b : Nat) : ∀ (r i : Nat) (d : Array α), Q d → Q (swpR a b r i d)
  | 0, _, _, h => h
  | r + 1, i, d, h => by unfold swpR; exact swpR_Q hQ a b r _ _ (hQ _ _ _ h)
theorem rotF_Q (hQ : ∀ d i j, Q d → Q (swp d i j)) (m : Nat) : ∀ (f i j : Nat) (d : Array α), Q d → Q (rotF m f i j d)
  | 0, _, _, _, h => h
  | f + 1, i, j, d, h => by
    unfold rotF
    split
    · exact swpR_Q hQ _ _ _ _ _ h
    · split
      · exact rotF_Q hQ m f _ _ _ (swpR_Q hQ _ _ _ _ _ h)
      · exact rotF_Q hQ m f _ _ _ (swpR_Q hQ _ _ _ _ _ h)
theorem upF_Q (hQ : ∀ d i j, Q d → Q (swp d i j)) : ∀ (r k : Nat) (d : Array α), Q d → Q (upF r k d)
  | 0, _, _, h => h
  | r + 1, k, d, h => by unfold upF; exact upF_Q hQ r _ _ (hQ _ _ _ h)
theorem downF_Q (hQ : ∀ d i j, Q d → Q (swp d i j)) : ∀ (r k : Nat) (d : Array α), Q d → Q (downF r k d)
  | 0, _, _, h => h
  | r + 1, k, d, h => by unfold downF; exact downF_Q hQ r _ _ (hQ _ _ _ h)
theorem symF_Q (hQ : ∀ d i j, Q d → Q (swp d i j)) : ∀ (f a m b : Nat) (d : Array α), Q d → Q (symF lt f a m b d)
  | 0, _, _, _, _, h => h
  | f + 1, a, m, b, d, h => by
    unfold symF
    split
    · exact upF_Q hQ _ _ _ h
    · split
      · exact downF_Q hQ _ _ _ h
      · dsimp only
        have h1 : Q (if cutAt lt a m b d < m ∧ m < (a + b) / 2 + m - cutAt lt a m b d then rotF m b (m - cutAt lt a m b d) ((a + b) / 2 + m - cutAt lt a m b d - m) d else d) := by
          split
          · exact rotF_Q hQ _ _ _ _ _ h
          · exact h
        generalize (if cutAt lt a m b d < m ∧ m < (a + b) / 2 + m - cutAt lt a m b d then rotF m b (m - cutAt lt a m b d) ((a + b) / 2 + m - cutAt lt a m b d - m) d else d) = d1 at *
        have h2 : Q (if a < cutAt lt a m b d ∧ cutAt lt a m b d < (a + b) / 2 then symF lt f a (cutAt lt a m b d) ((a + b) / 2) d1 else d1) := by
          split
          · exact symF_Q hQ f _ _ _ _ h1
          · exact h1
        generalize (if a < cutAt lt a m b d ∧ cutAt lt a m b d < (a + b) / 2 then symF lt f a (cutAt lt a m b d) ((a + b) / 2) d1 else d1) = d2 at *
        split
        · exact symF_Q hQ f _ _ _ _ h2
        · exact h2
theorem insInner_Q (hQ : ∀ d i j, Q d → Q (swp d i j)) (a : Nat) : ∀ (j : Nat) (d : Array α), Q d → Q (insInner lt a j d) := by
  intro j
  induction j with
  | zero => intro d h; rw [insInner_stop lt a 0 d (.inl (Nat.zero_le _))]; exact h
  | succ j ih =>
    intro d h
    by_cases h1 : a < j + 1
    · cases h2 : lt d[j + 1]! d[j + 1 - 1]! with
      | true => rw [insInner_go lt a (j + 1) d h1 h2]; exact ih _ (hQ _ _ _ h)
      | false => rw [insInner_stop lt a (j + 1) d (.inr h2)]; exact h
    · rw [insInner_stop lt a (j + 1) d (.inl (by omega))]; exact h
theorem insOuter_Q (hQ : ∀ d i j, Q d → Q (swp d i j)) (a b : Nat) : ∀ (r i : Nat) (d : Array α), b ≤ i + r → Q d → Q (insOuter lt a b i d)
  | 0, i, d, hr, h => by rw [insOuter_stop lt a b i d (by omega)]; exact h
  | r + 1, i, d, hr, h => by
    by_cases h1 : i < b
    · rw [insOuter_go lt a b i d h1]
      exact insOuter_Q hQ a b r (i + 1) _ (by omega) (insInner_Q lt hQ a i d h)
    · rw [insOuter_stop lt a b i d h1]; exact h
theorem ins_Q (hQ : ∀ d i j, Q d → Q (swp d i j)) (a b : Nat) (d : Array α) (h : Q d) : Q (Sort.insertionSort lt d a b) := by
  unfold Sort.insertionSort
  exact insOuter_Q lt hQ a b b _ d (by omega) h
theorem blkF_Q (hQ : ∀ d i j, Q d → Q (swp d i j)) (n : Nat) : ∀ (f a : Nat) (d : Array α), Q d → Q (blkF lt n f a d)
  | 0, _, _, h => ins_Q lt hQ _ _ _ h
  | f + 1, a, d, h => by
    unfold blkF
    split
    · exact blkF_Q hQ n f _ _ (ins_Q lt hQ _ _ _ h)
    · exact ins_Q lt hQ _ _ _ h
theorem rowF_Q (hQ : ∀ d i j, Q d → Q (swp d i j)) (n s : Nat) : ∀ (f a : Nat) (d : Array α), Q d → Q (rowF lt n s f a d)
  | 0, _, _, h => h
  | f + 1, a, d, h => by
    unfold rowF
    split
    · exact rowF_Q hQ n s f _ _ (symF_Q lt hQ _ _ _ _ _ h)
    · split
      · exact symF_Q lt hQ _ _ _ _ _ h
      · exact h
theorem allF_Q (hQ : ∀ d i j, Q d → Q (swp d i j)) (n : Nat) : ∀ (f s : Nat) (d : Array α), Q d → Q (allF lt n f s d)
  | 0, _, _, h => h
  | f + 1, s, d, h => by
    unfold allF
    split
    · exact allF_Q hQ n f _ _ (rowF_Q lt hQ _ _ _ _ _ h)
    · exact h
theorem stableF_Q (hQ : ∀ d i j, Q d → Q (swp d i j)) (d : Array α) (h : Q d) : Q (stableF lt d) := by
  unfold stableF
  exact allF_Q lt hQ _ _ _ _ (blkF_Q lt hQ _ _ _ _ h)

/-- Places stay places. -/
theorem places_Q (n : Nat) (lt : Nat → Nat → Bool) (d : Array Nat) (hs : d.size = n) (h : ∀ x ∈ d.toList, x < n) : (stableF lt d).size = n ∧ ∀ x ∈ (stableF lt d).toList, x < n := by
  refine stableF_Q (Q := fun d => d.size = n ∧ ∀ x ∈ d.toList, x < n) lt (fun d i j hd => ⟨by rw [size_swp']; exact hd.1, fun x hx => ?_⟩) d ⟨hs, h⟩
  have hget : ∀ q, q < d.size → d[q]! < n := fun q hq => hd.2 _ (by rw [getElem!_pos d q hq]; exact Array.getElem_mem_toList hq)
  have hdef : 0 < n → ∀ q, d[q]! < n := fun h0 q => by
    by_cases hq : q < d.size
    · exact hget q hq
    · rw [getElem!_neg d q hq]; exact h0
  have hset : ∀ (e : Array Nat) (q a : Nat), x ∈ (e.setIfInBounds q a).toList → x ∈ e.toList ∨ (x = a ∧ q < e.size) := fun e q a hm => by
    rw [Array.toList_setIfInBounds] at hm
    by_cases hq : q < e.size
    · rcases List.mem_or_eq_of_mem_set hm with h1 | h1
      · exact .inl h1
      · exact .inr ⟨h1, hq⟩
    · rw [List.set_eq_of_length_le (by simpa using hq)] at hm
      exact .inl hm
  unfold swp at hx
  rcases hset _ _ _ hx with h1 | ⟨h1, h2⟩
  · rcases hset _ _ _ h1 with h3 | ⟨h3, h4⟩
    · exact hd.2 x h3
    · rw [h3]; exact hdef (by have := hd.1; omega) j
  · rw [h1]
    exact hdef (by have := hd.1; simp at h2; omega) i
end Go.Proofs.YtmjegeipnaalnaaGreatDoor
