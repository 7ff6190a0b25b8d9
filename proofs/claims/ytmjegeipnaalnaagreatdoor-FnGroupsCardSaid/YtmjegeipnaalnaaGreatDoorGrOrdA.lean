/- The package's order of two right values is that of their trees. What the package's sort of items pays to the library's stable sort: its less, its swap, its row. -/
import Derived.Test.YtmjegeipnaalnaaGreatDoorGrOrdM
import Derived.Test.YtmjegeipnaalnaaGreatDoorGrSortM3
import Derived.Shelf.GgSortFunc.Small
import Derived.Sort.LotA

/- The package's order of two right values is that of their trees. -/
namespace Go.Proofs.YtmjegeipnaalnaaGreatDoor
open Go.RowKit

theorem ord_all : ∀ y, OrdC y := by
  refine JV.ind fun k h t l ks vs ihl ihv => ?_
  intro x lv rv w hx hy gx gy sx sy
  obtain ⟨y1, y2, y3, y4, y5, y6, y7, y8, y9, y10, y11⟩ := gy.head
  have sy2 := sy
  unfold Short at sy2
  exact ord_of k h t l ks vs (fun _ => fun l2 b b' n n' cs cs' T T' w gl sl h1 h2 h3 h4 h5 h6 h7 h8 h9 h10 =>
    ord_list l2 l ihl gl y10 sl sy2.2.2.1 b b' n n' cs cs' T T' w h1 h2 h3 h4 h5 h6 h7 h8 h9 h10)
    (fun _ => ord_map ks vs ihv y11 sy2.2.2.2 sy2.2.1 y4 y9) x lv rv w hx hy gx gy sx sy
end Go.Proofs.YtmjegeipnaalnaaGreatDoor

/- What the package's sort of items pays to the library's stable sort: its less, its swap, its row. -/
namespace Go.Proofs.YtmjegeipnaalnaaGreatDoor
open Go.RowKit Go.Sort

/-- An item, by its place, as it lies in the row. -/
def itemV (pb : Nat → Nat) (i : Nat) : Value := .pointer (some ⟨pb i, 0, none⟩)
/-- Which of two items comes first, by their keys. -/
def itemLt (kt : Nat → JV) (i j : Nat) : Bool := decide (ordT (kt i) (kt j) < 0)

/-- The row holds the items in this order; the items, and the variable that holds the row, lie as they lay. -/
structure RowI (n blk bx : Nat) (pb : Nat → Nat) (vv kv : Nat → Value) (kt : Nat → JV) (d : Array Nat) (w : World) : Prop where
  size : d.size = n
  lt : ∀ j, j < n → d[j]! < n
  holds : Holds (itemV pb) w blk 0 d
  low : blk < w.heap.size
  bxlow : bx < w.heap.size
  bxne : bx ≠ blk
  box : w.cell? ⟨bx, 0, none⟩ = some (.slice (some ⟨blk, 0, none⟩) n n)
  ne : ∀ i, i < n → pb i ≠ blk
  item : ∀ i, i < n → w.heap[pb i]? = some (.cells #[vv i, kv i] 146 (0, 0))
  key : ∀ i, i < n → GRep w 0 blk (kt i) (kv i)

theorem heap_lt {w : World} {k : Nat} {o : Obj} (h : w.heap[k]? = some o) : k < w.heap.size := (Array.getElem?_eq_some_iff.1 h).1

variable {n blk bx : Nat} {pb : Nat → Nat} {vv kv : Nat → Value} {kt : Nat → JV}

theorem RowI.grow {d : Array Nat} {w w' : World} (h : RowI n blk bx pb vv kv kt d w) (hb : Below w.heap.size w w') : RowI n blk bx pb vv kv kt d w' := {
    size := h.size
    lt := h.lt
    holds := fun j hj => ⟨(hb.cell (p := ⟨blk, 0 + j, none⟩) h.low).trans (h.holds j hj).1, (hb.frozen (p := ⟨blk, 0 + j, none⟩) h.low).trans (h.holds j hj).2⟩
    low := Nat.lt_of_lt_of_le h.low hb.size
    bxlow := Nat.lt_of_lt_of_le h.bxlow hb.size
    bxne := h.bxne
    box := (hb.cell (p := ⟨bx, 0, none⟩) h.bxlow).trans h.box
    ne := h.ne
    item := fun i hi => (hb.block _ (heap_lt (h.item i hi))).trans (h.item i hi)
    key := fun i hi => GRep.mono (fun k _ hk => hb.block k (Nat.lt_trans hk h.low)) (Nat.le_refl _) (Nat.le_refl _) _ _ (h.key i hi) }

theorem swp_below {d : Array Nat} {i j n : Nat} (hs : d.size = n) (h : ∀ k, k < n → d[k]! < n) (hi : i < n) (hj : j < n) : ∀ k, k < n → (swp d i j)[k]! < n := by
  intro k hk
  by_cases h1 : k = j
  · subst h1
    rw [swp_right d i k (by omega)]
    exact h i hi
  · by_cases h2 : k = i
    · subst h2
      rw [swp_left d k j (by omega) h1]
      exact h j hj
    · rw [swp_other d i j k h2 h1]
      exact h k hk

theorem putRow_block {α : Type} [Inhabited α] (enc : α → Value) (w : World) (b off : Nat) (d : Array α) (k : Nat) (h : k ≠ b) : (putRow enc w b off d).heap[k]? = w.heap[k]? := by
  show (w.heap.modify b _)[k]? = _
  rw [Array.getElem?_modify, if_neg (fun e => h e.symm)]

theorem RowI.swap {d : Array Nat} {w : World} (h : RowI n blk bx pb vv kv kt d w) {i j : Nat} (hi : i < n) (hj : j < n) :
    RowI n blk bx pb vv kv kt (swp d i j) (putRow (itemV pb) w blk 0 (swp d i j)) ∧ Moves blk w (putRow (itemV pb) w blk 0 (swp d i j)) := by
  have hk := fun k (hk : k ≠ blk) => putRow_block (itemV pb) w blk 0 (swp d i j) k hk
  refine ⟨⟨?_, ?_, ?_, ?_, ?_, h.bxne, ?_, h.ne, ?_, ?_⟩, ?_, ?_, rfl, rfl, rfl⟩
  · rw [size_swp']; exact h.size
  · exact swp_below h.size h.lt hi hj
  · exact holds_putRow _ _ _ _ d _ h.holds (size_swp' _ _ _)
  · rw [size_putRow]; exact h.low
  · rw [size_putRow]; exact h.bxlow
  · have := h.box
    simp only [World.cell?, hk bx h.bxne] at this ⊢
    exact this
  · intro i hi
    rw [hk _ (h.ne i hi)]
    exact h.item i hi
  · exact fun i hi => GRep.mono (fun k _ hlt => hk k (by omega)) (Nat.le_refl _) (Nat.le_refl _) _ _ (h.key i hi)
  · rw [size_putRow]; exact Nat.le_refl _
  · exact fun k h1 _ => hk k h1

set_option maxRecDepth 100000 in
set_option maxHeartbeats 4000000 in
/-- The closure that the package hands to the library: whether one item's key comes before another one's. -/
theorem less_walk {d : Array Nat} {w : World} (h : RowI n blk bx pb vv kv kt d w) (hg : ∀ i, i < n → Good (kt i) ∧ Short (kt i)) (_hn : n < 1000000000) (i j : Nat) (hi : i < n) (hj : j < n) :
    Calls Tryz.prog 204 #[.int .i64 i, .int .i64 j, .pointer (some ⟨bx, 0, none⟩)] w fun e w' => e = .returned (.bool (itemLt kt d[i]! d[j]!)) ∧ Below w.heap.size w w' := by
  have c1 := (h.holds i (by rw [h.size]; exact hi)).1
  have c2 := (h.holds j (by rw [h.size]; exact hj)).1
  rw [Nat.zero_add] at c1 c2
  have hx := h.lt i hi
  have hy := h.lt j hj
  obtain ⟨_, k1⟩ := box2' (h.item _ hx)
  obtain ⟨_, k2⟩ := box2' (h.item _ hy)
  have g1 := h.key _ hx
  have g2 := h.key _ hy
  have a1 := hg _ hx
  have a2 := hg _ hy
  have hlow := h.low
  have r0 := cell_regrown h.box
  have r1 := cell_regrown c1
  have r2 := cell_regrown c2
  have r3 := cell_regrown k1
  have r4 := cell_regrown k2
  have ci := fun dd os => ord_all (kt d[j]!) (kt d[i]!) (kv d[i]!) (kv d[j]!) (Sort.grow (redrawn w dd) os) (GRep.mono (fun k _ hk => (below_regrown w dd os).block k (by omega)) (Nat.le_refl _) (by have := (below_regrown w dd os).size; omega) _ _ g1)
    (GRep.mono (fun k _ hk => (below_regrown w dd os).block k (by omega)) (Nat.le_refl _) (by have := (below_regrown w dd os).size; omega) _ _ g2) a1.1 a2.1 a1.2 a2.2
  unfold itemLt
  unfold itemV at r1 r2
  generalize ordT (kt d[i]!) (kt d[j]!) = q at *
  generalize kv d[i]! = v1 at *
  generalize kv d[j]! = v2 at *
  generalize pb d[i]! = p1 at *
  generalize pb d[j]! = p2 at *
  have CI := Lib.hid ci
  clear ci h hg c1 c2 k1 k2 g1 g2 a1 a2 hx hy
  go_enter Tryz.func204, Tryz.ntmps204
  go_upto_region 1 with (fail)
  refine wp_region_quiet_below (by kernel_rfl) (by kernel_rfl) ?_
  repeat (go_big_quiet_step (first | (go_at_call 143; exact Calls.regrown_of (CI.out _ _))))
  refine wpQuiet_nil ?_
  intro w' hw'
  obtain ⟨⟨dq, osq⟩, rfl⟩ := hw'
  have hb4 := below_regrown w dq osq
  clear r0 r1 r2 r3 r4
  go_wp2_with fail
  go_ret
  exact ⟨rfl, hb4⟩
theorem enters204 : ∀ args w, (callFunc 204 args).run Tryz.prog w = .ok (.enter 204 args) w := fun args w => Go.Proofs.enters_of Tryz.func204 (by kernel_rfl) rfl args w

theorem srt_items (sf : Nat) (sb : Array Value) (hg : ∀ i, i < n → Good (kt i) ∧ Short (kt i)) (hn : n < 1000000000) (hsw : SwapSwaps Tryz.prog sf sb (itemV pb) blk 0 n) :
    Srt 204 #[.pointer (some ⟨bx, 0, none⟩)] sf sb n blk (itemLt kt) (RowI n blk bx pb vv kv kt) := {
    enters := enters204
    size := fun _ _ h => h.size
    low := fun _ _ h => h.low
    grow := fun _ _ _ h hb => h.grow hb
    less := fun _ _ h i j hi hj => less_walk h hg hn i j hi hj
    swap := fun d w h i j hi hj => by
      have e := hsw w d h.holds h.size i j hi hj
      have e2 := putRow_swp (itemV pb) w blk 0 d i j (by rw [h.size]; exact hi) (by rw [h.size]; exact hj)
      rw [putRow_self _ _ _ _ _ h.holds] at e2
      rw [e2] at e
      exact ⟨_, e, (h.swap hi hj).1, (h.swap hi hj).2⟩ }
end Go.Proofs.YtmjegeipnaalnaaGreatDoor
