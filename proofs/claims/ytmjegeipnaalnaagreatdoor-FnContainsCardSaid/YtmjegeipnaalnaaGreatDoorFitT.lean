/- The look at a value, for every value; and Fit: whether a value is a right one is told by a plain function, and nothing that was there turns. -/
import Derived.Test.YtmjegeipnaalnaaGreatDoorFitV
import Derived.Test.YtmjegeipnaalnaaGreatDoorShelf
namespace Go.Proofs.YtmjegeipnaalnaaGreatDoor
open Go.RowKit

mutual
theorem JV.ind {P : JV → Prop} (h : ∀ k hh t l ks vs, (∀ x ∈ l, P x) → (∀ x ∈ vs, P x) → P (.mk k hh t l ks vs)) : ∀ v, P v
  | .mk k hh t l ks vs => h k hh t l ks vs (JV.indL h l) (JV.indL h vs)
theorem JV.indL {P : JV → Prop} (h : ∀ k hh t l ks vs, (∀ x ∈ l, P x) → (∀ x ∈ vs, P x) → P (.mk k hh t l ks vs)) : ∀ (l : List JV), ∀ x ∈ l, P x
  | [], _, hx => by simp at hx
  | y :: r, x, hx => (List.mem_cons.1 hx).elim (fun e => e ▸ JV.ind h y) (fun hx' => JV.indL h r x hx')
end

set_option maxRecDepth 100000 in
set_option maxHeartbeats 1000000 in
theorem value_early {V : ByteArray → Bool} (b : Nat) (s : Lk) (deep : Int) (w : World) (h : LkAt b s w) (h1 : 0 ≤ s.parts) (h2 : s.parts ≤ 400) (c0 c1 c2 c3 c4 c5 : Value) (v : JV) (hbad : (s.part deep).bad = true) :
    Calls Tryz.prog 54 #[.pointer (some ⟨b, 0, none⟩), .agg #[c0, c1, c2, c3, c4, c5], .int .i64 deep] w fun e w' => e = .returned (.tuple #[]) ∧ LkAt b (s.value V deep v) w' ∧ w.grownBy w' (some b) := by
  have e : s.value V deep v = s.part deep := by cases v; simp only [Lk.value, hbad, if_true]
  have E := Lib.hid e
  have hA : LkAt b s (w.alloc (.cells #[c0, c1, c2, c3, c4, c5] 26)) := h.other (World.grownBy_alloc w _ none) (by simp)
  have hG := World.grownBy_alloc w (.cells #[c0, c1, c2, c3, c4, c5] 26) (some b)
  clear e
  go_enter Tryz.func54, Tryz.ntmps54
  go_wp2_with (go_at_call 93; refine (part_walk b _ deep _ hA h1 (by omega)).mono ?_; rintro e w1 ⟨rfl, h3, g3⟩)
  exact bodyPost_ret (v := .tuple #[]) (by simp [results, Tryz.results54, go_sem]) rfl ⟨rfl, by rw [E.out]; exact h3, hG.trans g3⟩

theorem value_all {T : World → Prop} {V : ByteArray → Bool} (hV : ValidC T V) (hTg : ∀ (w w' : World) (b : Nat), T w → 3 ≤ b → w.grownBy w' (some b) → T w') : ∀ v, ValueC V T v := by
  refine JV.ind fun k hh t l ks vs ihl ihv => ?_
  intro B b s deep cs w hR hB hb17 h hT hd0 hd1 hp0 hp1 hy0 hy1
  unfold JRep at hR
  obtain ⟨_, _, ht, vl, vk, vv, rfl, ⟨A1, n1, rfl, _, hc1, hJ1⟩, ⟨A2, n2, rfl, _, hc2, hJ2⟩, ⟨A3, n3, rfl, _, hc3, hJ3⟩⟩ := hR
  cases hbad : (s.part deep).bad with
  | true => exact value_early b s deep w h hp0 hp1 _ _ _ _ _ _ _ hbad
  | false => exact value_go hV hTg B b hB hb17 s deep w h hp0 hp1 k hh t l ks vs A1 A2 A3 n1 n2 n3 _ _ _ rfl rfl rfl hbad hT ht hy0 hd0 hd1 hJ1 hJ2 hJ3 (by omega) (by omega) ihl ihv

/-- The library's tables of UTF-8 lie where the program's text lays them. -/
def Tabs (w : World) : Prop := Lib.Utf8Tabs 1 2 w
def validB (s : ByteArray) : Bool := Lib.validD s.data.toList
theorem Tabs.lt {w : World} (h : Tabs w) : 2 < w.heap.size := by
  have := (h.2 0 (by omega)).1
  exact block_lt_of_cell this
theorem Tabs.grown {w w' : World} {r : Option Nat} (h : Tabs w) (hr : r ≠ some 1) (hr2 : r ≠ some 2) (hg : w.grownBy w' r) : Tabs w' := by
  refine ⟨fun c hc => ?_, fun i hi => ⟨?_, ?_⟩⟩
  · exact hg.cell (h.1 c hc) (fun e => hr e.symm)
  · exact hg.cell (h.2 i hi).1 (fun e => hr2 e.symm)
  · exact hg.cell (h.2 i hi).2 (fun e => hr2 e.symm)
theorem validC : ValidC Tabs validB := fun s w hs hT => Any.utf8_ValidString Tryz.laysValid s w (by omega) hT

/-- Whether a value is one of JSON: a plain function. -/
def fitB (v : JV) : Bool := !(Lk.value validB 0 v ⟨0, 0, false⟩).bad

theorem value_walk (v : JV) : ValueC validB Tabs v :=
  value_all validC (fun w w' b hT hb hg => hT.grown (by simp; omega) (by simp; omega) hg) v

/-- A value in six cells, as it is handed on. -/
def JVal (w : World) (B : Nat) (v : JV) (x : Value) : Prop := ∃ c0 c1 c2 c3 c4 c5, x = .agg #[c0, c1, c2, c3, c4, c5] ∧ JRep w B v [c0, c1, c2, c3, c4, c5]
theorem JVal.below {w w' : World} {B B' : Nat} {v : JV} {x : Value} (h : JVal w B v x) (hb : Below B w w') (hB : B ≤ B') : JVal w' B' v x := by
  obtain ⟨c0, c1, c2, c3, c4, c5, rfl, hr⟩ := h
  exact ⟨c0, c1, c2, c3, c4, c5, rfl, hr.below hb hB⟩

theorem JVal.laid {w : World} {B : Nat} {k h : Int} {t : ByteArray} {l vs : List JV} {ks : List ByteArray} {x : Value} (hv : JVal w B (.mk k h t l ks vs) x) :
    ∃ vl vk vv, x = .agg #[.int .i64 k, .int .i64 h, .string t, vl, vk, vv] ∧ I64 k ∧ I64 h ∧ t.size ≤ 140737488351232 ∧ SlOf l.length 104 (JCells w B l) vl ∧ SlOf ks.length 16 (SCells w B ks) vk ∧ SlOf vs.length 104 (JCells w B vs) vv := by
  obtain ⟨c0, c1, c2, c3, c4, c5, rfl, hr⟩ := hv
  unfold JRep at hr
  obtain ⟨hk, hh, ht, vl, vk, vv, hcs, h1, h2, h3⟩ := hr
  simp only [List.cons.injEq, and_true] at hcs
  obtain ⟨e0, e1, e2, e3, e4, e5⟩ := hcs
  exact ⟨vl, vk, vv, by rw [e0, e1, e2, e3, e4, e5], hk, hh, ht, h1, h2, h3⟩
theorem JVal.mk' {w : World} {B : Nat} {k h : Int} {t : ByteArray} {l vs : List JV} {ks : List ByteArray} {vl vk vv : Value} (hk : I64 k) (hh : I64 h) (ht : t.size ≤ 140737488351232)
    (h1 : SlOf l.length 104 (JCells w B l) vl) (h2 : SlOf ks.length 16 (SCells w B ks) vk) (h3 : SlOf vs.length 104 (JCells w B vs) vv) : JVal w B (.mk k h t l ks vs) (.agg #[.int .i64 k, .int .i64 h, .string t, vl, vk, vv]) :=
  ⟨_, _, _, _, _, _, rfl, by unfold JRep; exact ⟨hk, hh, ht, vl, vk, vv, rfl, h1, h2, h3⟩⟩

set_option maxHeartbeats 1000000 in
theorem Fit_walk (v : JV) (x : Value) (w : World) (hv : JVal w w.heap.size v x) (hT : Tabs w) :
    Calls Tryz.prog 30 #[x] w fun e w' => e = .returned (.bool (fitB v)) ∧ Below w.heap.size w w' := by
  obtain ⟨c0, c1, c2, c3, c4, c5, rfl, hr⟩ := hv
  have hlt := hT.lt
  obtain ⟨w1, hw1⟩ : ∃ w1, w1 = (w.alloc (.cells #[c0, c1, c2, c3, c4, c5] 26)).alloc (.cells #[.int .i64 0, .int .i64 0, .bool false] 65) := ⟨_, rfl⟩
  have hbl : Below w.heap.size w w1 := by
    rw [hw1]
    exact ((Below.refl _ _).alloc (Nat.le_refl _) _).alloc (by simp) _
  have hL : LkAt (w.heap.size + 1) ⟨0, 0, false⟩ w1 := by rw [hw1]; exact heap_alloc2_new w _ _
  have hR1 := hr.below hbl (Nat.le_refl _)
  have hT1 : Tabs w1 := hT.grown (r := none) (by simp) (by simp) (grownBy_below hbl none)
  have c := value_walk v w.heap.size (w.heap.size + 1) ⟨0, 0, false⟩ 0 [c0, c1, c2, c3, c4, c5] w1 hR1 (by omega) (by omega) hL hT1 (by omega) (by omega) (by simp) (by simp) (by simp) (by simp)
  rw [hw1] at c
  have C := Lib.hid c
  have HB := Lib.hid hbl
  have HW1 := Lib.hid hw1
  clear c hbl hw1 hL hR1 hT1 hT hr
  go_enter Tryz.func30, Tryz.ntmps30
  go_wp2_with (go_at_call 54; refine C.out.mono ?_; rintro e w2 ⟨rfl, h2, g2⟩; have hc2 := h2.c2)
  go_ret
  refine ⟨rfl, ?_⟩
  have hb2 := HB.out
  rw [HW1.out] at hb2
  exact hb2.trans ⟨g2.os, g2.tape, g2.output, g2.size, fun k hk => g2.block k (by simp; omega) (by simp; omega)⟩
end Go.Proofs.YtmjegeipnaalnaaGreatDoor
