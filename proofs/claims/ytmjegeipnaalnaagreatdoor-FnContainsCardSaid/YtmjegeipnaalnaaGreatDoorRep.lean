/- The values of the thin package as plain trees, and what it means that cells of a world read as one: the tree's slices lie below a block number. -/
import Derived.Test.YtmjegeipnaalnaaGreatDoorFacts
import Derived.Below
import Derived.Deep.Slices
import Derived.ProofKit
namespace Go.Proofs.YtmjegeipnaalnaaGreatDoor
open Go.RowKit

/-- A value of the thin package: its kind, its half, its text, its list, its keys, its values. -/
inductive JV where
  | mk (kind half : Int) (text : ByteArray) (list : List JV) (keys : List ByteArray) (vals : List JV)

namespace JV
def kind : JV → Int | mk k _ _ _ _ _ => k
def half : JV → Int | mk _ h _ _ _ _ => h
def text : JV → ByteArray | mk _ _ t _ _ _ => t
def list : JV → List JV | mk _ _ _ l _ _ => l
def keys : JV → List ByteArray | mk _ _ _ _ k _ => k
def vals : JV → List JV | mk _ _ _ _ _ v => v
end JV

def I64 (n : Int) : Prop := -9223372036854775808 ≤ n ∧ n ≤ 9223372036854775807
def reach : Nat := 140737488351232

/-- A slice value of n elements, each of so many bytes, whose cells are told by C. -/
def SlOf (n bytes : Nat) (C : Nat → Nat → Prop) (v : Value) : Prop :=
  ∃ A c, v = .slice A n c ∧ n ≤ c ∧ c * bytes ≤ 140737488351232 ∧ (n = 0 ∨ ∃ b o, A = some ⟨b, o, none⟩ ∧ C b o)

/-- Cells in a row that hold strings. -/
def SCells (w : World) (B : Nat) : List ByteArray → Nat → Nat → Prop
  | [], _, _ => True
  | s :: r, b, o => b < B ∧ s.size ≤ 140737488351232 ∧ w.cell? ⟨b, o, none⟩ = some (.string s) ∧ SCells w B r b (o + 1)

mutual
/-- Six cells read as a value, its slices below block B. -/
def JRep (w : World) (B : Nat) : JV → List Value → Prop
  | .mk k h t l ks vs, cs => I64 k ∧ I64 h ∧ t.size ≤ 140737488351232 ∧ ∃ vl vk vv, cs = [.int .i64 k, .int .i64 h, .string t, vl, vk, vv] ∧
      SlOf l.length 104 (JCells w B l) vl ∧ SlOf ks.length 16 (SCells w B ks) vk ∧ SlOf vs.length 104 (JCells w B vs) vv
/-- Cells in a row that hold values, six a value. -/
def JCells (w : World) (B : Nat) : List JV → Nat → Nat → Prop
  | [], _, _ => True
  | x :: r, b, o => b < B ∧ (∃ cs, JRep w B x cs ∧ ∀ j, j < 6 → w.cell? ⟨b, o + j, none⟩ = cs[j]?) ∧ JCells w B r b (o + 6)
end

theorem SCells.below {w w' : World} {B B' : Nat} (hb : Below B w w') (hB : B ≤ B') : ∀ (l : List ByteArray) (b o : Nat), SCells w B l b o → SCells w' B' l b o
  | [], _, _, _ => by unfold SCells; trivial
  | s :: r, b, o, h => by
    unfold SCells at h ⊢
    exact ⟨by omega, h.2.1, (hb.cell (p := ⟨b, o, none⟩) h.1).trans h.2.2.1, SCells.below hb hB r b (o + 1) h.2.2.2⟩

theorem SlOf.imp {n bytes : Nat} {C C' : Nat → Nat → Prop} {v : Value} (h : SlOf n bytes C v) (hc : ∀ b o, C b o → C' b o) : SlOf n bytes C' v := by
  obtain ⟨A, c, rfl, h1, h2, h3⟩ := h
  refine ⟨A, c, rfl, h1, h2, ?_⟩
  rcases h3 with h3 | ⟨b, o, rfl, h3⟩
  · exact .inl h3
  · exact .inr ⟨b, o, rfl, hc b o h3⟩

mutual
theorem JRep.below {w w' : World} {B B' : Nat} (hb : Below B w w') (hB : B ≤ B') : ∀ (v : JV) (cs : List Value), JRep w B v cs → JRep w' B' v cs
  | .mk k h t l ks vs, cs, hr => by
    unfold JRep at hr ⊢
    obtain ⟨h1, h2, h3, vl, vk, vv, rfl, h4, h5, h6⟩ := hr
    exact ⟨h1, h2, h3, vl, vk, vv, rfl, h4.imp (JCells.below hb hB l), h5.imp (SCells.below hb hB ks), h6.imp (JCells.below hb hB vs)⟩
theorem JCells.below {w w' : World} {B B' : Nat} (hb : Below B w w') (hB : B ≤ B') : ∀ (l : List JV) (b o : Nat), JCells w B l b o → JCells w' B' l b o
  | [], _, _, _ => by unfold JCells; trivial
  | x :: r, b, o, h => by
    unfold JCells at h ⊢
    obtain ⟨h1, ⟨cs, h2, h3⟩, h4⟩ := h
    exact ⟨by omega, ⟨cs, JRep.below hb hB x cs h2, fun j hj => (hb.cell (p := ⟨b, o + j, none⟩) h1).trans (h3 j hj)⟩, JCells.below hb hB r b (o + 6) h4⟩
end
theorem blk_kept {w w' : World} {r : Option Nat} {k : Nat} {o : Obj} (hx : w.heap[k]? = some o) (hg : w.grownBy w' r) (hne : some k ≠ r) : w'.heap[k]? = some o := by
  rw [hg.block k (Array.getElem?_eq_some_iff.1 hx).1 hne]; exact hx
theorem box6 {w : World} {k : Nat} {a0 a1 a2 a3 a4 a5 : Value} {T : TypeId} {fr : Nat × Nat} (h : w.heap[k]? = some (.cells #[a0, a1, a2, a3, a4, a5] T fr)) :
    w.cell? ⟨k, 0, none⟩ = some a0 ∧ w.cell? ⟨k, 1, none⟩ = some a1 ∧ w.cell? ⟨k, 2, none⟩ = some a2 ∧ w.cell? ⟨k, 3, none⟩ = some a3 ∧ w.cell? ⟨k, 4, none⟩ = some a4 ∧ w.cell? ⟨k, 5, none⟩ = some a5 := by
  simp [World.cell?, h]
theorem box7 {w : World} {k : Nat} {a0 a1 a2 a3 a4 a5 a6 : Value} {T : TypeId} {fr : Nat × Nat} (h : w.heap[k]? = some (.cells #[a0, a1, a2, a3, a4, a5, a6] T fr)) :
    w.cell? ⟨k, 0, none⟩ = some a0 ∧ w.cell? ⟨k, 1, none⟩ = some a1 ∧ w.cell? ⟨k, 2, none⟩ = some a2 ∧ w.cell? ⟨k, 3, none⟩ = some a3 ∧ w.cell? ⟨k, 4, none⟩ = some a4 ∧ w.cell? ⟨k, 5, none⟩ = some a5 ∧ w.cell? ⟨k, 6, none⟩ = some a6 := by
  simp [World.cell?, h]
theorem frozen7 {w : World} {k : Nat} {cs : Array Value} {T : TypeId} (h : w.heap[k]? = some (.cells cs T (0, 0))) :
    w.frozen? ⟨k, 0, none⟩ = false ∧ w.frozen? ⟨k, 1, none⟩ = false ∧ w.frozen? ⟨k, 2, none⟩ = false ∧ w.frozen? ⟨k, 3, none⟩ = false ∧ w.frozen? ⟨k, 4, none⟩ = false ∧ w.frozen? ⟨k, 5, none⟩ = false ∧ w.frozen? ⟨k, 6, none⟩ = false := by
  simp [World.frozen?, h]
theorem kept_below {w w' : World} {B k : Nat} {o : Obj} (hb : Below B w w') (hk : k < B) (hx : w.heap[k]? = some o) : w'.heap[k]? = some o := (hb.block k hk).trans hx
/-- Seven stores into one row are one row. -/
theorem below_set {a w : World} {B k i : Nat} {v : Value} (h : Below B a w) (hk : B ≤ k) : Below B a (w.setCell ⟨k, i, none⟩ v) := h.setCell hk v
end Go.Proofs.YtmjegeipnaalnaaGreatDoor
