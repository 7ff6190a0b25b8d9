/- The values of the thin package as plain trees, and what it means that cells of a world read as one: the tree's slices lie below a block number. The look at a value: counters behind a pointer; the small steps. The look at one value: the walk through its body, its elements met by their own promise. DERIVED: THE SHELF's CONTRACTS AT THIS DUMP, IN PLAIN WORDS (tools/lay-plain.mjs out of 'YtmjegeipnaalnaaGreatDoorShelf.lean', which tools/lay-shelf.mjs wrote): THE SAME DECLARATIONS UNDER THE SAME NAMES: 'import', 'namespace', 'open', 'def', 'theorem' AND NOTHING ELSE: no command of the shelf's: FOR A HAND-IN. Each laying: the table of numbers ('.._ren') and one theorem, a field a fact of the dump's own or the kernel's comparison; each contract: ONE APPLICATION. The look at a value, for every value; and Fit: whether a value is a right one is told by a plain function, and nothing that was there turns. An argument of the thin package's value type, read as data, is one of our trees: its cells read as it. -/
import Derived.Test.YtmjegeipnaalnaaGreatDoorGrFacts
import Derived.Below
import Derived.Deep.Slices
import Derived.ProofKit
import Derived.Outline
import Derived.Lib.Hide
import Derived.Deep.DeepCutAuto
import Derived.StillTailTactics
import Derived.BigQuiet
import Derived.Deep.CutBlock
import Derived.Deep.LoopGhost
import Derived.Test.YtmjegeipnaalnaaGreatDoorProg
import Derived.Ground.NamesProg
import Derived.Shelf.Unicode.ValidAny

/- The values of the thin package as plain trees, and what it means that cells of a world read as one: the tree's slices lie below a block number. -/
namespace Go.Proofs.YtmjegeipnaalnaaGreatDoor
open Go.RowKit

/-- A value of the thin package: its kind, its half, its text, its list, its keys, its values. -/
inductive JV where
  | mk (kind half : Int) (text : ByteArray) (list : List JV) (keys : List ByteArray) (vals : List JV)

namespace JV
def kind : JV → Int | mk k _ _ _ _ _ => k
def half : JV → Int | mk _ h _ _ _ _ => h
def text : JV → ByteArray | mk _ _ t _ _ _ => t
def list : JV → List JV | mk _ _ _ l _ _ => l
def keys : JV → List ByteArray | mk _ _ _ _ k _ => k
def vals : JV → List JV | mk _ _ _ _ _ v => v
end JV

def I64 (n : Int) : Prop := -9223372036854775808 ≤ n ∧ n ≤ 9223372036854775807
def reach : Nat := 140737488351232

/-- A slice value of n elements, each of so many bytes, whose cells are told by C. -/
def SlOf (n bytes : Nat) (C : Nat → Nat → Prop) (v : Value) : Prop :=
  ∃ A c, v = .slice A n c ∧ n ≤ c ∧ n * bytes ≤ 140737488351232 ∧ (n = 0 ∨ ∃ b o, A = some ⟨b, o, none⟩ ∧ C b o)

/-- Cells in a row that hold strings. -/
def SCells (w : World) (B : Nat) : List ByteArray → Nat → Nat → Prop
  | [], _, _ => True
  | s :: r, b, o => b < B ∧ s.size ≤ 140737488351232 ∧ w.cell? ⟨b, o, none⟩ = some (.string s) ∧ SCells w B r b (o + 1)

mutual
/-- Six cells read as a value, its slices below block B. -/
def JRep (w : World) (B : Nat) : JV → List Value → Prop
  | .mk k h t l ks vs, cs => I64 k ∧ I64 h ∧ t.size ≤ 140737488351232 ∧ ∃ vl vk vv, cs = [.int .i64 k, .int .i64 h, .string t, vl, vk, vv] ∧
      SlOf l.length 104 (JCells w B l) vl ∧ SlOf ks.length 16 (SCells w B ks) vk ∧ SlOf vs.length 104 (JCells w B vs) vv
/-- Cells in a row that hold values, six a value. -/
def JCells (w : World) (B : Nat) : List JV → Nat → Nat → Prop
  | [], _, _ => True
  | x :: r, b, o => b < B ∧ (∃ cs, JRep w B x cs ∧ ∀ j, j < 6 → w.cell? ⟨b, o + j, none⟩ = cs[j]?) ∧ JCells w B r b (o + 6)
end

theorem SCells.below {w w' : World} {B B' : Nat} (hb : Below B w w') (hB : B ≤ B') : ∀ (l : List ByteArray) (b o : Nat), SCells w B l b o → SCells w' B' l b o
  | [], _, _, _ => by unfold SCells; trivial
  | s :: r, b, o, h => by
    unfold SCells at h ⊢
    exact ⟨by omega, h.2.1, (hb.cell (p := ⟨b, o, none⟩) h.1).trans h.2.2.1, SCells.below hb hB r b (o + 1) h.2.2.2⟩

theorem SlOf.imp {n bytes : Nat} {C C' : Nat → Nat → Prop} {v : Value} (h : SlOf n bytes C v) (hc : ∀ b o, C b o → C' b o) : SlOf n bytes C' v := by
  obtain ⟨A, c, rfl, h1, h2, h3⟩ := h
  refine ⟨A, c, rfl, h1, h2, ?_⟩
  rcases h3 with h3 | ⟨b, o, rfl, h3⟩
  · exact .inl h3
  · exact .inr ⟨b, o, rfl, hc b o h3⟩

mutual
theorem JRep.below {w w' : World} {B B' : Nat} (hb : Below B w w') (hB : B ≤ B') : ∀ (v : JV) (cs : List Value), JRep w B v cs → JRep w' B' v cs
  | .mk k h t l ks vs, cs, hr => by
    unfold JRep at hr ⊢
    obtain ⟨h1, h2, h3, vl, vk, vv, rfl, h4, h5, h6⟩ := hr
    exact ⟨h1, h2, h3, vl, vk, vv, rfl, h4.imp (JCells.below hb hB l), h5.imp (SCells.below hb hB ks), h6.imp (JCells.below hb hB vs)⟩
theorem JCells.below {w w' : World} {B B' : Nat} (hb : Below B w w') (hB : B ≤ B') : ∀ (l : List JV) (b o : Nat), JCells w B l b o → JCells w' B' l b o
  | [], _, _, _ => by unfold JCells; trivial
  | x :: r, b, o, h => by
    unfold JCells at h ⊢
    obtain ⟨h1, ⟨cs, h2, h3⟩, h4⟩ := h
    exact ⟨by omega, ⟨cs, JRep.below hb hB x cs h2, fun j hj => (hb.cell (p := ⟨b, o + j, none⟩) h1).trans (h3 j hj)⟩, JCells.below hb hB r b (o + 6) h4⟩
end
theorem blk_kept {w w' : World} {r : Option Nat} {k : Nat} {o : Obj} (hx : w.heap[k]? = some o) (hg : w.grownBy w' r) (hne : some k ≠ r) : w'.heap[k]? = some o := by
  rw [hg.block k (Array.getElem?_eq_some_iff.1 hx).1 hne]; exact hx
theorem box6 {w : World} {k : Nat} {a0 a1 a2 a3 a4 a5 : Value} {T : TypeId} {fr : Nat × Nat} (h : w.heap[k]? = some (.cells #[a0, a1, a2, a3, a4, a5] T fr)) :
    w.cell? ⟨k, 0, none⟩ = some a0 ∧ w.cell? ⟨k, 1, none⟩ = some a1 ∧ w.cell? ⟨k, 2, none⟩ = some a2 ∧ w.cell? ⟨k, 3, none⟩ = some a3 ∧ w.cell? ⟨k, 4, none⟩ = some a4 ∧ w.cell? ⟨k, 5, none⟩ = some a5 := by
  simp [World.cell?, h]
theorem box7 {w : World} {k : Nat} {a0 a1 a2 a3 a4 a5 a6 : Value} {T : TypeId} {fr : Nat × Nat} (h : w.heap[k]? = some (.cells #[a0, a1, a2, a3, a4, a5, a6] T fr)) :
    w.cell? ⟨k, 0, none⟩ = some a0 ∧ w.cell? ⟨k, 1, none⟩ = some a1 ∧ w.cell? ⟨k, 2, none⟩ = some a2 ∧ w.cell? ⟨k, 3, none⟩ = some a3 ∧ w.cell? ⟨k, 4, none⟩ = some a4 ∧ w.cell? ⟨k, 5, none⟩ = some a5 ∧ w.cell? ⟨k, 6, none⟩ = some a6 := by
  simp [World.cell?, h]
theorem frozen7 {w : World} {k : Nat} {cs : Array Value} {T : TypeId} (h : w.heap[k]? = some (.cells cs T (0, 0))) :
    w.frozen? ⟨k, 0, none⟩ = false ∧ w.frozen? ⟨k, 1, none⟩ = false ∧ w.frozen? ⟨k, 2, none⟩ = false ∧ w.frozen? ⟨k, 3, none⟩ = false ∧ w.frozen? ⟨k, 4, none⟩ = false ∧ w.frozen? ⟨k, 5, none⟩ = false ∧ w.frozen? ⟨k, 6, none⟩ = false := by
  simp [World.frozen?, h]
theorem kept_below {w w' : World} {B k : Nat} {o : Obj} (hb : Below B w w') (hk : k < B) (hx : w.heap[k]? = some o) : w'.heap[k]? = some o := (hb.block k hk).trans hx
/-- Seven stores into one row are one row. -/
theorem below_set {a w : World} {B k i : Nat} {v : Value} (h : Below B a w) (hk : B ≤ k) : Below B a (w.setCell ⟨k, i, none⟩ v) := h.setCell hk v
end Go.Proofs.YtmjegeipnaalnaaGreatDoor

/- The look at a value: counters behind a pointer; the small steps. -/
namespace Go.Proofs.YtmjegeipnaalnaaGreatDoor
open Go.RowKit

/-- What a looker holds: how many parts, how many bytes, whether something is bad. -/
structure Lk where
  parts : Int
  bytes : Int
  bad : Bool
def LkAt (b : Nat) (s : Lk) (w : World) : Prop := w.heap[b]? = some (.cells #[.int .i64 s.parts, .int .i64 s.bytes, .bool s.bad] 65 (0, 0))
theorem LkAt.c0 {b : Nat} {s : Lk} {w : World} (h : LkAt b s w) : w.cell? ⟨b, 0, none⟩ = some (.int .i64 s.parts) := by unfold LkAt at h; simp [World.cell?, h]
theorem LkAt.c1 {b : Nat} {s : Lk} {w : World} (h : LkAt b s w) : w.cell? ⟨b, 1, none⟩ = some (.int .i64 s.bytes) := by unfold LkAt at h; simp [World.cell?, h]
theorem LkAt.c2 {b : Nat} {s : Lk} {w : World} (h : LkAt b s w) : w.cell? ⟨b, 2, none⟩ = some (.bool s.bad) := by unfold LkAt at h; simp [World.cell?, h]
theorem LkAt.fz {b : Nat} {s : Lk} {w : World} (h : LkAt b s w) (i : Nat) : w.frozen? ⟨b, i, none⟩ = false := by unfold LkAt at h; simp [World.frozen?, h]
theorem LkAt.lt {b : Nat} {s : Lk} {w : World} (h : LkAt b s w) : b < w.heap.size := (Array.getElem?_eq_some_iff.1 h).1
theorem LkAt.set0 {b : Nat} {s : Lk} {w : World} (h : LkAt b s w) (p : Int) : LkAt b { s with parts := p } (w.setCell ⟨b, 0, none⟩ (.int .i64 p)) := by unfold LkAt at *; rw [heap_setCell_same w b 0 _ _ _ h]; rfl
theorem LkAt.set1 {b : Nat} {s : Lk} {w : World} (h : LkAt b s w) (p : Int) : LkAt b { s with bytes := p } (w.setCell ⟨b, 1, none⟩ (.int .i64 p)) := by unfold LkAt at *; rw [heap_setCell_same w b 1 _ _ _ h]; rfl
theorem LkAt.set2 {b : Nat} {s : Lk} {w : World} (h : LkAt b s w) (p : Bool) : LkAt b { s with bad := p } (w.setCell ⟨b, 2, none⟩ (.bool p)) := by unfold LkAt at *; rw [heap_setCell_same w b 2 _ _ _ h]; rfl
theorem grownBy_set (w : World) (b i : Nat) (v : Value) : w.grownBy (w.setCell ⟨b, i, none⟩ v) (some b) :=
  ⟨rfl, rfl, rfl, by simp [World.setCell], fun k _ hk => Below.heap_setCell _ _ _ _ (fun e => hk (by rw [e]))⟩
theorem grownBy_refl (w : World) (r : Option Nat) : w.grownBy w r := ⟨rfl, rfl, rfl, Nat.le_refl _, fun _ _ _ => rfl⟩
theorem LkAt.other {b : Nat} {s : Lk} {w w' : World} {r : Option Nat} (h : LkAt b s w) (hg : w.grownBy w' r) (hr : r ≠ some b) : LkAt b s w' := by
  unfold LkAt at *; rw [hg.block b (LkAt.lt h) (fun e => hr e.symm)]; exact h

def Lk.want (s : Lk) (ok : Bool) : Lk := { s with bad := s.bad || !ok }
def Lk.part (s : Lk) (deep : Int) : Lk := { parts := s.parts + 1, bytes := s.bytes, bad := s.bad || !(decide (s.parts + 1 ≤ 400) && decide (s.bytes ≤ 2000) && decide (deep ≤ 60)) }

set_option maxHeartbeats 400000 in
theorem want_walk (b : Nat) (s : Lk) (ok : Bool) (w : World) (h : LkAt b s w) :
    Calls Tryz.prog 94 #[.pointer (some ⟨b, 0, none⟩), .bool ok] w fun e w' => e = .returned (.tuple #[]) ∧ LkAt b (s.want ok) w' ∧ w.grownBy w' (some b) := by
  have hf := h.fz 2
  have hc := h.c2
  obtain ⟨p, y, bad⟩ := s
  cases bad
  all_goals
    simp only at hc
    go_enter Tryz.func94, Tryz.ntmps94
    go_wp2
    go_end0
    exact ⟨rfl, h.set2 _, grownBy_set _ _ _ _⟩

set_option maxHeartbeats 400000 in
theorem part_walk (b : Nat) (s : Lk) (deep : Int) (w : World) (h : LkAt b s w) (h1 : 0 ≤ s.parts) (h2 : s.parts ≤ 1000000) :
    Calls Tryz.prog 93 #[.pointer (some ⟨b, 0, none⟩), .int .i64 deep] w fun e w' => e = .returned (.bool !(s.part deep).bad) ∧ LkAt b (s.part deep) w' ∧ w.grownBy w' (some b) := by
  have hf := h.fz 0
  have hc0 := h.c0
  have hc1 := h.c1
  have hs := h.set0 (s.parts + 1)
  have hg := grownBy_set w b 0 (.int .i64 (s.parts + 1))
  have e0 : ∀ ok, (decide (s.parts + 1 ≤ 400) && decide (s.bytes ≤ 2000) && decide (deep ≤ 60)) = ok → ({ s with parts := s.parts + 1 } : Lk).want ok = s.part deep := fun ok e => by subst e; rfl
  by_cases hp : s.parts + 1 ≤ 400
  · by_cases hb : s.bytes ≤ 2000
    · by_cases hd : deep ≤ 60
      · have e1 := Lib.hid (e0 true (by simp [hp, hb, hd]))
        clear e0
        go_enter Tryz.func93, Tryz.ntmps93
        go_wp2_with (go_at_call 94; refine (want_walk b _ true _ hs).mono ?_; rintro e w2 ⟨rfl, h3, g3⟩; rw [e1.out] at h3; have hc2 := h3.c2)
        go_ret
        exact ⟨rfl, h3, hg.trans g3⟩
      · have e1 := Lib.hid (e0 false (by simp [hd]))
        clear e0
        go_enter Tryz.func93, Tryz.ntmps93
        go_wp2_with (go_at_call 94; refine (want_walk b _ false _ hs).mono ?_; rintro e w2 ⟨rfl, h3, g3⟩; rw [e1.out] at h3; have hc2 := h3.c2)
        go_ret
        exact ⟨rfl, h3, hg.trans g3⟩
    · have e1 := Lib.hid (e0 false (by simp [hb]))
      clear e0
      go_enter Tryz.func93, Tryz.ntmps93
      go_wp2_with (go_at_call 94; refine (want_walk b _ false _ hs).mono ?_; rintro e w2 ⟨rfl, h3, g3⟩; rw [e1.out] at h3; have hc2 := h3.c2)
      go_ret
      exact ⟨rfl, h3, hg.trans g3⟩
  · have e1 := Lib.hid (e0 false (by simp [hp]))
    clear e0
    go_enter Tryz.func93, Tryz.ntmps93
    go_wp2_with (go_at_call 94; refine (want_walk b _ false _ hs).mono ?_; rintro e w2 ⟨rfl, h3, g3⟩; rw [e1.out] at h3; have hc2 := h3.c2)
    go_ret
    exact ⟨rfl, h3, hg.trans g3⟩

/-- What is asked of the library: whether a string is valid UTF-8 is told by some function, and nothing that was there turns. -/
def ValidC (T : World → Prop) (V : ByteArray → Bool) : Prop :=
  ∀ (s : ByteArray) (w : World), s.size ≤ 140737488351232 → T w → Calls Tryz.prog 181 #[.string s] w fun e w' => e = .returned (.bool (V s)) ∧ Below w.heap.size w w'
def Lk.str (V : ByteArray → Bool) (s : Lk) (t : ByteArray) : Lk := { parts := s.parts, bytes := s.bytes + t.size, bad := s.bad || !(decide (s.bytes + t.size ≤ 2000) && V t) }
theorem grownBy_below {w w' : World} (h : Below w.heap.size w w') (r : Option Nat) : w.grownBy w' r := ⟨h.os, h.tape, h.output, h.size, fun k hk _ => h.block k hk⟩

set_option maxHeartbeats 400000 in
theorem str_walk {T : World → Prop} {V : ByteArray → Bool} (hV : ValidC T V) (hTg : ∀ (w w' : World) (b : Nat), T w → 3 ≤ b → w.grownBy w' (some b) → T w') (b : Nat) (s : Lk) (t : ByteArray) (w : World) (h : LkAt b s w) (hb17 : 3 ≤ b) (hT : T w)
    (h1 : 0 ≤ s.bytes) (h2 : s.bytes ≤ 1000000000000000) (ht : t.size ≤ 140737488351232) :
    Calls Tryz.prog 95 #[.pointer (some ⟨b, 0, none⟩), .string t] w fun e w' => e = .returned (.tuple #[]) ∧ LkAt b (s.str V t) w' ∧ w.grownBy w' (some b) := by
  have hf := h.fz 1
  have hc1 := h.c1
  have hs := h.set1 (s.bytes + t.size)
  have hg := grownBy_set w b 1 (.int .i64 (s.bytes + t.size))
  have hT1 := hTg _ _ b hT hb17 hg
  have e0 : ∀ ok, (decide (s.bytes + t.size ≤ 2000) && V t) = ok → ({ s with bytes := s.bytes + t.size } : Lk).want ok = s.str V t := fun ok e => by subst e; rfl
  have HV := Lib.hid hV
  clear hV hTg
  by_cases hb : s.bytes + t.size ≤ 2000
  · have e1 := Lib.hid (e0 (V t) (by simp [hb]))
    clear e0
    go_enter Tryz.func95, Tryz.ntmps95
    go_wp2_with (first | (go_at_call 181; refine (HV.out t _ ht hT1).mono ?_; rintro e w1 ⟨rfl, b1⟩; have hs1 := hs.other (grownBy_below b1 none) (by simp)) | (go_at_call 94; refine (want_walk b _ (V t) _ hs1).mono ?_; rintro e w2 ⟨rfl, h3, g3⟩; rw [e1.out] at h3))
    go_end0
    exact ⟨rfl, h3, (hg.trans (grownBy_below b1 _)).trans g3⟩
  · have e1 := Lib.hid (e0 false (by simp [hb]))
    clear e0
    go_enter Tryz.func95, Tryz.ntmps95
    go_wp2_with (go_at_call 94; refine (want_walk b _ false _ hs).mono ?_; rintro e w2 ⟨rfl, h3, g3⟩; rw [e1.out] at h3)
    go_end0
    exact ⟨rfl, h3, hg.trans g3⟩

def JV.headOk : JV → Bool
  | .mk k h t l ks vs => decide (0 ≤ k) && decide (k ≤ 6) && (k == 3 || h == 0) && (k == 4 || t.toList.isEmpty) && (k == 5 || (l.length : Int) == 0) && (k == 6 || (ks.length : Int) == 0) && (ks.length : Int) == (vs.length : Int)
def JV.halfOk : JV → Bool
  | .mk _ h _ _ _ _ => decide (-18014398509481984 ≤ h) && decide (h ≤ 18014398509481984) && (decide (h.tmod 2 = 0) || (decide (-9007199254740992 < h) && decide (h < 9007199254740992)))
def keyLt (a b : ByteArray) : Bool := Op.bytesLess a.toList b.toList
def prevOk (p : Option ByteArray) (k : ByteArray) : Bool := match p with | none => true | some q => keyLt q k
mutual
/-- What the look at a value does to the counters. -/
def Lk.value (V : ByteArray → Bool) (deep : Int) : JV → Lk → Lk
  | .mk k h t l ks vs, s => if (s.part deep).bad then s.part deep else
      Lk.entries V (deep + 1) vs ks none (Lk.list V (deep + 1) l ((((s.part deep).want (JV.mk k h t l ks vs).headOk).want (JV.mk k h t l ks vs).halfOk).str V t))
def Lk.list (V : ByteArray → Bool) (deep : Int) : List JV → Lk → Lk
  | [], s => s
  | x :: r, s => if s.bad then s else Lk.list V deep r (Lk.value V deep x s)
def Lk.entries (V : ByteArray → Bool) (deep : Int) : List JV → List ByteArray → Option ByteArray → Lk → Lk
  | [], _, _, s => s
  | x :: r, ks, p, s => match ks with
    | [] => s
    | k :: ks => if s.bad then s else Lk.entries V deep r ks (some k) (Lk.value V deep x ((s.str V k).want (prevOk p k)))
end
end Go.Proofs.YtmjegeipnaalnaaGreatDoor
namespace Go.Proofs.YtmjegeipnaalnaaGreatDoor
open Go.RowKit

theorem LkAt.want_eq {b : Nat} {s : Lk} {w : World} {ok ok' : Bool} (h : LkAt b (s.want ok) w) (e : ok' = ok) : LkAt b (s.want ok') w := e ▸ h


theorem below_of_grown {w w' : World} {b B : Nat} (h : w.grownBy w' (some b)) (hB : B ≤ b) (hb : b < w.heap.size) : Below B w w' :=
  ⟨h.os, h.tape, h.output, h.size, fun k hk => h.block k (by omega) (by simp; omega)⟩
theorem JCells.get {w : World} {B : Nat} : ∀ (l : List JV) (b o : Nat), JCells w B l b o → ∀ (i : Nat) (hi : i < l.length), b < B ∧ ∃ cs, JRep w B l[i] cs ∧ ∀ j, j < 6 → w.cell? ⟨b, o + i * 6 + j, none⟩ = cs[j]?
  | [], _, _, _, i, hi => absurd hi (by simp)
  | x :: r, b, o, h, 0, _ => by
    unfold JCells at h
    obtain ⟨h1, ⟨cs, h2, h3⟩, _⟩ := h
    exact ⟨h1, cs, h2, fun j hj => by rw [show o + 0 * 6 + j = o + j by omega]; exact h3 j hj⟩
  | x :: r, b, o, h, i + 1, hi => by
    unfold JCells at h
    obtain ⟨h1, _, h4⟩ := h
    obtain ⟨h5, cs, h6, h7⟩ := JCells.get r b (o + 6) h4 i (by simpa using hi)
    exact ⟨h5, cs, h6, fun j hj => by rw [show o + (i + 1) * 6 + j = o + 6 + i * 6 + j by omega]; exact h7 j hj⟩
theorem SCells.get {w : World} {B : Nat} : ∀ (l : List ByteArray) (b o : Nat), SCells w B l b o → ∀ (i : Nat) (hi : i < l.length), b < B ∧ l[i].size ≤ 140737488351232 ∧ w.cell? ⟨b, o + i, none⟩ = some (.string l[i])
  | [], _, _, _, i, hi => absurd hi (by simp)
  | x :: r, b, o, h, 0, _ => by
    unfold SCells at h
    exact ⟨h.1, h.2.1, h.2.2.1⟩
  | x :: r, b, o, h, i + 1, hi => by
    unfold SCells at h
    obtain ⟨h5, h6, h7⟩ := SCells.get r b (o + 1) h.2.2.2 i (by simpa using hi)
    exact ⟨h5, h6, by rw [show o + (i + 1) = o + 1 + i by omega]; exact h7⟩

/-- The walk's own promise for one value. -/
def ValueC (V : ByteArray → Bool) (T : World → Prop) (v : JV) : Prop :=
  ∀ (B b : Nat) (s : Lk) (deep : Int) (cs : List Value) (w : World), JRep w B v cs → B ≤ b → 3 ≤ b → LkAt b s w → T w → 0 ≤ deep → deep ≤ 1000 → 0 ≤ s.parts → s.parts ≤ 400 → 0 ≤ s.bytes → s.bytes ≤ 200000000000000 →
    Calls Tryz.prog 54 #[.pointer (some ⟨b, 0, none⟩), .agg cs.toArray, .int .i64 deep] w fun e w' => e = .returned (.tuple #[]) ∧ LkAt b (s.value V deep v) w' ∧ w.grownBy w' (some b)

theorem Lk.list_cons_ok (V : ByteArray → Bool) (d : Int) (x : JV) (r : List JV) (s : Lk) (h : s.bad = false) : Lk.list V d (x :: r) s = Lk.list V d r (Lk.value V d x s) := by
  simp [Lk.list, h]
theorem Lk.list_bad (V : ByteArray → Bool) (d : Int) : ∀ (l : List JV) (s : Lk), s.bad = true → Lk.list V d l s = s
  | [], s, _ => by simp [Lk.list]
  | y :: r, s, h => by simp [Lk.list, h]
theorem Lk.list_append (V : ByteArray → Bool) (d : Int) : ∀ (l r : List JV) (s : Lk), Lk.list V d (l ++ r) s = Lk.list V d r (Lk.list V d l s)
  | [], _, s => by simp [Lk.list]
  | y :: l, r, s => by
    by_cases hb : s.bad = true
    · rw [Lk.list_bad V d _ s hb, Lk.list_bad V d _ s hb, Lk.list_bad V d _ s hb]
    · have hb' : s.bad = false := by simpa using hb
      rw [List.cons_append, Lk.list_cons_ok V d _ _ _ hb', Lk.list_cons_ok V d _ _ _ hb', Lk.list_append V d l r _]
theorem Lk.list_take (V : ByteArray → Bool) (d : Int) (l : List JV) (s : Lk) (j : Nat) (hj : j < l.length) (h : (Lk.list V d (l.take j) s).bad = false) :
    Lk.list V d (l.take (j + 1)) s = Lk.value V d l[j] (Lk.list V d (l.take j) s) := by
  rw [List.take_succ_eq_append_getElem hj, Lk.list_append, Lk.list_cons_ok V d _ _ _ h]; simp [Lk.list]
theorem Lk.list_stop (V : ByteArray → Bool) (d : Int) (l : List JV) (s : Lk) (j : Nat) (h : (Lk.list V d (l.take j) s).bad = true) :
    Lk.list V d l s = Lk.list V d (l.take j) s := by
  conv => lhs; rw [← List.take_append_drop j l]
  rw [Lk.list_append, Lk.list_bad V d _ _ h]
theorem JRep.six {w : World} {B : Nat} {v : JV} {cs : List Value} (h : JRep w B v cs) : ∃ c0 c1 c2 c3 c4 c5, cs = [c0, c1, c2, c3, c4, c5] := by
  cases v with
  | mk k h' t l ks vs =>
    unfold JRep at h
    obtain ⟨_, _, _, vl, vk, vv, rfl, _⟩ := h
    exact ⟨_, _, _, _, _, _, rfl⟩
/-- The six cells of one element, each by itself. -/
theorem JCells.at6 {w : World} {B : Nat} {l : List JV} {b o : Nat} (h : JCells w B l b o) (i : Nat) (hi : i < l.length) :
    b < B ∧ ∃ c0 c1 c2 c3 c4 c5, JRep w B l[i] [c0, c1, c2, c3, c4, c5] ∧ w.cell? ⟨b, o + i * 6, none⟩ = some c0 ∧ w.cell? ⟨b, o + i * 6 + 1, none⟩ = some c1 ∧ w.cell? ⟨b, o + i * 6 + 2, none⟩ = some c2 ∧
      w.cell? ⟨b, o + i * 6 + 3, none⟩ = some c3 ∧ w.cell? ⟨b, o + i * 6 + 4, none⟩ = some c4 ∧ w.cell? ⟨b, o + i * 6 + 5, none⟩ = some c5 := by
  obtain ⟨h1, cs, h2, h3⟩ := JCells.get l b o h i hi
  obtain ⟨c0, c1, c2, c3, c4, c5, rfl⟩ := h2.six
  exact ⟨h1, c0, c1, c2, c3, c4, c5, h2, h3 0 (by omega), h3 1 (by omega), h3 2 (by omega), h3 3 (by omega), h3 4 (by omega), h3 5 (by omega)⟩

/-- What the counters keep: while nothing is bad they are within their bounds. -/
def Lk.Inv (s : Lk) : Prop := 0 ≤ s.parts ∧ 0 ≤ s.bytes ∧ (s.bad = false → s.parts ≤ 400 ∧ s.bytes ≤ 2000)
theorem Lk.Inv.want {s : Lk} (h : s.Inv) (ok : Bool) : (s.want ok).Inv := by
  obtain ⟨h1, h2, h3⟩ := h
  exact ⟨h1, h2, fun hb => h3 (by simp [Lk.want] at hb; exact hb.1)⟩
theorem Lk.Inv.part {s : Lk} (h : s.Inv) (d : Int) : (s.part d).Inv := by
  obtain ⟨h1, h2, h3⟩ := h
  refine ⟨by simp only [Lk.part]; omega, h2, fun hb => ?_⟩
  simp [Lk.part] at hb ⊢
  omega
theorem Lk.Inv.str {V : ByteArray → Bool} {s : Lk} (h : s.Inv) (t : ByteArray) : (s.str V t).Inv := by
  obtain ⟨h1, h2, h3⟩ := h
  refine ⟨h1, by simp only [Lk.str]; omega, fun hb => ?_⟩
  simp [Lk.str] at hb ⊢
  exact ⟨(h3 hb.1).1, hb.2.1⟩
mutual
theorem Lk.Inv.value {V : ByteArray → Bool} (d : Int) : ∀ (v : JV) {s : Lk}, s.Inv → (Lk.value V d v s).Inv
  | .mk k h t l ks vs, s, hi => by
    by_cases hb : (s.part d).bad = true
    · simp only [Lk.value, hb, if_true]; exact hi.part d
    · have hb' : (s.part d).bad = false := by simpa using hb
      simp only [Lk.value, hb', Bool.false_eq_true, if_false]
      exact Lk.Inv.entries (d + 1) vs ks none (Lk.Inv.list (d + 1) l ((((hi.part d).want _).want _).str t))
theorem Lk.Inv.list {V : ByteArray → Bool} (d : Int) : ∀ (l : List JV) {s : Lk}, s.Inv → (Lk.list V d l s).Inv
  | [], s, hi => by simpa [Lk.list] using hi
  | x :: r, s, hi => by
    by_cases hb : s.bad = true
    · simp only [Lk.list, hb, if_true]; exact hi
    · have hb' : s.bad = false := by simpa using hb
      simp only [Lk.list, hb', Bool.false_eq_true, if_false]
      exact Lk.Inv.list d r (Lk.Inv.value d x hi)
theorem Lk.Inv.entries {V : ByteArray → Bool} (d : Int) : ∀ (vs : List JV) (ks : List ByteArray) (p : Option ByteArray) {s : Lk}, s.Inv → (Lk.entries V d vs ks p s).Inv
  | [], _, _, s, hi => by simpa [Lk.entries] using hi
  | x :: r, [], _, s, hi => by simpa [Lk.entries] using hi
  | x :: r, k :: ks, p, s, hi => by
    by_cases hb : s.bad = true
    · simp only [Lk.entries, hb, if_true]; exact hi
    · have hb' : s.bad = false := by simpa using hb
      simp only [Lk.entries, hb', Bool.false_eq_true, if_false]
      exact Lk.Inv.entries d r ks (some k) (Lk.Inv.value d x ((hi.str k).want _))
end

mutual
theorem Lk.value_bad (V : ByteArray → Bool) (d : Int) : ∀ (v : JV) (s : Lk), s.bad = true → (Lk.value V d v s).bad = true
  | .mk k h t l ks vs, s, hb => by
    have h1 : (s.part d).bad = true := by simp [Lk.part, hb]
    simp only [Lk.value, h1, if_true]
end
theorem Lk.list_sticky (V : ByteArray → Bool) (d : Int) (l : List JV) (s : Lk) (h : s.bad = true) : (Lk.list V d l s).bad = true := by rw [Lk.list_bad V d l s h]; exact h
theorem Lk.entries_bad (V : ByteArray → Bool) (d : Int) : ∀ (vs : List JV) (ks : List ByteArray) (p : Option ByteArray) (s : Lk), s.bad = true → Lk.entries V d vs ks p s = s
  | [], _, _, s, _ => by simp [Lk.entries]
  | x :: r, [], _, s, _ => by simp [Lk.entries]
  | x :: r, k :: ks, _, s, h => by simp [Lk.entries, h]
def prevKey (j : Nat) (ks : List ByteArray) (p : Option ByteArray) : Option ByteArray := if j = 0 then p else ks[j - 1]?
theorem Lk.entries_cons_ok (V : ByteArray → Bool) (d : Int) (x : JV) (r : List JV) (k : ByteArray) (ks : List ByteArray) (p : Option ByteArray) (s : Lk) (h : s.bad = false) :
    Lk.entries V d (x :: r) (k :: ks) p s = Lk.entries V d r ks (some k) (Lk.value V d x ((s.str V k).want (prevOk p k))) := by
  simp [Lk.entries, h]
theorem Lk.entries_split (V : ByteArray → Bool) (d : Int) : ∀ (j : Nat) (vs : List JV) (ks : List ByteArray) (p : Option ByteArray) (s : Lk), j ≤ vs.length → j ≤ ks.length →
    Lk.entries V d vs ks p s = Lk.entries V d (vs.drop j) (ks.drop j) (prevKey j ks p) (Lk.entries V d (vs.take j) (ks.take j) p s)
  | 0, vs, ks, p, s, _, _ => by simp [Lk.entries, prevKey]
  | j + 1, [], _, _, _, h, _ => absurd h (by simp)
  | j + 1, _ :: _, [], _, _, _, h => absurd h (by simp)
  | j + 1, x :: r, k :: ks, p, s, h1, h2 => by
    by_cases hb : s.bad = true
    · rw [Lk.entries_bad V d _ _ _ s hb, Lk.entries_bad V d _ _ _ s hb, Lk.entries_bad V d _ _ _ s hb]
    · have hb' : s.bad = false := by simpa using hb
      rw [List.take_succ_cons, List.take_succ_cons, Lk.entries_cons_ok V d _ _ _ _ _ _ hb', Lk.entries_cons_ok V d _ _ _ _ _ _ hb', List.drop_succ_cons, List.drop_succ_cons]
      rw [Lk.entries_split V d j r ks (some k) _ (by simpa using h1) (by simpa using h2)]
      have e : prevKey (j + 1) (k :: ks) p = prevKey j ks (some k) := by
        unfold prevKey
        cases j with
        | zero => simp
        | succ j => simp
      rw [e]
theorem Lk.entries_stop (V : ByteArray → Bool) (d : Int) (vs : List JV) (ks : List ByteArray) (p : Option ByteArray) (s : Lk) (j : Nat) (h1 : j ≤ vs.length) (h2 : j ≤ ks.length)
    (h : (Lk.entries V d (vs.take j) (ks.take j) p s).bad = true) : Lk.entries V d vs ks p s = Lk.entries V d (vs.take j) (ks.take j) p s := by
  rw [Lk.entries_split V d j vs ks p s h1 h2, Lk.entries_bad V d _ _ _ _ h]
theorem Lk.entries_take (V : ByteArray → Bool) (d : Int) (vs : List JV) (ks : List ByteArray) (s : Lk) (j : Nat) (h1 : j < vs.length) (h2 : j < ks.length)
    (h : (Lk.entries V d (vs.take j) (ks.take j) none s).bad = false) :
    Lk.entries V d (vs.take (j + 1)) (ks.take (j + 1)) none s = Lk.value V d vs[j] (((Lk.entries V d (vs.take j) (ks.take j) none s).str V ks[j]).want (prevOk (prevKey j ks none) ks[j])) := by
  rw [Lk.entries_split V d j (vs.take (j + 1)) (ks.take (j + 1)) none s (by simp; omega) (by simp; omega)]
  have a1 : (vs.take (j + 1)).take j = vs.take j := by rw [List.take_take, Nat.min_eq_left (by omega)]
  have a2 : (ks.take (j + 1)).take j = ks.take j := by rw [List.take_take, Nat.min_eq_left (by omega)]
  have a3 : (vs.take (j + 1)).drop j = [vs[j]] := by rw [List.take_succ_eq_append_getElem h1, List.drop_append, List.drop_of_length_le (by simp; omega)]; simp [Nat.min_eq_left (Nat.le_of_lt h1)]
  have a4 : (ks.take (j + 1)).drop j = [ks[j]] := by rw [List.take_succ_eq_append_getElem h2, List.drop_append, List.drop_of_length_le (by simp; omega)]; simp [Nat.min_eq_left (Nat.le_of_lt h2)]
  have a5 : prevKey j (ks.take (j + 1)) none = prevKey j ks none := by
    unfold prevKey
    split
    · rfl
    · rw [List.getElem?_take, if_pos (by omega)]
  rw [a1, a2, a3, a4, a5, Lk.entries_cons_ok V d _ _ _ _ _ _ h]
  simp [Lk.entries]

theorem still_of_quiet {P : Program} {w : World} {K : Act → Prop} {a : Act} {o : Oper} (h : o.quiet P a (fun w' => w' = w) K) : o.still P a w K := by
  obtain ⟨v, h1, h2⟩ := h
  have h3 := h1 w rfl
  unfold Oper.quietAt at h3
  unfold Oper.still
  generalize (execOp a.eval o).run P w = r at *
  cases r with
  | ok n w' =>
    cases n <;> simp only [Oper.quietUpon] at h3 <;> simp only [Oper.stillUpon]
    case value u => exact ⟨h3.1, by rw [h3.2]; exact h2⟩
    case skip => exact ⟨h3.1, by rw [← h3.2]; exact h2⟩
    case enter f args => exact ⟨h3.1, v, h3.2, h2⟩
  | halt h w' => simp [Oper.quietUpon] at h3
theorem wpStill_of_quiet {P : Program} {ops : Array Oper} {w : World} {Q : Act → Prop} : ∀ (l : List Oper) (a : Act), wpQuiet P ops (fun w' => w' = w) Q l a → wpStill P ops w Q l a
  | [], _, h => h
  | o :: rest, a, h => by
    unfold wpQuiet at h
    unfold wpStill
    split
    · rename_i hw
      rw [if_pos hw] at h
      refine Oper.still_mono (fun a' h' => wpStill_of_quiet rest a' h') (still_of_quiet h)
    · rename_i hw
      rw [if_neg hw] at h
      exact wpStill_of_quiet rest _ h
/-- A region that draws its order: a head that only reads, walked in the order of the text, and a tail in one order. -/
theorem wp_region_quiet_tail {P : Program} {id : Nat} {Q : Exit → Act → World → Prop} {a : Act} {w : World} {l : List Oper} (n : Nat) (hm : P.follows .mixedOrders = true) (hB : Region.lexTailB .any l.toArray n = true)
    (h : wpQuiet P l.toArray (fun w' => w' = w.drew) (fun a' => wpList P l.toArray Q (l.drop n) a' w.drew) (l.take n) a) : (Code.region id l.toArray true).wp P Q a w :=
  wp_region_still_tail n hm hB (wpStill_of_quiet _ _ h)
theorem LkAt.drew {b : Nat} {s : Lk} {w : World} (h : LkAt b s w) : LkAt b s w.drew := h
theorem grownBy_drew (w : World) (r : Option Nat) : w.grownBy w.drew r := ⟨rfl, rfl, rfl, Nat.le_refl _, fun _ _ _ => rfl⟩
end Go.Proofs.YtmjegeipnaalnaaGreatDoor

/- The look at one value: the walk through its body, its elements met by their own promise. -/
namespace Go.Proofs.YtmjegeipnaalnaaGreatDoor
open Go.RowKit
set_option maxRecDepth 100000 in
set_option maxHeartbeats 8000000 in
theorem value_go {T : World → Prop} {V : ByteArray → Bool} (hV : ValidC T V) (hTg : ∀ (w w' : World) (b : Nat), T w → 3 ≤ b → w.grownBy w' (some b) → T w') (B b : Nat) (hB : B ≤ b) (hb17 : 3 ≤ b) (s : Lk) (deep : Int) (w : World) (h : LkAt b s w) (h1 : 0 ≤ s.parts) (h2 : s.parts ≤ 400) 
   (k hh : Int) (t : ByteArray) (l : List JV) (ks : List ByteArray) (vs : List JV) (A1 A2 A3 : Option Addr) (n1 n2 n3 : Nat) (m1 m2 m3 : Nat) (hm1 : Hid (m1 = l.length)) (hm2 : Hid (m2 = ks.length)) (hm3 : Hid (m3 = vs.length)) (hbad : (s.part deep).bad = false) (hT : T w) (ht : t.size ≤ 140737488351232) (hs0 : 0 ≤ s.bytes)  (hd0 : 0 ≤ deep) (hd1 : deep ≤ 1000) (hJ1 : l.length = 0 ∨ ∃ b o, A1 = some ⟨b, o, none⟩ ∧ JCells w B l b o) (hJ2 : ks.length = 0 ∨ ∃ b o, A2 = some ⟨b, o, none⟩ ∧ SCells w B ks b o) (hJ3 : vs.length = 0 ∨ ∃ b o, A3 = some ⟨b, o, none⟩ ∧ JCells w B vs b o) (hsz1 : m1 ≤ 140737488351232) (hsz2 : m2 ≤ 140737488351232) (ihl : ∀ x ∈ l, ValueC V T x) (ihv : ∀ x ∈ vs, ValueC V T x) :
    Calls Tryz.prog 54 #[.pointer (some ⟨b, 0, none⟩), .agg #[.int .i64 k, .int .i64 hh, .string t, .slice A1 m1 n1, .slice A2 m2 n2, .slice A3 m3 n3], .int .i64 deep] w fun e w' => e = .returned (.tuple #[]) ∧ LkAt b (s.value V deep (.mk k hh t l ks vs)) w' ∧ w.grownBy w' (some b) := by
  have hs1 : s.bytes ≤ 2000 := by simp [Lk.part] at hbad; omega
  have hd60 : deep ≤ 60 := by simp [Lk.part] at hbad; omega
  have HV := Lib.hid hV
  have HTg := Lib.hid hTg
  have HL := Lib.hid ihl
  have HW := Lib.hid ihv
  have HJ1 := Lib.hid hJ1
  have HJ2 := Lib.hid hJ2
  have HJ3 := Lib.hid hJ3
  clear hV hTg ihl ihv hJ1 hJ2 hJ3
  go_enter Tryz.func54, Tryz.ntmps54
  have hlt := h.lt
  have hne : w.heap.size ≠ b := by omega
  have hA : LkAt b s (w.alloc (.cells #[.int .i64 k, .int .i64 hh, .string t, .slice A1 m1 n1, .slice A2 m2 n2, .slice A3 m3 n3] 26)) := h.other (World.grownBy_alloc w _ none) (by simp)
  have hX := heap_alloc_new w (.cells #[.int .i64 k, .int .i64 hh, .string t, .slice A1 m1 n1, .slice A2 m2 n2, .slice A3 m3 n3] 26)
  have hG := World.grownBy_alloc w (.cells #[.int .i64 k, .int .i64 hh, .string t, .slice A1 m1 n1, .slice A2 m2 n2, .slice A3 m3 n3] 26) (some b)
  go_upto_region 2 with (go_at_call 93; refine (part_walk b _ deep _ hA h1 (by omega)).mono ?_; rintro e w1 ⟨rfl, h3, g3⟩; have hX1 := blk_kept hX g3 (by simpa using hne); have hG1 := hG.trans g3; clear hX g3 hG hA)
  obtain ⟨x0, x1, x2, x3, x4, x5⟩ := box6 hX1
  go_cut [] (fun wx => LkAt b ((s.part deep).want (JV.mk k hh t l ks vs).headOk) wx ∧ w1.grownBy wx (some b))
  case first => as_aux_lemma =>
    obtain ⟨b0, e0⟩ : ∃ x, (hh == 0) = x := ⟨_, rfl⟩
    obtain ⟨b1, e1⟩ : ∃ x, ((m1 : Int) == 0) = x := ⟨_, rfl⟩
    obtain ⟨b2, e2⟩ : ∃ x, ((m2 : Int) == 0) = x := ⟨_, rfl⟩
    obtain ⟨b3, e3⟩ : ∃ x, ((m2 : Int) == (m3 : Int)) = x := ⟨_, rfl⟩
    obtain ⟨b4, e4⟩ : ∃ x, t.toList.isEmpty = x := ⟨_, rfl⟩
    have hd : (JV.mk k hh t l ks vs).headOk = (decide (0 ≤ k) && decide (k ≤ 6) && (k == 3 || b0) && (k == 4 || b4) && (k == 5 || b1) && (k == 6 || b2) && b3) := by
      simp only [JV.headOk, ← hm1.out, ← hm2.out, ← hm3.out, e0, e1, e2, e3, e4]
    have Hd := Lib.hid hd
    clear hd
    have cs : k < 0 ∨ 6 < k ∨ (0 ≤ k ∧ k ≤ 2) ∨ k = 3 ∨ k = 4 ∨ k = 5 ∨ k = 6 := by omega
    rcases cs with hk | hk | ⟨hk, hk'⟩ | hk | hk | hk | hk
    all_goals (try subst hk)
    all_goals
      go_wp2_with (go_at_call 94; refine (want_walk b _ _ _ h3).mono ?_; rintro e w2 ⟨rfl, h4, g4⟩)
      all_goals
        go_meet
        refine ⟨h4.want_eq ?_, g4⟩
        rw [Hd.out]
        simp [*]
        try omega
  case rest =>
    obtain ⟨h4, g4⟩ := hcut
    have hG2 := hG1.trans g4
    have hX2 := blk_kept hX1 g4 (by simpa using hne)
    clear x0 x1 x2 x3 x4 x5 hX1 g4 hG1 h3
    generalize HS1 : (s.part deep).want (JV.mk k hh t l ks vs).headOk = S1 at h4
    have HS1' := Lib.hid HS1
    clear HS1
    obtain ⟨x0, x1, x2, x3, x4, x5⟩ := box6 hX2
    go_upto_region 3 with (fail)
    go_cut [] (fun wx => LkAt b (S1.want (JV.mk k hh t l ks vs).halfOk) wx ∧ wc.grownBy wx (some b))
    case first => as_aux_lemma =>
      obtain ⟨b1, e1⟩ : ∃ x, (hh.tmod 2 == 0) = x := ⟨_, rfl⟩
      have hd : (JV.mk k hh t l ks vs).halfOk = (decide (-18014398509481984 ≤ hh) && decide (hh ≤ 18014398509481984) && (b1 || (decide (-9007199254740992 < hh) && decide (hh < 9007199254740992)))) := by
        simp only [JV.halfOk, ← e1]; rfl
      have Hd := Lib.hid hd
      clear hd
      have cs : hh < -18014398509481984 ∨ 18014398509481984 < hh ∨ (-18014398509481984 ≤ hh ∧ hh ≤ -9007199254740992) ∨ (-9007199254740992 < hh ∧ hh < 9007199254740992) ∨ (9007199254740992 ≤ hh ∧ hh ≤ 18014398509481984) := by omega
      rcases cs with hk | hk | ⟨hk, hk'⟩ | ⟨hk, hk'⟩ | ⟨hk, hk'⟩
      all_goals
        try (have e2 : (hh % 2 == 0) = b1 := by rw [← e1, Int.tmod_eq_emod_of_nonneg (by omega)])
        go_wp2_with (go_at_call 94; refine (want_walk b _ _ _ h4).mono ?_; rintro e w2 ⟨rfl, h5, g5⟩)
        all_goals
          go_meet
          refine ⟨h5.want_eq ?_, g5⟩
          rw [Hd.out]
          first
            | (simp [*]; done)
            | (simp [*]; omega)
            | (simp [*]; right; omega)
    case rest =>
      obtain ⟨h5, g5⟩ := hcut
      have hG3 := hG2.trans g5
      have hX3 := blk_kept hX2 g5 (by simpa using hne)
      clear x0 x1 x2 x3 x4 x5 hX2 g5 hG2 h4
      generalize HS2 : S1.want (JV.mk k hh t l ks vs).halfOk = S2 at h5
      have HS2' := Lib.hid HS2
      clear HS2
      obtain ⟨x0, x1, x2, x3, x4, x5⟩ := box6 hX3
      have hbytes : S2.bytes = s.bytes := by rw [← HS2'.out, ← HS1'.out]; rfl
      have hbd : 0 ≤ S2.bytes ∧ S2.bytes ≤ 1000000000000000 := by omega
      clear hbytes
      rename_i wd
      have hTd := HTg.out _ _ b hT hb17 hG3
      go_upto_block 0 with (go_at_call 95; refine (str_walk HV.out HTg.out b _ t _ h5 hb17 hTd hbd.1 hbd.2 ht).mono ?_; rintro e w2 ⟨rfl, h6, g6⟩; have hX4 := blk_kept hX3 g6 (by simpa using hne); have hG4 := hG3.trans g6; clear hX3 g6 hG3 hTd x0 x1 x2 x3 x4 x5; obtain ⟨x0, x1, x2, x3, x4, x5⟩ := box6 hX4)
      generalize HS3 : S2.str V t = S3 at h6
      have HI : Hid S3.Inv := by
        rw [← HS3, ← HS2'.out, ← HS1'.out]
        exact (((((show s.Inv from ⟨h1, hs0, fun _ => ⟨h2, hs1⟩⟩).part deep).want _).want _).str t)
      have HS3' := Lib.hid HS3
      clear HS3
      go_cut [6] (fun i wx => LkAt b (Lk.list V (deep + 1) l S3) wx ∧ w2.grownBy wx (some b))
      case first => as_aux_lemma =>
        go_wp2_with fail
        go_loopw [6] (fun i wr => ∃ j : Nat, j ≤ m1 ∧ i = .int .i64 j ∧ LkAt b (Lk.list V (deep + 1) (l.take j) S3) wr ∧ w2.grownBy wr (some b)) (fun i _ => m1 - (intOf i).toNat)
        case atStart => exact ⟨0, Nat.zero_le _, rfl, by simpa [Lk.list] using h6, grownBy_refl _ _⟩
        case round => as_aux_lemma =>
          obtain ⟨j, hj, rfl, hr, gr⟩ := hrel
          have hXr := blk_kept hX4 gr (by simpa using hne)
          obtain ⟨y0, y1, y2, y3, y4, y5⟩ := box6 hXr
          have hc2 := hr.c2
          have hGr := hG4.trans gr
          have hTr := HTg.out _ _ b hT hb17 hGr
          have hBr := below_of_grown hGr hB hlt
          generalize HSj : Lk.list V (deep + 1) (l.take j) S3 = Sj at hr hc2
          have HSj' := Lib.hid HSj
          have HGr := Lib.hid gr
          clear HSj gr
          by_cases hjm : j < m1
          · cases hbj : Sj.bad
            · rw [hbj] at hc2
              have hjl : j < l.length := by rw [← hm1.out]; exact hjm
              obtain ⟨b1, o1, rfl, hJC⟩ : ∃ b o, A1 = some ⟨b, o, none⟩ ∧ JCells w B l b o := by
                rcases HJ1.out with h0 | h0
                · omega
                · exact h0
              obtain ⟨hb1, c0, c1, c2, c3, c4, c5, hR, z0, z1, z2, z3, z4, z5⟩ := (JCells.below hBr (Nat.le_refl _) l b1 o1 hJC).at6 j hjl
              have hI : Sj.Inv := by rw [← HSj'.out]; exact Lk.Inv.list _ _ HI.out
              go_wp2_with (go_at_call 54; refine (HL.out l[j] (List.getElem_mem hjl) B b Sj (deep + 1) [c0, c1, c2, c3, c4, c5] _ hR hB hb17 hr hTr (by omega) (by omega) hI.1 (hI.2.2 hbj).1 hI.2.1 (by have := (hI.2.2 hbj).2; omega)).mono ?_; rintro e w3 ⟨rfl, h7, g7⟩)
              go_roundw
              case rel => exact ⟨j + 1, by omega, by go_num, by rw [Lk.list_take V _ l S3 j hjl (by rw [HSj'.out]; exact hbj), HSj'.out]; exact h7, (HGr.out).trans g7⟩
              case measure => simp [intOf]; omega
            · rw [hbj] at hc2
              go_wp2_with fail
              go_meet
              exact ⟨by rw [Lk.list_stop V _ l S3 j (by rw [HSj'.out]; exact hbj), HSj'.out]; exact hr, HGr.out⟩
          · have hje : l.take j = l := List.take_of_length_le (by rw [← hm1.out]; omega)
            go_wp2_with fail
            go_meet
            exact ⟨by rw [← hje, HSj'.out]; exact hr, HGr.out⟩
      case rest =>
        obtain ⟨h7, g7⟩ := hcut
        have hG5 := hG4.trans g7
        have hX5 := blk_kept hX4 g7 (by simpa using hne)
        clear x0 x1 x2 x3 x4 x5 hX4 g7 hG4 h6
        generalize HS4 : Lk.list V (deep + 1) l S3 = S4 at h7
        have HI4 : Hid S4.Inv := by rw [← HS4]; exact Lk.Inv.list _ _ HI.out
        have hlen : Hid (S4.bad = false → ks.length = vs.length) := by
          intro hb
          have q3 : S3.bad = false := by
            cases q : S3.bad with
            | false => rfl
            | true => rw [← HS4, Lk.list_sticky V _ l S3 q] at hb; cases hb
          have q2 : S2.bad = false := by
            rw [← HS3'.out] at q3
            simp [Lk.str] at q3
            exact q3.1
          rw [← HS2'.out] at q2
          simp [Lk.want] at q2
          have q1 := q2.1
          rw [← HS1'.out] at q1
          simp [Lk.want, JV.headOk] at q1
          omega
        have HFin : Hid (Lk.value V deep (JV.mk k hh t l ks vs) s = Lk.entries V (deep + 1) vs ks none S4) := by
          show Lk.value V deep (JV.mk k hh t l ks vs) s = _
          rw [← HS4, ← HS3'.out, ← HS2'.out, ← HS1'.out]
          simp only [Lk.value, hbad, Bool.false_eq_true, if_false]
        have HS4' := Lib.hid HS4
        clear HS4
        obtain ⟨x0, x1, x2, x3, x4, x5⟩ := box6 hX5
        obtain ⟨we, rfl⟩ : ∃ we : World, we = wc := ⟨_, rfl⟩
        go_wp2_with fail
        go_loopw [7] (fun i wr => ∃ j : Nat, j ≤ m2 ∧ i = .int .i64 j ∧ LkAt b (Lk.entries V (deep + 1) (vs.take j) (ks.take j) none S4) wr ∧ we.grownBy wr (some b)) (fun i _ => m2 - (intOf i).toNat)
        case atStart => exact ⟨0, Nat.zero_le _, rfl, by simpa [Lk.entries] using h7, grownBy_refl _ _⟩
        case round => as_aux_lemma =>
          obtain ⟨j, hj, rfl, hr, gr⟩ := hrel
          have hXr := blk_kept hX5 gr (by simpa using hne)
          obtain ⟨y0, y1, y2, y3, y4, y5⟩ := box6 hXr
          have hc2 := hr.c2
          have hGr := hG5.trans gr
          have hTr := HTg.out _ _ b hT hb17 hGr
          have hBr := below_of_grown hGr hB hlt
          generalize HSj : Lk.entries V (deep + 1) (vs.take j) (ks.take j) none S4 = Sj at hr hc2
          have HSj' := Lib.hid HSj
          have HGr := Lib.hid gr
          clear HSj gr
          by_cases hjm : j < m2
          · cases hbj : Sj.bad
            · rw [hbj] at hc2
              have hjl : j < ks.length := by rw [← hm2.out]; exact hjm
              obtain ⟨b1, o1, rfl, hJC⟩ : ∃ b o, A2 = some ⟨b, o, none⟩ ∧ SCells w B ks b o := by
                rcases HJ2.out with h0 | h0
                · omega
                · exact h0
              have hSC := SCells.below hBr (Nat.le_refl _) ks b1 o1 hJC
              obtain ⟨hb1, hkz, hkc⟩ := SCells.get ks b1 o1 hSC j hjl
              have hI : Sj.Inv := by rw [← HSj'.out]; exact Lk.Inv.entries _ _ _ _ HI4.out
              have hbb := hI.2.2 hbj
              have hIb := hI.2.1
              go_upto_region 13 with (go_at_call 95; refine (str_walk HV.out HTg.out b _ ks[j] _ hr hb17 hTr hIb (by omega) hkz).mono ?_; rintro e w3 ⟨rfl, h8, g8⟩)
              have hGr3 := hGr.trans g8
              have hX3 := blk_kept hXr g8 (by simpa using hne)
              have hB3 := below_of_grown hGr3 hB hlt
              have hT3 := HTg.out _ _ b hT hb17 hGr3
              have hSC3 := SCells.below hB3 (Nat.le_refl _) ks b1 o1 hJC
              clear y0 y1 y2 y3 y4 y5 hXr hTr hBr hc2 hr hGr hkc hkz hSC
              obtain ⟨y0, y1, y2, y3, y4, y5⟩ := box6 hX3
              obtain ⟨_, _, hkc⟩ := SCells.get ks b1 o1 hSC3 j hjl
              go_cut [] (fun wx => LkAt b ((Sj.str V ks[j]).want (prevOk (prevKey j ks none) ks[j])) wx ∧ w3.grownBy wx (some b))
              case first => as_aux_lemma =>
                by_cases hj0 : j = 0
                · subst hj0
                  clear HV HTg HL HW HJ1 HJ2 HJ3 hm1 hm2 hm3 HI hlen HS1' HS2' HS3' HS4' HSj' HI4 hbd hd60 hd0 hd1 ht hT
                  refine wp_region_quiet_tail 17 (by kernel_rfl) (by kernel_rfl) ?_
                  simp only [List.take_succ_cons, List.take_zero, List.drop_succ_cons, List.drop_zero]
                  repeat (go_big_quiet_step (fail))
                  refine wpQuiet_nil ?_
                  go_wp2_with (go_at_call 94; refine (want_walk b _ _ _ h8.drew).mono ?_; rintro e w4 ⟨rfl, h9, g9⟩)
                  go_meet
                  exact ⟨h9.want_eq rfl, (grownBy_drew w3 _).trans g9⟩
                · have hjp : 0 < j := by omega
                  have hjb : ((j : Int) == 0) = false := by simp; omega
                  obtain ⟨_, _, hkd⟩ := SCells.get ks b1 o1 hSC3 (j - 1) (by omega)
                  have e0 : prevOk (prevKey j ks none) ks[j] = keyLt (ks[j - 1]'(by omega)) ks[j] := by
                    unfold prevKey
                    rw [if_neg hj0, List.getElem?_eq_getElem (by omega)]
                    rfl
                  have E0 := Lib.hid e0
                  clear e0 hj0 HV HTg HL HW HJ1 HJ2 HJ3 hm1 hm2 hm3 HI hlen HS1' HS2' HS3' HS4' HSj' HI4 hbd hd60 hd0 hd1 ht hT
                  refine wp_region_quiet_tail 17 (by kernel_rfl) (by kernel_rfl) ?_
                  simp only [List.take_succ_cons, List.take_zero, List.drop_succ_cons, List.drop_zero]
                  repeat (go_big_quiet_step (fail))
                  refine wpQuiet_nil ?_
                  go_wp2_with (go_at_call 94; refine (want_walk b _ _ _ h8.drew).mono ?_; rintro e w4 ⟨rfl, h9, g9⟩)
                  go_meet
                  exact ⟨h9.want_eq E0.out, (grownBy_drew w3 _).trans g9⟩
              case rest =>
                obtain ⟨h9, g9⟩ := hcut
                have hGr4 := hGr3.trans g9
                have hX4 := blk_kept hX3 g9 (by simpa using hne)
                have hB4 := below_of_grown hGr4 hB hlt
                have hT4 := HTg.out _ _ b hT hb17 hGr4
                have hGw := HGr.out.trans (g8.trans g9)
                have hvl : j < vs.length := by
                  have q : S4.bad = false := by
                    cases q : S4.bad with
                    | false => rfl
                    | true => rw [← HSj'.out, Lk.entries_bad V _ _ _ _ S4 q, q] at hbj; cases hbj
                  rw [← hlen.out q]; exact hjl
                obtain ⟨b2, o2, rfl, hJV⟩ : ∃ b o, A3 = some ⟨b, o, none⟩ ∧ JCells w B vs b o := by
                  rcases HJ3.out with h0 | h0
                  · omega
                  · exact h0
                obtain ⟨hb2, c0, c1, c2, c3, c4, c5, hR, z0, z1, z2, z3, z4, z5⟩ := (JCells.below hB4 (Nat.le_refl _) vs b2 o2 hJV).at6 j hvl
                have HGw := Lib.hid hGw
                clear y0 y1 y2 y3 y4 y5 hX3 hT3 hB3 h8 g8 g9 hkc hGw hSC3
                obtain ⟨y0, y1, y2, y3, y4, y5⟩ := box6 hX4
                have hStep := Lk.entries_take V (deep + 1) vs ks S4 j hvl hjl (by rw [HSj'.out]; exact hbj)
                rw [HSj'.out] at hStep
                have HStep := Lib.hid hStep
                clear hStep
                generalize HS5 : (Sj.str V ks[j]).want (prevOk (prevKey j ks none) ks[j]) = S5 at h9
                have HS5' := Lib.hid HS5
                clear HS5
                have hjm3 : j < m3 := by rw [hm3.out]; exact hvl
                have hI5 : S5.Inv := by rw [← HS5'.out]; exact (hI.str _).want _
                have hp5 : S5.parts ≤ 400 ∧ S5.bytes ≤ 200000000000000 := by
                  have e1 : S5.parts = Sj.parts := by rw [← HS5'.out]; rfl
                  have e2 : S5.bytes = Sj.bytes + (ks[j]).size := by rw [← HS5'.out]; rfl
                  have := hbb; omega
                go_wp2_with (go_at_call 54; refine (HW.out vs[j] (List.getElem_mem hvl) B b S5 (deep + 1) [c0, c1, c2, c3, c4, c5] _ hR hB hb17 h9 hT4 (by omega) (by omega) hI5.1 hp5.1 hI5.2.1 hp5.2).mono ?_; rintro e w5 ⟨rfl, h10, g10⟩)
                go_roundw
                case rel => exact ⟨j + 1, by omega, by go_num, by rw [HStep.out, HS5'.out]; exact h10, HGw.out.trans g10⟩
                case measure => simp [intOf]; omega
            · rw [hbj] at hc2
              have hfin : Lk.value V deep (JV.mk k hh t l ks vs) s = Sj := by
                rw [HFin.out]
                cases q : S4.bad with
                | true => rw [← HSj'.out, Lk.entries_bad V _ _ _ _ S4 q, Lk.entries_bad V _ _ _ _ S4 q]
                | false => rw [Lk.entries_stop V _ vs ks none S4 j (by rw [← hlen.out q, ← hm2.out]; omega) (by rw [← hm2.out]; omega) (by rw [HSj'.out]; exact hbj), HSj'.out]
              have HF := Lib.hid hfin
              have HGw := Lib.hid hGr
              clear hfin hGr
              go_wp2_with fail
              go_end0
              exact ⟨rfl, by rw [HF.out]; exact hr, HGw.out⟩
          · have hfin : Lk.value V deep (JV.mk k hh t l ks vs) s = Sj := by
              rw [HFin.out]
              cases q : S4.bad with
              | true => rw [← HSj'.out, Lk.entries_bad V _ _ _ _ S4 q, Lk.entries_bad V _ _ _ _ S4 q]
              | false => rw [← HSj'.out, List.take_of_length_le (by rw [← hlen.out q, ← hm2.out]; omega), List.take_of_length_le (by rw [← hm2.out]; omega)]
            have HF := Lib.hid hfin
            have HGw := Lib.hid hGr
            clear hfin hGr
            go_wp2_with fail
            go_end0
            exact ⟨rfl, by rw [HF.out]; exact hr, HGw.out⟩
end Go.Proofs.YtmjegeipnaalnaaGreatDoor

/- DERIVED: THE SHELF's CONTRACTS AT THIS DUMP, IN PLAIN WORDS (tools/lay-plain.mjs out of 'YtmjegeipnaalnaaGreatDoorShelf.lean', which tools/lay-shelf.mjs wrote): THE SAME DECLARATIONS UNDER THE SAME NAMES: 'import', 'namespace', 'open', 'def', 'theorem' AND NOTHING ELSE: no command of the shelf's: FOR A HAND-IN. Each laying: the table of numbers ('.._ren') and one theorem, a field a fact of the dump's own or the kernel's comparison; each contract: ONE APPLICATION. -/
namespace Go.Proofs
open Go.Shelf
def Tryz.laysValid_ren : Go.Shelf.Ren := ⟨fun | 196 => 181 | 259 => 229 | n => n, fun | 9 => 9 | 4 => 4 | 3 => 3 | 5 => 5 | 12 => 12 | 119 => 248 | 0 => 0 | 46 => 104 | 139 => 251 | 138 => 250 | 53 => 215 | n => n, fun | 3 => 1 | 4 => 2 | n => n⟩
theorem Tryz.laysValid : Go.Proofs.Lays.n196 Tryz.prog Tryz.laysValid_ren := {
  mixed := by kernel_rfl
  f196 := Tryz.func181.trans (congrArg some (by kernel_rfl))
  f259 := Tryz.func229.trans (congrArg some (by kernel_rfl))
  t0 := Tryz.underlying0
  a0 := Tryz.isAgg0
  z0 := Tryz.sizeOf0
  v0 := Tryz.zeroValue0
  t3 := Tryz.underlying3
  a3 := Tryz.isAgg3
  z3 := Tryz.sizeOf3
  v3 := Tryz.zeroValue3
  t4 := Tryz.underlying4
  a4 := Tryz.isAgg4
  z4 := Tryz.sizeOf4
  v4 := Tryz.zeroValue4
  t5 := Tryz.underlying5
  a5 := Tryz.isAgg5
  z5 := Tryz.sizeOf5
  v5 := Tryz.zeroValue5
  t9 := Tryz.underlying9
  a9 := Tryz.isAgg9
  z9 := Tryz.sizeOf9
  v9 := Tryz.zeroValue9
  t12 := Tryz.underlying12
  a12 := Tryz.isAgg12
  z12 := Tryz.sizeOf12
  v12 := Tryz.zeroValue12
  t46 := Tryz.underlying104
  a46 := Tryz.isAgg104
  z46 := Tryz.sizeOf104
  v46 := Tryz.zeroValue104
  t53 := Tryz.underlying215
  a53 := Tryz.isAgg215
  z53 := Tryz.sizeOf215
  v53 := Tryz.zeroValue215
  t119 := Tryz.underlying248
  a119 := Tryz.isAgg248
  z119 := Tryz.sizeOf248
  t138 := Tryz.underlying250
  a138 := Tryz.isAgg250
  z138 := Tryz.sizeOf250
  v138 := Tryz.zeroValue250
  t139 := Tryz.underlying251
  a139 := Tryz.isAgg251
  z139 := Tryz.sizeOf251
  v139 := Tryz.zeroValue251
  g3 := by kernel_rfl
  g4 := by kernel_rfl }
end Go.Proofs

/- The look at a value, for every value; and Fit: whether a value is a right one is told by a plain function, and nothing that was there turns. -/
namespace Go.Proofs.YtmjegeipnaalnaaGreatDoor
open Go.RowKit

mutual
theorem JV.ind {P : JV → Prop} (h : ∀ k hh t l ks vs, (∀ x ∈ l, P x) → (∀ x ∈ vs, P x) → P (.mk k hh t l ks vs)) : ∀ v, P v
  | .mk k hh t l ks vs => h k hh t l ks vs (JV.indL h l) (JV.indL h vs)
theorem JV.indL {P : JV → Prop} (h : ∀ k hh t l ks vs, (∀ x ∈ l, P x) → (∀ x ∈ vs, P x) → P (.mk k hh t l ks vs)) : ∀ (l : List JV), ∀ x ∈ l, P x
  | [], _, hx => by simp at hx
  | y :: r, x, hx => (List.mem_cons.1 hx).elim (fun e => e ▸ JV.ind h y) (fun hx' => JV.indL h r x hx')
end

set_option maxRecDepth 100000 in
set_option maxHeartbeats 1000000 in
theorem value_early {V : ByteArray → Bool} (b : Nat) (s : Lk) (deep : Int) (w : World) (h : LkAt b s w) (h1 : 0 ≤ s.parts) (h2 : s.parts ≤ 400) (c0 c1 c2 c3 c4 c5 : Value) (v : JV) (hbad : (s.part deep).bad = true) :
    Calls Tryz.prog 54 #[.pointer (some ⟨b, 0, none⟩), .agg #[c0, c1, c2, c3, c4, c5], .int .i64 deep] w fun e w' => e = .returned (.tuple #[]) ∧ LkAt b (s.value V deep v) w' ∧ w.grownBy w' (some b) := by
  have e : s.value V deep v = s.part deep := by cases v; simp only [Lk.value, hbad, if_true]
  have E := Lib.hid e
  have hA : LkAt b s (w.alloc (.cells #[c0, c1, c2, c3, c4, c5] 26)) := h.other (World.grownBy_alloc w _ none) (by simp)
  have hG := World.grownBy_alloc w (.cells #[c0, c1, c2, c3, c4, c5] 26) (some b)
  clear e
  go_enter Tryz.func54, Tryz.ntmps54
  go_wp2_with (go_at_call 93; refine (part_walk b _ deep _ hA h1 (by omega)).mono ?_; rintro e w1 ⟨rfl, h3, g3⟩)
  exact bodyPost_ret (v := .tuple #[]) (by simp [results, Tryz.results54, go_sem]) rfl ⟨rfl, by rw [E.out]; exact h3, hG.trans g3⟩

theorem value_all {T : World → Prop} {V : ByteArray → Bool} (hV : ValidC T V) (hTg : ∀ (w w' : World) (b : Nat), T w → 3 ≤ b → w.grownBy w' (some b) → T w') : ∀ v, ValueC V T v := by
  refine JV.ind fun k hh t l ks vs ihl ihv => ?_
  intro B b s deep cs w hR hB hb17 h hT hd0 hd1 hp0 hp1 hy0 hy1
  unfold JRep at hR
  obtain ⟨_, _, ht, vl, vk, vv, rfl, ⟨A1, n1, rfl, _, hc1, hJ1⟩, ⟨A2, n2, rfl, _, hc2, hJ2⟩, ⟨A3, n3, rfl, _, hc3, hJ3⟩⟩ := hR
  cases hbad : (s.part deep).bad with
  | true => exact value_early b s deep w h hp0 hp1 _ _ _ _ _ _ _ hbad
  | false => exact value_go hV hTg B b hB hb17 s deep w h hp0 hp1 k hh t l ks vs A1 A2 A3 n1 n2 n3 _ _ _ rfl rfl rfl hbad hT ht hy0 hd0 hd1 hJ1 hJ2 hJ3 (by omega) (by omega) ihl ihv

/-- The library's tables of UTF-8 lie where the program's text lays them. -/
def Tabs (w : World) : Prop := Lib.Utf8Tabs 1 2 w
def validB (s : ByteArray) : Bool := Lib.validD s.data.toList
theorem Tabs.lt {w : World} (h : Tabs w) : 2 < w.heap.size := by
  have := (h.2 0 (by omega)).1
  exact block_lt_of_cell this
theorem Tabs.grown {w w' : World} {r : Option Nat} (h : Tabs w) (hr : r ≠ some 1) (hr2 : r ≠ some 2) (hg : w.grownBy w' r) : Tabs w' := by
  refine ⟨fun c hc => ?_, fun i hi => ⟨?_, ?_⟩⟩
  · exact hg.cell (h.1 c hc) (fun e => hr e.symm)
  · exact hg.cell (h.2 i hi).1 (fun e => hr2 e.symm)
  · exact hg.cell (h.2 i hi).2 (fun e => hr2 e.symm)
theorem validC : ValidC Tabs validB := fun s w hs hT => Any.utf8_ValidString Tryz.laysValid s w (by omega) hT

/-- Whether a value is one of JSON: a plain function. -/
def fitB (v : JV) : Bool := !(Lk.value validB 0 v ⟨0, 0, false⟩).bad

theorem value_walk (v : JV) : ValueC validB Tabs v :=
  value_all validC (fun w w' b hT hb hg => hT.grown (by simp; omega) (by simp; omega) hg) v

/-- A value in six cells, as it is handed on. -/
def JVal (w : World) (B : Nat) (v : JV) (x : Value) : Prop := ∃ c0 c1 c2 c3 c4 c5, x = .agg #[c0, c1, c2, c3, c4, c5] ∧ JRep w B v [c0, c1, c2, c3, c4, c5]
theorem JVal.below {w w' : World} {B B' : Nat} {v : JV} {x : Value} (h : JVal w B v x) (hb : Below B w w') (hB : B ≤ B') : JVal w' B' v x := by
  obtain ⟨c0, c1, c2, c3, c4, c5, rfl, hr⟩ := h
  exact ⟨c0, c1, c2, c3, c4, c5, rfl, hr.below hb hB⟩

theorem JVal.laid {w : World} {B : Nat} {k h : Int} {t : ByteArray} {l vs : List JV} {ks : List ByteArray} {x : Value} (hv : JVal w B (.mk k h t l ks vs) x) :
    ∃ vl vk vv, x = .agg #[.int .i64 k, .int .i64 h, .string t, vl, vk, vv] ∧ I64 k ∧ I64 h ∧ t.size ≤ 140737488351232 ∧ SlOf l.length 104 (JCells w B l) vl ∧ SlOf ks.length 16 (SCells w B ks) vk ∧ SlOf vs.length 104 (JCells w B vs) vv := by
  obtain ⟨c0, c1, c2, c3, c4, c5, rfl, hr⟩ := hv
  unfold JRep at hr
  obtain ⟨hk, hh, ht, vl, vk, vv, hcs, h1, h2, h3⟩ := hr
  simp only [List.cons.injEq, and_true] at hcs
  obtain ⟨e0, e1, e2, e3, e4, e5⟩ := hcs
  exact ⟨vl, vk, vv, by rw [e0, e1, e2, e3, e4, e5], hk, hh, ht, h1, h2, h3⟩
theorem JVal.mk' {w : World} {B : Nat} {k h : Int} {t : ByteArray} {l vs : List JV} {ks : List ByteArray} {vl vk vv : Value} (hk : I64 k) (hh : I64 h) (ht : t.size ≤ 140737488351232)
    (h1 : SlOf l.length 104 (JCells w B l) vl) (h2 : SlOf ks.length 16 (SCells w B ks) vk) (h3 : SlOf vs.length 104 (JCells w B vs) vv) : JVal w B (.mk k h t l ks vs) (.agg #[.int .i64 k, .int .i64 h, .string t, vl, vk, vv]) :=
  ⟨_, _, _, _, _, _, rfl, by unfold JRep; exact ⟨hk, hh, ht, vl, vk, vv, rfl, h1, h2, h3⟩⟩

set_option maxHeartbeats 1000000 in
theorem Fit_walk (v : JV) (x : Value) (w : World) (hv : JVal w w.heap.size v x) (hT : Tabs w) :
    Calls Tryz.prog 30 #[x] w fun e w' => e = .returned (.bool (fitB v)) ∧ Below w.heap.size w w' := by
  obtain ⟨c0, c1, c2, c3, c4, c5, rfl, hr⟩ := hv
  have hlt := hT.lt
  obtain ⟨w1, hw1⟩ : ∃ w1, w1 = (w.alloc (.cells #[c0, c1, c2, c3, c4, c5] 26)).alloc (.cells #[.int .i64 0, .int .i64 0, .bool false] 65) := ⟨_, rfl⟩
  have hbl : Below w.heap.size w w1 := by
    rw [hw1]
    exact ((Below.refl _ _).alloc (Nat.le_refl _) _).alloc (by simp) _
  have hL : LkAt (w.heap.size + 1) ⟨0, 0, false⟩ w1 := by rw [hw1]; exact heap_alloc2_new w _ _
  have hR1 := hr.below hbl (Nat.le_refl _)
  have hT1 : Tabs w1 := hT.grown (r := none) (by simp) (by simp) (grownBy_below hbl none)
  have c := value_walk v w.heap.size (w.heap.size + 1) ⟨0, 0, false⟩ 0 [c0, c1, c2, c3, c4, c5] w1 hR1 (by omega) (by omega) hL hT1 (by omega) (by omega) (by simp) (by simp) (by simp) (by simp)
  rw [hw1] at c
  have C := Lib.hid c
  have HB := Lib.hid hbl
  have HW1 := Lib.hid hw1
  clear c hbl hw1 hL hR1 hT1 hT hr
  go_enter Tryz.func30, Tryz.ntmps30
  go_wp2_with (go_at_call 54; refine C.out.mono ?_; rintro e w2 ⟨rfl, h2, g2⟩; have hc2 := h2.c2)
  go_ret
  refine ⟨rfl, ?_⟩
  have hb2 := HB.out
  rw [HW1.out] at hb2
  exact hb2.trans ⟨g2.os, g2.tape, g2.output, g2.size, fun k hk => g2.block k (by simp; omega) (by simp; omega)⟩
end Go.Proofs.YtmjegeipnaalnaaGreatDoor

/- An argument of the thin package's value type, read as data, is one of our trees: its cells read as it. -/
namespace Go.Proofs.YtmjegeipnaalnaaGreatDoor
open Go.RowKit Go.ChangeShapes Go.WideShapes

theorem cells26 : Tryz.prog.cellsOf 26 = 6 := by kernel_rfl
theorem cells23 : Tryz.prog.cellsOf 23 = 1 := by kernel_rfl
theorem cells24 : Tryz.prog.cellsOf 24 = 1 := by kernel_rfl
theorem cells22 : Tryz.prog.cellsOf 22 = 1 := by kernel_rfl
theorem cells3 : Tryz.prog.cellsOf 3 = 1 := by kernel_rfl
theorem cells9 : Tryz.prog.cellsOf 9 = 1 := by kernel_rfl
theorem bytes26 : Tryz.prog.bytesOf 26 = 104 := by kernel_rfl
theorem bytes9 : Tryz.prog.bytesOf 9 = 16 := by kernel_rfl
instance : Inhabited JV := ⟨.mk 0 0 ⟨#[]⟩ [] [] []⟩

theorem spot_of_cell {w : World} {a : Addr} {v : Value} (h : w.cell? a = some v) : a.spot = none := by
  unfold World.cell? at h
  split at h
  · split at h
    · cases h
    · rename_i hs
      cases hq : a.spot with
      | none => rfl
      | some q => rw [hq] at hs; simp at hs
  · cases h

theorem JCells_of {w : World} {B b : Nat} : ∀ (l : List JV) (o : Nat), (∀ i (hi : i < l.length), b < B ∧ ∃ cs, JRep w B l[i] cs ∧ ∀ j, j < 6 → w.cell? ⟨b, o + i * 6 + j, none⟩ = cs[j]?) → JCells w B l b o
  | [], _, _ => by unfold JCells; trivial
  | x :: r, o, h => by
    unfold JCells
    obtain ⟨h1, cs, h2, h3⟩ := h 0 (by simp)
    refine ⟨h1, ⟨cs, h2, fun j hj => by have := h3 j hj; rwa [show o + 0 * 6 + j = o + j by omega] at this⟩, JCells_of r (o + 6) fun i hi => ?_⟩
    obtain ⟨h4, cs', h5, h6⟩ := h (i + 1) (by simpa using hi)
    exact ⟨h4, cs', h5, fun j hj => by have := h6 j hj; rwa [show o + (i + 1) * 6 + j = o + 6 + i * 6 + j by omega] at this⟩
theorem SCells_of {w : World} {B b : Nat} : ∀ (l : List ByteArray) (o : Nat), (∀ i (hi : i < l.length), b < B ∧ l[i].size ≤ 140737488351232 ∧ w.cell? ⟨b, o + i, none⟩ = some (.string l[i])) → SCells w B l b o
  | [], _, _ => by unfold SCells; trivial
  | x :: r, o, h => by
    unfold SCells
    obtain ⟨h1, h2, h3⟩ := h 0 (by simp)
    refine ⟨h1, h2, h3, SCells_of r (o + 1) fun i hi => ?_⟩
    obtain ⟨h4, h5, h6⟩ := h (i + 1) (by simpa using hi)
    exact ⟨h4, h5, by rw [show o + 1 + i = o + (i + 1) by omega]; exact h6⟩

theorem wf_i64 {n : Int} (h : (Lit.int .i64 n).wf = true) : I64 n := by
  simp [Lit.wf, IntKind.min, IntKind.max, IntKind.signed, IntKind.bits] at h
  exact ⟨by omega, by omega⟩

section
variable {H : Type} {enc : TypeId × Value → H} {w : World}

theorem weightsAll_mem {P : Program} {e : TypeId} : ∀ (l : List (DataW H)) (d : DataW H), d ∈ l → (DataW.weightsAll P e l).all (· ≤ reachBytes) = true → (d.weights P e).all (· ≤ reachBytes) = true
  | [], _, h, _ => by simp at h
  | x :: r, d, h, hw => by
    simp only [DataW.weightsAll, List.all_append, Bool.and_eq_true] at hw
    rcases List.mem_cons.1 h with rfl | h
    · exact hw.1
    · exact weightsAll_mem r d h hw.2

set_option maxRecDepth 100000 in
theorem string_reach {s : ByteArray} (h : (DataW.weights Tryz.prog 9 (.lit (.string s.data.toList) : DataW H)).all (· ≤ reachBytes) = true) : s.size ≤ 140737488351232 := by
  simp only [DataW.weights, List.all_cons, List.all_nil, Bool.and_true, decide_eq_true_eq] at h
  have e : reachBytes = 140737488351232 := rfl
  have e2 : s.data.toList.length = s.size := Array.length_toList
  omega

set_option maxRecDepth 100000 in
/-- A slice of strings. -/
theorem open_keys {fuel : Nat} {c : Value} {x : DataW H × List MemPlace} (h : DataW.trod enc Tryz.prog w 0 (fun _ => true) true fuel 24 [c] = some x) (hw : (x.1.weights Tryz.prog 24).all (· ≤ reachBytes) = true) :
    ∃ ks : List ByteArray, SlOf ks.length 16 (SCells w w.heap.size ks) c := by
  rcases Deep.open_slice Tryz.underlying24 h with ⟨hc, rfl⟩ | ⟨a, len, cap, m, n, D, Pl, hc, _, hl, _, hm, rfl, hx⟩
  · simp only [List.cons.injEq, and_true] at hc
    subst hc
    exact ⟨[], none, 0, rfl, by simp, by simp, .inl rfl⟩
  · simp only [List.cons.injEq, and_true] at hc
    subst hc
    simp only [if_true] at hm
    subst hm
    simp only [DataW.weights, Tryz.underlying24, List.all_cons, List.all_append, Bool.and_eq_true, List.length_map, List.length_range, bytes9, decide_eq_true_eq] at hw
    obtain ⟨hw1, hw2, _⟩ := hw
    rw [cells9] at hx
    have hel : ∀ i, i < len → ∃ s : ByteArray, s.size ≤ 140737488351232 ∧ w.cell? (a.add i) = some (.string s) := fun i hi => by
      obtain ⟨cs', h1, h2⟩ := hx i (by omega)
      obtain ⟨_, h3, h4⟩ := World.cells?_some h1
      obtain ⟨s, hs, hd, _⟩ := DataW.trod_string Tryz.underlying9 h2
      simp only [Prod.mk.injEq] at hd
      refine ⟨s, string_reach (H := H) ?_, ?_⟩
      · rw [← hd.1]
        exact weightsAll_mem _ _ (List.mem_map.2 ⟨i, by simpa using hi, rfl⟩) hw2
      · have := h4 0 (by omega)
        rw [hs, Deep.add_add] at this
        simpa using this
    obtain ⟨f, hf⟩ := Deep.choose_lt (α := ByteArray) hel
    refine ⟨(List.range len).map f, some a, m, by simp, by simpa using hl, ?_, ?_⟩
    · have : reachBytes = 140737488351232 := rfl
      simp only [List.length_map, List.length_range]
      omega
    · by_cases h0 : len = 0
      · left; simpa using h0
      · right
        have hsp := spot_of_cell (hf 0 (by omega)).2
        obtain ⟨b, o, sp⟩ := a
        have hsp' : sp = none := by simpa [Addr.add] using hsp
        subst hsp'
        refine ⟨b, o, rfl, SCells_of _ o fun i hi => ?_⟩
        have hi' : i < len := by simpa using hi
        obtain ⟨h1, h2⟩ := hf i hi'
        have ha : (⟨b, o, none⟩ : Addr).add i = ⟨b, o + i, none⟩ := by unfold Addr.add; split <;> simp_all
        rw [ha] at h2
        exact ⟨block_lt_of_cell h2, by simpa using h1, by simpa using h2⟩

set_option maxRecDepth 100000 in
/-- A slice of values, its elements met by a promise for less fuel. -/
theorem open_list {fuel : Nat} (ih : ∀ m, m < fuel → ∀ (cs : List Value) (x : DataW H × List MemPlace), DataW.trod enc Tryz.prog w 0 (fun _ => true) true m 26 cs = some x → (x.1.weights Tryz.prog 26).all (· ≤ reachBytes) = true → ∃ v : JV, JRep w w.heap.size v cs)
    {c : Value} {x : DataW H × List MemPlace} (h : DataW.trod enc Tryz.prog w 0 (fun _ => true) true fuel 23 [c] = some x) (hw : (x.1.weights Tryz.prog 23).all (· ≤ reachBytes) = true) :
    ∃ l : List JV, SlOf l.length 104 (JCells w w.heap.size l) c := by
  obtain ⟨fuel', rfl⟩ : ∃ f, fuel = f + 1 := by
    cases fuel with
    | zero => simp [DataW.trod] at h
    | succ f => exact ⟨f, rfl⟩
  have hfuel : ∀ n', n' ≤ fuel' → n' < fuel' + 1 := fun _ h => Nat.lt_succ_of_le h
  rcases DataW.trod_slice Tryz.underlying23 h with ⟨hc, rfl⟩ | ⟨a, len, cap, elems, rest, n, hn, hc, rfl, _, hl, _, hel, hx, hsp, _⟩
  · simp only [List.cons.injEq, and_true] at hc
    subst hc
    exact ⟨[], none, 0, rfl, by simp, by simp, .inl rfl⟩
  · simp only [List.cons.injEq, and_true] at hc
    subst hc
    obtain rfl : fuel' = n := Nat.succ.inj hn
    obtain ⟨hr, _⟩ := hsp rfl
    simp only [DataW.weights, Tryz.underlying23, List.all_cons, List.all_append, Bool.and_eq_true, List.length_map, bytes26, decide_eq_true_eq] at hw
    obtain ⟨hw1, hw2, _⟩ := hw
    rw [cells26] at hx
    have hv : ∀ i, i < len → ∃ v : JV, ∃ cs', JRep w w.heap.size v cs' ∧ ∀ j, j < 6 → w.cell? (a.add (i * 6 + j)) = cs'[j]? := fun i hi => by
      have hxi := hx i hi
      obtain ⟨cs', h1, h2⟩ := Option.bind_eq_some_iff.1 (hxi.trans (List.getElem?_eq_getElem (by omega : i < elems.length)))
      obtain ⟨_, _, h4⟩ := World.cells?_some h1
      obtain ⟨v, hv⟩ := ih fuel' (by omega) cs' _ h2 (weightsAll_mem _ _ (List.mem_map.2 ⟨elems[i]'(by omega), List.getElem_mem _, rfl⟩) hw2)
      exact ⟨v, cs', hv, fun j hj => by rw [← Deep.add_add]; exact h4 j hj⟩
    obtain ⟨f, hf⟩ := Deep.choose_lt (α := JV) hv
    refine ⟨(List.range len).map f, some a, cap, by simp, by simpa using hl, ?_, ?_⟩
    · have e : reachBytes = 140737488351232 := rfl
      have : elems.length + rest.length = cap := by omega
      rw [this] at hw1
      simp only [List.length_map, List.length_range]
      omega
    · by_cases h0 : len = 0
      · left; simpa using h0
      · right
        obtain ⟨cs0, hr0, hc0⟩ := hf 0 (by omega)
        obtain ⟨z0, _, _, _, _, _, rfl⟩ := hr0.six
        have hsp := spot_of_cell (hc0 0 (by omega))
        obtain ⟨b, o, sp⟩ := a
        have hsp' : sp = none := by simpa [Addr.add] using hsp
        subst hsp'
        refine ⟨b, o, rfl, JCells_of _ o fun i hi => ?_⟩
        have hi' : i < len := by simpa using hi
        obtain ⟨cs', h1, h2⟩ := hf i hi'
        have ha : ∀ k, (⟨b, o, none⟩ : Addr).add k = ⟨b, o + k, none⟩ := fun k => by unfold Addr.add; split <;> simp_all
        have hlt : b < w.heap.size := block_lt_of_cell (a := ⟨b, o + 0, none⟩) (by rw [← ha 0]; exact hc0 0 (by omega))
        refine ⟨hlt, cs', by simpa using h1, fun j hj => ?_⟩
        have := h2 j hj
        rwa [ha, ← Nat.add_assoc] at this

set_option maxRecDepth 100000 in
theorem open_val : ∀ (fuel : Nat) (cs : List Value) (x : DataW H × List MemPlace), DataW.trod enc Tryz.prog w 0 (fun _ => true) true fuel 26 cs = some x → (x.1.weights Tryz.prog 26).all (· ≤ reachBytes) = true →
    ∃ v : JV, JRep w w.heap.size v cs := by
  intro fuel
  induction fuel using Nat.strongRecOn with
  | _ fuel ih =>
    intro cs x h hw
    obtain ⟨xs, n, rfl, rfl, hlen, hxs, hf⟩ := DataW.trod_struct Tryz.underlying26 h
    rw [cells26] at hlen
    match cs, hlen, xs, hxs with
    | [c0, c1, c2, c3, c4, c5], _, [x0, x1, x2, x3, x4, x5], _ =>
      have f0 : DataW.trod enc Tryz.prog w 0 (fun _ => true) true n 22 [c0] = some x0 := by
        have g : DataW.trod enc Tryz.prog w 0 (fun _ => true) true n 22 (([c0, c1, c2, c3, c4, c5].drop 0).take (Tryz.prog.cellsOf 22)) = some x0 := hf 0 _ rfl
        rw [cells22] at g; exact g
      have f1 : DataW.trod enc Tryz.prog w 0 (fun _ => true) true n 3 [c1] = some x1 := by
        have g : DataW.trod enc Tryz.prog w 0 (fun _ => true) true n 3 (([c0, c1, c2, c3, c4, c5].drop 1).take (Tryz.prog.cellsOf 3)) = some x1 := hf 1 _ rfl
        rw [cells3] at g; exact g
      have f2 : DataW.trod enc Tryz.prog w 0 (fun _ => true) true n 9 [c2] = some x2 := by
        have g : DataW.trod enc Tryz.prog w 0 (fun _ => true) true n 9 (([c0, c1, c2, c3, c4, c5].drop 2).take (Tryz.prog.cellsOf 9)) = some x2 := hf 2 _ rfl
        rw [cells9] at g; exact g
      have f3 : DataW.trod enc Tryz.prog w 0 (fun _ => true) true n 23 [c3] = some x3 := by
        have g : DataW.trod enc Tryz.prog w 0 (fun _ => true) true n 23 (([c0, c1, c2, c3, c4, c5].drop 3).take (Tryz.prog.cellsOf 23)) = some x3 := hf 3 _ rfl
        rw [cells23] at g; exact g
      have f4 : DataW.trod enc Tryz.prog w 0 (fun _ => true) true n 24 [c4] = some x4 := by
        have g : DataW.trod enc Tryz.prog w 0 (fun _ => true) true n 24 (([c0, c1, c2, c3, c4, c5].drop 4).take (Tryz.prog.cellsOf 24)) = some x4 := hf 4 _ rfl
        rw [cells24] at g; exact g
      have f5 : DataW.trod enc Tryz.prog w 0 (fun _ => true) true n 23 [c5] = some x5 := by
        have g : DataW.trod enc Tryz.prog w 0 (fun _ => true) true n 23 (([c0, c1, c2, c3, c4, c5].drop 5).take (Tryz.prog.cellsOf 23)) = some x5 := hf 5 _ rfl
        rw [cells23] at g; exact g
      simp only [DataW.weights, Tryz.underlying26, DataW.weightsEach, List.map_cons, List.map_nil, List.all_append, Bool.and_eq_true] at hw
      obtain ⟨k, hk, _, wk⟩ := DataW.trod_int Tryz.underlying22 f0
      obtain ⟨hh, hhh, _, wh⟩ := DataW.trod_int Tryz.underlying3 f1
      obtain ⟨t, ht, hxt, _⟩ := DataW.trod_string Tryz.underlying9 f2
      obtain ⟨l, hl⟩ := open_list (fun m hm => ih m (by omega)) f3 hw.2.2.2.1
      obtain ⟨ks, hks⟩ := open_keys f4 hw.2.2.2.2.1
      obtain ⟨vs, hvs⟩ := open_list (fun m hm => ih m (by omega)) f5 hw.2.2.2.2.2.1
      simp only [List.cons.injEq, and_true] at hk hhh ht
      subst hk hhh ht
      refine ⟨.mk k hh t l ks vs, ?_⟩
      unfold JRep
      refine ⟨wf_i64 wk, wf_i64 wh, ?_, c3, c4, c5, rfl, hl, hks, hvs⟩
      rw [hxt] at hw
      exact string_reach (H := H) hw.2.2.1

/-- An argument as data: one of our trees. -/
theorem open_arg {v : Value} {d : DataW H} {p : List MemPlace} (h : ∃ fuel, DataW.trod enc Tryz.prog w 0 (fun _ => true) true fuel 26 v.cells.toList = some (d, p)) (hw : (d.weights Tryz.prog 26).all (· ≤ reachBytes) = true) :
    ∃ t : JV, JVal w w.heap.size t v := by
  obtain ⟨fuel, h⟩ := h
  obtain ⟨t, ht⟩ := open_val fuel _ _ h hw
  obtain ⟨c0, c1, c2, c3, c4, c5, e⟩ := ht.six
  refine ⟨t, c0, c1, c2, c3, c4, c5, ?_, by rw [← e]; exact ht⟩
  cases v with
  | agg cs =>
    have e' : cs.toList = [c0, c1, c2, c3, c4, c5] := e
    rw [← e', Array.toArray_toList]
  | _ => simp [Value.cells] at e
end
end Go.Proofs.YtmjegeipnaalnaaGreatDoor
