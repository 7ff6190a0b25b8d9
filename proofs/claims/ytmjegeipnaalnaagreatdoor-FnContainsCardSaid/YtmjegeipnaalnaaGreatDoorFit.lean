/- The look at a value: counters behind a pointer; the small steps. -/
import Derived.Test.YtmjegeipnaalnaaGreatDoorRep
import Derived.Outline
import Derived.Lib.Hide
namespace Go.Proofs.YtmjegeipnaalnaaGreatDoor
open Go.RowKit

/-- What a looker holds: how many parts, how many bytes, whether something is bad. -/
structure Lk where
  parts : Int
  bytes : Int
  bad : Bool
def LkAt (b : Nat) (s : Lk) (w : World) : Prop := w.heap[b]? = some (.cells #[.int .i64 s.parts, .int .i64 s.bytes, .bool s.bad] 65 (0, 0))
theorem LkAt.c0 {b : Nat} {s : Lk} {w : World} (h : LkAt b s w) : w.cell? ⟨b, 0, none⟩ = some (.int .i64 s.parts) := by unfold LkAt at h; simp [World.cell?, h]
theorem LkAt.c1 {b : Nat} {s : Lk} {w : World} (h : LkAt b s w) : w.cell? ⟨b, 1, none⟩ = some (.int .i64 s.bytes) := by unfold LkAt at h; simp [World.cell?, h]
theorem LkAt.c2 {b : Nat} {s : Lk} {w : World} (h : LkAt b s w) : w.cell? ⟨b, 2, none⟩ = some (.bool s.bad) := by unfold LkAt at h; simp [World.cell?, h]
theorem LkAt.fz {b : Nat} {s : Lk} {w : World} (h : LkAt b s w) (i : Nat) : w.frozen? ⟨b, i, none⟩ = false := by unfold LkAt at h; simp [World.frozen?, h]
theorem LkAt.lt {b : Nat} {s : Lk} {w : World} (h : LkAt b s w) : b < w.heap.size := (Array.getElem?_eq_some_iff.1 h).1
theorem LkAt.set0 {b : Nat} {s : Lk} {w : World} (h : LkAt b s w) (p : Int) : LkAt b { s with parts := p } (w.setCell ⟨b, 0, none⟩ (.int .i64 p)) := by unfold LkAt at *; rw [heap_setCell_same w b 0 _ _ _ h]; rfl
theorem LkAt.set1 {b : Nat} {s : Lk} {w : World} (h : LkAt b s w) (p : Int) : LkAt b { s with bytes := p } (w.setCell ⟨b, 1, none⟩ (.int .i64 p)) := by unfold LkAt at *; rw [heap_setCell_same w b 1 _ _ _ h]; rfl
theorem LkAt.set2 {b : Nat} {s : Lk} {w : World} (h : LkAt b s w) (p : Bool) : LkAt b { s with bad := p } (w.setCell ⟨b, 2, none⟩ (.bool p)) := by unfold LkAt at *; rw [heap_setCell_same w b 2 _ _ _ h]; rfl
theorem grownBy_set (w : World) (b i : Nat) (v : Value) : w.grownBy (w.setCell ⟨b, i, none⟩ v) (some b) :=
  ⟨rfl, rfl, rfl, by simp [World.setCell], fun k _ hk => Below.heap_setCell _ _ _ _ (fun e => hk (by rw [e]))⟩
theorem grownBy_refl (w : World) (r : Option Nat) : w.grownBy w r := ⟨rfl, rfl, rfl, Nat.le_refl _, fun _ _ _ => rfl⟩
theorem LkAt.other {b : Nat} {s : Lk} {w w' : World} {r : Option Nat} (h : LkAt b s w) (hg : w.grownBy w' r) (hr : r ≠ some b) : LkAt b s w' := by
  unfold LkAt at *; rw [hg.block b (LkAt.lt h) (fun e => hr e.symm)]; exact h

def Lk.want (s : Lk) (ok : Bool) : Lk := { s with bad := s.bad || !ok }
def Lk.part (s : Lk) (deep : Int) : Lk := { parts := s.parts + 1, bytes := s.bytes, bad := s.bad || !(decide (s.parts + 1 ≤ 400) && decide (s.bytes ≤ 2000) && decide (deep ≤ 60)) }

set_option maxHeartbeats 400000 in
theorem want_walk (b : Nat) (s : Lk) (ok : Bool) (w : World) (h : LkAt b s w) :
    Calls Tryz.prog 94 #[.pointer (some ⟨b, 0, none⟩), .bool ok] w fun e w' => e = .returned (.tuple #[]) ∧ LkAt b (s.want ok) w' ∧ w.grownBy w' (some b) := by
  have hf := h.fz 2
  have hc := h.c2
  obtain ⟨p, y, bad⟩ := s
  cases bad
  all_goals
    simp only at hc
    go_enter Tryz.func94, Tryz.ntmps94
    go_wp2
    go_end0
    exact ⟨rfl, h.set2 _, grownBy_set _ _ _ _⟩

set_option maxHeartbeats 400000 in
theorem part_walk (b : Nat) (s : Lk) (deep : Int) (w : World) (h : LkAt b s w) (h1 : 0 ≤ s.parts) (h2 : s.parts ≤ 1000000) :
    Calls Tryz.prog 93 #[.pointer (some ⟨b, 0, none⟩), .int .i64 deep] w fun e w' => e = .returned (.bool !(s.part deep).bad) ∧ LkAt b (s.part deep) w' ∧ w.grownBy w' (some b) := by
  have hf := h.fz 0
  have hc0 := h.c0
  have hc1 := h.c1
  have hs := h.set0 (s.parts + 1)
  have hg := grownBy_set w b 0 (.int .i64 (s.parts + 1))
  have e0 : ∀ ok, (decide (s.parts + 1 ≤ 400) && decide (s.bytes ≤ 2000) && decide (deep ≤ 60)) = ok → ({ s with parts := s.parts + 1 } : Lk).want ok = s.part deep := fun ok e => by subst e; rfl
  by_cases hp : s.parts + 1 ≤ 400
  · by_cases hb : s.bytes ≤ 2000
    · by_cases hd : deep ≤ 60
      · have e1 := Lib.hid (e0 true (by simp [hp, hb, hd]))
        clear e0
        go_enter Tryz.func93, Tryz.ntmps93
        go_wp2_with (go_at_call 94; refine (want_walk b _ true _ hs).mono ?_; rintro e w2 ⟨rfl, h3, g3⟩; rw [e1.out] at h3; have hc2 := h3.c2)
        go_ret
        exact ⟨rfl, h3, hg.trans g3⟩
      · have e1 := Lib.hid (e0 false (by simp [hd]))
        clear e0
        go_enter Tryz.func93, Tryz.ntmps93
        go_wp2_with (go_at_call 94; refine (want_walk b _ false _ hs).mono ?_; rintro e w2 ⟨rfl, h3, g3⟩; rw [e1.out] at h3; have hc2 := h3.c2)
        go_ret
        exact ⟨rfl, h3, hg.trans g3⟩
    · have e1 := Lib.hid (e0 false (by simp [hb]))
      clear e0
      go_enter Tryz.func93, Tryz.ntmps93
      go_wp2_with (go_at_call 94; refine (want_walk b _ false _ hs).mono ?_; rintro e w2 ⟨rfl, h3, g3⟩; rw [e1.out] at h3; have hc2 := h3.c2)
      go_ret
      exact ⟨rfl, h3, hg.trans g3⟩
  · have e1 := Lib.hid (e0 false (by simp [hp]))
    clear e0
    go_enter Tryz.func93, Tryz.ntmps93
    go_wp2_with (go_at_call 94; refine (want_walk b _ false _ hs).mono ?_; rintro e w2 ⟨rfl, h3, g3⟩; rw [e1.out] at h3; have hc2 := h3.c2)
    go_ret
    exact ⟨rfl, h3, hg.trans g3⟩

/-- What is asked of the library: whether a string is valid UTF-8 is told by some function, and nothing that was there turns. -/
def ValidC (T : World → Prop) (V : ByteArray → Bool) : Prop :=
  ∀ (s : ByteArray) (w : World), s.size ≤ 140737488351232 → T w → Calls Tryz.prog 181 #[.string s] w fun e w' => e = .returned (.bool (V s)) ∧ Below w.heap.size w w'
def Lk.str (V : ByteArray → Bool) (s : Lk) (t : ByteArray) : Lk := { parts := s.parts, bytes := s.bytes + t.size, bad := s.bad || !(decide (s.bytes + t.size ≤ 2000) && V t) }
theorem grownBy_below {w w' : World} (h : Below w.heap.size w w') (r : Option Nat) : w.grownBy w' r := ⟨h.os, h.tape, h.output, h.size, fun k hk _ => h.block k hk⟩

set_option maxHeartbeats 400000 in
theorem str_walk {T : World → Prop} {V : ByteArray → Bool} (hV : ValidC T V) (hTg : ∀ (w w' : World) (b : Nat), T w → 3 ≤ b → w.grownBy w' (some b) → T w') (b : Nat) (s : Lk) (t : ByteArray) (w : World) (h : LkAt b s w) (hb17 : 3 ≤ b) (hT : T w)
    (h1 : 0 ≤ s.bytes) (h2 : s.bytes ≤ 1000000000000000) (ht : t.size ≤ 140737488351232) :
    Calls Tryz.prog 95 #[.pointer (some ⟨b, 0, none⟩), .string t] w fun e w' => e = .returned (.tuple #[]) ∧ LkAt b (s.str V t) w' ∧ w.grownBy w' (some b) := by
  have hf := h.fz 1
  have hc1 := h.c1
  have hs := h.set1 (s.bytes + t.size)
  have hg := grownBy_set w b 1 (.int .i64 (s.bytes + t.size))
  have hT1 := hTg _ _ b hT hb17 hg
  have e0 : ∀ ok, (decide (s.bytes + t.size ≤ 2000) && V t) = ok → ({ s with bytes := s.bytes + t.size } : Lk).want ok = s.str V t := fun ok e => by subst e; rfl
  have HV := Lib.hid hV
  clear hV hTg
  by_cases hb : s.bytes + t.size ≤ 2000
  · have e1 := Lib.hid (e0 (V t) (by simp [hb]))
    clear e0
    go_enter Tryz.func95, Tryz.ntmps95
    go_wp2_with (first | (go_at_call 181; refine (HV.out t _ ht hT1).mono ?_; rintro e w1 ⟨rfl, b1⟩; have hs1 := hs.other (grownBy_below b1 none) (by simp)) | (go_at_call 94; refine (want_walk b _ (V t) _ hs1).mono ?_; rintro e w2 ⟨rfl, h3, g3⟩; rw [e1.out] at h3))
    go_end0
    exact ⟨rfl, h3, (hg.trans (grownBy_below b1 _)).trans g3⟩
  · have e1 := Lib.hid (e0 false (by simp [hb]))
    clear e0
    go_enter Tryz.func95, Tryz.ntmps95
    go_wp2_with (go_at_call 94; refine (want_walk b _ false _ hs).mono ?_; rintro e w2 ⟨rfl, h3, g3⟩; rw [e1.out] at h3)
    go_end0
    exact ⟨rfl, h3, hg.trans g3⟩

def JV.headOk : JV → Bool
  | .mk k h t l ks vs => decide (0 ≤ k) && decide (k ≤ 6) && (k == 3 || h == 0) && (k == 4 || t.toList.isEmpty) && (k == 5 || (l.length : Int) == 0) && (k == 6 || (ks.length : Int) == 0) && (ks.length : Int) == (vs.length : Int)
def JV.halfOk : JV → Bool
  | .mk _ h _ _ _ _ => decide (-18014398509481984 ≤ h) && decide (h ≤ 18014398509481984) && (decide (h.tmod 2 = 0) || (decide (-9007199254740992 < h) && decide (h < 9007199254740992)))
def keyLt (a b : ByteArray) : Bool := Op.bytesLess a.toList b.toList
def prevOk (p : Option ByteArray) (k : ByteArray) : Bool := match p with | none => true | some q => keyLt q k
mutual
/-- What the look at a value does to the counters. -/
def Lk.value (V : ByteArray → Bool) (deep : Int) : JV → Lk → Lk
  | .mk k h t l ks vs, s => if (s.part deep).bad then s.part deep else
      Lk.entries V (deep + 1) vs ks none (Lk.list V (deep + 1) l ((((s.part deep).want (JV.mk k h t l ks vs).headOk).want (JV.mk k h t l ks vs).halfOk).str V t))
def Lk.list (V : ByteArray → Bool) (deep : Int) : List JV → Lk → Lk
  | [], s => s
  | x :: r, s => if s.bad then s else Lk.list V deep r (Lk.value V deep x s)
def Lk.entries (V : ByteArray → Bool) (deep : Int) : List JV → List ByteArray → Option ByteArray → Lk → Lk
  | [], _, _, s => s
  | x :: r, ks, p, s => match ks with
    | [] => s
    | k :: ks => if s.bad then s else Lk.entries V deep r ks (some k) (Lk.value V deep x ((s.str V k).want (prevOk p k)))
end
end Go.Proofs.YtmjegeipnaalnaaGreatDoor
