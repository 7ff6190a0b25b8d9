/- FnSetApart: its walk: what is done in whatever order, as states. -/
import Derived.Test.YtmjegeipnaalnaaGreatDoorGrImplC
import Derived.Deep.RegionHeld3
namespace Go.Proofs.YtmjegeipnaalnaaGreatDoor
open Go.RowKit

section
variable {P : Program} {ops : Array Oper} {Q : Exit → Act → World → Prop} {md : Region.Mode} {S : World → Prop}
/-- Operations that may come up in whatever order, told by states: each step leads from a state to a state; behind the last one the rest is shown. -/
theorem wpAnyH_states {σ : Type} (m : σ → Nat) (k : Nat) (L : σ → Array Bool) (A : Act → σ → Act) (a0 : Act) (J : σ → World → Prop) (hS : ∀ s w, J s w → S w)
    (hne : ∀ s w, J s w → m s ≠ 0 → ∃ i, i ∈ Region.ready md ops (L s))
    (hstep : ∀ s w i, J s w → m s ≠ 0 → i ∈ Region.ready md ops (L s) → wpOp P ops Q i (fun a' w' => ∃ s', m s' + 1 = m s ∧ L s' = (L s).setIfInBounds i true ∧ A a0 s' = a' ∧ J s' w') (A a0 s) w)
    (hdone : ∀ s w, J s w → m s = 0 → wpAnyH P md ops Q S k (L s) (A a0 s) w) : ∀ (n : Nat) (s : σ) (w : World), m s = n → J s w → wpAnyH P md ops Q S (n + k) (L s) (A a0 s) w
  | 0, s, w, hn, hJ => by rw [Nat.zero_add]; exact hdone s w hJ hn
  | n + 1, s, w, hn, hJ => by
    rw [show n + 1 + k = (n + k) + 1 by omega]
    refine ⟨fun h0 => ?_, fun i hi => ?_⟩
    · obtain ⟨i, hi⟩ := hne s w hJ (by omega)
      rw [h0] at hi; cases hi
    · refine wpOp_mono (fun a' w' h => ?_) (hstep s w i hJ (by omega) hi)
      obtain ⟨s', h1, h2, h3, h4⟩ := h
      refine ⟨hS s' w' h4, ?_⟩
      rw [← h2, ← h3]
      exact wpAnyH_states m k L A a0 J hS hne hstep hdone n s' w' (by omega) h4
theorem wpAnyH_start {σ : Type} (m : σ → Nat) (k : Nat) (L : σ → Array Bool) (A : Act → σ → Act) {a0 : Act} {fuel : Nat} {listed : Array Bool} {w : World} (J : σ → World → Prop) (mk : Act → σ) (hf : m (mk a0) + k = fuel) (hL : L (mk a0) = listed) (hA : A a0 (mk a0) = a0) (hJ : J (mk a0) w) (hS : ∀ s w, J s w → S w)
    (hne : ∀ s w, J s w → m s ≠ 0 → ∃ i, i ∈ Region.ready md ops (L s))
    (hstep : ∀ s w i, J s w → m s ≠ 0 → i ∈ Region.ready md ops (L s) → wpOp P ops Q i (fun a' w' => ∃ s', m s' + 1 = m s ∧ L s' = (L s).setIfInBounds i true ∧ A a0 s' = a' ∧ J s' w') (A a0 s) w)
    (hdone : ∀ s w, J s w → m s = 0 → wpAnyH P md ops Q S k (L s) (A a0 s) w) : wpAnyH P md ops Q S fuel listed a0 w := by
  have h := wpAnyH_states m k L A a0 J hS hne hstep hdone (m (mk a0)) (mk a0) w rfl hJ
  rw [hf, hL, hA] at h
  exact h
end

section
variable {P : Program} {ops : Array Oper} {Q : Exit → Act → World → Prop} {md : Region.Mode} {S : World → Prop}
/-- An operation is taken first, the slot that it writes named. -/
theorem takeH (i d : Nat) (v : Value) {oi : Oper} {fuel : Nat} {listed : Array Bool} {T : Array Value} {D : List Deferred} {w : World} (hi : ops[i]? = some oi) (hd : oi.dst = some d)
    (hs : Region.noSelect ops = true) (hf : Region.free md ops listed i = true) (hr : (Region.ready md ops listed).contains i = true)
    (hQ : ∀ c a w, Q (.panic c) (a.put oi.dst v) w → Q (.panic c) a w) (hw : Region.wanted oi (yielded ops T) = true) (hS : S w) (hy : ∀ w, S w → (execOp (Act.eval ⟨T, D⟩) oi).run P w = .ok (.value v) w)
    (h : wpAnyH P md ops Q S fuel (listed.setIfInBounds i true) ⟨T.setIfInBounds d v, D⟩ w) : wpAnyH P md ops Q S (fuel + 1) listed ⟨T, D⟩ w :=
  wpAnyH_take hi hs hf hr hQ (Or.inl ⟨hw, hy⟩) hS (by rw [hd]; exact h)
/-- An operation that its guard leaves out. -/
theorem skipH (i d : Nat) {oi : Oper} {fuel : Nat} {listed : Array Bool} {T : Array Value} {D : List Deferred} {w : World} (hi : ops[i]? = some oi) (hd : oi.dst = some d)
    (hs : Region.noSelect ops = true) (hf : Region.free md ops listed i = true) (hr : (Region.ready md ops listed).contains i = true)
    (hQ : ∀ c a w, Q (.panic c) (a.put oi.dst undef) w → Q (.panic c) a w) (hw : Region.wanted oi (yielded ops T) = false) (hS : S w)
    (h : wpAnyH P md ops Q S fuel (listed.setIfInBounds i true) ⟨T.setIfInBounds d undef, D⟩ w) : wpAnyH P md ops Q S (fuel + 1) listed ⟨T, D⟩ w :=
  wpAnyH_take hi hs hf hr hQ (Or.inr ⟨hw, rfl⟩) hS (by rw [hd]; exact h)
end

/-- A new answer's box. -/
def zero7 : Obj := .cells #[.int .i64 0, .int .i64 0, .string ⟨#[]⟩, .slice none 0 0, .slice none 0 0, .slice none 0 0, .int .i64 0] 34 (0, 0)
/-- How two settings stand: which of their six steps are done, and what they have left. -/
structure Two where
  b1 : Bool
  b2 : Bool
  b3 : Bool
  b4 : Bool
  c1 : Bool
  c2 : Bool
  p1 : Value
  p2 : Value
  a1 : Value
  r1 : Value
  a2 : Value
  r2 : Value
def Two.left (s : Two) : Nat := (if s.b1 then 0 else 1) + (if s.b2 then 0 else 1) + (if s.b3 then 0 else 1) + (if s.b4 then 0 else 1) + (if s.c1 then 0 else 1) + (if s.c2 then 0 else 1)
/-- An answer that is held. -/
def ResAt (ro : Option JV) (B : Nat) (w : World) (p1 p2 u : Value) : Prop :=
  (∃ r c0 c1 c2 c3 c4 c5, ro = some r ∧ u = .agg #[c0, c1, c2, c3, c4, c5, .int .i64 0] ∧ JRepS w (fun k => B ≤ k ∧ k < w.heap.size ∧ p1 ≠ .pointer (some ⟨k, 0, none⟩) ∧ p2 ≠ .pointer (some ⟨k, 0, none⟩)) r [c0, c1, c2, c3, c4, c5]) ∨ (ro = none ∧ u = errR)
/-- A box that is there. -/
def BoxAt (B : Nat) (w : World) (p : Value) : Prop := ∃ g, p = .pointer (some ⟨g, 0, none⟩) ∧ B ≤ g ∧ w.heap[g]? = some zero7
structure TwoInv (wc : World) (A1 A2 : Value) (o1 o2 : Option JV) (s : Two) (w : World) : Prop where
  below : Below wc.heap.size wc w
  u1 : s.c1 = false → s.p1 = undef
  u2 : s.c2 = false → s.p2 = undef
  x1 : s.c1 = true → BoxAt wc.heap.size w s.p1
  x2 : s.c2 = true → BoxAt wc.heap.size w s.p2
  ne : s.c1 = true → s.c2 = true → s.p1 ≠ s.p2
  g1 : s.b1 = true → s.a1 = A1
  g2 : s.b3 = true → s.a2 = A2
  r1 : s.b2 = true → ResAt o1 wc.heap.size w s.p1 s.p2 s.r1
  r2 : s.b4 = true → ResAt o2 wc.heap.size w s.p1 s.p2 s.r2
  s1 : s.b2 = true → s.b1 = true
  s2 : s.b3 = true → s.b2 = true
  s3 : s.b4 = true → s.b3 = true

theorem ResAt.grow {ro : Option JV} {B : Nat} {w w' : World} {p1 p2 u : Value} (h : ResAt ro B w p1 p2 u) (hb : Below w.heap.size w w') : ResAt ro B w' p1 p2 u := by
  rcases h with ⟨r, c0, c1, c2, c3, c4, c5, h1, h2, h3⟩ | h
  · exact .inl ⟨r, c0, c1, c2, c3, c4, c5, h1, h2, JRepS.mono (fun b hb2 => hb.block b hb2.2.1) (fun b hb2 => ⟨hb2.1, by have := hb.size; have := hb2.2.1; omega, hb2.2.2⟩) r _ h3⟩
  · exact .inr h
theorem BoxAt.grow {B : Nat} {w w' : World} {p : Value} (h : BoxAt B w p) (hb : Below w.heap.size w w') : BoxAt B w' p := by
  obtain ⟨g, h1, h2, h3⟩ := h
  exact ⟨g, h1, h2, (hb.block g (Array.getElem?_eq_some_iff.1 h3).1).trans h3⟩
theorem BoxAt.lt {B : Nat} {w : World} {p : Value} (h : BoxAt B w p) : ∃ g, p = .pointer (some ⟨g, 0, none⟩) ∧ g < w.heap.size := by
  obtain ⟨g, h1, h2, h3⟩ := h
  exact ⟨g, h1, (Array.getElem?_eq_some_iff.1 h3).1⟩
theorem TwoInv.grow {wc w w' : World} {A1 A2 : Value} {o1 o2 : Option JV} {s : Two} (h : TwoInv wc A1 A2 o1 o2 s w) (hb : Below w.heap.size w w') : TwoInv wc A1 A2 o1 o2 s w' :=
  ⟨h.below.trans (hb.mono h.below.size), h.u1, h.u2, fun e => (h.x1 e).grow hb, fun e => (h.x2 e).grow hb, h.ne, h.g1, h.g2, fun e => (h.r1 e).grow hb, fun e => (h.r2 e).grow hb, h.s1, h.s2, h.s3⟩
theorem TwoInv.arr1 {wc w : World} {A1 A2 : Value} {o1 o2 : Option JV} {s : Two} (h : TwoInv wc A1 A2 o1 o2 s w) : TwoInv wc A1 A2 o1 o2 { s with b1 := true, a1 := A1 } w :=
  ⟨h.below, h.u1, h.u2, h.x1, h.x2, h.ne, fun _ => rfl, h.g2, h.r1, h.r2, fun _ => rfl, h.s2, h.s3⟩
theorem TwoInv.arr2 {wc w : World} {A1 A2 : Value} {o1 o2 : Option JV} {s : Two} (h : TwoInv wc A1 A2 o1 o2 s w) (hb : s.b2 = true) : TwoInv wc A1 A2 o1 o2 { s with b3 := true, a2 := A2 } w :=
  ⟨h.below, h.u1, h.u2, h.x1, h.x2, h.ne, h.g1, fun _ => rfl, h.r1, h.r2, h.s1, fun _ => hb, fun _ => rfl⟩
/-- A fresh answer is beside the boxes that are there. -/
theorem resAt_new {wc w w' : World} {A1 A2 : Value} {o1 o2 ro : Option JV} {s : Two} {u : Value} (h : TwoInv wc A1 A2 o1 o2 s w) (hr : SetR ro w.heap.size w' (.returned u)) : ResAt ro wc.heap.size w' s.p1 s.p2 u := by
  have hw := h.below.size
  have q1 : ∀ b, w.heap.size ≤ b → s.p1 ≠ .pointer (some ⟨b, 0, none⟩) := fun b hb e => by
    cases hc : s.c1 with
    | false => rw [h.u1 hc] at e; cases e
    | true =>
      obtain ⟨g, h1, h2⟩ := (h.x1 hc).lt
      rw [h1] at e
      simp at e <;> omega
  have q2 : ∀ b, w.heap.size ≤ b → s.p2 ≠ .pointer (some ⟨b, 0, none⟩) := fun b hb e => by
    cases hc : s.c2 with
    | false => rw [h.u2 hc] at e; cases e
    | true =>
      obtain ⟨g, h1, h2⟩ := (h.x2 hc).lt
      rw [h1] at e
      simp at e <;> omega
  rcases hr with ⟨r, c0, c1, c2, c3, c4, c5, h1, h2, h3⟩ | ⟨h1, h2⟩
  · exact .inl ⟨r, c0, c1, c2, c3, c4, c5, h1, by simpa using h2, JRepS.mono (fun _ _ => rfl) (fun b hb => ⟨by have := hb.1; omega, hb.2, q1 b hb.1, q2 b hb.1⟩) r _ h3⟩
  · exact .inr ⟨h1, by simpa using h2⟩
theorem TwoInv.res1 {wc w w' : World} {A1 A2 : Value} {o1 o2 : Option JV} {s : Two} {u : Value} (h : TwoInv wc A1 A2 o1 o2 s w) (hb1 : s.b1 = true) (hr : SetR o1 w.heap.size w' (.returned u)) (hb : Below w.heap.size w w') : TwoInv wc A1 A2 o1 o2 { s with b2 := true, r1 := u } w' := by
  have g := h.grow hb
  have hn := resAt_new h hr
  exact ⟨g.below, g.u1, g.u2, g.x1, g.x2, g.ne, g.g1, g.g2, fun _ => hn, g.r2, fun _ => hb1, fun _ => rfl, g.s3⟩
theorem TwoInv.res2 {wc w w' : World} {A1 A2 : Value} {o1 o2 : Option JV} {s : Two} {u : Value} (h : TwoInv wc A1 A2 o1 o2 s w) (hb3 : s.b3 = true) (hr : SetR o2 w.heap.size w' (.returned u)) (hb : Below w.heap.size w w') : TwoInv wc A1 A2 o1 o2 { s with b4 := true, r2 := u } w' := by
  have g := h.grow hb
  have hn := resAt_new h hr
  exact ⟨g.below, g.u1, g.u2, g.x1, g.x2, g.ne, g.g1, g.g2, g.r1, fun _ => hn, g.s1, g.s2, fun _ => hb3⟩
theorem ResAt.box1 {ro : Option JV} {B : Nat} {w : World} {p1 p2 u : Value} (h : ResAt ro B w p1 p2 u) : ResAt ro B (w.alloc zero7) (.pointer (some ⟨w.heap.size, 0, none⟩)) p2 u := by
  rcases h with ⟨r, c0, c1, c2, c3, c4, c5, h1, h2, h3⟩ | h
  · refine .inl ⟨r, c0, c1, c2, c3, c4, c5, h1, h2, JRepS.mono (fun b hb2 => heap_alloc_old w _ hb2.2.1) (fun b hb2 => ⟨hb2.1, by have := hb2.2.1; simp; omega, fun e => ?_, hb2.2.2.2⟩) r _ h3⟩
    have := hb2.2.1
    simp at e <;> omega
  · exact .inr h
theorem ResAt.box2 {ro : Option JV} {B : Nat} {w : World} {p1 p2 u : Value} (h : ResAt ro B w p1 p2 u) : ResAt ro B (w.alloc zero7) p1 (.pointer (some ⟨w.heap.size, 0, none⟩)) u := by
  rcases h with ⟨r, c0, c1, c2, c3, c4, c5, h1, h2, h3⟩ | h
  · refine .inl ⟨r, c0, c1, c2, c3, c4, c5, h1, h2, JRepS.mono (fun b hb2 => heap_alloc_old w _ hb2.2.1) (fun b hb2 => ⟨hb2.1, by have := hb2.2.1; simp; omega, hb2.2.2.1, fun e => ?_⟩) r _ h3⟩
    have := hb2.2.1
    simp at e <;> omega
  · exact .inr h
theorem TwoInv.box1 {wc w : World} {A1 A2 : Value} {o1 o2 : Option JV} {s : Two} (h : TwoInv wc A1 A2 o1 o2 s w) : TwoInv wc A1 A2 o1 o2 { s with c1 := true, p1 := .pointer (some ⟨w.heap.size, 0, none⟩) } (w.alloc zero7) := by
  have hb := (Below.refl w.heap.size w).alloc (Nat.le_refl _) zero7
  have g := h.grow hb
  refine ⟨g.below, fun e => (by cases e), g.u2, fun _ => ⟨w.heap.size, rfl, h.below.size, heap_alloc_new w _⟩, g.x2, fun _ e2 e => ?_, g.g1, g.g2, fun e => (h.r1 e).box1, fun e => (h.r2 e).box1, g.s1, g.s2, g.s3⟩
  obtain ⟨k, h1, h2⟩ := (h.x2 e2).lt
  have e' : Value.pointer (some ⟨w.heap.size, 0, none⟩) = s.p2 := e
  rw [h1] at e'
  simp at e' <;> omega
theorem TwoInv.box2 {wc w : World} {A1 A2 : Value} {o1 o2 : Option JV} {s : Two} (h : TwoInv wc A1 A2 o1 o2 s w) : TwoInv wc A1 A2 o1 o2 { s with c2 := true, p2 := .pointer (some ⟨w.heap.size, 0, none⟩) } (w.alloc zero7) := by
  have hb := (Below.refl w.heap.size w).alloc (Nat.le_refl _) zero7
  have g := h.grow hb
  refine ⟨g.below, g.u1, fun e => (by cases e), g.x1, fun _ => ⟨w.heap.size, rfl, h.below.size, heap_alloc_new w _⟩, fun e2 _ e => ?_, g.g1, g.g2, fun e => (h.r1 e).box2, fun e => (h.r2 e).box2, g.s1, g.s2, g.s3⟩
  obtain ⟨k, h1, h2⟩ := (h.x1 e2).lt
  have e' : s.p1 = Value.pointer (some ⟨w.heap.size, 0, none⟩) := e
  rw [h1] at e'
  simp at e' <;> omega
theorem TwoInv.start {wc : World} (A1 A2 : Value) (o1 o2 : Option JV) (a1 r1 a2 r2 : Value) : TwoInv wc A1 A2 o1 o2 ⟨false, false, false, false, false, false, undef, undef, a1, r1, a2, r2⟩ wc :=
  ⟨Below.refl _ _, fun _ => rfl, fun _ => rfl, fun e => (by cases e), fun e => (by cases e), fun e => (by cases e), fun e => (by cases e), fun e => (by cases e), fun e => (by cases e), fun e => (by cases e), fun e => (by cases e), fun e => (by cases e), fun e => (by cases e)⟩
theorem TwoInv.full {s : Two} (h : s.left = 0) : s.b1 = true ∧ s.b2 = true ∧ s.b3 = true ∧ s.b4 = true ∧ s.c1 = true ∧ s.c2 = true := by
  obtain ⟨b1, b2, b3, b4, c1, c2, _⟩ := s
  unfold Two.left at h
  cases b1 <;> cases b2 <;> cases b3 <;> cases b4 <;> cases c1 <;> cases c2 <;> simp_all
end Go.Proofs.YtmjegeipnaalnaaGreatDoor
