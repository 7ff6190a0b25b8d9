/- FnSetApart: the plain law, and an answer held against the tree that it is. FnSetApart: two settings in whatever order: what lies there when all is done. A store of an answer into a new answer's box: the operation's law. -/
import Derived.Test.YtmjegeipnaalnaaGreatDoorGrZz35
import Derived.Test.YtmjegeipnaalnaaGreatDoorGrApA

/- FnSetApart: the plain law, and an answer held against the tree that it is. -/
namespace Go.Proofs.YtmjegeipnaalnaaGreatDoor
open Go.RowKit

/-- What holds of a value that is right. -/
structure Fine (N : Nat) (v : JV) : Prop where
  good : Good v
  few : Few N v
  short : Short v
theorem Fine.le {N M : Nat} {v : JV} (h : Fine N v) (hN : N ≤ M) : Fine M v := ⟨h.good, h.few.le hN v, h.short⟩
theorem fine_of_fit {v : JV} (h : fitB v = true) : Fine 400 v := ⟨good_of_fit h, few_of_fit h, short_of_fit h⟩
structure FineP (l : List JV) : Prop where
  good : GoodL l
  short : ShortL l
  straight : straightB l = true
theorem goes_parts {v x y : JV} {p q : List JV} (h : goesB v p q x y) : Fine 400 v ∧ FineP p ∧ FineP q ∧ Fine 400 x ∧ Fine 400 y ∧ apartT (stepsOf p) (stepsOf q) = true := by
  obtain ⟨h1, h2, h3, h4⟩ := h
  simp only [List.all_cons, List.all_nil, Bool.and_true, Bool.and_eq_true] at h1
  obtain ⟨f1, f2, f3, f4, f5⟩ := h1
  have gp := good_of_fit f2
  have gq := good_of_fit f3
  have sp := short_of_fit f2
  have sq := short_of_fit f3
  unfold listT Good at gp gq
  unfold listT Short at sp sq
  exact ⟨fine_of_fit f1, ⟨gp.2.2.2.1, sp.2.2.1, h2⟩, ⟨gq.2.2.2.1, sq.2.2.1, h3⟩, fine_of_fit f4, fine_of_fit f5, h4⟩
theorem fine_set {N : Nat} (hN : 100 ≤ N) {l : List JV} {x v r : JV} (hl : FineP l) (hv : Fine N v) (hx : Fine N x) (h : setT (stepsOf l) x v = some r) : Fine (N + 1) r :=
  ⟨good_set _ _ _ _ hv.good hx.good h, few_set hN _ _ _ _ (steps_ok hl.straight hl.short) hv.good hv.few hx.few h, short_set _ _ _ _ (steps_ok hl.straight hl.short) hv.short hx.short h⟩
/-- The law: both orders end alike, and both values stand. -/
theorem law_comm {p q : List JV} {x y v r s : JV} (hv : Fine 400 v) (ha : apartT (stepsOf p) (stepsOf q) = true) (hr : setT (stepsOf p) x v = some r) (hs : setT (stepsOf q) y v = some s) : setT (stepsOf q) y r = setT (stepsOf p) x s :=
  set_comm _ _ _ _ _ _ _ (even_of_good v hv.good) ha hr hs
theorem law_first {p q : List JV} {x y v r a : JV} (hv : Fine 400 v) (ha : apartT (stepsOf p) (stepsOf q) = true) (hr : setT (stepsOf p) x v = some r) (h : setT (stepsOf q) y r = some a) : getT (stepsOf p) a = some x :=
  get_still _ _ _ _ _ _ _ (even_of_good v hv.good) ha hr h
theorem law_second {q : List JV} {N : Nat} {y r a : JV} (hr : Fine N r) (h : setT (stepsOf q) y r = some a) : getT (stepsOf q) a = some y :=
  get_set _ _ _ _ (even_of_good r hr.good) h

set_option maxRecDepth 100000 in
set_option maxHeartbeats 1000000 in
theorem told_same (t : JV) (ht : Good t) (c0 c1 c2 c3 c4 c5 e0 e1 e2 e3 e4 e5 : Value) (w : World) (h1 : JRep w w.heap.size t [c0, c1, c2, c3, c4, c5]) (h2 : JRep w w.heap.size t [e0, e1, e2, e3, e4, e5]) :
    Calls Tryz.prog 10 #[.agg #[c0, c1, c2, c3, c4, c5, .int .i64 0], .agg #[e0, e1, e2, e3, e4, e5], .int .i64 0] w fun e w' => e = .returned (.bool true) ∧ Below w.heap.size w w' := by
  obtain ⟨k1, x1, t1, A1, n1, m1, A2, n2, m2, A3, n3, m3, rfl, rfl, rfl, rfl, rfl, rfl⟩ := h1.shape
  obtain ⟨k2, x2, t2, B1, p1, q1, B2, p2, q2, B3, p3, q3, rfl, rfl, rfl, rfl, rfl, rfl⟩ := h2.shape
  obtain ⟨hX, hY⟩ := two_new w (.cells #[.int .i64 k1, .int .i64 x1, .string t1, .slice A1 n1 m1, .slice A2 n2 m2, .slice A3 n3 m3, .int .i64 0] 34) (.cells #[.int .i64 k2, .int .i64 x2, .string t2, .slice B1 p1 q1, .slice B2 p2 q2, .slice B3 p3 q3] 26)
  have hB := ((Below.refl w.heap.size w).alloc (Nat.le_refl _) (.cells #[.int .i64 k1, .int .i64 x1, .string t1, .slice A1 n1 m1, .slice A2 n2 m2, .slice A3 n3 m3, .int .i64 0] 34)).alloc (by simp) (.cells #[.int .i64 k2, .int .i64 x2, .string t2, .slice B1 p1 q1, .slice B2 p2 q2, .slice B3 p3 q3] 26)
  have hsz : w.heap.size + 2 ≤ ((w.alloc (.cells #[.int .i64 k1, .int .i64 x1, .string t1, .slice A1 n1 m1, .slice A2 n2 m2, .slice A3 n3 m3, .int .i64 0] 34)).alloc (.cells #[.int .i64 k2, .int .i64 x2, .string t2, .slice B1 p1 q1, .slice B2 p2 q2, .slice B3 p3 q3] 26)).heap.size := by simp
  have C := Lib.hid (fun W (hW : Below w.heap.size w W) => same_all t ht (.agg #[.int .i64 k1, .int .i64 x1, .string t1, .slice A1 n1 m1, .slice A2 n2 m2, .slice A3 n3 m3]) (.agg #[.int .i64 k2, .int .i64 x2, .string t2, .slice B1 p1 q1, .slice B2 p2 q2, .slice B3 p3 q3]) W ⟨_, _, _, _, _, _, rfl, h1.below hW hW.size⟩ ⟨_, _, _, _, _, _, rfl, h2.below hW hW.size⟩)
  clear h1 h2 ht
  go_enter Tryz.func10, Tryz.ntmps10
  go_upto_region 1 with (fail)
  generalize ((w.alloc (.cells #[.int .i64 k1, .int .i64 x1, .string t1, .slice A1 n1 m1, .slice A2 n2 m2, .slice A3 n3 m3, .int .i64 0] 34)).alloc (.cells #[.int .i64 k2, .int .i64 x2, .string t2, .slice B1 p1 q1, .slice B2 p2 q2, .slice B3 p3 q3] 26)) = w2 at *
  obtain ⟨y0, y1, y2, y3, y4, y5, y6⟩ := box7 hX
  obtain ⟨z0, z1, z2, z3, z4, z5⟩ := box6 hY
  go_wp2_with (first | (go_at_call 40; refine (C.out w2 hB).mono ?_; rintro e w3 ⟨rfl, hb3⟩))
  go_ret
  exact ⟨by first | rfl | simp, hB.trans (hb3.mono (by omega))⟩
set_option maxRecDepth 100000 in
set_option maxHeartbeats 1000000 in
theorem given_same (t : JV) (ht : Good t) (c0 c1 c2 c3 c4 c5 e0 e1 e2 e3 e4 e5 : Value) (w : World) (h1 : JRep w w.heap.size t [c0, c1, c2, c3, c4, c5]) (h2 : JRep w w.heap.size t [e0, e1, e2, e3, e4, e5]) :
    Calls Tryz.prog 15 #[.agg #[c0, c1, c2, c3, c4, c5, .int .i64 0], .agg #[e0, e1, e2, e3, e4, e5]] w fun e w' => e = .returned (.bool true) ∧ Below w.heap.size w w' := by
  obtain ⟨k1, x1, t1, A1, n1, m1, A2, n2, m2, A3, n3, m3, rfl, rfl, rfl, rfl, rfl, rfl⟩ := h1.shape
  obtain ⟨k2, x2, t2, B1, p1, q1, B2, p2, q2, B3, p3, q3, rfl, rfl, rfl, rfl, rfl, rfl⟩ := h2.shape
  obtain ⟨hX, hY⟩ := two_new w (.cells #[.int .i64 k1, .int .i64 x1, .string t1, .slice A1 n1 m1, .slice A2 n2 m2, .slice A3 n3 m3, .int .i64 0] 34) (.cells #[.int .i64 k2, .int .i64 x2, .string t2, .slice B1 p1 q1, .slice B2 p2 q2, .slice B3 p3 q3] 26)
  have hB := ((Below.refl w.heap.size w).alloc (Nat.le_refl _) (.cells #[.int .i64 k1, .int .i64 x1, .string t1, .slice A1 n1 m1, .slice A2 n2 m2, .slice A3 n3 m3, .int .i64 0] 34)).alloc (by simp) (.cells #[.int .i64 k2, .int .i64 x2, .string t2, .slice B1 p1 q1, .slice B2 p2 q2, .slice B3 p3 q3] 26)
  have hsz : w.heap.size + 2 ≤ ((w.alloc (.cells #[.int .i64 k1, .int .i64 x1, .string t1, .slice A1 n1 m1, .slice A2 n2 m2, .slice A3 n3 m3, .int .i64 0] 34)).alloc (.cells #[.int .i64 k2, .int .i64 x2, .string t2, .slice B1 p1 q1, .slice B2 p2 q2, .slice B3 p3 q3] 26)).heap.size := by simp
  have C := Lib.hid (fun W (hW : Below w.heap.size w W) => told_same t ht (.int .i64 k1) (.int .i64 x1) (.string t1) (.slice A1 n1 m1) (.slice A2 n2 m2) (.slice A3 n3 m3) (.int .i64 k2) (.int .i64 x2) (.string t2) (.slice B1 p1 q1) (.slice B2 p2 q2) (.slice B3 p3 q3) W (h1.below hW hW.size) (h2.below hW hW.size))
  clear h1 h2 ht
  go_enter Tryz.func15, Tryz.ntmps15
  go_upto_region 1 with (fail)
  generalize ((w.alloc (.cells #[.int .i64 k1, .int .i64 x1, .string t1, .slice A1 n1 m1, .slice A2 n2 m2, .slice A3 n3 m3, .int .i64 0] 34)).alloc (.cells #[.int .i64 k2, .int .i64 x2, .string t2, .slice B1 p1 q1, .slice B2 p2 q2, .slice B3 p3 q3] 26)) = w2 at *
  obtain ⟨y0, y1, y2, y3, y4, y5, y6⟩ := box7 hX
  obtain ⟨z0, z1, z2, z3, z4, z5⟩ := box6 hY
  go_wp2_with (first | (go_at_call 10; refine (C.out w2 hB).mono ?_; rintro e w3 ⟨rfl, hb3⟩))
  go_ret
  exact ⟨by first | rfl | simp, hB.trans (hb3.mono (by omega))⟩
end Go.Proofs.YtmjegeipnaalnaaGreatDoor

/- FnSetApart: two settings in whatever order: what lies there when all is done. -/
namespace Go.Proofs.YtmjegeipnaalnaaGreatDoor
open Go.RowKit

section
variable {P : Program} {ops : Array Oper} {Q : Exit → Act → World → Prop} {md : Region.Mode}
theorem ready_un {i : Nat} {L : Array Bool} (h : i ∈ Region.ready md ops L) : L.getD i true = false := (mem_ready.1 h).1
theorem ready_lt {i : Nat} {L : Array Bool} (h : i ∈ Region.ready md ops L) : i < ops.size := by
  obtain ⟨_, o, ho, _⟩ := mem_ready.1 h
  exact (Array.getElem?_eq_some_iff.1 ho).1
theorem ready_dep {i : Nat} {L : Array Bool} (h : i ∈ Region.ready md ops L) {o : Oper} (ho : ops[i]? = some o) {e : Edge} (he : e ∈ o.after) (hb : Region.binds md e = true) : L.getD e.on false = true := by
  obtain ⟨_, o2, ho2, h3⟩ := mem_ready.1 h
  rw [ho] at ho2
  obtain rfl : o = o2 := by simpa using ho2
  exact h3 e he hb
theorem wpOp_shut {i : Nat} {o : Oper} {K : Act → World → Prop} {a : Act} {w : World} (ho : ops[i]? = some o)
    (h : ∀ K' : Act → World → Prop, Shut (∀ a w, K a w → K' a w) → if Region.wanted o (yielded ops a.tmps) = true then Oper.wp P o a w K' Q else K' (a.put o.dst undef) w) : wpOp P ops Q i K a w :=
  wpOp_step ho fun K' hK => h K' hK
end
theorem SetR.returned {ro : Option JV} {lo : Nat} {w : World} {e : Ending} (h : SetR ro lo w e) : ∃ u, e = .returned u := by
  rcases h with ⟨_, _, _, _, _, _, _, _, h, _⟩ | ⟨_, h⟩
  · exact ⟨_, h⟩
  · exact ⟨_, h⟩
theorem seven_set {w : World} {g : Nat} {a0 a1 a2 a3 a4 a5 a6 v0 v1 v2 v3 v4 v5 v6 : Value} {T : TypeId} (h : w.heap[g]? = some (.cells #[a0, a1, a2, a3, a4, a5, a6] T)) :
    (((((((w.setCell ⟨g, 0, none⟩ v0).setCell ⟨g, 1, none⟩ v1).setCell ⟨g, 2, none⟩ v2).setCell ⟨g, 3, none⟩ v3).setCell ⟨g, 4, none⟩ v4).setCell ⟨g, 5, none⟩ v5).setCell ⟨g, 6, none⟩ v6).heap[g]? = some (.cells #[v0, v1, v2, v3, v4, v5, v6] T (0, 0)) := by
  have h0 : (w.setCell ⟨g, 0, none⟩ v0).heap[g]? = some (.cells #[v0, a1, a2, a3, a4, a5, a6] T (0, 0)) := by rw [heap_setCell_same _ g 0 _ _ v0 h]; rfl
  have h1 : ((w.setCell ⟨g, 0, none⟩ v0).setCell ⟨g, 1, none⟩ v1).heap[g]? = some (.cells #[v0, v1, a2, a3, a4, a5, a6] T (0, 0)) := by rw [heap_setCell_same _ g 1 _ _ v1 h0]; rfl
  have h2 : (((w.setCell ⟨g, 0, none⟩ v0).setCell ⟨g, 1, none⟩ v1).setCell ⟨g, 2, none⟩ v2).heap[g]? = some (.cells #[v0, v1, v2, a3, a4, a5, a6] T (0, 0)) := by rw [heap_setCell_same _ g 2 _ _ v2 h1]; rfl
  have h3 : ((((w.setCell ⟨g, 0, none⟩ v0).setCell ⟨g, 1, none⟩ v1).setCell ⟨g, 2, none⟩ v2).setCell ⟨g, 3, none⟩ v3).heap[g]? = some (.cells #[v0, v1, v2, v3, a4, a5, a6] T (0, 0)) := by rw [heap_setCell_same _ g 3 _ _ v3 h2]; rfl
  have h4 : (((((w.setCell ⟨g, 0, none⟩ v0).setCell ⟨g, 1, none⟩ v1).setCell ⟨g, 2, none⟩ v2).setCell ⟨g, 3, none⟩ v3).setCell ⟨g, 4, none⟩ v4).heap[g]? = some (.cells #[v0, v1, v2, v3, v4, a5, a6] T (0, 0)) := by rw [heap_setCell_same _ g 4 _ _ v4 h3]; rfl
  have h5 : ((((((w.setCell ⟨g, 0, none⟩ v0).setCell ⟨g, 1, none⟩ v1).setCell ⟨g, 2, none⟩ v2).setCell ⟨g, 3, none⟩ v3).setCell ⟨g, 4, none⟩ v4).setCell ⟨g, 5, none⟩ v5).heap[g]? = some (.cells #[v0, v1, v2, v3, v4, v5, a6] T (0, 0)) := by rw [heap_setCell_same _ g 5 _ _ v5 h4]; rfl
  have h6 : (((((((w.setCell ⟨g, 0, none⟩ v0).setCell ⟨g, 1, none⟩ v1).setCell ⟨g, 2, none⟩ v2).setCell ⟨g, 3, none⟩ v3).setCell ⟨g, 4, none⟩ v4).setCell ⟨g, 5, none⟩ v5).setCell ⟨g, 6, none⟩ v6).heap[g]? = some (.cells #[v0, v1, v2, v3, v4, v5, v6] T (0, 0)) := by rw [heap_setCell_same _ g 6 _ _ v6 h5]; rfl
  exact h6
/-- What a box holds: a value's tree, or an error. -/
def HeldAt (o : Option JV) (w : World) (g : Nat) : Prop := ∃ (k h : Int) (t : ByteArray) (A1 : Option Addr) (n1 m1 : Nat) (A2 : Option Addr) (n2 m2 : Nat) (A3 : Option Addr) (n3 m3 : Nat) (e : Int),
  w.heap[g]? = some (.cells #[.int .i64 k, .int .i64 h, .string t, .slice A1 n1 m1, .slice A2 n2 m2, .slice A3 n3 m3, .int .i64 e] 34) ∧
  ((e = 0 ∧ ∃ r, o = some r ∧ JRep w w.heap.size r [.int .i64 k, .int .i64 h, .string t, .slice A1 n1 m1, .slice A2 n2 m2, .slice A3 n3 m3]) ∨ (e = 1 ∧ o = none))
theorem ResAt.shape {ro : Option JV} {B : Nat} {w : World} {p1 p2 u : Value} (hr : ResAt ro B w p1 p2 u) : ∃ (k h : Int) (t : ByteArray) (A1 : Option Addr) (n1 m1 : Nat) (A2 : Option Addr) (n2 m2 : Nat) (A3 : Option Addr) (n3 m3 : Nat) (e : Int),
    u = .agg #[.int .i64 k, .int .i64 h, .string t, .slice A1 n1 m1, .slice A2 n2 m2, .slice A3 n3 m3, .int .i64 e] ∧
    ((e = 0 ∧ ∃ r, ro = some r ∧ JRepS w (fun k => B ≤ k ∧ k < w.heap.size ∧ p1 ≠ .pointer (some ⟨k, 0, none⟩) ∧ p2 ≠ .pointer (some ⟨k, 0, none⟩)) r [.int .i64 k, .int .i64 h, .string t, .slice A1 n1 m1, .slice A2 n2 m2, .slice A3 n3 m3]) ∨ (e = 1 ∧ ro = none)) := by
  rcases hr with ⟨r, c0, c1, c2, c3, c4, c5, rfl, rfl, h⟩ | ⟨rfl, rfl⟩
  · obtain ⟨k1, h1, t1, A1, n1, m1, A2, n2, m2, A3, n3, m3, rfl, rfl, rfl, rfl, rfl, rfl⟩ := h.shape
    exact ⟨_, _, _, _, _, _, _, _, _, _, _, _, _, rfl, .inl ⟨rfl, r, rfl, h⟩⟩
  · exact ⟨0, 0, ⟨#[]⟩, none, 0, 0, none, 0, 0, none, 0, 0, 1, rfl, .inr ⟨rfl, rfl⟩⟩
theorem below_seven {a w : World} {B g : Nat} (h : Below B a w) (hg : B ≤ g) (v0 v1 v2 v3 v4 v5 v6 : Value) :
    Below B a (((((((w.setCell ⟨g, 0, none⟩ v0).setCell ⟨g, 1, none⟩ v1).setCell ⟨g, 2, none⟩ v2).setCell ⟨g, 3, none⟩ v3).setCell ⟨g, 4, none⟩ v4).setCell ⟨g, 5, none⟩ v5).setCell ⟨g, 6, none⟩ v6) := below_set7 h hg v0 v1 v2 v3 v4 v5 v6
/-- A box behind the stores into both. -/
theorem held_of {o : Option JV} {B : Nat} {w W : World} {g g' q : Nat} {k h : Int} {t : ByteArray} {A1 : Option Addr} {n1 m1 : Nat} {A2 : Option Addr} {n2 m2 : Nat} {A3 : Option Addr} {n3 m3 : Nat} {e : Int}
    (hs : (e = 0 ∧ ∃ r, o = some r ∧ JRepS w (fun k => B ≤ k ∧ k < w.heap.size ∧ Value.pointer (some ⟨g, 0, none⟩) ≠ .pointer (some ⟨k, 0, none⟩) ∧ Value.pointer (some ⟨g', 0, none⟩) ≠ .pointer (some ⟨k, 0, none⟩)) r [.int .i64 k, .int .i64 h, .string t, .slice A1 n1 m1, .slice A2 n2 m2, .slice A3 n3 m3]) ∨ (e = 1 ∧ o = none))
    (hW : ∀ b, b ≠ g → b ≠ g' → W.heap[b]? = w.heap[b]?) (hz : W.heap.size = w.heap.size) (hq : W.heap[q]? = some (.cells #[.int .i64 k, .int .i64 h, .string t, .slice A1 n1 m1, .slice A2 n2 m2, .slice A3 n3 m3, .int .i64 e] 34)) : HeldAt o W q := by
  refine ⟨k, h, t, A1, n1, m1, A2, n2, m2, A3, n3, m3, e, hq, ?_⟩
  rcases hs with ⟨h1, r, h2, h3⟩ | h
  · exact .inl ⟨h1, r, h2, JRepS.toRep (S := fun b => b < W.heap.size) (fun b hb => hb) r _ (JRepS.mono (fun b hb => hW b (fun e => hb.2.2.1 (by rw [e])) (fun e => hb.2.2.2 (by rw [e]))) (fun b hb => by rw [hz]; exact hb.2.1) r _ h3)⟩
  · exact .inr h
end Go.Proofs.YtmjegeipnaalnaaGreatDoor

/- A store of an answer into a new answer's box: the operation's law. -/
namespace Go.Proofs.YtmjegeipnaalnaaGreatDoor
open Go.RowKit

set_option maxRecDepth 100000 in
theorem step_store7 {ops : Array Oper} {o : Oper} {a : Act} {w : World} {K : Act → World → Prop} {Q : Exit → Act → World → Prop} {E : Prop} (hgd : o.guard = none) (hdst : o.dst = none) (x y : Operand)
    (ho : o.op = .store 34 x y) {g : Nat} {k h : Int} {t : ByteArray} {A1 : Option Addr} {n1 m1 : Nat} {A2 : Option Addr} {n2 m2 : Nat} {A3 : Option Addr} {n3 m3 : Nat} {e : Int} {z0 z1 z2 z3 z4 z5 z6 : Value}
    (hx : a.eval x = .pointer (some ⟨g, 0, none⟩)) (hy : a.eval y = .agg #[.int .i64 k, .int .i64 h, .string t, .slice A1 n1 m1, .slice A2 n2 m2, .slice A3 n3 m3, .int .i64 e]) (hz : w.heap[g]? = some (.cells #[z0, z1, z2, z3, z4, z5, z6] 34 (0, 0)))
    (hK : K a (((((((w.setCell ⟨g, 0, none⟩ (.int .i64 k)).setCell ⟨g, 1, none⟩ (.int .i64 h)).setCell ⟨g, 2, none⟩ (.string t)).setCell ⟨g, 3, none⟩ (.slice A1 n1 m1)).setCell ⟨g, 4, none⟩ (.slice A2 n2 m2)).setCell ⟨g, 5, none⟩ (.slice A3 n3 m3)).setCell ⟨g, 6, none⟩ (.int .i64 e))) :
    if Region.wanted o (yielded ops a.tmps) = true then Oper.wp Tryz.prog o a w K Q else E := by
  have hw : Region.wanted o (yielded ops a.tmps) = true := by simp [Region.wanted, hgd]
  rw [if_pos hw]
  obtain ⟨x0, x1, x2, x3, x4, x5, x6⟩ := box7 hz
  obtain ⟨y0, y1, y2, y3, y4, y5, y6⟩ := frozen7 hz
  clear hz hw
  obtain ⟨dst, op, ty, pos, after, guard⟩ := o
  simp only at hgd hdst ho
  subst hgd hdst ho
  unfold Oper.wp execOp
  simp only [hx, hy]
  clear hx hy
  go_simp
  exact hK
end Go.Proofs.YtmjegeipnaalnaaGreatDoor
