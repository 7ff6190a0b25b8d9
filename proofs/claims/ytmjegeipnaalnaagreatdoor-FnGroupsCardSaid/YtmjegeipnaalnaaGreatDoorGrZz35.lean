/- Guards over two lists and over two values: they let everything in. Five values laid into a new row: the operation's law. FnSetApart: its walk: what cells hold, and small words. -/
import Derived.Test.YtmjegeipnaalnaaGreatDoorGrGuard
import Derived.Test.YtmjegeipnaalnaaGreatDoorGrRep
import Derived.Deep.AppendLies
import Derived.Test.YtmjegeipnaalnaaGreatDoorGrApA
import Derived.Test.YtmjegeipnaalnaaGreatDoorGrPaths
import Derived.Lib.QuietBelow

/- Guards over two lists and over two values: they let everything in. -/
namespace Go.Proofs.YtmjegeipnaalnaaGreatDoor
open Go.RowKit

set_option maxRecDepth 100000 in
theorem zzFits3_walk (a b : Value) (w : World) : Calls Tryz.prog 22 #[.agg #[a, b]] w fun e w' => e = .returned (.bool true) ∧ Below w.heap.size w w' := by
  have hB := Lib.hid ((Below.refl w.heap.size w).alloc (Nat.le_refl _) (.cells #[a, b] 42))
  go_enter Tryz.func22, Tryz.ntmps22
  go_wp2_with fail
  go_ret
  exact ⟨rfl, hB.out⟩
set_option maxRecDepth 100000 in
theorem zzFits5_walk (a0 a1 a2 a3 a4 a5 b0 b1 b2 b3 b4 b5 : Value) (w : World) : Calls Tryz.prog 23 #[.agg #[a0, a1, a2, a3, a4, a5, b0, b1, b2, b3, b4, b5]] w fun e w' => e = .returned (.bool true) ∧ Below w.heap.size w w' := by
  have hB := Lib.hid ((Below.refl w.heap.size w).alloc (Nat.le_refl _) (.cells #[a0, a1, a2, a3, a4, a5, b0, b1, b2, b3, b4, b5] 43))
  go_enter Tryz.func23, Tryz.ntmps23
  go_wp2_with fail
  go_ret
  exact ⟨rfl, hB.out⟩
end Go.Proofs.YtmjegeipnaalnaaGreatDoor

/- Five values laid into a new row: the operation's law. -/
namespace Go.Proofs.YtmjegeipnaalnaaGreatDoor
open Go.RowKit

theorem build_five (a0 a1 a2 a3 a4 a5 b0 b1 b2 b3 b4 b5 c0 c1 c2 c3 c4 c5 d0 d1 d2 d3 d4 d5 e0 e1 e2 e3 e4 e5 : Value) (w : World) :
    (Instr.buildSlice 23 5 #[(0, .agg #[a0, a1, a2, a3, a4, a5]), (1, .agg #[b0, b1, b2, b3, b4, b5]), (2, .agg #[c0, c1, c2, c3, c4, c5]), (3, .agg #[d0, d1, d2, d3, d4, d5]), (4, .agg #[e0, e1, e2, e3, e4, e5])]).run Tryz.prog w =
      .ok (.slice (some ⟨w.heap.size, 0, none⟩) 5 5) (w.alloc (.cells #[a0, a1, a2, a3, a4, a5, b0, b1, b2, b3, b4, b5, c0, c1, c2, c3, c4, c5, d0, d1, d2, d3, d4, d5, e0, e1, e2, e3, e4, e5] 26)) := by kernel_rfl
theorem step_build_five {ops : Array Oper} {o : Oper} {a : Act} {w : World} {K : Act → World → Prop} {Q : Exit → Act → World → Prop} {E : Prop} (hgd : o.guard = none) (x0 x1 x2 x3 x4 : Operand)
    (ho : o.op = .buildSlice 23 5 #[(0, x0), (1, x1), (2, x2), (3, x3), (4, x4)]) {a0 a1 a2 a3 a4 a5 b0 b1 b2 b3 b4 b5 c0 c1 c2 c3 c4 c5 d0 d1 d2 d3 d4 d5 e0 e1 e2 e3 e4 e5 : Value}
    (h0 : a.eval x0 = .agg #[a0, a1, a2, a3, a4, a5]) (h1 : a.eval x1 = .agg #[b0, b1, b2, b3, b4, b5]) (h2 : a.eval x2 = .agg #[c0, c1, c2, c3, c4, c5]) (h3 : a.eval x3 = .agg #[d0, d1, d2, d3, d4, d5]) (h4 : a.eval x4 = .agg #[e0, e1, e2, e3, e4, e5])
    (h : K (a.put o.dst (.slice (some ⟨w.heap.size, 0, none⟩) 5 5)) (w.alloc (.cells #[a0, a1, a2, a3, a4, a5, b0, b1, b2, b3, b4, b5, c0, c1, c2, c3, c4, c5, d0, d1, d2, d3, d4, d5, e0, e1, e2, e3, e4, e5] 26))) :
    if Region.wanted o (yielded ops a.tmps) = true then Oper.wp Tryz.prog o a w K Q else E := by
  have hw : Region.wanted o (yielded ops a.tmps) = true := by simp [Region.wanted, hgd]
  rw [if_pos hw]
  unfold Oper.wp execOp
  simp only [ho, Sem.run_bind, Sem.run_pure, Result.andThen_ok, List.map_toArray, List.map_cons, List.map_nil, h0, h1, h2, h3, h4, build_five]
  exact h
end Go.Proofs.YtmjegeipnaalnaaGreatDoor

/- FnSetApart: its walk: what cells hold, and small words. -/
namespace Go.Proofs.YtmjegeipnaalnaaGreatDoor
open Go.RowKit

theorem cells14 {w3 w' : World} {N : Nat} {a0 a1 b0 b1 b2 b3 b4 b5 b6 b7 b8 b9 b10 b11 : Value} (h : Below w3.heap.size w3 w') (hsz : N + 2 < w3.heap.size) (hB : w3.heap[N + 1]? = some (.cells #[a0, a1] 42)) (hC : w3.heap[N + 2]? = some (.cells #[b0, b1, b2, b3, b4, b5, b6, b7, b8, b9, b10, b11] 43)) :
    Below w3.heap.size w3 w' ∧ w'.cell? ⟨N + 1, 0, none⟩ = some a0 ∧ w'.cell? ⟨N + 1, 1, none⟩ = some a1 ∧ w'.cell? ⟨N + 2, 0, none⟩ = some b0 ∧ w'.cell? ⟨N + 2, 1, none⟩ = some b1 ∧ w'.cell? ⟨N + 2, 2, none⟩ = some b2 ∧ w'.cell? ⟨N + 2, 3, none⟩ = some b3 ∧ w'.cell? ⟨N + 2, 4, none⟩ = some b4 ∧ w'.cell? ⟨N + 2, 5, none⟩ = some b5 ∧
      w'.cell? ⟨N + 2, 6, none⟩ = some b6 ∧ w'.cell? ⟨N + 2, 7, none⟩ = some b7 ∧ w'.cell? ⟨N + 2, 8, none⟩ = some b8 ∧ w'.cell? ⟨N + 2, 9, none⟩ = some b9 ∧ w'.cell? ⟨N + 2, 10, none⟩ = some b10 ∧ w'.cell? ⟨N + 2, 11, none⟩ = some b11 := by
  have h1 := kept_below h (by omega) hB
  have h2 := kept_below h (by omega) hC
  refine ⟨h, ?_⟩
  simp [World.cell?, h1, h2]
theorem cells18 {w3 w' : World} {N g1 g2 : Nat} {a0 a1 a2 a3 a4 a5 b0 b1 b2 b3 b4 b5 c0 c1 c2 c3 c4 c5 : Value} (h : Below w3.heap.size w3 w') (h0 : N < w3.heap.size) (h1 : g1 < w3.heap.size) (h2 : g2 < w3.heap.size) (hA : w3.heap[N]? = some (.cells #[a0, a1, a2, a3, a4, a5] 26)) (hB : w3.heap[g1]? = some (.cells #[b0, b1, b2, b3, b4, b5] 26)) (hC : w3.heap[g2]? = some (.cells #[c0, c1, c2, c3, c4, c5] 26)) :
    Below w3.heap.size w3 w' ∧ w'.cell? ⟨N, 0, none⟩ = some a0 ∧ w'.cell? ⟨N, 1, none⟩ = some a1 ∧ w'.cell? ⟨N, 2, none⟩ = some a2 ∧ w'.cell? ⟨N, 3, none⟩ = some a3 ∧ w'.cell? ⟨N, 4, none⟩ = some a4 ∧ w'.cell? ⟨N, 5, none⟩ = some a5 ∧
      w'.cell? ⟨g1, 0, none⟩ = some b0 ∧ w'.cell? ⟨g1, 1, none⟩ = some b1 ∧ w'.cell? ⟨g1, 2, none⟩ = some b2 ∧ w'.cell? ⟨g1, 3, none⟩ = some b3 ∧ w'.cell? ⟨g1, 4, none⟩ = some b4 ∧ w'.cell? ⟨g1, 5, none⟩ = some b5 ∧
      w'.cell? ⟨g2, 0, none⟩ = some c0 ∧ w'.cell? ⟨g2, 1, none⟩ = some c1 ∧ w'.cell? ⟨g2, 2, none⟩ = some c2 ∧ w'.cell? ⟨g2, 3, none⟩ = some c3 ∧ w'.cell? ⟨g2, 4, none⟩ = some c4 ∧ w'.cell? ⟨g2, 5, none⟩ = some c5 := by
  obtain ⟨p0, p1, p2, p3, p4, p5⟩ := box6 (kept_below h h0 hA)
  obtain ⟨q0, q1, q2, q3, q4, q5⟩ := box6 (kept_below h h1 hB)
  obtain ⟨r0, r1, r2, r3, r4, r5⟩ := box6 (kept_below h h2 hC)
  exact ⟨h, p0, p1, p2, p3, p4, p5, q0, q1, q2, q3, q4, q5, r0, r1, r2, r3, r4, r5⟩
/-- A slice of values that lies somewhere. -/
def LV (w : World) (B : Nat) (l : List JV) (A : Option Addr) (n m : Nat) : Prop := SlOf l.length 104 (JCells w B l) (.slice A n m)
theorem slice_of {w : World} {B : Nat} {l : List JV} {A : Option Addr} {n m : Nat} (h : SlOf l.length 104 (JCells w B l) (.slice A n m)) : LV w B l A n m := h
theorem LV.below {w w' : World} {B B' : Nat} {l : List JV} {A : Option Addr} {n m : Nat} (h : LV w B l A n m) (hb : Below B w w') (hB : B ≤ B') : LV w' B' l A n m := SlOf.imp h (JCells.below hb hB l)
theorem LV.parts {w : World} {B : Nat} {l : List JV} {A : Option Addr} {n m : Nat} (h : LV w B l A n m) : l.length = n ∧ n ≤ 9000000000000 ∧ (n = 0 ∨ ∃ b o, A = some ⟨b, o, none⟩ ∧ JCells w B l b o) := by
  obtain ⟨A', c', e, h1, h2, h3⟩ := h
  simp only [Value.slice.injEq] at e
  obtain ⟨rfl, rfl, rfl⟩ := e
  exact ⟨rfl, by omega, h3⟩
theorem list_rep {w : World} {B : Nat} {l : List JV} {A : Option Addr} {n m : Nat} (h : LV w B l A n m) : JRep w B (listT l) [.int .i64 5, .int .i64 0, .string ⟨#[]⟩, .slice A n m, .slice none 0 0, .slice none 0 0] := by
  unfold listT JRep
  exact ⟨⟨by decide, by decide⟩, ⟨by decide, by decide⟩, by decide, _, _, _, rfl, h, ⟨none, 0, rfl, Nat.le_refl _, by simp, .inl rfl⟩, ⟨none, 0, rfl, Nat.le_refl _, by simp, .inl rfl⟩⟩
theorem cells_at {w : World} {g o : Nat} {cs : Array Value} {l : List Value} {T : TypeId} (h : w.heap[g]? = some (.cells cs T (0, 0))) (hl : ∀ j, j < 6 → cs[o + j]? = l[j]?) : ∀ j, j < 6 → w.cell? ⟨g, o + j, none⟩ = l[j]? := by
  intro j hj
  rw [← hl j hj]
  simp [World.cell?, h]
theorem jcells_five {w : World} {B g : Nat} {v1 v2 v3 v4 v5 : JV} {a0 a1 a2 a3 a4 a5 b0 b1 b2 b3 b4 b5 c0 c1 c2 c3 c4 c5 d0 d1 d2 d3 d4 d5 e0 e1 e2 e3 e4 e5 : Value} (h : w.heap[g]? = some (.cells #[a0, a1, a2, a3, a4, a5, b0, b1, b2, b3, b4, b5, c0, c1, c2, c3, c4, c5, d0, d1, d2, d3, d4, d5, e0, e1, e2, e3, e4, e5] 26)) (hg : g < B)
    (h1 : JRep w B v1 [a0, a1, a2, a3, a4, a5]) (h2 : JRep w B v2 [b0, b1, b2, b3, b4, b5]) (h3 : JRep w B v3 [c0, c1, c2, c3, c4, c5]) (h4 : JRep w B v4 [d0, d1, d2, d3, d4, d5]) (h5 : JRep w B v5 [e0, e1, e2, e3, e4, e5]) : JCells w B [v1, v2, v3, v4, v5] g 0 := by
  unfold JCells
  refine ⟨hg, ⟨_, h1, cells_at h fun j hj => ?_⟩, ?_⟩
  · rcases j with _ | _ | _ | _ | _ | _ | j <;> first | rfl | omega
  unfold JCells
  refine ⟨hg, ⟨_, h2, cells_at h fun j hj => ?_⟩, ?_⟩
  · rcases j with _ | _ | _ | _ | _ | _ | j <;> first | rfl | omega
  unfold JCells
  refine ⟨hg, ⟨_, h3, cells_at h fun j hj => ?_⟩, ?_⟩
  · rcases j with _ | _ | _ | _ | _ | _ | j <;> first | rfl | omega
  unfold JCells
  refine ⟨hg, ⟨_, h4, cells_at h fun j hj => ?_⟩, ?_⟩
  · rcases j with _ | _ | _ | _ | _ | _ | j <;> first | rfl | omega
  unfold JCells
  refine ⟨hg, ⟨_, h5, cells_at h fun j hj => ?_⟩, by unfold JCells; trivial⟩
  rcases j with _ | _ | _ | _ | _ | _ | j <;> first | rfl | omega
theorem straight_all {l : List JV} (h : straightB l = true) : ∀ v ∈ l, stepB v = true := by
  unfold straightB at h
  simp only [Bool.and_eq_true, decide_eq_true_eq, List.all_eq_true] at h
  exact h.1
theorem lt_of_at {w : World} {k : Nat} {o : Obj} (h : w.heap[k]? = some o) : k < w.heap.size := (Array.getElem?_eq_some_iff.1 h).1
theorem after_call {B : Nat} {a b c : World} (hb : Below b.heap.size b c) (h : Below B a b) (hB : B ≤ a.heap.size) : Below B a c := h.trans (hb.mono (Nat.le_trans hB h.size))
theorem alloc_keep {B : Nat} {a b : World} (h : Below B a b) (hB : B ≤ a.heap.size) (o : Obj) : Below B a (b.alloc o) := h.alloc (Nat.le_trans hB h.size) o
theorem box2 {w : World} {k : Nat} {a0 a1 : Value} {T : TypeId} {fr : Nat × Nat} (h : w.heap[k]? = some (.cells #[a0, a1] T fr)) : w.cell? ⟨k, 0, none⟩ = some a0 ∧ w.cell? ⟨k, 1, none⟩ = some a1 := by
  simp [World.cell?, h]
theorem box12 {w : World} {k : Nat} {a0 a1 a2 a3 a4 a5 b0 b1 b2 b3 b4 b5 : Value} {T : TypeId} {fr : Nat × Nat} (h : w.heap[k]? = some (.cells #[a0, a1, a2, a3, a4, a5, b0, b1, b2, b3, b4, b5] T fr)) :
    w.cell? ⟨k, 0, none⟩ = some a0 ∧ w.cell? ⟨k, 1, none⟩ = some a1 ∧ w.cell? ⟨k, 2, none⟩ = some a2 ∧ w.cell? ⟨k, 3, none⟩ = some a3 ∧ w.cell? ⟨k, 4, none⟩ = some a4 ∧ w.cell? ⟨k, 5, none⟩ = some a5 ∧
    w.cell? ⟨k, 6, none⟩ = some b0 ∧ w.cell? ⟨k, 7, none⟩ = some b1 ∧ w.cell? ⟨k, 8, none⟩ = some b2 ∧ w.cell? ⟨k, 9, none⟩ = some b3 ∧ w.cell? ⟨k, 10, none⟩ = some b4 ∧ w.cell? ⟨k, 11, none⟩ = some b5 := by
  simp [World.cell?, h]

/-- Whether the law asks for more than the guards. -/
def goesB (v : JV) (p q : List JV) (x y : JV) : Prop := [v, listT p, listT q, x, y].all fitB = true ∧ straightB p = true ∧ straightB q = true ∧ apartT (stepsOf p) (stepsOf q) = true
end Go.Proofs.YtmjegeipnaalnaaGreatDoor
