/- What setting at a path keeps: right values stay right, and few; and what stands for a list or a map with one part set. Setting at a path: the small functions of the package. Setting at a path: a key of a map: the walk. Setting at a path: a key of nothing, an index of a list or of nothing: the walks. -/
import Derived.Test.YtmjegeipnaalnaaGreatDoorGrMapW
import Derived.Test.YtmjegeipnaalnaaGreatDoorGrEqsU
import Derived.Test.YtmjegeipnaalnaaGreatDoorGrMapP
import Derived.Test.YtmjegeipnaalnaaGreatDoorGrToGo
import Derived.Test.YtmjegeipnaalnaaGreatDoorGrSw
import Derived.Laws.CopyOwn
import Derived.Laws.CopyRow

/- What setting at a path keeps: right values stay right, and few; and what stands for a list or a map with one part set. -/
namespace Go.Proofs.YtmjegeipnaalnaaGreatDoor
open Go.RowKit

theorem rising_ins (x : ByteArray) : ∀ {ks : List ByteArray} {p : Option ByteArray}, Rising p ks → prevOk p x = true → Rising p (insK ks x)
  | [], p, _, h => by unfold insK Rising; exact ⟨h, by unfold Rising; trivial⟩
  | k :: r, p, hr, h => by
    unfold Rising at hr
    unfold insK
    rcases tri k x with rfl | ⟨h1, h2, h3, h4, _⟩ | ⟨h1, h2, h3, h4, _⟩
    · simp only [beq_self_eq_true, if_true]
      unfold Rising; exact hr
    · rw [h3, h2]
      simp only [Bool.false_eq_true, if_false]
      unfold Rising
      exact ⟨hr.1, rising_ins x hr.2 h1⟩
    · rw [h3, h1]
      simp only [Bool.false_eq_true, if_false, if_true]
      unfold Rising
      refine ⟨h, ?_⟩
      unfold Rising
      exact ⟨h1, hr.2⟩
theorem mem_ins_self (x : ByteArray) : ∀ (ks : List ByteArray), x ∈ insK ks x
  | [] => by simp [insK]
  | k :: r => by
    unfold insK
    rcases tri k x with rfl | ⟨h1, h2, h3, h4, _⟩ | ⟨h1, h2, h3, h4, _⟩
    · simp
    · rw [h3, h2]; simp [mem_ins_self x r]
    · rw [h3, h1]; simp
theorem mem_ins (x : ByteArray) {k : ByteArray} : ∀ {ks : List ByteArray}, k ∈ ks → k ∈ insK ks x
  | [], h => by simp at h
  | a :: r, h => by
    unfold insK
    rcases tri a x with rfl | ⟨h1, h2, h3, h4, _⟩ | ⟨h1, h2, h3, h4, _⟩
    · simpa using h
    · rw [h3, h2]
      simp only [Bool.false_eq_true, if_false]
      rcases List.mem_cons.1 h with e | e
      · rw [e]; simp
      · exact List.mem_cons.2 (.inr (mem_ins x e))
    · rw [h3, h1]
      simp only [Bool.false_eq_true, if_false, if_true]
      exact List.mem_cons.2 (.inr h)
theorem insK_le (x : ByteArray) : ∀ (ks : List ByteArray), (insK ks x).length ≤ ks.length + 1
  | [] => by simp [insK]
  | k :: r => by
    unfold insK
    split
    · simp
    · split
      · simp
      · simpa using insK_le x r
theorem insV_mem {x : ByteArray} {u y : JV} : ∀ {ks : List ByteArray} {vs : List JV}, y ∈ insV ks vs x u → y = u ∨ y ∈ vs
  | [], vs, h => by unfold insV at h; left; simpa using h
  | _ :: _, [], h => by unfold insV at h; left; simpa using h
  | k :: ks, v :: vs, h => by
    unfold insV at h
    split at h
    · rcases List.mem_cons.1 h with e | e
      · exact .inl e
      · exact .inr (by simp [e])
    · split at h
      · rcases List.mem_cons.1 h with e | e
        · exact .inl e
        · exact .inr e
      · rcases List.mem_cons.1 h with e | e
        · exact .inr (by simp [e])
        · rcases insV_mem e with e2 | e2
          · exact .inl e2
          · exact .inr (by simp [e2])
theorem setL_length : ∀ (l : List JV) (i : Nat) (u : JV), (setL l i u).length = max l.length (i + 1)
  | [], 0, _ => by simp [setL]
  | [], i + 1, u => by simp [setL, setL_length [] i u]
  | _ :: r, 0, _ => by simp [setL]
  | y :: r, i + 1, u => by simp [setL, setL_length r i u]
theorem setL_mem {u y : JV} : ∀ {l : List JV} {i : Nat}, y ∈ setL l i u → y = u ∨ y ∈ l ∨ y = nullT
  | [], 0, h => by left; simpa [setL] using h
  | [], i + 1, h => by
    simp only [setL, List.mem_cons] at h
    rcases h with e | e
    · exact .inr (.inr e)
    · exact setL_mem e
  | a :: r, 0, h => by
    simp only [setL, List.mem_cons] at h
    rcases h with e | e
    · exact .inl e
    · exact .inr (.inl (by simp [e]))
  | a :: r, i + 1, h => by
    simp only [setL, List.mem_cons] at h
    rcases h with e | e
    · exact .inr (.inl (by simp [e]))
    · rcases setL_mem e with e2 | e2 | e2
      · exact .inl e2
      · exact .inr (.inl (by simp [e2]))
      · exact .inr (.inr e2)
theorem setL_get : ∀ (l : List JV) (i j : Nat) (u : JV), (setL l i u)[j]? = if j = i then some u else if j < l.length then l[j]? else if j < i then some nullT else none
  | [], 0, 0, u => by simp [setL]
  | [], 0, j + 1, u => by simp [setL]
  | [], i + 1, 0, u => by simp [setL]
  | [], i + 1, j + 1, u => by simpa [setL] using setL_get [] i j u
  | a :: r, 0, 0, u => by simp [setL]
  | a :: r, 0, j + 1, u => by
    simp [setL]
  | a :: r, i + 1, 0, u => by simp [setL]
  | a :: r, i + 1, j + 1, u => by simpa [setL] using setL_get r i j u

theorem good_null : Good nullT := by
  unfold nullT Good GoodL
  exact ⟨by simp [JV.headOk], by simp [JV.halfOk], by unfold Rising; trivial, trivial, trivial⟩
theorem GoodL.of : ∀ {l : List JV}, (∀ x ∈ l, Good x) → GoodL l
  | [], _ => by unfold GoodL; trivial
  | x :: r, h => by unfold GoodL; exact ⟨h x (by simp), GoodL.of fun y hy => h y (by simp [hy])⟩
theorem FewL.of {N : Nat} : ∀ {l : List JV}, (∀ x ∈ l, Few N x) → FewL N l
  | [], _ => by unfold FewL; trivial
  | x :: r, h => by unfold FewL; exact ⟨h x (by simp), FewL.of fun y hy => h y (by simp [hy])⟩
theorem EvenL.of : ∀ {l : List JV}, (∀ x ∈ l, Even x) → EvenL l
  | [], _ => by unfold EvenL; trivial
  | x :: r, h => by unfold EvenL; exact ⟨h x (by simp), EvenL.of fun y hy => h y (by simp [hy])⟩
theorem even_of_good : ∀ v, Good v → Even v := by
  refine JV.ind fun k h t l ks vs ihl ihv => ?_
  intro g
  obtain ⟨_, _, _, x4, _, _, _, _, _, x10, x11⟩ := g.head
  unfold Even
  exact ⟨x4, EvenL.of fun y hy => ihl y hy (x10.get y hy), EvenL.of fun y hy => ihv y hy (x11.get y hy)⟩
theorem getV_in {ks : List ByteArray} {vs : List JV} {k : ByteArray} {y : JV} (h : getV ks vs k = some y) : y ∈ vs := by
  induction ks generalizing vs with
  | nil => unfold getV at h; cases h
  | cons a ks ih =>
    cases vs with
    | nil => unfold getV at h; cases h
    | cons v vs =>
      unfold getV at h
      split at h
      · simp at h; simp [h]
      · simp [ih h]
theorem atK_in (v : JV) (k : ByteArray) : atK v k = nullT ∨ atK v k ∈ v.vals := by
  unfold atK
  cases h : getV v.keys v.vals k with
  | none => exact .inl rfl
  | some y => exact .inr (getV_in h)
theorem atI_in (v : JV) (i : Nat) : atI v i = nullT ∨ atI v i ∈ v.list := by
  unfold atI
  cases h : v.list[i]? with
  | none => exact .inl rfl
  | some y => exact .inr (List.mem_of_getElem? h)
theorem good_atK {v : JV} (h : Good v) (k : ByteArray) : Good (atK v k) := by
  rcases atK_in v k with e | e
  · rw [e]; exact good_null
  · cases v; exact h.head.2.2.2.2.2.2.2.2.2.2.get _ e
theorem good_atI {v : JV} (h : Good v) (i : Nat) : Good (atI v i) := by
  rcases atI_in v i with e | e
  · rw [e]; exact good_null
  · cases v; exact h.head.2.2.2.2.2.2.2.2.2.1.get _ e
theorem few_atK {N : Nat} {v : JV} (h : Few N v) (k : ByteArray) : Few N (atK v k) := by
  rcases atK_in v k with e | e
  · rw [e]; exact few_null N
  · cases v; unfold Few at h; exact h.2.2.2.2.get _ e
theorem few_atI {N : Nat} {v : JV} (h : Few N v) (i : Nat) : Few N (atI v i) := by
  rcases atI_in v i with e | e
  · rw [e]; exact few_null N
  · cases v; unfold Few at h; exact h.2.2.2.1.get _ e

/-- Right steps: an index is at most 100. -/
def StepOk : Step → Prop
  | .key k => k.size ≤ 140737488351232
  | .idx i => i ≤ 100
theorem good_map {ks : List ByteArray} {vs : List JV} (h1 : ks.length = vs.length) (h2 : Rising none ks) (h3 : GoodL vs) : Good (mapT ks vs) := by
  unfold mapT Good
  exact ⟨by simp [JV.headOk, h1], by simp [JV.halfOk], h2, by unfold GoodL; trivial, h3⟩
theorem good_list' {l : List JV} (h : GoodL l) : Good (listT l) := by
  unfold listT Good
  exact ⟨by simp [JV.headOk], by simp [JV.halfOk], by unfold Rising; trivial, h, by unfold GoodL; trivial⟩
theorem Few.le {N M : Nat} (hN : N ≤ M) : ∀ v, Few N v → Few M v := by
  refine JV.ind fun k h t l ks vs ihl ihv => ?_
  intro g
  unfold Few at g ⊢
  exact ⟨by omega, by omega, by omega, FewL.of fun y hy => ihl y hy (g.2.2.2.1.get y hy), FewL.of fun y hy => ihv y hy (g.2.2.2.2.get y hy)⟩

/-- A right value set in a right value is one. -/
theorem good_set : ∀ (p : List Step) (x v r : JV), Good v → Good x → setT p x v = some r → Good r
  | [], x, v, r, _, hx, h => by unfold setT at h; simp at h; exact h ▸ hx
  | .key k :: p, x, v, r, hv, hx, h => by
    obtain ⟨_, u, h1, rfl⟩ := set_key h
    have hu := good_set p x _ u (good_atK hv k) hx h1
    cases v with
    | mk kk hh t l ks vs =>
      obtain ⟨_, _, _, x4, _, _, _, _, x9, _, x11⟩ := hv.head
      refine good_map (ins_length k u x4) (rising_ins k x9 rfl) (GoodL.of fun y hy => ?_)
      rcases insV_mem hy with e | e
      · rw [e]; exact hu
      · exact x11.get y e
  | .idx i :: p, x, v, r, hv, hx, h => by
    obtain ⟨_, u, h1, rfl⟩ := set_idx h
    have hu := good_set p x _ u (good_atI hv i) hx h1
    cases v with
    | mk kk hh t l ks vs =>
      obtain ⟨_, _, _, _, _, _, _, _, _, x10, _⟩ := hv.head
      refine good_list' (GoodL.of fun y hy => ?_)
      rcases setL_mem hy with e | e | e
      · rw [e]; exact hu
      · exact x10.get y e
      · rw [e]; exact good_null
theorem few_set {N : Nat} (hN : 100 ≤ N) : ∀ (p : List Step) (x v r : JV), (∀ s ∈ p, StepOk s) → Good v → Few N v → Few N x → setT p x v = some r → Few (N + 1) r
  | [], x, v, r, _, _, _, hx, h => by unfold setT at h; simp at h; exact h ▸ hx.le (by omega) x
  | .key k :: p, x, v, r, hp, hg, hv, hx, h => by
    obtain ⟨_, u, h1, rfl⟩ := set_key h
    have hu := few_set hN p x _ u (fun s hs => hp s (by simp [hs])) (good_atK hg k) (few_atK hv k) hx h1
    have hl := (even_of_good v hg).len
    cases v with
    | mk kk hh t l ks vs =>
      unfold Few at hv
      have hl' : ks.length = vs.length := hl
      have := insK_le k ks
      have h2 := ins_length k u hl'
      unfold mapT Few
      refine ⟨by simp, by show (insK ks k).length ≤ _; omega, by show (insV ks vs k u).length ≤ _; omega, by unfold FewL; trivial, FewL.of fun y hy => ?_⟩
      rcases insV_mem hy with e | e
      · rw [e]; exact hu
      · exact (hv.2.2.2.2.get y e).le (by omega) y
  | .idx i :: p, x, v, r, hp, hg, hv, hx, h => by
    obtain ⟨_, u, h1, rfl⟩ := set_idx h
    have hu := few_set hN p x _ u (fun s hs => hp s (by simp [hs])) (good_atI hg i) (few_atI hv i) hx h1
    have hi : i ≤ 100 := hp (.idx i) (by simp)
    cases v with
    | mk kk hh t l ks vs =>
      unfold Few at hv
      unfold listT Few
      refine ⟨by show (setL l i u).length ≤ _; rw [setL_length]; omega, by simp, by simp, FewL.of fun y hy => ?_, by unfold FewL; trivial⟩
      rcases setL_mem hy with e | e | e
      · rw [e]; exact hu
      · exact (hv.2.2.2.1.get y e).le (by omega) y
      · rw [e]; exact few_null _

/-- A map's entries with one of them laid. -/
theorem pents_ins {w : World} {lo B : Nat} {ks : List ByteArray} {vs : List JV} {ps ps' : List (Value × Value)} {x : ByteArray} {u : JV} {c : Value} (hr : Rising none ks) (hl : ks.length = vs.length) (h2 : ∀ q ∈ ps, ∃ k ∈ ks, q.1 = .string k) (hE : PEnts w lo B vs ks ps)
    (hin : (Value.string x, c) ∈ ps') (hkeep : ∀ q ∈ ps, q.1 ≠ .string x → q ∈ ps') (hsub : ∀ q ∈ ps', q = (Value.string x, c) ∨ q ∈ ps) (hu : PRep w lo B u c) :
    (∀ q ∈ ps', ∃ k ∈ insK ks x, q.1 = .string k) ∧ PEnts w lo B (insV ks vs x u) (insK ks x) ps' := by
  constructor
  · intro q hq
    rcases hsub q hq with e | e
    · exact ⟨x, mem_ins_self x ks, by rw [e]⟩
    · obtain ⟨k, hk, e2⟩ := h2 q e
      exact ⟨k, mem_ins x hk, e2⟩
  · refine PEnts.mk' (rising_ins x hr rfl) fun k y hy => ?_
    rw [getV_ins x k u hl] at hy
    by_cases e : x = k
    · subst e
      simp at hy
      exact ⟨c, hin, hy ▸ hu⟩
    · have e2 : (x.toList == k.toList) = false := by
        cases hc : x.toList == k.toList with
        | false => rfl
        | true => exact absurd (ba_ext' (beq_iff_eq.1 hc)) e
      rw [e2] at hy
      simp only [Bool.false_eq_true, if_false] at hy
      obtain ⟨c2, h3, h4⟩ := hE.get hy
      exact ⟨c2, hkeep _ h3 (fun e3 => e (by injection e3 with e3; exact e3.symm)), h4⟩
/-- A list's values with one of them laid. -/
theorem pvals_set {w : World} {lo B : Nat} {l : List JV} {cs : List Value} {i : Nat} {u : JV} {c : Value} (h : PVals w lo B l cs) (hu : PRep w lo B u c) :
    PVals w lo B (setL l i u) ((cs ++ List.replicate (max l.length (i + 1) - l.length) Value.nilIface).set i c) := by
  have hlen := h.length
  refine PVals.mk (by rw [List.length_set, List.length_append, List.length_replicate, setL_length]; omega) fun j hj hc => ?_
  have hj' := hj
  rw [setL_length] at hj'
  have hg := setL_get l i j u
  rw [List.getElem?_eq_getElem hj] at hg
  by_cases e : j = i
  · subst e
    rw [if_pos rfl] at hg
    have hu2 : (setL l j u)[j] = u := by simpa using hg
    rw [hu2, List.getElem_set_self]
    exact hu
  · rw [if_neg e] at hg
    rw [List.getElem_set_ne (by omega)]
    by_cases hjl : j < l.length
    · rw [if_pos hjl, List.getElem?_eq_getElem hjl] at hg
      have hu2 : (setL l i u)[j] = l[j] := by simpa using hg
      rw [hu2, List.getElem_append_left (by omega)]
      exact h.get j hjl (by omega)
    · rw [if_neg hjl] at hg
      by_cases hji : j < i
      · rw [if_pos hji] at hg
        have hu2 : (setL l i u)[j] = nullT := by simpa using hg
        rw [hu2, List.getElem_append_right (by omega), List.getElem_replicate]
        unfold nullT PRep
        exact .inl ⟨rfl, rfl⟩
      · rw [if_neg hji] at hg; cases hg
end Go.Proofs.YtmjegeipnaalnaaGreatDoor

/- Setting at a path: the small functions of the package. -/
namespace Go.Proofs.YtmjegeipnaalnaaGreatDoor
open Go.RowKit

set_option maxRecDepth 100000 in
theorem toInt_walk (n : Int) (w : World) : Calls Tryz.prog 224 #[.iface 3 (.int .i64 n)] w fun e w' => e = .returned (.tuple #[.int .i64 n, .bool true]) ∧ w' = w := by
  go_enter Tryz.func224, Tryz.ntmps224
  go_wp2_with fail
  go_ret2
  exact ⟨rfl, rfl⟩
set_option maxRecDepth 100000 in
theorem clamp_walk (i n : Nat) (w : World) (_hi : i ≤ 1000) (_hn : n ≤ 9000000000000) : Calls Tryz.prog 272 #[.int .i64 i, .int .i64 (-1), .int .i64 n] w fun e w' => e = .returned (.int .i64 (if i < n then i else n : Nat)) ∧ w' = w := by
  by_cases h : i < n
  · rw [if_pos h]
    go_enter Tryz.func272, Tryz.ntmps272
    go_wp2_with fail
    go_ret
    exact ⟨rfl, rfl⟩
  · rw [if_neg h]
    go_enter Tryz.func272, Tryz.ntmps272
    go_wp2_with fail
    go_ret
    exact ⟨rfl, rfl⟩
theorem allocated_walk (a x : Value) (w : World) : Calls Tryz.prog 314 #[a, x] w fun e w' => e = .returned (.bool false) ∧ w' = w := by
  go_enter Tryz.func314, Tryz.ntmps314
  go_wp2_with fail
  go_ret
  exact ⟨rfl, rfl⟩
theorem makeObject_walk (a : Value) (n : Nat) (w : World) : Calls Tryz.prog 315 #[a, .int .i64 n] w fun e w' => e = .returned (.map (some w.heap.size)) ∧ w' = w.alloc (.map #[] 0) := by
  have hmk := make_map n
  go_enter Tryz.func315, Tryz.ntmps315
  go_wp2_with fail
  go_ret
  exact ⟨rfl, rfl⟩
set_option maxRecDepth 100000 in
theorem makeArray_walk (a : Value) (n c : Nat) (w : World) (hn : n ≤ 9000000000000) (hc : c ≤ n) : Calls Tryz.prog 316 #[a, .int .i64 n, .int .i64 c] w fun e w' => e = .returned (.slice (some ⟨w.heap.size, 0, none⟩) n n) ∧ w' = w.alloc (.cells (Array.replicate n Value.nilIface) 20) := by
  have hmk := make_any n hn
  have hmax : ∀ ty (W : World), (Builtin.max_ #[3, 3] ty #[.int .i64 n, .int .i64 c]).run Tryz.prog W = .ok (.int .i64 n) W := by
    intro ty W
    rw [run_max_int2, if_neg (by omega)]
  go_enter Tryz.func316, Tryz.ntmps316
  go_wp2_with fail
  go_ret
  exact ⟨rfl, rfl⟩
end Go.Proofs.YtmjegeipnaalnaaGreatDoor

/- Setting at a path: a key of a map: the walk. -/
namespace Go.Proofs.YtmjegeipnaalnaaGreatDoor
open Go.RowKit

/-- How a step lies in Go. -/
def SVal : Step → Value
  | .key k => .iface 9 (.string k)
  | .idx i => .iface 3 (.int .i64 i)
/-- A path's steps lie in a row. -/
def PathAt (w : World) (B : Nat) : List Step → Nat → Nat → Prop
  | [], _, _ => True
  | s :: r, b, o => b < B ∧ StepOk s ∧ w.cell? ⟨b, o, none⟩ = some (SVal s) ∧ PathAt w B r b (o + 1)
theorem PathAt.below {w w' : World} {B B' : Nat} (hb : Below B w w') (hB : B ≤ B') : ∀ (p : List Step) (b o : Nat), PathAt w B p b o → PathAt w' B' p b o
  | [], _, _, _ => by unfold PathAt; trivial
  | s :: r, b, o, h => by
    unfold PathAt at h ⊢
    exact ⟨by omega, h.2.1, (hb.cell (p := ⟨b, o, none⟩) h.1).trans h.2.2.1, PathAt.below hb hB r b (o + 1) h.2.2.2⟩
/-- A path slice. -/
def PathV (w : World) (p : List Step) (v : Value) : Prop := ∃ A c, v = .slice A p.length c ∧ p.length ≤ c ∧ c ≤ 1000000 ∧ (p = [] ∨ ∃ b o, A = some ⟨b, o, none⟩ ∧ PathAt w w.heap.size p b o)
theorem PathV.below {w w' : World} {p : List Step} {v : Value} (h : PathV w p v) (hb : Below w.heap.size w w') : PathV w' p v := by
  obtain ⟨A, c, rfl, h1, h2, h3⟩ := h
  refine ⟨A, c, rfl, h1, h2, ?_⟩
  rcases h3 with h3 | ⟨b, o, rfl, h3⟩
  · exact .inl h3
  · exact .inr ⟨b, o, rfl, PathAt.below hb hb.size p b o h3⟩

/-- How setting ended: a value and no error, or an error. -/
def UpdR (ro : Option JV) (w' : World) (e : Ending) : Prop :=
  (∃ r u, ro = some r ∧ e = .returned (.tuple #[u, .nilIface]) ∧ PRep w' 0 w'.heap.size r u) ∨ (ro = none ∧ ∃ T a, (T = 230 ∨ T = 236) ∧ e = .returned (.tuple #[.nilIface, .iface T (.pointer a)]))
/-- What setting along a path promises. -/
def UpdC (p : List Step) : Prop := ∀ (x v : JV) (nv vv pv : Value) (w : World), PRep w 0 w.heap.size x nv → PRep w 0 w.heap.size v vv → Good v → Few 1000 v → PathV w p pv →
  Calls Tryz.prog 223 #[vv, pv, nv, .map none] w fun e w' => UpdR (setT p x v) w' e ∧ Below w.heap.size w w'

theorem run_look_nil (k : ByteArray) (w : World) : (Instr.lookup 83 (.map none) (.string k) true).run Tryz.prog w = .ok (.tuple #[.nilIface, .bool false]) w := by
  have hc : ∀ e, (Instr.checkKey e 10000 9 (.string k)).run Tryz.prog w = .ok () w := fun e => MapKept.run_checkKey (k := .string k) Tryz.underlying9 (by simp [MapKept.IsKey]) e 9999
  have hf : Instr.findNow .string (.string k) ([] : List MapEntry) 0 = some none := rfl
  have hz : (zeroValue 20).run Tryz.prog w = .ok .nilIface w := by kernel_rfl
  simp [Instr.lookup, run_underlying Tryz.underlying83, hc, MapKept.run_findKey Tryz.underlying9 hf, hz, Result.andThen]

set_option maxRecDepth 100000 in
theorem copy_nil (d : Nat) (w : World) (_hd : d < w.heap.size) : Calls Tryz.prog 154 #[.map (some d), .map none] w fun e w' => e = .returned (.tuple #[]) ∧ Below w.heap.size w w' := by
  have hrg := run_range_nilMap (P := Tryz.prog) w 83 9 20 Tryz.underlying83
  have hnx := fun ty => run_next_nilMap (P := Tryz.prog) w ty 0 0 #[]
  have hB := Lib.hid ((Below.refl w.heap.size w).alloc (Nat.le_refl _) (.mapIter none 0 #[] 0))
  go_enter Tryz.func154, Tryz.ntmps154
  go_wp2_with fail
  go_loopw [] (fun wr => wr = w.alloc (.mapIter none 0 #[] 0)) (fun _ => 0)
  case atStart => rfl
  case round =>
    subst hrel
    go_wp2_with fail
    go_end0
    exact ⟨rfl, hB.out⟩

theorem PRep.shape {w : World} {lo B : Nat} {v : JV} {r : Value} (h : PRep w lo B v r) : ∃ i, Shp r i ∧ i ≤ 5 := by
  obtain ⟨k, hh, t, l, ks, vs⟩ := v
  unfold PRep at h
  rcases h with ⟨_, rfl⟩ | ⟨_, rfl⟩ | ⟨_, rfl⟩ | ⟨_, _, _, _, _, rfl⟩ | ⟨_, _, _, _, rfl⟩ | ⟨_, _, rfl⟩ | ⟨_, _, _, _, _, _, rfl, _⟩ | ⟨_, _, _, _, _, _, rfl, _⟩
  · exact ⟨_, .nil, by omega⟩
  · exact ⟨_, .bool _, by omega⟩
  · exact ⟨_, .bool _, by omega⟩
  · exact ⟨_, .int _, by omega⟩
  · exact ⟨_, .flo _, by omega⟩
  · exact ⟨_, .str _, by omega⟩
  · exact ⟨_, .lst _ _ _, by omega⟩
  · exact ⟨_, .mp _, by omega⟩
theorem eq_struct {r : Value} {i : Nat} (h : Shp r i) (w : World) : (binOp .eql 20 r (.iface 198 (.agg #[]))).run Tryz.prog w = .ok (.bool false) w := by
  cases h
  · exact eq_nil_struct w
  · exact eq_bool_struct _ w
  · exact eq_int_struct _ w
  · exact eq_flo_struct _ w
  · exact eq_str_struct _ w
  · exact eq_lst_struct _ w
  · exact eq_mp_struct _ w
theorem guard_struct {r : Value} {i : Nat} (h : Shp r i) (x y : Operand) (w : World) : (eqGuard .eql 20 x y r (.iface 198 (.agg #[]))).run Tryz.prog w = .ok () w := by
  cases h <;> rfl

theorem modify_set (es : List MapEntry) (j : Nat) (q : MapEntry) (f : MapEntry → MapEntry) (h : es[j]? = some q) : (List.toArray es).modify j f = (es.set j (f q)).toArray := by
  obtain ⟨hj, e⟩ := List.getElem?_eq_some_iff.1 h
  apply Array.ext
  · simp
  · intro i h1 h2
    simp only [Array.getElem_modify, List.getElem_toArray, List.getElem_set]
    by_cases e2 : j = i
    · subst e2; simp [e]
    · simp [e2]

theorem born_lt {es : List MapEntry} (hb : es.map (·.born) = List.range es.length) : ∀ x ∈ es, x.born < es.length := by
  intro x hx
  have : x.born ∈ es.map (·.born) := List.mem_map.2 ⟨x, hx, rfl⟩
  rw [hb] at this
  exact List.mem_range.1 this
/-- One entry laid into a map. -/
theorem upd_entry (es : List MapEntry) (k : ByteArray) (u : Value) (d : Nat) (w : World) (hd : w.heap[d]? = some (.map (List.toArray es) es.length)) (hks : StrKeys es) (hkn : ((prs es).map (·.1)).Nodup) (hbo : es.map (·.born) = List.range es.length) :
    ∃ esf clockf, (Instr.mapUpdate 83 (.map (some d)) (.string k) u).run Tryz.prog w = .ok () (layB w d (.map (List.toArray esf) clockf)) ∧ (∀ e ∈ esf, e.born < clockf) ∧ (esf.map (·.born)).Nodup ∧ ((prs esf).map (·.1)).Nodup ∧
      (Value.string k, u) ∈ prs esf ∧ (∀ q ∈ prs es, q.1 ≠ .string k → q ∈ prs esf) ∧ (∀ q ∈ prs esf, q = (Value.string k, u) ∨ q ∈ prs es) := by
  have hst := born_lt hbo
  by_cases hfo : ∃ e ∈ es, e.key = .string k
  · obtain ⟨j, q, h5, h6, h7⟩ := findNow_some es 0 hks hfo
    obtain ⟨hj, hq⟩ := List.getElem?_eq_some_iff.1 h5
    have hbs : (es.set j { q with key := .string k, val := u }).map (·.born) = es.map (·.born) := by
      rw [List.map_set]
      show (es.map (·.born)).set j q.born = _
      rw [← hq]
      apply List.ext_getElem
      · simp
      · intro i h1 h2
        rw [List.getElem_set]
        split
        · rename_i e; subst e; simp
        · rfl
    have hkk : (prs (es.set j { q with key := .string k, val := u })).map (·.1) = (prs es).map (·.1) := by
      unfold prs
      rw [List.map_map, List.map_map, List.map_set]
      show (es.map (·.key)).set j (.string k) = es.map (·.key)
      apply List.ext_getElem
      · simp
      · intro i h1 h2
        rw [List.getElem_set]
        split
        · rename_i e; subst e; simp [← h6, hq]
        · rfl
    have hrun := run_update_same (P := Tryz.prog) (val := u) (j := j) (e := q) Tryz.underlying83 Tryz.underlying9 hd (by simpa using h5) h6 (by simpa using h7)
    rw [modify_set es j q _ h5] at hrun
    refine ⟨es.set j { q with key := .string k, val := u }, es.length, hrun, ?_, by rw [hbs, hbo]; exact List.nodup_range, by rw [hkk]; exact hkn, ?_, ?_, ?_⟩
    · intro e he
      have : e.born ∈ (es.set j { q with key := .string k, val := u }).map (·.born) := List.mem_map.2 ⟨e, he, rfl⟩
      rw [hbs, hbo] at this
      exact List.mem_range.1 this
    · exact List.mem_map.2 ⟨{ q with key := .string k, val := u }, List.mem_set hj _, rfl⟩
    · intro z hz hne
      obtain ⟨e, he, e2⟩ := List.mem_map.1 hz
      obtain ⟨i, hi, e3⟩ := List.mem_iff_getElem.1 he
      have hij : j ≠ i := fun e4 => by
        subst e4
        have : e = q := by rw [← e3, hq]
        subst this
        exact hne (by rw [← e2]; exact h6)
      refine List.mem_map.2 ⟨e, List.mem_iff_getElem.2 ⟨i, by simpa using hi, ?_⟩, e2⟩
      rw [List.getElem_set_ne hij, e3]
    · intro z hz
      obtain ⟨e, he, e2⟩ := List.mem_map.1 hz
      rcases List.mem_or_eq_of_mem_set he with h | h
      · exact .inr (List.mem_map.2 ⟨e, h, e2⟩)
      · exact .inl (by rw [← e2, h])
  · have hfn : Instr.findNow .string (.string k) es 0 = some none := findNow_none es 0 fun e he => by
      obtain ⟨s, hs⟩ := hks e he
      exact ⟨s, hs, fun e2 => hfo ⟨e, he, by rw [hs, e2]⟩⟩
    have hrun := run_update (P := Tryz.prog) (val := u) Tryz.underlying83 Tryz.underlying9 hd (by simpa using hfn)
    rw [lay_map] at hrun
    refine ⟨es ++ [{ key := .string k, val := u, born := es.length : MapEntry }], es.length + 1, hrun, ?_, ?_, ?_, ?_, ?_, ?_⟩
    · intro e he
      rcases List.mem_append.1 he with h | h
      · have := hst e h; omega
      · have : e = { key := .string k, val := u, born := es.length : MapEntry } := by simpa using h
        rw [this]; exact Nat.lt_succ_self _
    · rw [List.map_append, hbo]
      show (List.range es.length ++ [es.length]).Nodup
      rw [← List.range_succ]; exact List.nodup_range
    · unfold prs
      rw [List.map_append, List.map_append, List.nodup_append]
      refine ⟨hkn, by simp, fun a ha c hc => ?_⟩
      have hc2 : c = .string k := by simpa using hc
      subst hc2
      intro e2
      subst e2
      obtain ⟨z, hz, e3⟩ := List.mem_map.1 ha
      obtain ⟨e, he, e4⟩ := List.mem_map.1 hz
      exact hfo ⟨e, he, by rw [← e3, ← e4]⟩
    · exact List.mem_map.2 ⟨{ key := .string k, val := u, born := es.length : MapEntry }, by simp, rfl⟩
    · intro z hz _
      obtain ⟨e, he, e2⟩ := List.mem_map.1 hz
      exact List.mem_map.2 ⟨e, by simp [he], e2⟩
    · intro z hz
      obtain ⟨e, he, e2⟩ := List.mem_map.1 hz
      rcases List.mem_append.1 he with h | h
      · exact .inr (List.mem_map.2 ⟨e, h, e2⟩)
      · have : e = { key := .string k, val := u, born := es.length : MapEntry } := by simpa using h
        exact .inl (by rw [← e2, this])

set_option maxRecDepth 100000 in
set_option maxHeartbeats 8000000 in
theorem updObj_map (p : List Step) (hC : UpdC p) (k : ByteArray) (x : JV) (ks : List ByteArray) (vs : List JV) (hh : Int) (t : ByteArray) (nv pv : Value) (b : Nat) (w : World) (hx : PRep w 0 w.heap.size x nv) (hv : PRep w 0 w.heap.size (.mk 6 hh t [] ks vs) (.iface 83 (.map (some b)))) (hg : Good (.mk 6 hh t [] ks vs)) (hf : Few 1000 (.mk 6 hh t [] ks vs)) (hp : PathV w p pv) :
    Calls Tryz.prog 269 #[.map (some b), .string k, pv, nv, .map none] w fun e w' => UpdR (setT (.key k :: p) x (.mk 6 hh t [] ks vs)) w' e ∧ Below w.heap.size w w' := by
  have hat : setT (.key k :: p) x (.mk 6 hh t [] ks vs) = (setT p x (atK (.mk 6 hh t [] ks vs) k)).map fun u => mapT (insK ks k) (insV ks vs k u) := by
    conv => lhs; unfold setT
    rw [if_pos (show (JV.mk 6 hh t [] ks vs).kind = 0 ∨ (JV.mk 6 hh t [] ks vs).kind = 6 from Or.inr rfl)]; rfl
  rw [hat]
  have gch := good_atK hg k
  have fch := few_atK hf k
  have hatk : atK (.mk 6 hh t [] ks vs) k = (getV ks vs k).getD nullT := rfl
  obtain ⟨_, _, _, x4, _, _, _, _, x9, _, _⟩ := hg.head
  obtain ⟨i, hshp, _⟩ := hx.shape
  have hes := eq_struct hshp
  have hgs := guard_struct hshp
  -- the map's block
  obtain ⟨es, clock, hb, hblk, hst, hnd, hkin, hkn, hents⟩ : ∃ es clock, b < w.heap.size ∧ w.heap[b]? = some (.map (List.toArray es) clock) ∧ (∀ e ∈ es, e.born < clock) ∧ (es.map (·.born)).Nodup ∧ (∀ q ∈ prs es, ∃ k ∈ ks, q.1 = .string k) ∧ ((prs es).map (·.1)).Nodup ∧ PEnts w 0 w.heap.size vs ks (prs es) := by
    unfold PRep at hv
    rcases hv with ⟨e, _⟩ | ⟨e, _⟩ | ⟨e, _⟩ | ⟨e, _⟩ | ⟨e, _⟩ | ⟨e, _⟩ | ⟨e, _⟩ | ⟨_, b2, es, clock, _, h1, h2, h3, h4, h5, h6, h7, h8⟩
    all_goals first
      | (exfalso; revert e; decide)
      | (have e2 : b = b2 := by simpa using h2
         subst e2
         exact ⟨es, clock, h1, h3, h4, h5, h6, h7, h8⟩)
  have hks : StrKeys es := fun e he => by
    obtain ⟨k2, _, h2⟩ := hkin (e.key, e.val) (List.mem_map.2 ⟨e, he, rfl⟩)
    exact ⟨k2, h2⟩
  -- what the look-up gives
  obtain ⟨c, ok, hlook, hc⟩ : ∃ c ok, (Instr.lookup 83 (.map (some b)) (.string k) true).run Tryz.prog w = .ok (.tuple #[c, .bool ok]) w ∧ PRep w 0 w.heap.size (atK (.mk 6 hh t [] ks vs) k) c := by
    rw [hatk]
    cases hgv : getV ks vs k with
    | none =>
      have hfn : Instr.findNow .string (.string k) es 0 = some none := by
        refine findNow_none es 0 fun e he => ?_
        obtain ⟨k2, hk2, h2⟩ := hkin (e.key, e.val) (List.mem_map.2 ⟨e, he, rfl⟩)
        refine ⟨k2, h2, fun e3 => ?_⟩
        obtain ⟨j, hj, e4⟩ := List.mem_iff_getElem.1 hk2
        have := getV_at (vs := vs) x9 j hj (by omega)
        rw [e4, e3, hgv] at this
        cases this
      exact ⟨.nilIface, false, run_look_none (P := Tryz.prog) Tryz.underlying83 Tryz.underlying9 (by kernel_rfl) hblk (by simpa using hfn), by show PRep w 0 w.heap.size nullT .nilIface; unfold nullT PRep; exact .inl ⟨rfl, rfl⟩⟩
    | some y =>
      obtain ⟨c, h3, h4⟩ := hents.get hgv
      obtain ⟨e, he, e2⟩ := List.mem_map.1 h3
      have hek : e.key = .string k := congrArg Prod.fst e2
      have hev : e.val = c := congrArg Prod.snd e2
      obtain ⟨j, q, h5, h6, h7⟩ := findNow_some es 0 hks ⟨e, he, hek⟩
      have : q = e := inj_of_keys hkn (List.mem_of_getElem? h5) he (by rw [h6, hek])
      subst this
      refine ⟨c, true, run_look_some (P := Tryz.prog) (j := 0 + j) Tryz.underlying83 Tryz.underlying9 hblk (by rw [← hev]; simpa using h7), h4⟩
  have hfew : es.length ≤ 1000 := by
    have hks2 : ks.length ≤ 1000 := by unfold Few at hf; exact hf.2.1
    have := @len_le Value (fun a b => Classical.propDecidable _) ((prs es).map (·.1)) (ks.map Value.string) hkn (fun q hq => by
      obtain ⟨z, hz, e⟩ := List.mem_map.1 hq
      obtain ⟨k2, hk2, e2⟩ := hkin z hz
      exact List.mem_map.2 ⟨k2, hk2, by rw [← e2, e]⟩)
    simp [prs] at this
    omega
  have C := Lib.hid (hC x _ nv c pv w hx hc gch fch hp)
  have HX := Lib.hid hx
  clear hC hx hc gch fch hp hv hg hf hat hatk
  obtain ⟨ro, hro⟩ : ∃ ro, setT p x (atK (.mk 6 hh t [] ks vs) k) = ro := ⟨_, rfl⟩
  rw [hro] at C ⊢
  clear hro
  have HPP := Lib.hid (fun (lo B : Nat) (W : World) (ps' : List (Value × Value)) (u : JV) (c : Value) (ps : List (Value × Value)) => @pents_ins W lo B ks vs ps ps' k u c x9 x4)
  have HKIN := Lib.hid hkin
  have HKN := Lib.hid hkn
  have HENTS := Lib.hid hents
  have HST := Lib.hid hst
  have HND := Lib.hid hnd
  have HKS := Lib.hid hks
  have HBLK := Lib.hid hblk
  clear hkin hkn hents hst hnd hks hblk x4 x9 hshp
  cases ok
  all_goals
    go_enter Tryz.func269, Tryz.ntmps269
    go_wp2_with fail
    refine C.out.mono ?_
    rintro e w1 ⟨hr, hb1⟩
    rcases hr with ⟨r, u, rfl, rfl, hu⟩ | ⟨rfl, T, a, hT, rfl⟩
    · have hblk1 := kept_below hb1 hb HBLK.out
      have hs1 : w.heap.size ≤ w1.heap.size := hb1.size
      have hlen : ∀ ty, (Builtin.len_ #[83] ty #[.map (some b)]).run Tryz.prog w1 = .ok (goInt es.length) w1 := fun ty => by rw [run_len_map w1 83 ty b _ _ (by kernel_rfl) hblk1]; simp
      have HU := Lib.hid hu
      clear hu
      have hB2 := (Below.refl w1.heap.size w1).alloc (Nat.le_refl _) (.map #[] 0)
      have hbm : (w1.alloc (.map #[] 0)).heap[b]? = some (.map (List.toArray es) clock) := kept_below hB2 (by omega) hblk1
      have hdn : (w1.alloc (.map #[] 0)).heap[w1.heap.size]? = some (.map #[] 0) := heap_alloc_new w1 _
      have HCP := Lib.hid (copy_walk b w1.heap.size es clock (w1.alloc (.map #[] 0)) (by omega) hbm hdn HST.out HND.out HKS.out HKN.out)
      go_wp2_with (first
        | (go_at_call 314; refine (allocated_walk _ _ _).mono ?_; rintro e w' ⟨rfl, hw'⟩; obtain rfl := hw'.symm)
        | (go_at_call 315; refine (makeObject_walk _ (es.length + 1) _).mono ?_; rintro e w' ⟨rfl, rfl⟩))
      refine HCP.out.mono ?_
      rintro e w3 ⟨es2, rfl, hd3, hperm, hbo2, hb3⟩
      have hks2 : StrKeys es2 := fun q hq => by
        have : (q.key, q.val) ∈ prs es := hperm.mem_iff.1 (List.mem_map.2 ⟨q, hq, rfl⟩)
        obtain ⟨k2, _, h2⟩ := HKIN.out _ this
        exact ⟨k2, h2⟩
      have hkn2 : ((prs es2).map (·.1)).Nodup := (hperm.map _).nodup_iff.2 HKN.out
      obtain ⟨esf, clockf, hrun, hst2, hnd2, hkn3, hin, hkeep, hsub⟩ := upd_entry es2 k u w1.heap.size w3 hd3 hks2 hkn2 hbo2
      have hdf := layB_at (o := .map (List.toArray esf) clockf) hd3
      have hb4 : Below w1.heap.size w1 (layB w3 w1.heap.size (.map (List.toArray esf) clockf)) := Below.lay (hB2.trans hb3) (Nat.le_refl _) _
      have hdlt : w1.heap.size < (layB w3 w1.heap.size (.map (List.toArray esf) clockf)).heap.size := (Array.getElem?_eq_some_iff.1 hdf).1
      generalize layB w3 w1.heap.size (.map (List.toArray esf) clockf) = wf at *
      have hbw : Below w.heap.size w wf := hb1.trans (hb4.mono hs1)
      have hpp := HPP.out 0 wf.heap.size wf (prs esf) r u (prs es) HKIN.out (PEnts.mono (fun k2 _ hk2 => hbw.block k2 hk2) (Nat.le_refl _) (by omega) vs ks _ HENTS.out) hin
        (fun q hq hne => hkeep q (hperm.mem_iff.2 hq) hne) (fun q hq => (hsub q hq).imp id (fun h => hperm.mem_iff.1 h)) (HU.out.below hb4 (by omega))
      have HFIN := Lib.hid (show PRep wf 0 wf.heap.size (mapT (insK ks k) (insV ks vs k r)) (.iface 83 (.map (some w1.heap.size))) from by
        unfold mapT PRep
        exact .inr (.inr (.inr (.inr (.inr (.inr (.inr ⟨rfl, w1.heap.size, esf, clockf, Nat.zero_le _, hdlt, rfl, hdf, hst2, hnd2, hpp.1, hkn3, hpp.2⟩)))))))
      clear hst2 hnd2 hkn3 hin hkeep hsub hpp hdf hks2 hkn2 hbo2 hperm hb3 hd3
      go_wp2_with fail
      go_ret2
      exact ⟨.inl ⟨_, _, rfl, rfl, HFIN.out⟩, hbw⟩
    · rcases hT with rfl | rfl
      all_goals
        go_wp2_with fail
        go_ret2
        exact ⟨.inr ⟨rfl, _, _, by first | exact .inl rfl | exact .inr rfl, rfl⟩, hb1⟩
end Go.Proofs.YtmjegeipnaalnaaGreatDoor

/- Setting at a path: a key of nothing, an index of a list or of nothing: the walks. -/
namespace Go.Proofs.YtmjegeipnaalnaaGreatDoor
open Go.RowKit

theorem prep_null (w : World) (lo B : Nat) : PRep w lo B nullT .nilIface := by unfold nullT PRep; exact .inl ⟨rfl, rfl⟩

set_option maxRecDepth 100000 in
set_option maxHeartbeats 8000000 in
theorem updObj_nil (p : List Step) (hC : UpdC p) (k : ByteArray) (x : JV) (nv pv : Value) (w : World) (hx : PRep w 0 w.heap.size x nv) (hp : PathV w p pv) :
    Calls Tryz.prog 269 #[.map none, .string k, pv, nv, .map none] w fun e w' => UpdR ((setT p x nullT).map fun u => mapT (insK [] k) (insV [] [] k u)) w' e ∧ Below w.heap.size w w' := by
  obtain ⟨i, hshp, _⟩ := hx.shape
  have hes := eq_struct hshp
  have hgs := guard_struct hshp
  have hlook := run_look_nil k w
  have C := Lib.hid (hC x nullT nv .nilIface pv w hx (prep_null w 0 _) good_null (few_null _) hp)
  clear hC hx hp
  obtain ⟨ro, hro⟩ : ∃ ro, setT p x nullT = ro := ⟨_, rfl⟩
  rw [hro] at C ⊢
  clear hro
  go_enter Tryz.func269, Tryz.ntmps269
  go_wp2_with fail
  refine C.out.mono ?_
  rintro e w1 ⟨hr, hb1⟩
  rcases hr with ⟨r, u, rfl, rfl, hu⟩ | ⟨rfl, T, a, hT, rfl⟩
  · have hs1 : w.heap.size ≤ w1.heap.size := hb1.size
    have hlen : ∀ ty, (Builtin.len_ #[83] ty #[.map none]).run Tryz.prog w1 = .ok (goInt 0) w1 := fun ty => run_len_nilMap w1 83 ty (by kernel_rfl)
    have HU := Lib.hid hu
    clear hu
    have hB2 := (Below.refl w1.heap.size w1).alloc (Nat.le_refl _) (.map #[] 0)
    have hdn : (w1.alloc (.map #[] 0)).heap[w1.heap.size]? = some (.map #[] 0) := heap_alloc_new w1 _
    have HCP := Lib.hid (copy_nil w1.heap.size (w1.alloc (.map #[] 0)) (by simp))
    go_wp2_with (first
      | (go_at_call 314; refine (allocated_walk _ _ _).mono ?_; rintro e w' ⟨rfl, hw'⟩; obtain rfl := hw'.symm)
      | (go_at_call 315; refine (makeObject_walk _ 1 _).mono ?_; rintro e w' ⟨rfl, rfl⟩))
    refine HCP.out.mono ?_
    rintro e w3 ⟨rfl, hb3⟩
    have hd3 : w3.heap[w1.heap.size]? = some (.map (List.toArray ([] : List MapEntry)) ([] : List MapEntry).length) := kept_below hb3 (by simp) hdn
    obtain ⟨esf, clockf, hrun, hst2, hnd2, hkn3, hin, hkeep, hsub⟩ := upd_entry [] k u w1.heap.size w3 hd3 (fun e he => by simp at he) (by simp [prs]) rfl
    have hdf := layB_at (o := .map (List.toArray esf) clockf) hd3
    have hb4 : Below w1.heap.size w1 (layB w3 w1.heap.size (.map (List.toArray esf) clockf)) := Below.lay (hB2.trans (hb3.mono (by simp))) (Nat.le_refl _) _
    have hdlt : w1.heap.size < (layB w3 w1.heap.size (.map (List.toArray esf) clockf)).heap.size := (Array.getElem?_eq_some_iff.1 hdf).1
    generalize layB w3 w1.heap.size (.map (List.toArray esf) clockf) = wf at *
    have hbw : Below w.heap.size w wf := hb1.trans (hb4.mono hs1)
    have hpp := @pents_ins wf 0 wf.heap.size [] [] (prs []) (prs esf) k r u (by unfold Rising; trivial) rfl (fun q hq => by simp [prs] at hq) (by unfold PEnts; trivial) hin hkeep hsub (HU.out.below hb4 (by omega))
    have HFIN := Lib.hid (show PRep wf 0 wf.heap.size (mapT (insK [] k) (insV [] [] k r)) (.iface 83 (.map (some w1.heap.size))) from by
      unfold mapT PRep
      exact .inr (.inr (.inr (.inr (.inr (.inr (.inr ⟨rfl, w1.heap.size, esf, clockf, Nat.zero_le _, hdlt, rfl, hdf, hst2, hnd2, hpp.1, hkn3, hpp.2⟩)))))))
    clear hst2 hnd2 hkn3 hin hkeep hsub hpp hdf hb3 hd3
    go_wp2_with fail
    go_ret2
    exact ⟨.inl ⟨_, _, rfl, rfl, HFIN.out⟩, hbw⟩
  · rcases hT with rfl | rfl
    all_goals
      go_wp2_with fail
      go_ret2
      exact ⟨.inr ⟨rfl, _, _, by first | exact .inl rfl | exact .inr rfl, rfl⟩, hb1⟩

theorem cell_lst {w : World} {b : Nat} {cs : List Value} {T : TypeId} (h : w.heap[b]? = some (.cells (List.toArray cs) T (0, 0))) (i : Nat) (hi : i < cs.length) : w.cell? ⟨b, i, none⟩ = some cs[i] := by
  simp [World.cell?, h, hi]

theorem one_of {r : Value} {i : Nat} (h : Shp r i) : r.oneCell' = true := by cases h <;> rfl
theorem pvals_one {w : World} {lo B : Nat} {l : List JV} {cs : List Value} (h : PVals w lo B l cs) : ∀ v ∈ cs, v.oneCell' = true := by
  intro v hv
  obtain ⟨i, hi, rfl⟩ := List.mem_iff_getElem.1 hv
  obtain ⟨j, hs, _⟩ := (h.get i (by rw [← h.length]; exact hi) hi).shape
  exact one_of hs
/-- Copied into a new, longer row. -/
theorem copy_into (b d n m : Nat) (cs : List Value) (T : TypeId) (w : World) (hn : cs.length = n) (hm : n ≤ m) (hb : w.heap[b]? = some (.cells (List.toArray cs) T (0, 0))) (hd : w.heap[d]? = some (.cells (List.replicate m Value.nilIface).toArray 20 (0, 0))) (h1 : ∀ v ∈ cs, v.oneCell' = true) (ty : TypeId) :
    (Builtin.copy_ #[80, 80] ty #[.slice (some ⟨d, 0, none⟩) m m, .slice (some ⟨b, 0, none⟩) n n]).run Tryz.prog w = .ok (goInt n) (w.setRow d (cs ++ List.replicate (m - n) Value.nilIface).toArray) := by
  have h := run_copy_row (P := Tryz.prog) w 80 80 ty 20 d 0 m m ⟨b, 0, none⟩ n n _ 20 cs Tryz.underlying80 (by kernel_rfl) hd (by rw [hn]; exact (Nat.min_eq_left hm).symm) (fun j v hj => by
    obtain ⟨hjl, e⟩ := List.getElem?_eq_some_iff.1 hj
    have := cell_lst hb j hjl
    rw [e] at this
    have ha : (⟨b, 0, none⟩ : Addr).add j = ⟨b, j, none⟩ := by unfold Addr.add; split <;> simp_all
    rw [ha]; exact this) (by simp; omega) h1
  rw [h, hn]
  simp

/-- A new row with one value laid is the list with one value laid. -/
theorem list_laid {w : World} {l : List JV} {cs : List Value} {i d m : Nat} {r : JV} {u : Value} {row : List Value} (hcs : PVals w 0 w.heap.size l cs) (hm : m = max l.length (i + 1)) (hd : w.heap[d]? = some (.cells row.toArray 20 (0, 0))) (hrow : row = (cs ++ List.replicate (m - l.length) Value.nilIface).set i u) (hu : PRep w 0 w.heap.size r u) :
    PRep w 0 w.heap.size (listT (setL l i r)) (.iface 80 (.slice (some ⟨d, 0, none⟩) m m)) := by
  unfold listT PRep
  refine .inr (.inr (.inr (.inr (.inr (.inr (.inl ⟨rfl, d, row, 20, Nat.zero_le _, (Array.getElem?_eq_some_iff.1 hd).1, ?_, hd, ?_⟩))))))
  · rw [setL_length, hm]
  · rw [hrow, hm]; exact pvals_set hcs hu

set_option maxRecDepth 100000 in
set_option maxHeartbeats 8000000 in
theorem updArr_list (p : List Step) (hC : UpdC p) (i : Nat) (hi : i ≤ 100) (x : JV) (l : List JV) (nv pv : Value) (b n : Nat) (cs : List Value) (T : TypeId) (w : World) (hx : PRep w 0 w.heap.size x nv) (hb : b < w.heap.size) (hblk : w.heap[b]? = some (.cells (List.toArray cs) T (0, 0))) (hv : PVals w 0 w.heap.size l cs) (gl : GoodL l) (fl : FewL 1000 l) (hn : l.length = n) (hn1 : n ≤ 1000) (hp : PathV w p pv) :
    Calls Tryz.prog 270 #[.slice (some ⟨b, 0, none⟩) n n, .int .i64 i, pv, nv, .map none] w fun e w' => UpdR ((setT p x (l[i]?.getD nullT)).map fun u => listT (setL l i u)) w' e ∧ Below w.heap.size w w' := by
  have hlen := hv.length
  have HV := Lib.hid hv
  have HONE := Lib.hid (pvals_one hv)
  have HN := Lib.hid hn
  have HLEN := Lib.hid hlen
  have HCL := Lib.hid (fun W => clamp_walk i n W (by omega) (by omega))
  have HBLK := Lib.hid hblk
  by_cases hin : i < n
  · have hil : i < l.length := by omega
    have hic : i < cs.length := by omega
    have hch : l[i]?.getD nullT = l[i] := by rw [List.getElem?_eq_getElem hil]; rfl
    rw [hch]
    have hcell := cell_lst hblk i hic
    have C := Lib.hid (hC x l[i] nv cs[i] pv w hx (hv.get i hil hic) (gl.get _ (List.getElem_mem hil)) (fl.get _ (List.getElem_mem hil)) hp)
    obtain ⟨ro, hro⟩ : ∃ ro, setT p x l[i] = ro := ⟨_, rfl⟩
    rw [hro] at C ⊢
    generalize cs[i] = c at *
    rw [if_pos hin] at HCL
    clear hC hx hp hro hv gl fl hn hch hlen hblk
    go_enter Tryz.func270, Tryz.ntmps270
    go_wp2_with (go_at_call 272; refine (HCL.out _).mono ?_; rintro e w' ⟨rfl, hw'⟩; obtain rfl := hw'.symm)
    refine C.out.mono ?_
    rintro e w1 ⟨hr, hb1⟩
    rcases hr with ⟨r, u, rfl, rfl, hu⟩ | ⟨rfl, T2, a, hT, rfl⟩
    · have hs1 : w.heap.size ≤ w1.heap.size := hb1.size
      obtain ⟨iu, hshu, _⟩ := hu.shape
      have HU := Lib.hid hu
      clear hu
      have hB2 := (Below.refl w1.heap.size w1).alloc (Nat.le_refl _) (.cells (Array.replicate (n) Value.nilIface) 20)
      have hdn : (w1.alloc (.cells (Array.replicate (n) Value.nilIface) 20)).heap[w1.heap.size]? = some (.cells (List.replicate (n) Value.nilIface).toArray 20 (0, 0)) := by rw [heap_alloc_new]; simp
      have hblk2 := kept_below hB2 (by omega) (kept_below hb1 hb HBLK.out)
      have hcopy := copy_into b w1.heap.size n (n) cs T (w1.alloc (.cells (Array.replicate (n) Value.nilIface) 20)) (by rw [HLEN.out, HN.out]) (by omega) hblk2 hdn HONE.out
      have hd3 := setRow_heap (w1.alloc (.cells (Array.replicate (n) Value.nilIface) 20)) w1.heap.size _ (cs ++ List.replicate (n - n) Value.nilIface).toArray 20 (0, 0) hdn
      have hb3 := below_setRow hB2 (Nat.le_refl _) (cs ++ List.replicate (n - n) Value.nilIface).toArray
      generalize (w1.alloc (.cells (Array.replicate (n) Value.nilIface) 20)).setRow w1.heap.size (cs ++ List.replicate (n - n) Value.nilIface).toArray = w2 at hcopy hd3 hb3
      have hil3 : i < (cs ++ List.replicate (n - n) Value.nilIface).length := by rw [List.length_append, List.length_replicate, HLEN.out, HN.out]; omega
      have hc3 := cell_lst hd3 i hil3
      have hf3 : w2.frozen? ⟨w1.heap.size, i, none⟩ = false := by simp [World.frozen?, hd3]
      have hset := heap_setCell_same w2 w1.heap.size i _ 20 u hd3
      have hb4 := Below.setCell (p := ⟨w1.heap.size, i, none⟩) hb3 (Nat.le_refl _) u
      have hrow : ((cs ++ List.replicate (n - n) Value.nilIface).toArray.setIfInBounds i u) = ((cs ++ List.replicate (n - n) Value.nilIface).set i u).toArray := by simp
      rw [hrow] at hset
      generalize (cs ++ List.replicate (n - n) Value.nilIface)[i] = old at hc3
      have hbw : Below w.heap.size w (w2.setCell ⟨w1.heap.size, i, none⟩ u) := hb1.trans (hb4.mono hs1)
      have hsz4 : w1.heap.size < (w2.setCell ⟨w1.heap.size, i, none⟩ u).heap.size := (Array.getElem?_eq_some_iff.1 hset).1
      have HFIN := Lib.hid (list_laid (i := i) (m := n) (r := r) (PVals.mono (fun k2 _ hk2 => hbw.block k2 hk2) (Nat.le_refl _) (by omega) l cs HV.out) (by rw [HN.out]; omega) hset (by rw [HN.out]) (HU.out.below hb4 (by omega)))
      have HBW := Lib.hid hbw
      clear hset hb4 hrow hbw hd3 hb3 hblk2
      have HMA := Lib.hid (fun W => makeArray_walk (.map none) (n) n W (by omega) (by omega))
      cases hshu
      all_goals
        go_wp2_with (first
          | (go_at_call 314; refine (allocated_walk _ _ _).mono ?_; rintro e w' ⟨rfl, hw'⟩; obtain rfl := hw'.symm)
          | (go_at_call 316; refine (HMA.out _).mono ?_; rintro e w' ⟨rfl, rfl⟩))
        go_ret2
        exact ⟨.inl ⟨_, _, rfl, rfl, HFIN.out⟩, HBW.out⟩
    · rcases hT with rfl | rfl
      all_goals
        go_wp2_with fail
        go_ret2
        exact ⟨.inr ⟨rfl, _, _, by first | exact .inl rfl | exact .inr rfl, rfl⟩, hb1⟩
  · have hch : l[i]?.getD nullT = nullT := by rw [List.getElem?_eq_none (by omega)]; rfl
    rw [hch]
    obtain ⟨ix, hshp, _⟩ := hx.shape
    have hes := eq_struct hshp
    have hgs := guard_struct hshp
    have C := Lib.hid (hC x nullT nv .nilIface pv w hx (prep_null w 0 _) good_null (few_null _) hp)
    obtain ⟨ro, hro⟩ : ∃ ro, setT p x nullT = ro := ⟨_, rfl⟩
    rw [hro] at C ⊢
    rw [if_neg hin] at HCL
    have hin2 : n ≤ i := Nat.le_of_not_lt hin
    clear hC hx hp hro hv gl fl hn hch hlen hblk hin
    go_enter Tryz.func270, Tryz.ntmps270
    go_wp2_with fail
    refine (HCL.out _).mono ?_
    rintro e w' ⟨rfl, hw'⟩
    obtain rfl := hw'.symm
    go_upto_region 9 with (fail)
    go_upto_region 12 with (fail)
    go_upto_region 16 with (fail)
    have hbig : (decide ((536870912 : Int) ≤ (i : Int))) = false := decide_eq_false (by omega)
    go_wp2_with fail
    refine C.out.mono ?_
    rintro e w1 ⟨hr, hb1⟩
    rcases hr with ⟨r, u, rfl, rfl, hu⟩ | ⟨rfl, T2, a, hT, rfl⟩
    · have hs1 : w.heap.size ≤ w1.heap.size := hb1.size
      obtain ⟨iu, hshu, _⟩ := hu.shape
      have HU := Lib.hid hu
      clear hu
      have hB2 := (Below.refl w1.heap.size w1).alloc (Nat.le_refl _) (.cells (Array.replicate (i + 1) Value.nilIface) 20)
      have hdn : (w1.alloc (.cells (Array.replicate (i + 1) Value.nilIface) 20)).heap[w1.heap.size]? = some (.cells (List.replicate (i + 1) Value.nilIface).toArray 20 (0, 0)) := by rw [heap_alloc_new]; simp
      have hblk2 := kept_below hB2 (by omega) (kept_below hb1 hb HBLK.out)
      have hcopy := copy_into b w1.heap.size n (i + 1) cs T (w1.alloc (.cells (Array.replicate (i + 1) Value.nilIface) 20)) (by rw [HLEN.out, HN.out]) (by omega) hblk2 hdn HONE.out
      have hd3 := setRow_heap (w1.alloc (.cells (Array.replicate (i + 1) Value.nilIface) 20)) w1.heap.size _ (cs ++ List.replicate (i + 1 - n) Value.nilIface).toArray 20 (0, 0) hdn
      have hb3 := below_setRow hB2 (Nat.le_refl _) (cs ++ List.replicate (i + 1 - n) Value.nilIface).toArray
      generalize (w1.alloc (.cells (Array.replicate (i + 1) Value.nilIface) 20)).setRow w1.heap.size (cs ++ List.replicate (i + 1 - n) Value.nilIface).toArray = w2 at hcopy hd3 hb3
      have hil3 : i < (cs ++ List.replicate (i + 1 - n) Value.nilIface).length := by rw [List.length_append, List.length_replicate, HLEN.out, HN.out]; omega
      have hc3 := cell_lst hd3 i hil3
      have hf3 : w2.frozen? ⟨w1.heap.size, i, none⟩ = false := by simp [World.frozen?, hd3]
      have hset := heap_setCell_same w2 w1.heap.size i _ 20 u hd3
      have hb4 := Below.setCell (p := ⟨w1.heap.size, i, none⟩) hb3 (Nat.le_refl _) u
      have hrow : ((cs ++ List.replicate (i + 1 - n) Value.nilIface).toArray.setIfInBounds i u) = ((cs ++ List.replicate (i + 1 - n) Value.nilIface).set i u).toArray := by simp
      rw [hrow] at hset
      generalize (cs ++ List.replicate (i + 1 - n) Value.nilIface)[i] = old at hc3
      have hbw : Below w.heap.size w (w2.setCell ⟨w1.heap.size, i, none⟩ u) := hb1.trans (hb4.mono hs1)
      have hsz4 : w1.heap.size < (w2.setCell ⟨w1.heap.size, i, none⟩ u).heap.size := (Array.getElem?_eq_some_iff.1 hset).1
      have HFIN := Lib.hid (list_laid (i := i) (m := i + 1) (r := r) (PVals.mono (fun k2 _ hk2 => hbw.block k2 hk2) (Nat.le_refl _) (by omega) l cs HV.out) (by rw [HN.out]; omega) hset (by rw [HN.out]) (HU.out.below hb4 (by omega)))
      have HBW := Lib.hid hbw
      clear hset hb4 hrow hbw hd3 hb3 hblk2
      have HMA := Lib.hid (fun W => makeArray_walk (.map none) (i + 1) n W (by omega) (by omega))
      cases hshu
      all_goals
        go_wp2_with (first
          | (go_at_call 314; refine (allocated_walk _ _ _).mono ?_; rintro e w' ⟨rfl, hw'⟩; obtain rfl := hw'.symm)
          | (go_at_call 316; refine (HMA.out _).mono ?_; rintro e w' ⟨rfl, rfl⟩))
        go_ret2
        exact ⟨.inl ⟨_, _, rfl, rfl, HFIN.out⟩, HBW.out⟩
    · rcases hT with rfl | rfl
      all_goals
        go_wp2_with fail
        go_ret2
        exact ⟨.inr ⟨rfl, _, _, by first | exact .inl rfl | exact .inr rfl, rfl⟩, hb1⟩

set_option maxRecDepth 100000 in
set_option maxHeartbeats 8000000 in
theorem updArr_nil (p : List Step) (hC : UpdC p) (i : Nat) (hi : i ≤ 100) (x : JV) (nv pv : Value) (w : World) (hx : PRep w 0 w.heap.size x nv) (hp : PathV w p pv) :
    Calls Tryz.prog 270 #[.slice none 0 0, .int .i64 i, pv, nv, .map none] w fun e w' => UpdR ((setT p x nullT).map fun u => listT (setL [] i u)) w' e ∧ Below w.heap.size w w' := by
  have HCL := Lib.hid (fun W => clamp_walk i 0 W (by omega) (by omega))
  rw [if_neg (by omega)] at HCL
  obtain ⟨ix, hshp, _⟩ := hx.shape
  have hes := eq_struct hshp
  have hgs := guard_struct hshp
  have C := Lib.hid (hC x nullT nv .nilIface pv w hx (prep_null w 0 _) good_null (few_null _) hp)
  obtain ⟨ro, hro⟩ : ∃ ro, setT p x nullT = ro := ⟨_, rfl⟩
  rw [hro] at C ⊢
  clear hC hx hp hro
  have hbig : (decide ((536870912 : Int) ≤ (i : Int))) = false := decide_eq_false (by omega)
  go_enter Tryz.func270, Tryz.ntmps270
  go_wp2_with fail
  refine (HCL.out _).mono ?_
  rintro e w' ⟨rfl, hw'⟩
  obtain rfl := hw'.symm
  go_upto_region 9 with (fail)
  go_upto_region 12 with (fail)
  go_upto_region 16 with (fail)
  go_wp2_with fail
  refine C.out.mono ?_
  rintro e w1 ⟨hr, hb1⟩
  rcases hr with ⟨r, u, rfl, rfl, hu⟩ | ⟨rfl, T2, a, hT, rfl⟩
  · have hs1 : w.heap.size ≤ w1.heap.size := hb1.size
    obtain ⟨iu, hshu, _⟩ := hu.shape
    have HU := Lib.hid hu
    clear hu
    have hB2 := (Below.refl w1.heap.size w1).alloc (Nat.le_refl _) (.cells (Array.replicate (i + 1) Value.nilIface) 20)
    have hdn : (w1.alloc (.cells (Array.replicate (i + 1) Value.nilIface) 20)).heap[w1.heap.size]? = some (.cells (List.replicate (i + 1) Value.nilIface).toArray 20 (0, 0)) := by rw [heap_alloc_new]; simp
    have HMA := Lib.hid (makeArray_walk (.map none) (i + 1) 0 w1 (by omega) (by omega))
    obtain ⟨w2, hw2⟩ : ∃ w2, w2 = w1.alloc (.cells (Array.replicate (i + 1) Value.nilIface) 20) := ⟨_, rfl⟩
    rw [← hw2] at hB2 hdn HMA
    clear hw2
    have hcopy := fun ty => run_copy_nil (P := Tryz.prog) w2 80 80 ty 20 ⟨w1.heap.size, 0, none⟩ (i + 1) (i + 1) Tryz.underlying80 (by kernel_rfl)
    have hil3 : i < (List.replicate (i + 1) Value.nilIface).length := by simp
    have hc3 := cell_lst hdn i hil3
    have hf3 : w2.frozen? ⟨w1.heap.size, i, none⟩ = false := by simp only [World.frozen?, hdn]; simp
    have hset := heap_setCell_same w2 w1.heap.size i _ 20 u hdn
    have hb4 := Below.setCell (p := ⟨w1.heap.size, i, none⟩) hB2 (Nat.le_refl _) u
    have hrow : ((List.replicate (i + 1) Value.nilIface).toArray.setIfInBounds i u) = ((([] : List Value) ++ List.replicate (i + 1 - 0) Value.nilIface).set i u).toArray := by rw [List.setIfInBounds_toArray]; rfl
    rw [hrow] at hset
    generalize (List.replicate (i + 1) Value.nilIface)[i] = old at hc3
    have hbw : Below w.heap.size w (w2.setCell ⟨w1.heap.size, i, none⟩ u) := hb1.trans (hb4.mono hs1)
    have hsz4 : w1.heap.size < (w2.setCell ⟨w1.heap.size, i, none⟩ u).heap.size := (Array.getElem?_eq_some_iff.1 hset).1
    have HFIN := Lib.hid (list_laid (l := []) (cs := []) (i := i) (m := i + 1) (r := r) (by unfold PVals; rfl) (by simp) hset rfl (HU.out.below hb4 (by omega)))
    have HBW := Lib.hid hbw
    clear hset hb4 hrow hbw hdn hB2
    cases hshu
    all_goals
      go_wp2_with (first
        | (go_at_call 314; refine (allocated_walk _ _ _).mono ?_; rintro e w' ⟨rfl, hw'⟩; obtain rfl := hw'.symm)
        | (go_at_call 316; refine HMA.out.mono ?_; rintro e w' ⟨rfl, rfl⟩))
      go_ret2
      exact ⟨.inl ⟨_, _, rfl, rfl, HFIN.out⟩, HBW.out⟩
  · rcases hT with rfl | rfl
    all_goals
      go_wp2_with fail
      go_ret2
      exact ⟨.inr ⟨rfl, _, _, by first | exact .inl rfl | exact .inr rfl, rfl⟩, hb1⟩
end Go.Proofs.YtmjegeipnaalnaaGreatDoor
