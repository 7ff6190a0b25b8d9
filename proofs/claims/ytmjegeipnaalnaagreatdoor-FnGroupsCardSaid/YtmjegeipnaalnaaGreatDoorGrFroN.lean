/- From Go's values to a value of the thin package: nil, booleans, integers, floats, texts: the walks. A right value is small: what the look's counters say of its lists, its keys and its texts. -/
import Derived.Test.YtmjegeipnaalnaaGreatDoorGrFroG
import Derived.Test.YtmjegeipnaalnaaGreatDoorGrFloB
import Derived.Test.YtmjegeipnaalnaaGreatDoorGrHoldsM

/- From Go's values to a value of the thin package: nil, booleans, integers, floats, texts: the walks. -/
namespace Go.Proofs.YtmjegeipnaalnaaGreatDoor
open Go.RowKit

/-- A value that is its kind, its half and its text. -/
def bV (k h : Int) (t : ByteArray) : Value := .agg #[.int .i64 k, .int .i64 h, .string t, .slice none 0 0, .slice none 0 0, .slice none 0 0]
/-- What stands alone reads so in whatever world. -/
theorem bV_rep {w : World} {S : Nat → Prop} {k h : Int} {t : ByteArray} (hk : I64 k) (hh : I64 h) (ht : t.size ≤ 140737488351232) : JRepS w S (.mk k h t [] [] []) [.int .i64 k, .int .i64 h, .string t, .slice none 0 0, .slice none 0 0, .slice none 0 0] := by
  unfold JRepS
  exact ⟨hk, hh, ht, _, _, _, rfl, ⟨none, 0, rfl, Nat.le_refl _, by simp, .inl rfl⟩, ⟨none, 0, rfl, Nat.le_refl _, by simp, .inl rfl⟩, ⟨none, 0, rfl, Nat.le_refl _, by simp, .inl rfl⟩⟩

set_option maxRecDepth 100000 in
set_option maxHeartbeats 1000000 in
theorem fromGo_nil (w : World) :
    Calls Tryz.prog 83 #[.nilIface] w fun e w' => e = .returned (.tuple #[bV 0 0 ⟨#[]⟩, .bool true]) ∧ Below w.heap.size w w' := by
  have hX := heap_alloc_new w (.cells #[.int .i64 0, .int .i64 0, .string ⟨#[]⟩, .slice none 0 0, .slice none 0 0, .slice none 0 0] 26)
  have hB := (Below.refl w.heap.size w).alloc (Nat.le_refl _) (.cells #[.int .i64 0, .int .i64 0, .string ⟨#[]⟩, .slice none 0 0, .slice none 0 0, .slice none 0 0] 26)
  have hsz : w.heap.size < (w.alloc (.cells #[.int .i64 0, .int .i64 0, .string ⟨#[]⟩, .slice none 0 0, .slice none 0 0, .slice none 0 0] 26)).heap.size := by simp
  unfold bV
  go_enter Tryz.func83, Tryz.ntmps83
  go_upto_region 1 with (fail)
  generalize w.alloc (.cells #[.int .i64 0, .int .i64 0, .string ⟨#[]⟩, .slice none 0 0, .slice none 0 0, .slice none 0 0] 26) = w1 at *
  obtain ⟨x0, x1, x2, x3, x4, x5⟩ := box6 hX
  obtain ⟨f0, f1, f2, f3, f4, f5, _⟩ := frozen7 hX
  have HB := Lib.hid (below_set6 hB (Nat.le_refl _) (.int .i64 0) (.int .i64 0) (.string ⟨#[]⟩) (.slice none 0 0) (.slice none 0 0) (.slice none 0 0))
  clear hB
  go_wp2
  refine bodyPost_ret (v := .tuple #[.agg #[.int .i64 0, .int .i64 0, .string ⟨#[]⟩, .slice none 0 0, .slice none 0 0, .slice none 0 0], .bool true]) (by simp [results, Tryz.results83, go_sem, *]) rfl ⟨rfl, ?_⟩
  exact HB.out
set_option maxRecDepth 100000 in
set_option maxHeartbeats 1000000 in
theorem fromGo_str (t : ByteArray) (w : World) :
    Calls Tryz.prog 83 #[.iface 9 (.string t)] w fun e w' => e = .returned (.tuple #[bV 4 0 t, .bool true]) ∧ Below w.heap.size w w' := by
  have hX := heap_alloc_new w (.cells #[.int .i64 0, .int .i64 0, .string ⟨#[]⟩, .slice none 0 0, .slice none 0 0, .slice none 0 0] 26)
  have hB := (Below.refl w.heap.size w).alloc (Nat.le_refl _) (.cells #[.int .i64 0, .int .i64 0, .string ⟨#[]⟩, .slice none 0 0, .slice none 0 0, .slice none 0 0] 26)
  have hsz : w.heap.size < (w.alloc (.cells #[.int .i64 0, .int .i64 0, .string ⟨#[]⟩, .slice none 0 0, .slice none 0 0, .slice none 0 0] 26)).heap.size := by simp
  unfold bV
  go_enter Tryz.func83, Tryz.ntmps83
  go_upto_region 1 with (fail)
  generalize w.alloc (.cells #[.int .i64 0, .int .i64 0, .string ⟨#[]⟩, .slice none 0 0, .slice none 0 0, .slice none 0 0] 26) = w1 at *
  obtain ⟨x0, x1, x2, x3, x4, x5⟩ := box6 hX
  obtain ⟨f0, f1, f2, f3, f4, f5, _⟩ := frozen7 hX
  have HB := Lib.hid (below_set6 hB (Nat.le_refl _) (.int .i64 4) (.int .i64 0) (.string t) (.slice none 0 0) (.slice none 0 0) (.slice none 0 0))
  clear hB
  go_wp2
  refine bodyPost_ret (v := .tuple #[.agg #[.int .i64 4, .int .i64 0, .string t, .slice none 0 0, .slice none 0 0, .slice none 0 0], .bool true]) (by simp [results, Tryz.results83, go_sem, *]) rfl ⟨rfl, ?_⟩
  exact HB.out
set_option maxRecDepth 100000 in
set_option maxHeartbeats 1000000 in
theorem fromGo_i (n : Int) (h1 : -9007199254740992 ≤ n) (h2 : n ≤ 9007199254740992) (w : World) :
    Calls Tryz.prog 83 #[.iface 3 (.int .i64 n)] w fun e w' => e = .returned (.tuple #[bV 3 (2 * n) ⟨#[]⟩, .bool true]) ∧ Below w.heap.size w w' := by
  have hX := heap_alloc_new w (.cells #[.int .i64 0, .int .i64 0, .string ⟨#[]⟩, .slice none 0 0, .slice none 0 0, .slice none 0 0] 26)
  have hB := (Below.refl w.heap.size w).alloc (Nat.le_refl _) (.cells #[.int .i64 0, .int .i64 0, .string ⟨#[]⟩, .slice none 0 0, .slice none 0 0, .slice none 0 0] 26)
  have hsz : w.heap.size < (w.alloc (.cells #[.int .i64 0, .int .i64 0, .string ⟨#[]⟩, .slice none 0 0, .slice none 0 0, .slice none 0 0] 26)).heap.size := by simp
  unfold bV
  go_enter Tryz.func83, Tryz.ntmps83
  go_upto_region 1 with (fail)
  generalize w.alloc (.cells #[.int .i64 0, .int .i64 0, .string ⟨#[]⟩, .slice none 0 0, .slice none 0 0, .slice none 0 0] 26) = w1 at *
  obtain ⟨x0, x1, x2, x3, x4, x5⟩ := box6 hX
  obtain ⟨f0, f1, f2, f3, f4, f5, _⟩ := frozen7 hX
  have HB := Lib.hid (below_set6 hB (Nat.le_refl _) (.int .i64 3) (.int .i64 (2 * n)) (.string ⟨#[]⟩) (.slice none 0 0) (.slice none 0 0) (.slice none 0 0))
  clear hB
  have g1 : -4611686018427387904 ≤ n := by omega
  have g2 : n ≤ 4611686018427387903 := by omega
  go_wp2
  refine bodyPost_ret (v := .tuple #[.agg #[.int .i64 3, .int .i64 (2 * n), .string ⟨#[]⟩, .slice none 0 0, .slice none 0 0, .slice none 0 0], .bool true]) (by simp [results, Tryz.results83, go_sem, *]) rfl ⟨rfl, ?_⟩
  exact HB.out
set_option maxRecDepth 100000 in
set_option maxHeartbeats 1000000 in
theorem fromGo_flo (h : Int) (h0 : h ≠ 0) (h1 : -9007199254740992 < h) (h2 : h < 9007199254740992) (w : World) :
    Calls Tryz.prog 83 #[.iface 79 (.float .f64 (halfBits h))] w fun e w' => e = .returned (.tuple #[hV h, .bool true]) ∧ Below w.heap.size w w' := by
  have hX := heap_alloc_new w (.cells #[.int .i64 0, .int .i64 0, .string ⟨#[]⟩, .slice none 0 0, .slice none 0 0, .slice none 0 0] 26)
  have hB := (Below.refl w.heap.size w).alloc (Nat.le_refl _) (.cells #[.int .i64 0, .int .i64 0, .string ⟨#[]⟩, .slice none 0 0, .slice none 0 0, .slice none 0 0] 26)
  have hsz : w.heap.size < (w.alloc (.cells #[.int .i64 0, .int .i64 0, .string ⟨#[]⟩, .slice none 0 0, .slice none 0 0, .slice none 0 0] 26)).heap.size := by simp
  have C := Lib.hid (fun W => half_walk h h0 h1 h2 W)
  have ht : ∀ W : World, (binOp .mul 79 (.float .f64 4611686018427387904) (.float .f64 (halfBits h))).run Tryz.prog W = .ok (.float .f64 (floatOfInt .f64 h)) W := fun W => run_float_arith W .mul 79 .f64 _ _ _ (twice_half h h0 h1 h2)
  generalize halfBits h = x at *
  generalize floatOfInt .f64 h = y at *
  clear h0 h1 h2
  go_enter Tryz.func83, Tryz.ntmps83
  go_upto_region 1 with (fail)
  generalize w.alloc (.cells #[.int .i64 0, .int .i64 0, .string ⟨#[]⟩, .slice none 0 0, .slice none 0 0, .slice none 0 0] 26) = w1 at *
  go_wp2_with fail
  refine (C.out _).mono ?_
  rintro e w2 ⟨rfl, hb⟩
  replace hX := kept_below hb (by omega) hX
  replace hB := hB.trans (hb.mono (by omega))
  have hlt2 : w.heap.size < w2.heap.size := by have := hb.size; omega
  clear hb C
  obtain ⟨x0, x1, x2, x3, x4, x5⟩ := box6 hX
  obtain ⟨f0, f1, f2, f3, f4, f5, _⟩ := frozen7 hX
  unfold hV
  have HB := Lib.hid (below_set6 hB (Nat.le_refl _) (.int .i64 3) (.int .i64 h) (.string ⟨#[]⟩) (.slice none 0 0) (.slice none 0 0) (.slice none 0 0))
  clear hB
  go_wp2
  refine bodyPost_ret (v := .tuple #[.agg #[.int .i64 3, .int .i64 h, .string ⟨#[]⟩, .slice none 0 0, .slice none 0 0, .slice none 0 0], .bool true]) (by simp [results, Tryz.results83, go_sem, *]) rfl ⟨rfl, ?_⟩
  exact HB.out
end Go.Proofs.YtmjegeipnaalnaaGreatDoor

/- A right value is small: what the look's counters say of its lists, its keys and its texts. -/
namespace Go.Proofs.YtmjegeipnaalnaaGreatDoor

mutual
/-- How many parts a value has. -/
def cnt : JV → Nat
  | .mk _ _ _ l _ vs => 1 + cntL l + cntL vs
def cntL : List JV → Nat
  | [] => 0
  | x :: r => cnt x + cntL r
end
theorem cnt_pos (v : JV) : 1 ≤ cnt v := by cases v; unfold cnt; omega
theorem len_le_cntL : ∀ (l : List JV), l.length ≤ cntL l
  | [] => Nat.zero_le _
  | x :: r => by
    have := len_le_cntL r
    have := cnt_pos x
    unfold cntL
    simp only [List.length_cons]
    omega
theorem cnt_le_mem : ∀ {l : List JV} {x : JV}, x ∈ l → cnt x ≤ cntL l
  | [], _, h => by simp at h
  | y :: r, x, h => by
    unfold cntL
    rcases List.mem_cons.1 h with e | e
    · subst e; omega
    · have := cnt_le_mem e; omega
theorem few_of_cnt (N : Nat) : ∀ v, Good v → cnt v ≤ N → Few N v := by
  refine JV.ind fun k h t l ks vs ihl ihv => ?_
  intro g hc
  obtain ⟨_, _, _, x4, _, _, _, _, _, x10, x11⟩ := g.head
  unfold cnt at hc
  have h1 := len_le_cntL l
  have h2 := len_le_cntL vs
  unfold Few
  exact ⟨by omega, by omega, by omega, FewL.of fun y hy => ihl y hy (x10.get y hy) (by have := cnt_le_mem hy; omega), FewL.of fun y hy => ihv y hy (x11.get y hy) (by have := cnt_le_mem hy; omega)⟩

theorem part_ok {s : Lk} {d : Int} (h : (s.part d).bad = false) : s.parts + 1 ≤ 400 := by
  simp [Lk.part] at h; omega
theorem str_small {V : ByteArray → Bool} {s : Lk} {t : ByteArray} (h : (s.str V t).bad = false) : s.bytes + t.size ≤ 2000 := by
  simp [Lk.str] at h; omega

mutual
theorem fit_value (V : ByteArray → Bool) (d : Int) : ∀ (v : JV) (s : Lk), (Lk.value V d v s).bad = false → 0 ≤ s.bytes →
    s.parts + cnt v ≤ (Lk.value V d v s).parts ∧ (Lk.value V d v s).parts ≤ 400 ∧ 0 ≤ (Lk.value V d v s).bytes ∧ Short v
  | .mk k h t l ks vs, s, hb, h0 => by
    by_cases hp : (s.part d).bad = true
    · simp [Lk.value, hp] at hb
    · have hp' : (s.part d).bad = false := by simpa using hp
      simp only [Lk.value, hp', Bool.false_eq_true, if_false] at hb ⊢
      have h1 := not_bad (fun e => Lk.entries_sticky V (d + 1) vs ks none _ e) hb
      have h2 := not_bad (fun e => Lk.list_sticky V (d + 1) l _ e) h1
      have h3 := want_ok (str_ok h2)
      have h4 := want_ok h3.1
      have q1 := part_ok hp'
      have q2' := str_small h2
      have q2 : s.bytes + (t.size : Int) ≤ 2000 := q2'
      have q3 := fit_list V (d + 1) l _ h1 (show 0 ≤ s.bytes + (t.size : Int) by omega) (show s.parts + 1 ≤ 400 by omega)
      have q4 := fit_entries V (d + 1) vs ks none _ (headOk_len h4.2) hb q3.2.2.1 q3.2.1
      have q5 : (s.parts + 1) + cntL l ≤ (Lk.list V (d + 1) l ((((s.part d).want (JV.mk k h t l ks vs).headOk).want (JV.mk k h t l ks vs).halfOk).str V t)).parts := q3.1
      refine ⟨?_, q4.2.1, q4.2.2.1, ?_⟩
      · have := q4.1
        unfold cnt
        omega
      · unfold Short
        exact ⟨by omega, q4.2.2.2.2, q3.2.2.2, q4.2.2.2.1⟩
theorem fit_list (V : ByteArray → Bool) (d : Int) : ∀ (l : List JV) (s : Lk), (Lk.list V d l s).bad = false → 0 ≤ s.bytes → s.parts ≤ 400 →
    s.parts + cntL l ≤ (Lk.list V d l s).parts ∧ (Lk.list V d l s).parts ≤ 400 ∧ 0 ≤ (Lk.list V d l s).bytes ∧ ShortL l
  | [], s, _, h0, h1 => by unfold ShortL cntL Lk.list; exact ⟨by omega, h1, h0, trivial⟩
  | x :: r, s, hb, h0, h1 => by
    have hs := not_bad (fun e => Lk.list_sticky V d (x :: r) s e) hb
    rw [Lk.list_cons_ok V d x r s hs] at hb ⊢
    have h2 := not_bad (fun e => Lk.list_sticky V d r _ e) hb
    have q1 := fit_value V d x s h2 h0
    have q2 := fit_list V d r _ hb q1.2.2.1 q1.2.1
    unfold ShortL cntL
    exact ⟨by have := q1.1; have := q2.1; omega, q2.2.1, q2.2.2.1, q1.2.2.2, q2.2.2.2⟩
theorem fit_entries (V : ByteArray → Bool) (d : Int) : ∀ (vs : List JV) (ks : List ByteArray) (p : Option ByteArray) (s : Lk), ks.length = vs.length → (Lk.entries V d vs ks p s).bad = false → 0 ≤ s.bytes → s.parts ≤ 400 →
    s.parts + cntL vs ≤ (Lk.entries V d vs ks p s).parts ∧ (Lk.entries V d vs ks p s).parts ≤ 400 ∧ 0 ≤ (Lk.entries V d vs ks p s).bytes ∧ ShortL vs ∧ ∀ k ∈ ks, k.size ≤ 140737488351232
  | [], [], _, s, _, _, h0, h1 => by unfold ShortL cntL Lk.entries; exact ⟨by omega, h1, h0, trivial, by simp⟩
  | [], _ :: _, _, _, hl, _, _, _ => absurd hl (by simp)
  | _ :: _, [], _, _, hl, _, _, _ => absurd hl (by simp)
  | x :: r, k :: ks, p, s, hl, hb, h0, h1 => by
    have hs := not_bad (fun e => Lk.entries_sticky V d (x :: r) (k :: ks) p s e) hb
    rw [Lk.entries_cons_ok V d x r k ks p s hs] at hb ⊢
    have h2 := not_bad (fun e => Lk.entries_sticky V d r ks (some k) _ e) hb
    have h3 := not_bad (fun e => Lk.value_bad V d x _ e) h2
    have h4' := str_small (want_ok h3).1
    have h4 : s.bytes + (k.size : Int) ≤ 2000 := h4'
    have q1 := fit_value V d x _ h2 (show 0 ≤ s.bytes + (k.size : Int) by omega)
    have q1a : s.parts + cnt x ≤ (Lk.value V d x ((s.str V k).want (prevOk p k))).parts := q1.1
    have q2 := fit_entries V d r ks (some k) _ (by simpa using hl) hb q1.2.2.1 q1.2.1
    unfold ShortL cntL
    refine ⟨by have := q2.1; omega, q2.2.1, q2.2.2.1, ⟨q1.2.2.2, q2.2.2.2.1⟩, fun y hy => ?_⟩
    rcases List.mem_cons.1 hy with e | e
    · rw [e]; omega
    · exact q2.2.2.2.2 y e
end
theorem few_of_fit {v : JV} (h : fitB v = true) : Few 400 v := by
  have g := good_of_fit h
  unfold fitB at h
  have q := fit_value validB 0 v ⟨0, 0, false⟩ (by simpa using h) (by simp)
  refine few_of_cnt 400 v g ?_
  have q1 := q.1
  have q2 := q.2.1
  simp only at q1
  omega
theorem short_of_fit {v : JV} (h : fitB v = true) : Short v := by
  unfold fitB at h
  exact (fit_value validB 0 v ⟨0, 0, false⟩ (by simpa using h) (by simp)).2.2.2
end Go.Proofs.YtmjegeipnaalnaaGreatDoor
