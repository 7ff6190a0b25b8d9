/- From a value of the thin package to Go's values: every right value: the walk. -/
import Derived.Test.YtmjegeipnaalnaaGreatDoorGrToGo
namespace Go.Proofs.YtmjegeipnaalnaaGreatDoor
open Go.RowKit

set_option maxRecDepth 100000 in
set_option maxHeartbeats 1000000 in
theorem toGo_flo (h : Int) (t l k v : Value) (w : World) (h1 : -9007199254740992 < h) (h2 : h < 9007199254740992) (ho : h % 2 = 1) :
    Calls Tryz.prog 41 #[.agg #[.int .i64 3, .int .i64 h, t, l, k, v]] w fun e w' => e = .returned (.tuple #[.iface 79 (.float .f64 (halfBits h)), .bool true]) ∧ Below w.heap.size w w' := by
  have hb := (Below.refl w.heap.size w).alloc (Nat.le_refl _) (.cells #[.int .i64 3, .int .i64 h, t, l, k, v] 26)
  have hq := (half_odd h (by omega) h1 h2).1
  have hrun : ∀ W : World, (binOp .quo 79 (.float .f64 (floatOfInt .f64 h)) (.float .f64 4611686018427387904)).run Tryz.prog W = .ok (.float .f64 (halfBits h)) W := fun W => run_float_arith W .quo 79 .f64 _ _ _ hq
  have HQ := Lib.hid hq
  have he2 : (h % 2 == 0) = false := by rw [ho]; rfl
  have he : (h.tmod 2 == 0) = false := by
    cases hc : h.tmod 2 == 0 with
    | false => rfl
    | true => have := beq_iff_eq.1 hc; have := Int.mul_tdiv_add_tmod h 2; omega
  clear hq ho
  by_cases h0 : 0 ≤ h
  · go_enter Tryz.func41, Tryz.ntmps41
    go_wp2_with fail
    go_ret2
    exact ⟨rfl, hb⟩
  · go_enter Tryz.func41, Tryz.ntmps41
    go_wp2_with fail
    go_ret2
    exact ⟨rfl, hb⟩
set_option maxRecDepth 100000 in
set_option maxHeartbeats 1000000 in
theorem toGo_small (k h : Int) (a t l b : Value) (w : World) (hk : k = 0 ∨ k = 1 ∨ k = 2) :
    Calls Tryz.prog 41 #[.agg #[.int .i64 k, .int .i64 h, a, t, l, b]] w fun e w' => e = .returned (.tuple #[if k = 0 then .nilIface else if k = 1 then .iface 4 (.bool false) else .iface 4 (.bool true), .bool true]) ∧ Below w.heap.size w w' := by
  have hb := (Below.refl w.heap.size w).alloc (Nat.le_refl _) (.cells #[.int .i64 k, .int .i64 h, a, t, l, b] 26)
  rcases hk with rfl | rfl | rfl
  all_goals
    go_enter Tryz.func41, Tryz.ntmps41
    go_wp2_with fail
    go_ret2
    exact ⟨rfl, hb⟩
set_option maxRecDepth 100000 in
set_option maxHeartbeats 1000000 in
theorem toGo_text (h : Int) (t : ByteArray) (a l b : Value) (w : World) :
    Calls Tryz.prog 41 #[.agg #[.int .i64 4, .int .i64 h, .string t, a, l, b]] w fun e w' => e = .returned (.tuple #[.iface 9 (.string t), .bool true]) ∧ Below w.heap.size w w' := by
  have hb := (Below.refl w.heap.size w).alloc (Nat.le_refl _) (.cells #[.int .i64 4, .int .i64 h, .string t, a, l, b] 26)
  go_enter Tryz.func41, Tryz.ntmps41
  go_wp2_with fail
  go_ret2
  exact ⟨rfl, hb⟩
set_option maxRecDepth 100000 in
set_option maxHeartbeats 1000000 in
theorem toGo_list (h : Int) (t : ByteArray) (l : List JV) (ih : ∀ y ∈ l, ToGoC y) (gl : GoodL l) (A : Option Addr) (n c : Nat) (a b : Value) (w : World) (hn : l.length = n) (hnm : n ≤ 9000000000000) (hJ : n = 0 ∨ ∃ b o, A = some ⟨b, o, none⟩ ∧ JCells w w.heap.size l b o) :
    Calls Tryz.prog 41 #[.agg #[.int .i64 5, .int .i64 h, .string t, .slice A n c, a, b]] w fun e w' => ∃ b cs, w.heap.size ≤ b ∧ b < w'.heap.size ∧ e = .returned (.tuple #[.iface 80 (.slice (some ⟨b, 0, none⟩) n n), .bool true]) ∧ w'.heap[b]? = some (.cells (List.toArray cs) 20 (0, 0)) ∧ GVals w' w.heap.size w'.heap.size l cs ∧ Below w.heap.size w w' := by
  have hb := (Below.refl w.heap.size w).alloc (Nat.le_refl _) (.cells #[.int .i64 5, .int .i64 h, .string t, .slice A n c, a, b] 26)
  have hsz : (w.alloc (.cells #[.int .i64 5, .int .i64 h, .string t, .slice A n c, a, b] 26)).heap.size = w.heap.size + 1 := by simp
  have cl := listToGo l ih gl A n c (w.alloc (.cells #[.int .i64 5, .int .i64 h, .string t, .slice A n c, a, b] 26)) hn hnm (by
    rcases hJ with h0 | ⟨b, o, h0, h2⟩
    · exact .inl h0
    · exact .inr ⟨b, o, h0, JCells.below hb (by omega) l b o h2⟩)
  rw [hsz] at cl
  have C := Lib.hid cl
  clear cl hJ hn
  go_enter Tryz.func41, Tryz.ntmps41
  go_wp2_with (go_at_call 81; refine C.out.mono ?_; rintro e w1 ⟨cs, rfl, hbl, hgv, hb1⟩)
  go_ret2
  have hlt := (Array.getElem?_eq_some_iff.1 hbl).1
  exact ⟨w.heap.size + 1, cs, by omega, hlt, rfl, hbl, GVals.mono (fun _ _ _ => rfl) (by omega) (Nat.le_refl _) _ _ hgv, hb.trans (hb1.mono (by omega))⟩
set_option maxRecDepth 100000 in
set_option maxHeartbeats 1000000 in
theorem toGo_map (h : Int) (t : ByteArray) (ks : List ByteArray) (vs : List JV) (hl : ks.length = vs.length) (hris : Rising none ks) (ih : ∀ y ∈ vs, ToGoC y) (gv : GoodL vs) (a : Value) (A A' : Option Addr) (n c n' c' : Nat) (w : World) (hn : ks.length = n) (hn' : vs.length = n') (hnm : n ≤ 9000000000000)
    (hJ : n = 0 ∨ ∃ b o, A = some ⟨b, o, none⟩ ∧ SCells w w.heap.size ks b o) (hJ' : n' = 0 ∨ ∃ b o, A' = some ⟨b, o, none⟩ ∧ JCells w w.heap.size vs b o) :
    Calls Tryz.prog 41 #[.agg #[.int .i64 6, .int .i64 h, .string t, a, .slice A n c, .slice A' n' c']] w fun e w' => ∃ b es, w.heap.size ≤ b ∧ b < w'.heap.size ∧ e = .returned (.tuple #[.iface 83 (.map (some b)), .bool true]) ∧ w'.heap[b]? = some (.map (List.toArray es) es.length) ∧ es.length = n ∧
      es.map (·.key) = ks.map Value.string ∧ es.map (·.born) = List.range es.length ∧ GVals w' w.heap.size w'.heap.size vs (es.map (·.val)) ∧ Below w.heap.size w w' := by
  have hb := (Below.refl w.heap.size w).alloc (Nat.le_refl _) (.cells #[.int .i64 6, .int .i64 h, .string t, a, .slice A n c, .slice A' n' c'] 26)
  have hsz : (w.alloc (.cells #[.int .i64 6, .int .i64 h, .string t, a, .slice A n c, .slice A' n' c'] 26)).heap.size = w.heap.size + 1 := by simp
  have cl := mapToGo ks vs hl hris ih gv (.int .i64 6) (.int .i64 h) (.string t) a A A' n c n' c' (w.alloc (.cells #[.int .i64 6, .int .i64 h, .string t, a, .slice A n c, .slice A' n' c'] 26)) hn hn' hnm
    (by
      rcases hJ with h0 | ⟨b, o, h0, h2⟩
      · exact .inl h0
      · exact .inr ⟨b, o, h0, SCells.below hb (by omega) ks b o h2⟩)
    (by
      rcases hJ' with h0 | ⟨b, o, h0, h2⟩
      · exact .inl h0
      · exact .inr ⟨b, o, h0, JCells.below hb (by omega) vs b o h2⟩)
  rw [hsz] at cl
  have C := Lib.hid cl
  clear cl hJ hJ' hn hn' hl
  go_enter Tryz.func41, Tryz.ntmps41
  go_wp2_with (go_at_call 82; refine C.out.mono ?_; rintro e w1 ⟨es, rfl, hbl, hlen, hkey, hborn, hgv, hb1⟩)
  go_ret2
  have hlt := (Array.getElem?_eq_some_iff.1 hbl).1
  exact ⟨w.heap.size + 1 + 1, es, by omega, hlt, rfl, hbl, hlen, hkey, hborn, GVals.mono (fun _ _ _ => rfl) (by omega) (Nat.le_refl _) _ _ hgv, hb.trans (hb1.mono (by omega))⟩

theorem toGo_all : ∀ v, ToGoC v := by
  refine JV.ind fun k h t l ks vs ihl ihv => ?_
  intro x w hx gx
  obtain ⟨x1, x2, x3, x4, x5, x6, x7, x8, x9, x10, x11⟩ := gx.head
  obtain ⟨vl, vk, vv, rfl, _, _, ht, ⟨A, c, rfl, hc1, hc2, hl⟩, ⟨A2, c2, rfl, ha1, ha2, hK⟩, ⟨A3, c3, rfl, hb1, hb2, hV⟩⟩ := hx.laid
  by_cases h3 : k ≤ 2
  · refine (toGo_small k h _ _ _ _ w (by omega)).mono ?_
    rintro e w' ⟨rfl, hb⟩
    refine ⟨_, rfl, ?_, hb⟩
    unfold GRep
    by_cases k0 : k = 0
    · rw [if_pos k0]; exact .inl ⟨k0, rfl⟩
    · rw [if_neg k0]
      by_cases k1 : k = 1
      · rw [if_pos k1]; exact .inr (.inl ⟨k1, rfl⟩)
      · rw [if_neg k1]; exact .inr (.inr (.inl ⟨by omega, rfl⟩))
  by_cases h4 : k = 3
  · subst h4
    by_cases he : h % 2 = 0
    · have hd := Int.mul_tdiv_add_tmod h 2
      have hm : h.tmod 2 = 0 := Int.tmod_eq_zero_of_dvd (Int.dvd_of_emod_eq_zero he)
      refine (toGo_int h _ _ _ _ w x6 x7 (by rw [hm]; rfl)).mono ?_
      rintro e w' ⟨rfl, hb⟩
      refine ⟨_, rfl, ?_, hb⟩
      unfold GRep
      exact .inr (.inr (.inr (.inl ⟨rfl, h.tdiv 2, by omega, by omega, by omega, rfl⟩)))
    · have hm : ¬ h.tmod 2 = 0 := by have := Int.mul_tdiv_add_tmod h 2; omega
      have h8 := x8.resolve_left hm
      refine (toGo_flo h _ _ _ _ w h8.1 h8.2 (by omega)).mono ?_
      rintro e w' ⟨rfl, hb⟩
      refine ⟨_, rfl, ?_, hb⟩
      unfold GRep
      exact .inr (.inr (.inr (.inr (.inl ⟨rfl, by omega, h8.1, h8.2, rfl⟩))))
  by_cases h5 : k = 4
  · subst h5
    refine (toGo_text h t _ _ _ w).mono ?_
    rintro e w' ⟨rfl, hb⟩
    refine ⟨_, rfl, ?_, hb⟩
    unfold GRep
    exact .inr (.inr (.inr (.inr (.inr (.inl ⟨rfl, ht, rfl⟩)))))
  by_cases h6 : k = 5
  · subst h6
    refine (toGo_list h t l ihl x10 A l.length c _ _ w rfl (by omega) hl).mono ?_
    rintro e w' ⟨b, cs, q1, q2, rfl, q3, q4, hb⟩
    refine ⟨_, rfl, ?_, hb⟩
    unfold GRep
    exact .inr (.inr (.inr (.inr (.inr (.inr (.inl ⟨rfl, b, cs, 20, q1, q2, rfl, by omega, q3, q4⟩))))))
  · have h7 : k = 6 := by omega
    subst h7
    refine (toGo_map h t ks vs x4 x9 ihv x11 _ A2 A3 ks.length c2 vs.length c3 w rfl rfl (by omega) hK hV).mono ?_
    rintro e w' ⟨b, es, q1, q2, rfl, q3, q4, q5, q6, q7, hb⟩
    refine ⟨_, rfl, ?_, hb⟩
    unfold GRep
    exact .inr (.inr (.inr (.inr (.inr (.inr (.inr ⟨rfl, b, es, q1, q2, rfl, q3, by omega, q5, q6, q7⟩))))))
end Go.Proofs.YtmjegeipnaalnaaGreatDoor
