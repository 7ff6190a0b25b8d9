/- Getting at a path, where it can be gone: the package's door. What a function of the package gives, as an answer of the thin package: a value, or an error. The doors of the thin package on two integers. A path of keys and small indices: what its values in Go are; the same step, read twice. Setting at a path: the package's door. -/
import Derived.Test.YtmjegeipnaalnaaGreatDoorGrUpdA
import Derived.Test.YtmjegeipnaalnaaGreatDoorGrFroA
import Derived.Test.YtmjegeipnaalnaaGreatDoorGrInt
import Derived.Test.YtmjegeipnaalnaaGreatDoorGrFroN
import Derived.Test.YtmjegeipnaalnaaGreatDoorGrUpdS

/- Getting at a path, where it can be gone: the package's door. -/
namespace Go.Proofs.YtmjegeipnaalnaaGreatDoor
open Go.RowKit

theorem PathAt.get {w : World} {B : Nat} : ∀ {p : List Step} {b o : Nat}, PathAt w B p b o → ∀ (j : Nat) (hj : j < p.length), b < B ∧ StepOk p[j] ∧ w.cell? ⟨b, o + j, none⟩ = some (SVal p[j])
  | [], _, _, _, j, hj => absurd hj (by simp)
  | s :: r, b, o, h, 0, _ => by
    unfold PathAt at h
    exact ⟨h.1, h.2.1, h.2.2.1⟩
  | s :: r, b, o, h, j + 1, hj => by
    unfold PathAt at h
    obtain ⟨h1, h2, h3⟩ := PathAt.get h.2.2.2 j (by simpa using hj)
    exact ⟨h1, h2, by rw [show o + (j + 1) = o + 1 + j by omega]; exact h3⟩
theorem getT_cons {s : Step} {p : List Step} {v x : JV} (h : getT (s :: p) v = some x) : ∃ y, getT [s] v = some y ∧ getT p y = some x ∧ (y = nullT ∨ (∃ k, y = atK v k) ∨ ∃ i, y = atI v i) ∧ (v.kind = 0 ∨ v.kind = 5 ∨ v.kind = 6) := by
  cases s with
  | key k =>
    unfold getT at h
    split at h
    · rename_i hk
      refine ⟨atK v k, ?_, h, .inr (.inl ⟨k, rfl⟩), by omega⟩
      unfold getT
      rw [if_pos hk]
      unfold getT; rfl
    · cases h
  | idx i =>
    unfold getT at h
    split at h
    · rename_i hk
      refine ⟨atI v i, ?_, h, .inr (.inr ⟨i, rfl⟩), by omega⟩
      unfold getT
      rw [if_pos hk]
      unfold getT; rfl
    · cases h

theorem as_87 {r : Value} {i : Nat} (h : Shp r i) (w : World) : (Instr.typeAssert r 20 87 true).run Tryz.prog w = .ok (.tuple #[.nilIface, .bool false]) w := by
  cases h
  · exact as_nil_87 w
  · exact as_bool_87 _ w
  · exact as_int_87 _ w
  · exact as_flo_87 _ w
  · exact as_str_87 _ w
  · exact as_lst_87 _ w
  · exact as_mp_87 _ w

set_option maxRecDepth 100000 in
set_option maxHeartbeats 8000000 in
theorem getpath_walk (p : List Step) (x v : JV) (vv : Value) (A : Option Addr) (n c : Nat) (w : World) (hv : PRep w 0 w.heap.size v vv) (hg : Good v) (hf : Few 1001 v) (hp : PathV w p (.slice A n c)) (hget : getT p v = some x) :
    Calls Tryz.prog 92 #[vv, .iface 80 (.slice A n c)] w fun e w' => ∃ u, e = .returned u ∧ PRep w' 0 w'.heap.size x u ∧ Below w.heap.size w w' := by
  obtain ⟨A1, c1, e, h1, h2, h3⟩ := hp
  simp only [Value.slice.injEq] at e
  obtain ⟨rfl, hn, rfl⟩ := e
  have HN := Lib.hid hn
  have H3 := Lib.hid h3
  rw [← hn] at h1
  have HREL := Lib.hid (show ∃ (cur : JV), PRep w 0 w.heap.size cur vv ∧ Good cur ∧ Few 1001 cur ∧ getT (p.drop 0) cur = some x from ⟨v, hv, hg, hf, by simpa using hget⟩)
  clear hn h3 hv hg hf hget
  go_enter Tryz.func92, Tryz.ntmps92
  go_wp2_with fail
  go_loopw [27, 0] (fun i cv wr => ∃ (j : Nat) (cur : JV) (z : Value), j ≤ n ∧ i = .int .i64 j ∧ z = cv ∧ PRep w 0 w.heap.size cur z ∧ Good cur ∧ Few 1001 cur ∧ getT (p.drop j) cur = some x ∧ wr = w) (fun i _ _ => n - (intOf i).toNat)
  case atStart =>
    obtain ⟨cur, q1, q2, q3, q4⟩ := HREL.out
    exact ⟨0, cur, _, Nat.zero_le _, rfl, rfl, q1, q2, q3, q4, rfl⟩
  case round =>
    obtain ⟨j, cur, cv0, hj, rfl, rfl, hcv, hgc, hfc, hgt, rfl⟩ := hrel
    by_cases hjn : j < n
    · have hjl : j < p.length := by rw [← HN.out]; exact hjn
      obtain ⟨b, o, rfl, hpa⟩ : ∃ b o, A = some ⟨b, o, none⟩ ∧ PathAt wr wr.heap.size p b o := by
        rcases H3.out with h0 | h0
        · subst h0; simp at hjl
        · exact h0
      obtain ⟨_, hok, hcell⟩ := hpa.get j hjl
      rw [List.drop_eq_getElem_cons hjl] at hgt
      obtain ⟨y, hy1, hy2, hy3, hkind⟩ := getT_cons hgt
      have hgy : Good y := by
        rcases hy3 with rfl | ⟨k, rfl⟩ | ⟨i, rfl⟩
        · exact good_null
        · exact good_atK hgc k
        · exact good_atI hgc i
      have hfy : Few 1001 y := by
        rcases hy3 with rfl | ⟨k, rfl⟩ | ⟨i, rfl⟩
        · exact few_null _
        · exact few_atK hfc k
        · exact few_atI hfc i
      have C := Lib.hid (index2_walk p[j] hok cur y cv0 wr hcv hgc hfc hy1)
      have hsh := hcv.shp
      generalize p[j] = s at *
      have HY2 := Lib.hid hy2
      have HGY := Lib.hid hgy
      have HFY := Lib.hid hfy
      clear hgt hy1 hy2 hgy hfy hgc hfc hy3 hpa hok hcv
      generalize SVal s = sv at *
      rcases hkind with hk | hk | hk
      all_goals
        rw [hk] at hsh
        unfold clsP at hsh
        simp only [show ((0 : Int) ≤ 1) = True by simp, show ¬((5 : Int) ≤ 1) by decide, show ¬((6 : Int) ≤ 1) by decide, if_true, if_false] at hsh
        clear hk
        cases hsh
        go_wp2_with fail
        refine C.out.mono ?_
        rintro e w2 ⟨u, rfl, hu, rfl⟩
        obtain ⟨iu, hshu, _⟩ := hu.shape
        have HU := Lib.hid hu
        have herr := as_87 hshu
        clear hu hshu
        go_wp2_with fail
        refine ⟨⟨j + 1, y, u, ?_, ?_, rfl, HU.out, HGY.out, HFY.out, HY2.out, trivial⟩, ?_⟩
        · exact hjn
        · go_num
        · simp [intOf]; omega
    · have ej : p.drop j = [] := List.drop_of_length_le (by rw [← HN.out]; omega)
      rw [ej] at hgt
      unfold getT at hgt
      obtain rfl : cur = x := by simpa using hgt
      have HCV := Lib.hid hcv
      clear hcv hgt hgc hfc
      go_wp2_with fail
      go_ret
      exact ⟨_, rfl, HCV.out, Below.refl _ _⟩
end Go.Proofs.YtmjegeipnaalnaaGreatDoor

/- What a function of the package gives, as an answer of the thin package: a value, or an error. -/
namespace Go.Proofs.YtmjegeipnaalnaaGreatDoor
open Go.RowKit

/-- An answer that is an error. -/
def errR : Value := .agg #[.int .i64 0, .int .i64 0, .string ⟨#[]⟩, .slice none 0 0, .slice none 0 0, .slice none 0 0, .int .i64 1]
theorem set7_block (w : World) (g : Nat) (v0 v1 v2 v3 v4 v5 v6 : Value) (k : Nat) (h : k ≠ g) :
    (((((((w.setCell ⟨g, 0, none⟩ v0).setCell ⟨g, 1, none⟩ v1).setCell ⟨g, 2, none⟩ v2).setCell ⟨g, 3, none⟩ v3).setCell ⟨g, 4, none⟩ v4).setCell ⟨g, 5, none⟩ v5).setCell ⟨g, 6, none⟩ v6).heap[k]? = w.heap[k]? := by
  rw [Below.heap_setCell _ ⟨g, 6, none⟩ _ k h]; exact set6_block w g v0 v1 v2 v3 v4 v5 k h
theorem set7_size (w : World) (g : Nat) (v0 v1 v2 v3 v4 v5 v6 : Value) :
    (((((((w.setCell ⟨g, 0, none⟩ v0).setCell ⟨g, 1, none⟩ v1).setCell ⟨g, 2, none⟩ v2).setCell ⟨g, 3, none⟩ v3).setCell ⟨g, 4, none⟩ v4).setCell ⟨g, 5, none⟩ v5).setCell ⟨g, 6, none⟩ v6).heap.size = w.heap.size := by
  simp [World.setCell]

set_option maxRecDepth 100000 in
set_option maxHeartbeats 2000000 in
theorem result_val (v : JV) (x : Value) (w : World) (hp : PRep w 0 w.heap.size v x) (hg : Good v) (hf : Few 1002 v) (hs : Short v) :
    Calls Tryz.prog 42 #[x] w fun e w' => ∃ c0 c1 c2 c3 c4 c5, e = .returned (.agg #[c0, c1, c2, c3, c4, c5, .int .i64 0]) ∧ JRepS w' (fun b => w.heap.size ≤ b ∧ b < w'.heap.size) v [c0, c1, c2, c3, c4, c5] ∧ Below w.heap.size w w' := by
  have hX := heap_alloc_new w (.cells #[.int .i64 0, .int .i64 0, .string ⟨#[]⟩, .slice none 0 0, .slice none 0 0, .slice none 0 0, .int .i64 0] 34)
  have hB := (Below.refl w.heap.size w).alloc (Nat.le_refl _) (.cells #[.int .i64 0, .int .i64 0, .string ⟨#[]⟩, .slice none 0 0, .slice none 0 0, .slice none 0 0, .int .i64 0] 34)
  have hszA : (w.alloc (.cells #[.int .i64 0, .int .i64 0, .string ⟨#[]⟩, .slice none 0 0, .slice none 0 0, .slice none 0 0, .int .i64 0] 34)).heap.size = w.heap.size + 1 := by simp
  have C := Lib.hid (fun W (hW : Below w.heap.size w W) => from_all v x W (PRep.mono (fun k _ hk => hW.block k hk) (Nat.le_refl _) hW.size v x hp) hg hf hs)
  obtain ⟨i, hshp, _⟩ := hp.shape
  have herr := fun W => as_87 hshp W
  clear hp hg hf hs hshp
  go_enter Tryz.func42, Tryz.ntmps42
  go_upto_region 1 with (fail)
  generalize w.alloc (.cells #[.int .i64 0, .int .i64 0, .string ⟨#[]⟩, .slice none 0 0, .slice none 0 0, .slice none 0 0, .int .i64 0] 34) = w1 at *
  go_wp2_with fail
  refine (C.out w1 hB).mono ?_
  rintro e w2 ⟨c0, c1, c2, c3, c4, c5, rfl, hrep, hb⟩
  obtain ⟨k1, h1, t1, A1, n1, m1, A2, n2, m2, A3, n3, m3, rfl, rfl, rfl, rfl, rfl, rfl⟩ := hrep.shape
  have hlt := hb.size
  replace hX := kept_below hb (by omega) hX
  replace hB := hB.trans (hb.mono (by omega))
  have hB2 := hB.alloc (by omega) (.cells #[.int .i64 k1, .int .i64 h1, .string t1, .slice A1 n1 m1, .slice A2 n2 m2, .slice A3 n3 m3] 26)
  replace hX := (heap_alloc_old w2 (.cells #[.int .i64 k1, .int .i64 h1, .string t1, .slice A1 n1 m1, .slice A2 n2 m2, .slice A3 n3 m3] 26) (by omega)).trans hX
  have hY := heap_alloc_new w2 (.cells #[.int .i64 k1, .int .i64 h1, .string t1, .slice A1 n1 m1, .slice A2 n2 m2, .slice A3 n3 m3] 26)
  have hsz3 : (w2.alloc (.cells #[.int .i64 k1, .int .i64 h1, .string t1, .slice A1 n1 m1, .slice A2 n2 m2, .slice A3 n3 m3] 26)).heap.size = w2.heap.size + 1 := by simp
  have HR := Lib.hid (JRepS.mono (w' := w2.alloc (.cells #[.int .i64 k1, .int .i64 h1, .string t1, .slice A1 n1 m1, .slice A2 n2 m2, .slice A3 n3 m3] 26)) (S' := fun b => w1.heap.size ≤ b ∧ b < w2.heap.size) (fun b hb => heap_alloc_old w2 _ hb.2) (fun b hb => hb) v _ hrep)
  clear hrep hb C herr hB
  go_upto_region 5 with (fail)
  generalize w2.alloc (.cells #[.int .i64 k1, .int .i64 h1, .string t1, .slice A1 n1 m1, .slice A2 n2 m2, .slice A3 n3 m3] 26) = w3 at *
  obtain ⟨x0, x1, x2, x3, x4, x5, x6⟩ := box7 hX
  obtain ⟨f0, f1, f2, f3, f4, f5, f6⟩ := frozen7 hX
  obtain ⟨y0, y1, y2, y3, y4, y5⟩ := box6 hY
  have HB := Lib.hid (below_set7 hB2 (Nat.le_refl _) (.int .i64 k1) (.int .i64 h1) (.string t1) (.slice A1 n1 m1) (.slice A2 n2 m2) (.slice A3 n3 m3) (.int .i64 0))
  clear hB2 hX hY
  go_wp2
  refine bodyPost_ret (v := .agg #[.int .i64 k1, .int .i64 h1, .string t1, .slice A1 n1 m1, .slice A2 n2 m2, .slice A3 n3 m3, .int .i64 0]) (by simp [results, Tryz.results42, go_sem, *]) rfl ⟨_, _, _, _, _, _, rfl, ?_, HB.out⟩
  exact JRepS.mono (fun b hb => set7_block _ _ _ _ _ _ _ _ _ b (by omega)) (fun b hb => ⟨by omega, by rw [set7_size]; omega⟩) v _ HR.out

set_option maxRecDepth 100000 in
set_option maxHeartbeats 2000000 in
theorem result_err (T : Nat) (a : Option Addr) (w : World) (hT : T = 227 ∨ T = 137) :
    Calls Tryz.prog 42 #[.iface T (.pointer a)] w fun e w' => e = .returned errR ∧ Below w.heap.size w w' := by
  have hX := heap_alloc_new w (.cells #[.int .i64 0, .int .i64 0, .string ⟨#[]⟩, .slice none 0 0, .slice none 0 0, .slice none 0 0, .int .i64 0] 34)
  have hB := (Below.refl w.heap.size w).alloc (Nat.le_refl _) (.cells #[.int .i64 0, .int .i64 0, .string ⟨#[]⟩, .slice none 0 0, .slice none 0 0, .slice none 0 0, .int .i64 0] 34)
  have hszA : (w.alloc (.cells #[.int .i64 0, .int .i64 0, .string ⟨#[]⟩, .slice none 0 0, .slice none 0 0, .slice none 0 0, .int .i64 0] 34)).heap.size = w.heap.size + 1 := by simp
  unfold errR
  rcases hT with rfl | rfl
  all_goals
    go_enter Tryz.func42, Tryz.ntmps42
    go_upto_region 1 with (fail)
    generalize w.alloc (.cells #[.int .i64 0, .int .i64 0, .string ⟨#[]⟩, .slice none 0 0, .slice none 0 0, .slice none 0 0, .int .i64 0] 34) = w1 at *
    obtain ⟨x0, x1, x2, x3, x4, x5, x6⟩ := box7 hX
    obtain ⟨f0, f1, f2, f3, f4, f5, f6⟩ := frozen7 hX
    have HB := Lib.hid (below_set7 hB (Nat.le_refl _) (.int .i64 0) (.int .i64 0) (.string ⟨#[]⟩) (.slice none 0 0) (.slice none 0 0) (.slice none 0 0) (.int .i64 1))
    clear hB hX
    go_wp2_with fail
    refine bodyPost_ret (v := .agg #[.int .i64 0, .int .i64 0, .string ⟨#[]⟩, .slice none 0 0, .slice none 0 0, .slice none 0 0, .int .i64 1]) (by simp [results, Tryz.results42, go_sem, *]) rfl ⟨rfl, HB.out⟩
end Go.Proofs.YtmjegeipnaalnaaGreatDoor

/- The doors of the thin package on two integers. -/
namespace Go.Proofs.YtmjegeipnaalnaaGreatDoor
open Go.RowKit
theorem three_new (w : World) (A B C : Obj) : (((w.alloc A).alloc B).alloc C).heap[w.heap.size]? = some A ∧ (((w.alloc A).alloc B).alloc C).heap[w.heap.size + 1]? = some B ∧ (((w.alloc A).alloc B).alloc C).heap[w.heap.size + 2]? = some C := by
  have e1 : (w.alloc A).heap.size = w.heap.size + 1 := by simp
  have e2 : ((w.alloc A).alloc B).heap.size = w.heap.size + 2 := by simp
  refine ⟨?_, ?_, ?_⟩
  · rw [Below.heap_alloc _ _ _ (by omega), Below.heap_alloc _ _ _ (by omega)]; exact heap_alloc_new w A
  · rw [Below.heap_alloc _ _ _ (by omega), ← e1]; exact heap_alloc_new _ B
  · rw [← e2]; exact heap_alloc_new _ C

set_option maxHeartbeats 4000000 in
set_option maxRecDepth 100000 in
theorem OpMul_walk (x y z : Int) (t1 l1 k1 v1 t2 l2 k2 v2 : Value) (w : World) (hx : 0 ≤ x) (hx' : x ≤ 9007199254740992) (hy : 0 ≤ y) (hy' : y ≤ 9007199254740992) (hz : 0 ≤ z) (hz' : z ≤ 1125899906842624) (hd : DoorInt 50 x y z) :
    Calls Tryz.prog 20 #[.agg #[.int .i64 3, .int .i64 (2 * x), t1, l1, k1, v1], .agg #[.int .i64 3, .int .i64 (2 * y), t2, l2, k2, v2]] w fun e w' => e = .returned (numR (2 * z)) ∧ Below w.heap.size w w' := by
  have HD := Lib.hid hd
  clear hd
  obtain ⟨hX0, hX1, hX2⟩ := three_new w (.cells #[.int .i64 3, .int .i64 (2 * x), t1, l1, k1, v1] 26) (.cells #[.int .i64 3, .int .i64 (2 * y), t2, l2, k2, v2] 26) (.cells #[.int .i64 0, .int .i64 0, .string ⟨#[]⟩, .slice none 0 0, .slice none 0 0, .slice none 0 0, .int .i64 0] 34)
  have hB := (((Below.refl w.heap.size w).alloc (Nat.le_refl _) (.cells #[.int .i64 3, .int .i64 (2 * x), t1, l1, k1, v1] 26)).alloc (by simp) (.cells #[.int .i64 3, .int .i64 (2 * y), t2, l2, k2, v2] 26)).alloc (by simp; omega) (.cells #[.int .i64 0, .int .i64 0, .string ⟨#[]⟩, .slice none 0 0, .slice none 0 0, .slice none 0 0, .int .i64 0] 34)
  go_enter Tryz.func20, Tryz.ntmps20
  go_wp2_with fail
  refine (toGo_two x t1 l1 k1 v1 _ hx hx').mono ?_
  rintro e w4 ⟨rfl, hb⟩
  replace hX1 := kept_below hb (by simp) hX1
  replace hX2 := kept_below hb (by simp) hX2
  have hlt : w.heap.size + 2 < w4.heap.size := by have := hb.size; simp at this; omega
  replace hB := hB.trans (hb.mono (by simp; omega))
  clear hb hX0
  obtain ⟨x0, x1, x2, x3, x4, x5⟩ := box6 hX1
  go_wp2_with fail
  refine (toGo_two y t2 l2 k2 v2 _ hy hy').mono ?_
  rintro e w5 ⟨rfl, hb⟩
  replace hX2 := kept_below hb (by omega) hX2
  have hlt5 : w.heap.size + 2 < w5.heap.size := by have := hb.size; omega
  replace hB := hB.trans (hb.mono (by omega))
  clear hb hX1 x0 x1 x2 x3 x4 x5 hlt
  go_wp2_with fail
  refine (HD.out _).mono ?_
  rintro e w6 ⟨rfl, rfl⟩
  go_wp2_with fail
  refine (result_int z _ (by omega) (by omega)).mono ?_
  rintro e w7 ⟨rfl, hb⟩
  replace hX2 := kept_below hb (by omega) hX2
  have hlt7 : w.heap.size + 2 < w7.heap.size := by have := hb.size; omega
  replace hB := hB.trans (hb.mono (by omega))
  clear hb hlt5
  obtain ⟨x0, x1, x2, x3, x4, x5, x6⟩ := box7 hX2
  obtain ⟨f0, f1, f2, f3, f4, f5, f6⟩ := frozen7 hX2
  unfold numR
  go_wp2
  refine bodyPost_ret (v := .agg #[.int .i64 3, .int .i64 (2 * z), .string ⟨#[]⟩, .slice none 0 0, .slice none 0 0, .slice none 0 0, .int .i64 0]) (by simp [results, Tryz.results20, go_sem, *]) rfl ⟨rfl, ?_⟩
  exact (((((((hB.setCell (by simp; omega) _).setCell (by simp; omega) _).setCell (by simp; omega) _).setCell (by simp; omega) _).setCell (by simp; omega) _).setCell (by simp; omega) _).setCell (by simp; omega) _)

set_option maxHeartbeats 4000000 in
set_option maxRecDepth 100000 in
theorem OpAdd_walk (x y z : Int) (t1 l1 k1 v1 t2 l2 k2 v2 : Value) (w : World) (hx : 0 ≤ x) (hx' : x ≤ 9007199254740992) (hy : 0 ≤ y) (hy' : y ≤ 9007199254740992) (hz : 0 ≤ z) (hz' : z ≤ 1125899906842624) (hd : DoorInt 49 x y z) :
    Calls Tryz.prog 19 #[.agg #[.int .i64 3, .int .i64 (2 * x), t1, l1, k1, v1], .agg #[.int .i64 3, .int .i64 (2 * y), t2, l2, k2, v2]] w fun e w' => e = .returned (numR (2 * z)) ∧ Below w.heap.size w w' := by
  have HD := Lib.hid hd
  clear hd
  obtain ⟨hX0, hX1, hX2⟩ := three_new w (.cells #[.int .i64 3, .int .i64 (2 * x), t1, l1, k1, v1] 26) (.cells #[.int .i64 3, .int .i64 (2 * y), t2, l2, k2, v2] 26) (.cells #[.int .i64 0, .int .i64 0, .string ⟨#[]⟩, .slice none 0 0, .slice none 0 0, .slice none 0 0, .int .i64 0] 34)
  have hB := (((Below.refl w.heap.size w).alloc (Nat.le_refl _) (.cells #[.int .i64 3, .int .i64 (2 * x), t1, l1, k1, v1] 26)).alloc (by simp) (.cells #[.int .i64 3, .int .i64 (2 * y), t2, l2, k2, v2] 26)).alloc (by simp; omega) (.cells #[.int .i64 0, .int .i64 0, .string ⟨#[]⟩, .slice none 0 0, .slice none 0 0, .slice none 0 0, .int .i64 0] 34)
  go_enter Tryz.func19, Tryz.ntmps19
  go_wp2_with fail
  refine (toGo_two x t1 l1 k1 v1 _ hx hx').mono ?_
  rintro e w4 ⟨rfl, hb⟩
  replace hX1 := kept_below hb (by simp) hX1
  replace hX2 := kept_below hb (by simp) hX2
  have hlt : w.heap.size + 2 < w4.heap.size := by have := hb.size; simp at this; omega
  replace hB := hB.trans (hb.mono (by simp; omega))
  clear hb hX0
  obtain ⟨x0, x1, x2, x3, x4, x5⟩ := box6 hX1
  go_wp2_with fail
  refine (toGo_two y t2 l2 k2 v2 _ hy hy').mono ?_
  rintro e w5 ⟨rfl, hb⟩
  replace hX2 := kept_below hb (by omega) hX2
  have hlt5 : w.heap.size + 2 < w5.heap.size := by have := hb.size; omega
  replace hB := hB.trans (hb.mono (by omega))
  clear hb hX1 x0 x1 x2 x3 x4 x5 hlt
  go_wp2_with fail
  refine (HD.out _).mono ?_
  rintro e w6 ⟨rfl, rfl⟩
  go_wp2_with fail
  refine (result_int z _ (by omega) (by omega)).mono ?_
  rintro e w7 ⟨rfl, hb⟩
  replace hX2 := kept_below hb (by omega) hX2
  have hlt7 : w.heap.size + 2 < w7.heap.size := by have := hb.size; omega
  replace hB := hB.trans (hb.mono (by omega))
  clear hb hlt5
  obtain ⟨x0, x1, x2, x3, x4, x5, x6⟩ := box7 hX2
  obtain ⟨f0, f1, f2, f3, f4, f5, f6⟩ := frozen7 hX2
  unfold numR
  go_wp2
  refine bodyPost_ret (v := .agg #[.int .i64 3, .int .i64 (2 * z), .string ⟨#[]⟩, .slice none 0 0, .slice none 0 0, .slice none 0 0, .int .i64 0]) (by simp [results, Tryz.results19, go_sem, *]) rfl ⟨rfl, ?_⟩
  exact (((((((hB.setCell (by simp; omega) _).setCell (by simp; omega) _).setCell (by simp; omega) _).setCell (by simp; omega) _).setCell (by simp; omega) _).setCell (by simp; omega) _).setCell (by simp; omega) _)

set_option maxHeartbeats 4000000 in
set_option maxRecDepth 100000 in
theorem OpMod_walk (x y z : Int) (t1 l1 k1 v1 t2 l2 k2 v2 : Value) (w : World) (hx : 0 ≤ x) (hx' : x ≤ 9007199254740992) (hy : 0 ≤ y) (hy' : y ≤ 9007199254740992) (hz : 0 ≤ z) (hz' : z ≤ 1125899906842624) (hd : DoorInt 51 x y z) :
    Calls Tryz.prog 21 #[.agg #[.int .i64 3, .int .i64 (2 * x), t1, l1, k1, v1], .agg #[.int .i64 3, .int .i64 (2 * y), t2, l2, k2, v2]] w fun e w' => e = .returned (numR (2 * z)) ∧ Below w.heap.size w w' := by
  have HD := Lib.hid hd
  clear hd
  obtain ⟨hX0, hX1, hX2⟩ := three_new w (.cells #[.int .i64 3, .int .i64 (2 * x), t1, l1, k1, v1] 26) (.cells #[.int .i64 3, .int .i64 (2 * y), t2, l2, k2, v2] 26) (.cells #[.int .i64 0, .int .i64 0, .string ⟨#[]⟩, .slice none 0 0, .slice none 0 0, .slice none 0 0, .int .i64 0] 34)
  have hB := (((Below.refl w.heap.size w).alloc (Nat.le_refl _) (.cells #[.int .i64 3, .int .i64 (2 * x), t1, l1, k1, v1] 26)).alloc (by simp) (.cells #[.int .i64 3, .int .i64 (2 * y), t2, l2, k2, v2] 26)).alloc (by simp; omega) (.cells #[.int .i64 0, .int .i64 0, .string ⟨#[]⟩, .slice none 0 0, .slice none 0 0, .slice none 0 0, .int .i64 0] 34)
  go_enter Tryz.func21, Tryz.ntmps21
  go_wp2_with fail
  refine (toGo_two x t1 l1 k1 v1 _ hx hx').mono ?_
  rintro e w4 ⟨rfl, hb⟩
  replace hX1 := kept_below hb (by simp) hX1
  replace hX2 := kept_below hb (by simp) hX2
  have hlt : w.heap.size + 2 < w4.heap.size := by have := hb.size; simp at this; omega
  replace hB := hB.trans (hb.mono (by simp; omega))
  clear hb hX0
  obtain ⟨x0, x1, x2, x3, x4, x5⟩ := box6 hX1
  go_wp2_with fail
  refine (toGo_two y t2 l2 k2 v2 _ hy hy').mono ?_
  rintro e w5 ⟨rfl, hb⟩
  replace hX2 := kept_below hb (by omega) hX2
  have hlt5 : w.heap.size + 2 < w5.heap.size := by have := hb.size; omega
  replace hB := hB.trans (hb.mono (by omega))
  clear hb hX1 x0 x1 x2 x3 x4 x5 hlt
  go_wp2_with fail
  refine (HD.out _).mono ?_
  rintro e w6 ⟨rfl, rfl⟩
  go_wp2_with fail
  refine (result_int z _ (by omega) (by omega)).mono ?_
  rintro e w7 ⟨rfl, hb⟩
  replace hX2 := kept_below hb (by omega) hX2
  have hlt7 : w.heap.size + 2 < w7.heap.size := by have := hb.size; omega
  replace hB := hB.trans (hb.mono (by omega))
  clear hb hlt5
  obtain ⟨x0, x1, x2, x3, x4, x5, x6⟩ := box7 hX2
  obtain ⟨f0, f1, f2, f3, f4, f5, f6⟩ := frozen7 hX2
  unfold numR
  go_wp2
  refine bodyPost_ret (v := .agg #[.int .i64 3, .int .i64 (2 * z), .string ⟨#[]⟩, .slice none 0 0, .slice none 0 0, .slice none 0 0, .int .i64 0]) (by simp [results, Tryz.results21, go_sem, *]) rfl ⟨rfl, ?_⟩
  exact (((((((hB.setCell (by simp; omega) _).setCell (by simp; omega) _).setCell (by simp; omega) _).setCell (by simp; omega) _).setCell (by simp; omega) _).setCell (by simp; omega) _).setCell (by simp; omega) _)
end Go.Proofs.YtmjegeipnaalnaaGreatDoor

/- A path of keys and small indices: what its values in Go are; the same step, read twice. -/
namespace Go.Proofs.YtmjegeipnaalnaaGreatDoor
open Go.RowKit

/-- A value as a step. -/
def stepOf (v : JV) : Step := if v.kind = 4 then .key v.text else .idx (v.half / 2).toNat
/-- A value that is a key, or an index from 0 to 100. -/
def stepB (v : JV) : Bool := v.kind == 4 || (v.kind == 3 && v.half.tmod 2 == 0 && decide (0 ≤ v.half) && decide (v.half ≤ 200))
def straightB (l : List JV) : Bool := l.all stepB && decide (l.length ≤ 20)
/-- The steps of a path. -/
def stepsOf (l : List JV) : List Step := l.map stepOf

theorem stepB_spec {v : JV} (h : stepB v = true) : v.kind = 4 ∨ (v.kind = 3 ∧ ∃ i : Nat, v.half = 2 * (i : Int) ∧ i ≤ 100) := by
  unfold stepB at h
  simp only [Bool.or_eq_true, Bool.and_eq_true, beq_iff_eq, decide_eq_true_eq] at h
  rcases h with h | ⟨⟨⟨h1, h2⟩, h3⟩, h4⟩
  · exact .inl h
  · refine .inr ⟨h1, (v.half / 2).toNat, ?_, ?_⟩
    · have := Int.tmod_eq_emod_of_nonneg (b := 2) h3
      omega
    · omega
theorem stepOf_key {v : JV} (h : v.kind = 4) : stepOf v = .key v.text := by unfold stepOf; rw [if_pos h]
theorem stepOf_idx {v : JV} {i : Nat} (h : v.kind = 3) (hi : v.half = 2 * (i : Int)) : stepOf v = .idx i := by
  unfold stepOf
  rw [if_neg (by omega), hi]
  congr 1
  omega
theorem step_ok {v : JV} (h : stepB v = true) (hs : Short v) : StepOk (stepOf v) := by
  rcases stepB_spec h with hk | ⟨hk, i, hi, hle⟩
  · rw [stepOf_key hk]
    cases v
    unfold Short at hs
    exact hs.1
  · rw [stepOf_idx hk hi]
    exact hle
theorem step_val {w : World} {lo B : Nat} {v : JV} {x : Value} (h : stepB v = true) (hr : GRep w lo B v x) : x = SVal (stepOf v) := by
  rcases stepB_spec h with hk | ⟨hk, i, hi, hle⟩
  · rw [stepOf_key hk]
    obtain ⟨k, hh, t, l, ks, vs⟩ := v
    obtain rfl : k = 4 := hk
    unfold GRep at hr
    rcases hr with ⟨e, _⟩ | ⟨e, _⟩ | ⟨e, _⟩ | ⟨e, _⟩ | ⟨e, _⟩ | ⟨_, _, e⟩ | ⟨e, _⟩ | ⟨e, _⟩
    all_goals first
      | (exact e)
      | (exact absurd e (by decide))
  · rw [stepOf_idx hk hi]
    obtain ⟨k, hh, t, l, ks, vs⟩ := v
    obtain rfl : k = 3 := hk
    obtain rfl : hh = 2 * (i : Int) := hi
    unfold GRep at hr
    rcases hr with ⟨e, _⟩ | ⟨e, _⟩ | ⟨e, _⟩ | ⟨_, n, e, _, _, e2⟩ | ⟨_, e, _⟩ | ⟨e, _⟩ | ⟨e, _⟩ | ⟨e, _⟩
    all_goals first
      | (exact absurd e (by decide))
      | (exfalso; omega)
      | skip
    obtain rfl : n = (i : Int) := by omega
    exact e2
theorem path_at {w : World} {lo B b : Nat} (hb : b < B) : ∀ {l : List JV} {cs : List Value} {o : Nat}, GVals w lo B l cs → (∀ v ∈ l, stepB v = true) → ShortL l → (∀ j (hj : j < cs.length), w.cell? ⟨b, o + j, none⟩ = some cs[j]) → PathAt w B (stepsOf l) b o
  | [], _, _, _, _, _, _ => by unfold stepsOf; simp only [List.map_nil]; unfold PathAt; trivial
  | v :: r, cs, o, h, hs, hsh, hc => by
    unfold GVals at h
    obtain ⟨c, cs', rfl, h1, h2⟩ := h
    unfold ShortL at hsh
    have ih := path_at hb h2 (fun y hy => hs y (by simp [hy])) hsh.2 (o := o + 1) fun j hj => by
      have := hc (j + 1) (by simpa using hj)
      rw [show o + 1 + j = o + (j + 1) by omega]
      simpa using this
    unfold stepsOf at ih ⊢
    simp only [List.map_cons]
    unfold PathAt
    refine ⟨hb, step_ok (hs v (by simp)) hsh.1, ?_, ih⟩
    have := hc 0 (by simp)
    rw [← step_val (hs v (by simp)) h1]
    simpa using this
theorem path_of {w : World} {l : List JV} {x : Value} (h : GRep w 0 w.heap.size (listT l) x) (hs : straightB l = true) (hsh : ShortL l) :
    ∃ A n c, x = .iface 80 (.slice A n c) ∧ PathV w (stepsOf l) (.slice A n c) := by
  unfold straightB at hs
  simp only [Bool.and_eq_true, decide_eq_true_eq, List.all_eq_true] at hs
  unfold listT GRep at h
  rcases h with ⟨e, _⟩ | ⟨e, _⟩ | ⟨e, _⟩ | ⟨e, _⟩ | ⟨e, _⟩ | ⟨e, _⟩ | ⟨_, b, cs, T, _, hb, rfl, _, hblk, hv⟩ | ⟨e, _⟩
  all_goals first
    | (exact absurd e (by decide))
    | skip
  refine ⟨_, _, _, rfl, some ⟨b, 0, none⟩, l.length, ?_, ?_, ?_, .inr ⟨b, 0, rfl, path_at hb hv hs.1 hsh fun j hj => ?_⟩⟩
  · unfold stepsOf; rw [List.length_map]
  · unfold stepsOf; rw [List.length_map]; exact Nat.le_refl _
  · omega
  · simp [World.cell?, hblk, hj]

/-- Two steps apart are told by what Cmp asks. -/
theorem step_eq_key {a b : JV} (ha : a.kind = 4) (hb : b.kind = 4) : decide (stepOf a = stepOf b) = decide (a.text = b.text) := by
  rw [stepOf_key ha, stepOf_key hb]
  simp
theorem step_eq_idx {a b : JV} {i j : Nat} (ha : a.kind = 3) (hb : b.kind = 3) (hi : a.half = 2 * (i : Int)) (hj : b.half = 2 * (j : Int)) : decide (stepOf a = stepOf b) = decide (i = j) := by
  rw [stepOf_idx ha hi, stepOf_idx hb hj]
  simp
theorem apart_drop (p q : List Step) : ∀ (i : Nat), p.take i = q.take i → i ≤ p.length → i ≤ q.length → apartT p q = apartT (p.drop i) (q.drop i) := by
  intro i
  induction i generalizing p q with
  | zero => intros; simp
  | succ i ih =>
    intro h h1 h2
    cases p with
    | nil => simp at h1
    | cons a p =>
      cases q with
      | nil => simp at h2
      | cons b q =>
        simp only [List.take_succ_cons, List.cons.injEq] at h
        obtain ⟨rfl, h⟩ := h
        simp only [List.drop_succ_cons]
        rw [← ih p q h (by simpa using h1) (by simpa using h2)]
        conv => lhs; unfold apartT
        rw [if_pos rfl]
end Go.Proofs.YtmjegeipnaalnaaGreatDoor

/- Setting at a path: the package's door. -/
namespace Go.Proofs.YtmjegeipnaalnaaGreatDoor
open Go.RowKit

/-- How setting, or getting, ended: a value, or an error. -/
def DoorR (ro : Option JV) (w' : World) (u : Value) : Prop := (∃ r, ro = some r ∧ PRep w' 0 w'.heap.size r u) ∨ (ro = none ∧ ∃ T a, (T = 227 ∨ T = 137) ∧ u = .iface T (.pointer a))

theorem shp_two {r : Value} {i : Nat} (h : Shp r i) : r = .nilIface ∨ ∃ T u, r = .iface T u := by
  cases h
  · exact .inl rfl
  all_goals exact .inr ⟨_, _, rfl⟩

set_option maxRecDepth 100000 in
set_option maxHeartbeats 4000000 in
theorem setpath_walk (p : List Step) (x v : JV) (nv vv : Value) (A : Option Addr) (n c : Nat) (w : World) (hx : PRep w 0 w.heap.size x nv) (hv : PRep w 0 w.heap.size v vv) (hg : Good v) (hf : Few 1000 v) (hp : PathV w p (.slice A n c)) :
    Calls Tryz.prog 179 #[vv, .iface 80 (.slice A n c), nv, .map none] w fun e w' => ∃ u, e = .returned u ∧ DoorR (setT p x v) w' u ∧ Below w.heap.size w w' := by
  have C := Lib.hid (upd_all p x v nv vv (.slice A n c) w hx hv hg hf hp)
  obtain ⟨i, hsv, _⟩ := hv.shape
  obtain ⟨j, hsx, _⟩ := hx.shape
  clear hx hv hg hf hp
  obtain ⟨ro, hro⟩ : ∃ ro, setT p x v = ro := ⟨_, rfl⟩
  rw [hro] at C ⊢
  clear hro
  go_enter Tryz.func179, Tryz.ntmps179
  go_wp2_with fail
  refine C.out.mono ?_
  rintro e w1 ⟨hr, hb⟩
  rcases hr with ⟨r, u, rfl, rfl, hu⟩ | ⟨rfl, T, a, hT, rfl⟩
  · have HU := Lib.hid hu
    clear hu
    go_wp2_with fail
    go_ret
    exact ⟨u, rfl, .inl ⟨r, rfl, HU.out⟩, hb⟩
  · have HB := Lib.hid (fun (z : Obj) => hb.alloc hb.size z)
    rcases hT with rfl | rfl
    all_goals
      rcases shp_two hsv with rfl | ⟨T1, u1, rfl⟩ <;> rcases shp_two hsx with rfl | ⟨T2, u2, rfl⟩
      all_goals
        clear hsv hsx C
        go_wp2_with fail
        go_ret
        exact ⟨_, rfl, .inr ⟨rfl, 227, _, .inl rfl, rfl⟩, HB.out _⟩
set_option maxRecDepth 100000 in
theorem setpath_door (p : List Step) (x v : JV) (nv vv : Value) (A : Option Addr) (n c : Nat) (w : World) (hx : PRep w 0 w.heap.size x nv) (hv : PRep w 0 w.heap.size v vv) (hg : Good v) (hf : Few 1000 v) (hp : PathV w p (.slice A n c)) :
    Calls Tryz.prog 52 #[vv, .iface 80 (.slice A n c), nv] w fun e w' => ∃ u, e = .returned u ∧ DoorR (setT p x v) w' u ∧ Below w.heap.size w w' := by
  have C := Lib.hid (setpath_walk p x v nv vv A n c w hx hv hg hf hp)
  clear hx hv hg hf hp
  have C91 : Calls Tryz.prog 91 #[vv, .iface 80 (.slice A n c), nv] w fun e w' => ∃ u, e = .returned u ∧ DoorR (setT p x v) w' u ∧ Below w.heap.size w w' := by
    go_enter Tryz.func91, Tryz.ntmps91
    go_wp2_with fail
    refine C.out.mono ?_
    rintro e w1 ⟨u, rfl, hr, hb⟩
    have HR := Lib.hid hr
    clear hr
    go_wp2_with fail
    go_ret
    exact ⟨u, rfl, HR.out, hb⟩
  have C2 := Lib.hid C91
  clear C91 C
  go_enter Tryz.func52, Tryz.ntmps52
  go_wp2_with fail
  refine C2.out.mono ?_
  rintro e w1 ⟨u, rfl, hr, hb⟩
  have HR := Lib.hid hr
  clear hr
  go_wp2_with fail
  go_ret
  exact ⟨u, rfl, HR.out, hb⟩
end Go.Proofs.YtmjegeipnaalnaaGreatDoor
