/- From Go's values to a value of the thin package: every value that stands for a right tree. -/
import Derived.Test.YtmjegeipnaalnaaGreatDoorGrFroM
import Derived.Test.YtmjegeipnaalnaaGreatDoorGrFroN
namespace Go.Proofs.YtmjegeipnaalnaaGreatDoor
open Go.RowKit

theorem Good.plain {k h : Int} {t : ByteArray} {l vs : List JV} {ks : List ByteArray} (hg : Good (.mk k h t l ks vs)) : (k = 4 ∨ t = ⟨#[]⟩) ∧ (k = 6 ∨ (ks = [] ∧ vs = [])) := by
  unfold Good at hg
  obtain ⟨h1, _⟩ := hg
  have hl := headOk_len h1
  simp [JV.headOk] at h1
  constructor
  · rcases h1.1.1.1.2 with e | e
    · exact .inl e
    · right
      rw [Lib.toList_data] at e
      cases t
      simp at e
      simp [e]
  · rcases h1.1.2 with e | e
    · exact .inl e
    · right
      have hks : ks = [] := e
      exact ⟨hks, List.length_eq_zero_iff.1 (by rw [← hl, hks]; rfl)⟩

set_option maxRecDepth 100000 in
set_option maxHeartbeats 1000000 in
/-- The list's way through fromGo. -/
theorem fromGo_lst (l : List JV) (A : Option Addr) (n m : Nat) (w : World) (h : ∀ W, Below w.heap.size w W → Calls Tryz.prog 130 #[.slice A n m] W fun e w' => ∃ v', e = .returned (.tuple #[.agg #[.int .i64 5, .int .i64 0, .string ⟨#[]⟩, v', .slice none 0 0, .slice none 0 0], .bool true]) ∧ SlOf n 104 (JCellsS w' (fun b => W.heap.size ≤ b ∧ b < w'.heap.size) l) v' ∧ Below W.heap.size W w') :
    Calls Tryz.prog 83 #[.iface 80 (.slice A n m)] w fun e w' => ∃ v', e = .returned (.tuple #[.agg #[.int .i64 5, .int .i64 0, .string ⟨#[]⟩, v', .slice none 0 0, .slice none 0 0], .bool true]) ∧ SlOf n 104 (JCellsS w' (fun b => w.heap.size ≤ b ∧ b < w'.heap.size) l) v' ∧ Below w.heap.size w w' := by
  have hX := heap_alloc_new w (.cells #[.int .i64 0, .int .i64 0, .string ⟨#[]⟩, .slice none 0 0, .slice none 0 0, .slice none 0 0] 26)
  have hB := (Below.refl w.heap.size w).alloc (Nat.le_refl _) (.cells #[.int .i64 0, .int .i64 0, .string ⟨#[]⟩, .slice none 0 0, .slice none 0 0, .slice none 0 0] 26)
  have hsz : w.heap.size < (w.alloc (.cells #[.int .i64 0, .int .i64 0, .string ⟨#[]⟩, .slice none 0 0, .slice none 0 0, .slice none 0 0] 26)).heap.size := by simp
  have C := Lib.hid h
  clear h
  go_enter Tryz.func83, Tryz.ntmps83
  go_upto_region 1 with (fail)
  generalize w.alloc (.cells #[.int .i64 0, .int .i64 0, .string ⟨#[]⟩, .slice none 0 0, .slice none 0 0, .slice none 0 0] 26) = w1 at *
  go_wp2_with fail
  refine (C.out w1 hB).mono ?_
  rintro e w2 ⟨v', rfl, hs, hb⟩
  obtain ⟨A', c', rfl, q1, q2, q3⟩ := hs
  have HS := Lib.hid q3
  have hszb := hb.size
  replace hX := kept_below hb (by omega) hX
  replace hB := hB.trans (hb.mono (by omega))
  have hlt2 : w.heap.size < w2.heap.size := by have := hb.size; omega
  clear hb C q3
  obtain ⟨x0, x1, x2, x3, x4, x5⟩ := box6 hX
  obtain ⟨f0, f1, f2, f3, f4, f5, _⟩ := frozen7 hX
  have HB := Lib.hid (below_set6 hB (Nat.le_refl _) (.int .i64 5) (.int .i64 0) (.string ⟨#[]⟩) (.slice A' n c') (.slice none 0 0) (.slice none 0 0))
  clear hB
  go_wp2
  refine bodyPost_ret (v := .tuple #[.agg #[.int .i64 5, .int .i64 0, .string ⟨#[]⟩, .slice A' n c', .slice none 0 0, .slice none 0 0], .bool true]) (by simp [results, Tryz.results83, go_sem, *]) rfl ⟨_, rfl, ⟨A', c', rfl, q1, q2, ?_⟩, HB.out⟩
  rcases HS.out with h0 | ⟨b, o, rfl, hJ⟩
  · exact .inl h0
  · exact .inr ⟨b, o, rfl, JCellsS.mono (fun k hk => set6_block _ _ _ _ _ _ _ _ k (by omega)) (fun k hk => ⟨by omega, by rw [set6_size]; omega⟩) l b o hJ⟩
set_option maxRecDepth 100000 in
set_option maxHeartbeats 1000000 in
/-- The map's way through fromGo. -/
theorem fromGo_mp (ks : List ByteArray) (vs : List JV) (M : Option Nat) (n : Nat) (w : World) (h : ∀ W, Below w.heap.size w W → Calls Tryz.prog 131 #[.map M] W fun e w' => ∃ u v, e = .returned (.tuple #[.agg #[.int .i64 6, .int .i64 0, .string ⟨#[]⟩, .slice none 0 0, u, v], .bool true]) ∧
      SlOf n 16 (SCellsS w' (fun b => W.heap.size ≤ b ∧ b < w'.heap.size) ks) u ∧ SlOf n 104 (JCellsS w' (fun b => W.heap.size ≤ b ∧ b < w'.heap.size) vs) v ∧ Below W.heap.size W w') :
    Calls Tryz.prog 83 #[.iface 83 (.map M)] w fun e w' => ∃ u v, e = .returned (.tuple #[.agg #[.int .i64 6, .int .i64 0, .string ⟨#[]⟩, .slice none 0 0, u, v], .bool true]) ∧
      SlOf n 16 (SCellsS w' (fun b => w.heap.size ≤ b ∧ b < w'.heap.size) ks) u ∧ SlOf n 104 (JCellsS w' (fun b => w.heap.size ≤ b ∧ b < w'.heap.size) vs) v ∧ Below w.heap.size w w' := by
  have hX := heap_alloc_new w (.cells #[.int .i64 0, .int .i64 0, .string ⟨#[]⟩, .slice none 0 0, .slice none 0 0, .slice none 0 0] 26)
  have hB := (Below.refl w.heap.size w).alloc (Nat.le_refl _) (.cells #[.int .i64 0, .int .i64 0, .string ⟨#[]⟩, .slice none 0 0, .slice none 0 0, .slice none 0 0] 26)
  have hsz : w.heap.size < (w.alloc (.cells #[.int .i64 0, .int .i64 0, .string ⟨#[]⟩, .slice none 0 0, .slice none 0 0, .slice none 0 0] 26)).heap.size := by simp
  have C := Lib.hid h
  clear h
  go_enter Tryz.func83, Tryz.ntmps83
  go_upto_region 1 with (fail)
  generalize w.alloc (.cells #[.int .i64 0, .int .i64 0, .string ⟨#[]⟩, .slice none 0 0, .slice none 0 0, .slice none 0 0] 26) = w1 at *
  go_wp2_with fail
  refine (C.out w1 hB).mono ?_
  rintro e w2 ⟨u, v', rfl, hs, hs2, hb⟩
  obtain ⟨A', c', rfl, q1, q2, q3⟩ := hs
  obtain ⟨A2, c2, rfl, r1, r2, r3⟩ := hs2
  have HS := Lib.hid q3
  have HS2 := Lib.hid r3
  have hszb := hb.size
  replace hX := kept_below hb (by omega) hX
  replace hB := hB.trans (hb.mono (by omega))
  have hlt2 : w.heap.size < w2.heap.size := by have := hb.size; omega
  clear hb C q3 r3
  obtain ⟨x0, x1, x2, x3, x4, x5⟩ := box6 hX
  obtain ⟨f0, f1, f2, f3, f4, f5, _⟩ := frozen7 hX
  have HB := Lib.hid (below_set6 hB (Nat.le_refl _) (.int .i64 6) (.int .i64 0) (.string ⟨#[]⟩) (.slice none 0 0) (.slice A' n c') (.slice A2 n c2))
  clear hB
  go_wp2
  refine bodyPost_ret (v := .tuple #[.agg #[.int .i64 6, .int .i64 0, .string ⟨#[]⟩, .slice none 0 0, .slice A' n c', .slice A2 n c2], .bool true]) (by simp [results, Tryz.results83, go_sem, *]) rfl ⟨_, _, rfl, ⟨A', c', rfl, q1, q2, ?_⟩, ⟨A2, c2, rfl, r1, r2, ?_⟩, HB.out⟩
  · rcases HS.out with h0 | ⟨b, o, rfl, hJ⟩
    · exact .inl h0
    · exact .inr ⟨b, o, rfl, SCellsS.mono (fun k hk => set6_block _ _ _ _ _ _ _ _ k (by omega)) (fun k hk => ⟨by omega, by rw [set6_size]; omega⟩) ks b o hJ⟩
  · rcases HS2.out with h0 | ⟨b, o, rfl, hJ⟩
    · exact .inl h0
    · exact .inr ⟨b, o, rfl, JCellsS.mono (fun k hk => set6_block _ _ _ _ _ _ _ _ k (by omega)) (fun k hk => ⟨by omega, by rw [set6_size]; omega⟩) vs b o hJ⟩

theorem from_all : ∀ v, FromC v := by
  refine JV.ind fun k h t l ks vs ihl ihv => ?_
  intro x w hp hg hf hs
  obtain ⟨x1, x2, x3, x4, x5, x6, x7, _, x9, x10, x11⟩ := hg.head
  obtain ⟨p1, p2⟩ := hg.plain
  unfold PRep at hp
  have hf2 := hf
  have hs2 := hs
  unfold Few at hf2
  unfold Short at hs2
  rcases hp with ⟨rfl, rfl⟩ | ⟨rfl, rfl⟩ | ⟨rfl, rfl⟩ | ⟨rfl, n, rfl, hn1, hn2, rfl⟩ | ⟨rfl, hodd, hh1, hh2, rfl⟩ | ⟨rfl, ht, rfl⟩ | ⟨rfl, b, cs, T, _, hb, rfl, hblk, hv⟩ | ⟨rfl, b, es, clock, _, hb, rfl, hblk, h9, h10, h11, h12, hE⟩
  · obtain rfl : t = ⟨#[]⟩ := p1.resolve_left (by decide)
    obtain ⟨rfl, rfl⟩ := p2.resolve_left (by decide)
    obtain rfl : l = [] := x5.resolve_left (by decide)
    obtain rfl : h = 0 := x3.resolve_left (by decide)
    refine (fromGo_nil w).mono ?_
    rintro e w' ⟨rfl, hb⟩
    exact ⟨_, _, _, _, _, _, rfl, bV_rep ⟨by decide, by decide⟩ ⟨by decide, by decide⟩ (by decide), hb⟩
  · obtain rfl : t = ⟨#[]⟩ := p1.resolve_left (by decide)
    obtain ⟨rfl, rfl⟩ := p2.resolve_left (by decide)
    obtain rfl : l = [] := x5.resolve_left (by decide)
    obtain rfl : h = 0 := x3.resolve_left (by decide)
    refine (fromGo_bool false w).mono ?_
    rintro e w' ⟨rfl, hb⟩
    exact ⟨_, _, _, _, _, _, rfl, bV_rep ⟨by decide, by decide⟩ ⟨by decide, by decide⟩ (by decide), hb⟩
  · obtain rfl : t = ⟨#[]⟩ := p1.resolve_left (by decide)
    obtain ⟨rfl, rfl⟩ := p2.resolve_left (by decide)
    obtain rfl : l = [] := x5.resolve_left (by decide)
    obtain rfl : h = 0 := x3.resolve_left (by decide)
    refine (fromGo_bool true w).mono ?_
    rintro e w' ⟨rfl, hb⟩
    exact ⟨_, _, _, _, _, _, rfl, bV_rep ⟨by decide, by decide⟩ ⟨by decide, by decide⟩ (by decide), hb⟩
  · obtain rfl : t = ⟨#[]⟩ := p1.resolve_left (by decide)
    obtain ⟨rfl, rfl⟩ := p2.resolve_left (by decide)
    obtain rfl : l = [] := x5.resolve_left (by decide)
    refine (fromGo_i n hn1 hn2 w).mono ?_
    rintro e w' ⟨rfl, hb⟩
    exact ⟨_, _, _, _, _, _, rfl, bV_rep ⟨by decide, by decide⟩ ⟨by omega, by omega⟩ (by decide), hb⟩
  · obtain rfl : t = ⟨#[]⟩ := p1.resolve_left (by decide)
    obtain ⟨rfl, rfl⟩ := p2.resolve_left (by decide)
    obtain rfl : l = [] := x5.resolve_left (by decide)
    refine (fromGo_flo h (by omega) hh1 hh2 w).mono ?_
    rintro e w' ⟨rfl, hb⟩
    exact ⟨_, _, _, _, _, _, rfl, bV_rep ⟨by decide, by decide⟩ ⟨by omega, by omega⟩ (by decide), hb⟩
  · obtain ⟨rfl, rfl⟩ := p2.resolve_left (by decide)
    obtain rfl : l = [] := x5.resolve_left (by decide)
    obtain rfl : h = 0 := x3.resolve_left (by decide)
    refine (fromGo_str t w).mono ?_
    rintro e w' ⟨rfl, hb⟩
    exact ⟨_, _, _, _, _, _, rfl, bV_rep ⟨by decide, by decide⟩ ⟨by decide, by decide⟩ ht, hb⟩
  · obtain rfl : t = ⟨#[]⟩ := p1.resolve_left (by decide)
    obtain ⟨rfl, rfl⟩ := p2.resolve_left (by decide)
    obtain rfl : h = 0 := x3.resolve_left (by decide)
    refine (fromGo_lst l _ l.length l.length w fun W hW => listFromGo l ihl x10 hf2.2.2.2.1 hs2.2.2.1 b l.length l.length (List.toArray cs) cs T W (by have := hW.size; omega) ((hW.block b hb).trans hblk) (fun j hj => by simp [hj]) (PVals.mono (fun k _ hk => hW.block k hk) (Nat.le_refl _) hW.size l cs hv) rfl hf2.1).mono ?_
    rintro e w' ⟨v', rfl, hS, hb⟩
    refine ⟨_, _, _, _, _, _, rfl, ?_, hb⟩
    unfold JRepS
    exact ⟨⟨by decide, by decide⟩, ⟨by decide, by decide⟩, by decide, _, _, _, rfl, hS, ⟨none, 0, rfl, Nat.le_refl _, by simp, .inl rfl⟩, ⟨none, 0, rfl, Nat.le_refl _, by simp, .inl rfl⟩⟩
  · obtain rfl : t = ⟨#[]⟩ := p1.resolve_left (by decide)
    obtain rfl : l = [] := x5.resolve_left (by decide)
    obtain rfl : h = 0 := x3.resolve_left (by decide)
    refine (fromGo_mp ks vs _ ks.length w fun W hW => mapFromGo ks vs ihv x11 hf2.2.2.2.2 hs2.2.2.2 x4 x9 hs2.2.1 ks.length rfl hf2.2.1 b es clock W (by have := hW.size; omega) ((hW.block b hb).trans hblk) h9 h10 h11 h12 (PEnts.mono (fun k _ hk => hW.block k hk) (Nat.le_refl _) hW.size vs ks _ hE)).mono ?_
    rintro e w' ⟨u, v', rfl, hS, hS2, hb⟩
    refine ⟨_, _, _, _, _, _, rfl, ?_, hb⟩
    unfold JRepS
    refine ⟨⟨by decide, by decide⟩, ⟨by decide, by decide⟩, by decide, _, _, _, rfl, ⟨none, 0, rfl, Nat.le_refl _, by simp, .inl rfl⟩, hS, ?_⟩
    rw [← x4]
    exact hS2
end Go.Proofs.YtmjegeipnaalnaaGreatDoor
