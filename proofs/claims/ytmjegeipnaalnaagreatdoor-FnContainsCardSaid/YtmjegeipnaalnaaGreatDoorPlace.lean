/- Where a key stands among a map's keys: the walk of the specification's look-up. -/
import Derived.Test.YtmjegeipnaalnaaGreatDoorFitT
import Derived.Test.YtmjegeipnaalnaaGreatDoorHolds
import Derived.Lib.Hide
import Derived.StillTailTactics
import Derived.Deep.CutBlock
import Derived.Deep.LoopGhost
namespace Go.Proofs.YtmjegeipnaalnaaGreatDoor
open Go.RowKit

/-- How many of the first keys lie below this one. -/
def placeN : List ByteArray → ByteArray → Nat
  | [], _ => 0
  | k :: r, x => if keyLt k x then placeN r x + 1 else 0
/-- The key stands at its place. -/
def isAt (ks : List ByteArray) (x : ByteArray) : Bool := match ks[placeN ks x]? with
  | some k => k.toList == x.toList
  | none => false
theorem placeN_le (x : ByteArray) : ∀ ks : List ByteArray, placeN ks x ≤ ks.length
  | [] => Nat.le_refl _
  | k :: r => by unfold placeN; split; · simpa using placeN_le x r
                 · simp
theorem placeN_below (x : ByteArray) : ∀ (ks : List ByteArray) (j : Nat) (_h : j < placeN ks x) (h2 : j < ks.length), keyLt ks[j] x = true
  | [], _, h, _ => by simp [placeN] at h
  | k :: r, 0, h, _ => by unfold placeN at h; split at h <;> simp_all
  | k :: r, j + 1, h, h2 => by
    unfold placeN at h
    split at h
    · simpa using placeN_below x r j (by omega) (by simpa using h2)
    · omega
theorem placeN_at (x : ByteArray) : ∀ (ks : List ByteArray) (_h : placeN ks x < ks.length), keyLt ks[placeN ks x] x = false
  | [], h => by simp at h
  | k :: r, h => by
    unfold placeN at h ⊢
    split
    · rename_i hk
      simp only [hk, if_true] at h
      simpa using placeN_at x r (by simpa using h)
    · rename_i hk
      simpa using hk

theorem place_step {x : ByteArray} {ks : List ByteArray} {j : Nat} (hj : j ≤ placeN ks x) (hl : j < ks.length) (h : keyLt ks[j] x = true) : j + 1 ≤ placeN ks x := by
  rcases Nat.lt_or_ge j (placeN ks x) with h1 | h1
  · exact h1
  · have e : j = placeN ks x := by omega
    subst e
    rw [placeN_at x ks hl] at h
    cases h
theorem place_stop {x : ByteArray} {ks : List ByteArray} {j : Nat} (hj : j ≤ placeN ks x) (hl : j < ks.length) (h : keyLt ks[j] x = false) : placeN ks x = j := by
  rcases Nat.lt_or_ge j (placeN ks x) with h1 | h1
  · rw [placeN_below x ks j h1 hl] at h; cases h
  · omega
set_option maxRecDepth 100000 in
set_option maxHeartbeats 2000000 in
theorem place_walk (ks : List ByteArray) (x : ByteArray) (c0 c1 c2 c3 c5 : Value) (A : Option Addr) (n m : Nat) (w : World) (hn : n = ks.length) (hm : n ≤ 9000000000000)
    (hS : n = 0 ∨ ∃ b o, A = some ⟨b, o, none⟩ ∧ SCells w w.heap.size ks b o) :
    Calls Tryz.prog 187 #[.agg #[c0, c1, c2, c3, .slice A n m, c5], .string x] w fun e w' => e = .returned (.tuple #[.int .i64 (placeN ks x), .bool (isAt ks x)]) ∧ Below w.heap.size w w' := by
  have HN := Lib.hid hn
  clear hn
  go_enter Tryz.func187, Tryz.ntmps187
  have hX := heap_alloc_new w (.cells #[c0, c1, c2, c3, .slice A n m, c5] 26)
  have hB := (Below.refl w.heap.size w).alloc (Nat.le_refl _) (.cells #[c0, c1, c2, c3, .slice A n m, c5] 26)
  obtain ⟨x0, x1, x2, x3, x4, x5⟩ := box6 hX
  go_upto_block 0 with (fail)
  go_cut [6] (fun i wx => i = .int .i64 (placeN ks x) ∧ wx = w.alloc (.cells #[c0, c1, c2, c3, .slice A n m, c5] 26))
  case first =>
    go_wp2_with fail
    go_loopw [6] (fun i wr => ∃ j : Nat, j ≤ placeN ks x ∧ i = .int .i64 j ∧ wr = w.alloc (.cells #[c0, c1, c2, c3, .slice A n m, c5] 26)) (fun i _ => ks.length - (intOf i).toNat)
    case atStart => exact ⟨0, Nat.zero_le _, rfl, rfl⟩
    case round =>
      obtain ⟨j, hj, rfl, rfl⟩ := hrel
      by_cases hjn : j < n
      · have hjl : j < ks.length := by rw [← HN.out]; exact hjn
        obtain ⟨b1, o1, rfl, hJ⟩ : ∃ b o, A = some ⟨b, o, none⟩ ∧ SCells w w.heap.size ks b o := by
          rcases hS with h0 | h0
          · omega
          · exact h0
        obtain ⟨hb1, hz, hc⟩ := SCells.get ks b1 o1 (SCells.below hB (Nat.le_refl _) ks b1 o1 hJ) j hjl
        cases hk : keyLt ks[j] x with
        | true =>
          have hk' : Op.bytesLess ks[j].toList x.toList = true := hk
          go_wp2_with fail
          exact ⟨⟨j + 1, place_step hj hjl hk, by go_num, trivial⟩, by simp [intOf]; omega⟩
        | false =>
          have hk' : Op.bytesLess ks[j].toList x.toList = false := hk
          go_wp2_with fail
          go_meet
          exact ⟨by rw [place_stop hj hjl hk], rfl⟩
      · go_wp2_with fail
        go_meet
        exact ⟨by have := placeN_le x ks; rw [show placeN ks x = j by have := HN.out; omega], rfl⟩
  case rest =>
    obtain ⟨rfl, rfl⟩ := hcut
    generalize hi : placeN ks x = i
    have HI := Lib.hid hi
    clear hi
    by_cases hin : i < n
    · have hjl : i < ks.length := by rw [← HN.out]; exact hin
      obtain ⟨b1, o1, rfl, hJ⟩ : ∃ b o, A = some ⟨b, o, none⟩ ∧ SCells w w.heap.size ks b o := by
        rcases hS with h0 | h0
        · omega
        · exact h0
      obtain ⟨hb1, hz, hc⟩ := SCells.get ks b1 o1 (SCells.below hB (Nat.le_refl _) ks b1 o1 hJ) i hjl
      have he : isAt ks x = (ks[i].toList == x.toList) := by
        unfold isAt; rw [HI.out, List.getElem?_eq_getElem hjl]
      have HE := Lib.hid he
      clear he
      go_wp2_with fail
      refine wp_region_quiet_tail 16 (by kernel_rfl) (by kernel_rfl) ?_
      simp only [List.take_succ_cons, List.take_zero, List.drop_succ_cons, List.drop_zero]
      repeat (go_big_quiet_step (fail))
      refine wpQuiet_nil ?_
      go_wp2_with fail
      go_ret2
      rw [HE.out, HI.out]
      exact ⟨rfl, hB.drew⟩
    · have he : isAt ks x = false := by
        unfold isAt; rw [HI.out, List.getElem?_eq_none (by rw [← HN.out]; omega)]
      have HE := Lib.hid he
      clear he
      go_wp2_with fail
      refine wp_region_quiet_tail 16 (by kernel_rfl) (by kernel_rfl) ?_
      simp only [List.take_succ_cons, List.take_zero, List.drop_succ_cons, List.drop_zero]
      repeat (go_big_quiet_step (fail))
      refine wpQuiet_nil ?_
      go_wp2_with fail
      go_ret2
      rw [HE.out, HI.out]
      exact ⟨rfl, hB.drew⟩
end Go.Proofs.YtmjegeipnaalnaaGreatDoor
