/- Whether a map holds a key: the walk of the specification's look-up. -/
import Derived.Test.YtmjegeipnaalnaaGreatDoorGrFind
namespace Go.Proofs.YtmjegeipnaalnaaGreatDoor
open Go.RowKit

set_option maxRecDepth 100000 in
set_option maxHeartbeats 2000000 in
theorem has_walk (ks : List ByteArray) (x : ByteArray) (c0 c1 c2 c3 c5 : Value) (A : Option Addr) (n m : Nat) (w : World) (hn : n = ks.length) (hm : n ≤ 9000000000000)
    (hS : n = 0 ∨ ∃ b o, A = some ⟨b, o, none⟩ ∧ SCells w w.heap.size ks b o) :
    Calls Tryz.prog 109 #[.agg #[c0, c1, c2, c3, .slice A n m, c5], .string x] w fun e w' => e = .returned (.bool (isAt ks x)) ∧ Below w.heap.size w w' := by
  have HN := Lib.hid hn
  clear hn
  have HS := Lib.hid hS
  clear hS
  go_enter Tryz.func109, Tryz.ntmps109
  have hX := heap_alloc_new w (.cells #[c0, c1, c2, c3, .slice A n m, c5] 26)
  have hB := (Below.refl w.heap.size w).alloc (Nat.le_refl _) (.cells #[c0, c1, c2, c3, .slice A n m, c5] 26)
  obtain ⟨x0, x1, x2, x3, x4, x5⟩ := box6 hX
  have hS2 : n = 0 ∨ ∃ b o, A = some ⟨b, o, none⟩ ∧ SCells (w.alloc (.cells #[c0, c1, c2, c3, .slice A n m, c5] 26)) (w.heap.size + 1) ks b o := by
    rcases HS.out with h | ⟨b, o, h, h2⟩
    · exact .inl h
    · exact .inr ⟨b, o, h, SCells.below hB (Nat.le_succ _) ks b o h2⟩
  go_wp2_with (go_at_call 187; refine (place_walk ks x _ _ _ _ _ A n m _ HN.out hm (by simpa using hS2)).mono ?_; rintro e w1 ⟨rfl, hb⟩)
  go_ret
  exact ⟨rfl, hB.trans (hb.mono (by simp))⟩
end Go.Proofs.YtmjegeipnaalnaaGreatDoor
