/- The Go values that the program makes of right values: what it means that a value of Go's type any stands for a tree. -/
import Derived.Test.YtmjegeipnaalnaaGreatDoorGood
import Derived.Test.YtmjegeipnaalnaaGreatDoorFlo
namespace Go.Proofs.YtmjegeipnaalnaaGreatDoor
open Go.RowKit

mutual
/-- A Go value stands for a tree; its blocks lie from lo on, below B. -/
def GRep (w : World) (lo B : Nat) : JV → Value → Prop
  | .mk k h t l ks vs, x =>
    (k = 0 ∧ x = .nilIface) ∨ (k = 1 ∧ x = .iface 4 (.bool false)) ∨ (k = 2 ∧ x = .iface 4 (.bool true)) ∨
    (k = 3 ∧ ∃ n, h = 2 * n ∧ -9007199254740992 ≤ n ∧ n ≤ 9007199254740992 ∧ x = .iface 3 (.int .i64 n)) ∨
    (k = 3 ∧ h % 2 = 1 ∧ -9007199254740992 < h ∧ h < 9007199254740992 ∧ x = .iface 79 (.float .f64 (halfBits h))) ∨
    (k = 4 ∧ t.size ≤ 140737488351232 ∧ x = .iface 9 (.string t)) ∨
    (k = 5 ∧ ∃ b cs T, lo ≤ b ∧ b < B ∧ x = .iface 80 (.slice (some ⟨b, 0, none⟩) l.length l.length) ∧ l.length ≤ 9000000000000 ∧ w.heap[b]? = some (.cells (List.toArray cs) T (0, 0)) ∧ GVals w lo B l cs) ∨
    (k = 6 ∧ ∃ b es, lo ≤ b ∧ b < B ∧ x = .iface 83 (.map (some b)) ∧ w.heap[b]? = some (.map (List.toArray es) es.length) ∧ es.length ≤ 9000000000000 ∧ es.map (·.key) = ks.map Value.string ∧ es.map (·.born) = List.range es.length ∧ GVals w lo B vs (es.map (·.val)))
def GVals (w : World) (lo B : Nat) : List JV → List Value → Prop
  | [], cs => cs = []
  | y :: r, cs => ∃ c cs', cs = c :: cs' ∧ GRep w lo B y c ∧ GVals w lo B r cs'
end

mutual
theorem GRep.mono {w w' : World} {lo lo' B B' : Nat} (hk : ∀ k, lo ≤ k → k < B → w'.heap[k]? = w.heap[k]?) (h1 : lo' ≤ lo) (h2 : B ≤ B') : ∀ (v : JV) (x : Value), GRep w lo B v x → GRep w' lo' B' v x
  | .mk k h t l ks vs, x, hr => by
    unfold GRep at hr ⊢
    rcases hr with e | e | e | e | e | e | ⟨e, b, cs, T, h3, h4, h5, h6, h7, h8⟩ | ⟨e, b, es, h3, h4, h5, h6, h7, h8, h9, h10⟩
    · exact .inl e
    · exact .inr (.inl e)
    · exact .inr (.inr (.inl e))
    · exact .inr (.inr (.inr (.inl e)))
    · exact .inr (.inr (.inr (.inr (.inl e))))
    · exact .inr (.inr (.inr (.inr (.inr (.inl e)))))
    · exact .inr (.inr (.inr (.inr (.inr (.inr (.inl ⟨e, b, cs, T, by omega, by omega, h5, h6, (hk b h3 h4).trans h7, GVals.mono hk h1 h2 l cs h8⟩))))))
    · exact .inr (.inr (.inr (.inr (.inr (.inr (.inr ⟨e, b, es, by omega, by omega, h5, (hk b h3 h4).trans h6, h7, h8, h9, GVals.mono hk h1 h2 vs _ h10⟩))))))
theorem GVals.mono {w w' : World} {lo lo' B B' : Nat} (hk : ∀ k, lo ≤ k → k < B → w'.heap[k]? = w.heap[k]?) (h1 : lo' ≤ lo) (h2 : B ≤ B') : ∀ (l : List JV) (cs : List Value), GVals w lo B l cs → GVals w' lo' B' l cs
  | [], cs, h => by unfold GVals at h ⊢; exact h
  | y :: r, cs, h => by
    unfold GVals at h ⊢
    obtain ⟨c, cs', h3, h4, h5⟩ := h
    exact ⟨c, cs', h3, GRep.mono hk h1 h2 y c h4, GVals.mono hk h1 h2 r cs' h5⟩
end
theorem GRep.below {w w' : World} {lo B B' : Nat} {v : JV} {x : Value} (h : GRep w lo B v x) (hb : Below B w w') (hB : B ≤ B') : GRep w' lo B' v x :=
  GRep.mono (fun k _ hk => hb.block k hk) (Nat.le_refl _) hB v x h
theorem GVals.below {w w' : World} {lo B B' : Nat} {l : List JV} {cs : List Value} (h : GVals w lo B l cs) (hb : Below B w w') (hB : B ≤ B') : GVals w' lo B' l cs :=
  GVals.mono (fun k _ hk => hb.block k hk) (Nat.le_refl _) hB l cs h

theorem GVals.length {w : World} {lo B : Nat} : ∀ {l : List JV} {cs : List Value}, GVals w lo B l cs → cs.length = l.length
  | [], cs, h => by unfold GVals at h; simp [h]
  | y :: r, cs, h => by
    unfold GVals at h
    obtain ⟨c, cs', rfl, _, h5⟩ := h
    simp [GVals.length h5]
theorem GVals.get {w : World} {lo B : Nat} : ∀ {l : List JV} {cs : List Value}, GVals w lo B l cs → ∀ (i : Nat) (hi : i < l.length) (hc : i < cs.length), GRep w lo B l[i] cs[i]
  | [], _, _, i, hi, _ => absurd hi (by simp)
  | y :: r, cs, h, i, hi, hc => by
    unfold GVals at h
    obtain ⟨c, cs', rfl, h4, h5⟩ := h
    cases i with
    | zero => exact h4
    | succ i => exact GVals.get h5 i (by simpa using hi) (by simpa using hc)
theorem GVals.snoc {w : World} {lo B : Nat} {y : JV} {c : Value} (hy : GRep w lo B y c) : ∀ {l : List JV} {cs : List Value}, GVals w lo B l cs → GVals w lo B (l ++ [y]) (cs ++ [c])
  | [], cs, h => by
    unfold GVals at h
    subst h
    show GVals w lo B [y] [c]
    unfold GVals
    exact ⟨c, [], rfl, hy, by unfold GVals; rfl⟩
  | z :: r, cs, h => by
    unfold GVals at h
    obtain ⟨d, cs', rfl, h4, h5⟩ := h
    show GVals w lo B (z :: (r ++ [y])) (d :: (cs' ++ [c]))
    unfold GVals
    exact ⟨d, cs' ++ [c], rfl, h4, GVals.snoc hy h5⟩
theorem GVals.nil {w : World} {lo B : Nat} : GVals w lo B [] [] := by unfold GVals; rfl
end Go.Proofs.YtmjegeipnaalnaaGreatDoor
