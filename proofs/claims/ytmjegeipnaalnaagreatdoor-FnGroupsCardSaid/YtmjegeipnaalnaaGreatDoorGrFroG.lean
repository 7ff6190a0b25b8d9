/- Short keys and texts, all the way down; setting at a path keeps them so. A row that a call owns and lets grow: what holds of the values in it, and of what lies beside it. From Go's values to a value of the thin package: a list: the walk. Two rows that a call owns and lets grow, one behind the other: what holds behind both. A region that draws its order: loads are taken first under a condition that holds till a certain operation, a store, has come up. -/
import Derived.Test.YtmjegeipnaalnaaGreatDoorGrUpdS
import Derived.Test.YtmjegeipnaalnaaGreatDoorGrMapW
import Derived.Test.YtmjegeipnaalnaaGreatDoorGrSameN
import Derived.Maps.AppendAt
import Derived.Deep.AppendLies
import Derived.OrdersHeld
import Derived.Deep.RegionHeld3

/- Short keys and texts, all the way down; setting at a path keeps them so. -/
namespace Go.Proofs.YtmjegeipnaalnaaGreatDoor
open Go.RowKit

mutual
/-- Every key and every text has a bounded length. -/
def Short : JV → Prop
  | .mk _ _ t l ks vs => t.size ≤ 140737488351232 ∧ (∀ k ∈ ks, k.size ≤ 140737488351232) ∧ ShortL l ∧ ShortL vs
def ShortL : List JV → Prop
  | [] => True
  | x :: r => Short x ∧ ShortL r
end
theorem ShortL.get : ∀ {l : List JV}, ShortL l → ∀ x ∈ l, Short x
  | [], _, x, hx => by simp at hx
  | y :: r, h, x, hx => by
    unfold ShortL at h
    rcases List.mem_cons.1 hx with e | e
    · exact e ▸ h.1
    · exact ShortL.get h.2 x e
theorem ShortL.of : ∀ {l : List JV}, (∀ x ∈ l, Short x) → ShortL l
  | [], _ => by unfold ShortL; trivial
  | x :: r, h => by unfold ShortL; exact ⟨h x (by simp), ShortL.of fun y hy => h y (by simp [hy])⟩
theorem short_null : Short nullT := by unfold nullT Short ShortL; exact ⟨by decide, by simp, trivial, trivial⟩
theorem short_atK {v : JV} (h : Short v) (k : ByteArray) : Short (atK v k) := by
  rcases atK_in v k with e | e
  · rw [e]; exact short_null
  · cases v; unfold Short at h; exact h.2.2.2.get _ e
theorem short_atI {v : JV} (h : Short v) (i : Nat) : Short (atI v i) := by
  rcases atI_in v i with e | e
  · rw [e]; exact short_null
  · cases v; unfold Short at h; exact h.2.2.1.get _ e
theorem insK_in {k x : ByteArray} : ∀ {ks : List ByteArray}, x ∈ insK ks k → x = k ∨ x ∈ ks
  | [], h => by unfold insK at h; simpa using h
  | a :: ks, h => by
    unfold insK at h
    split at h
    · exact .inr h
    · split at h
      · simpa using h
      · rcases List.mem_cons.1 h with e | e
        · exact .inr (by simp [e])
        · rcases insK_in e with e | e
          · exact .inl e
          · exact .inr (by simp [e])
theorem short_set : ∀ (p : List Step) (x v r : JV), (∀ s ∈ p, StepOk s) → Short v → Short x → setT p x v = some r → Short r
  | [], x, v, r, _, _, hx, h => by unfold setT at h; simp at h; exact h ▸ hx
  | .key k :: p, x, v, r, hp, hv, hx, h => by
    obtain ⟨_, u, h1, rfl⟩ := set_key h
    have hu := short_set p x _ u (fun s hs => hp s (by simp [hs])) (short_atK hv k) hx h1
    have hk : k.size ≤ 140737488351232 := hp (.key k) (by simp)
    cases v with
    | mk kk hh t l ks vs =>
      unfold Short at hv
      unfold mapT Short
      refine ⟨by decide, fun y hy => ?_, by unfold ShortL; trivial, ShortL.of fun y hy => ?_⟩
      · rcases insK_in hy with e | e
        · rw [e]; exact hk
        · exact hv.2.1 y e
      · rcases insV_mem hy with e | e
        · rw [e]; exact hu
        · exact hv.2.2.2.get y e
  | .idx i :: p, x, v, r, hp, hv, hx, h => by
    obtain ⟨_, u, h1, rfl⟩ := set_idx h
    have hu := short_set p x _ u (fun s hs => hp s (by simp [hs])) (short_atI hv i) hx h1
    cases v with
    | mk kk hh t l ks vs =>
      unfold Short at hv
      unfold listT Short
      refine ⟨by decide, by simp, ShortL.of fun y hy => ?_, by unfold ShortL; trivial⟩
      rcases setL_mem hy with e | e | e
      · rw [e]; exact hu
      · exact hv.2.2.1.get y e
      · rw [e]; exact short_null

end Go.Proofs.YtmjegeipnaalnaaGreatDoor

/- A row that a call owns and lets grow: what holds of the values in it, and of what lies beside it. -/
namespace Go.Proofs.YtmjegeipnaalnaaGreatDoor
open Go.RowKit

theorem ownsRow_keep {w w' : World} {base : Nat} {e : TypeId} {size : Nat} {v : Value} {n : Nat} {xs : List Value} (h : w.ownsRow base e size v n xs)
    (hk : ∀ k, v.ownBlock = some k → w'.heap[k]? = w.heap[k]?) : w'.ownsRow base e size v n xs := by
  refine ⟨h.1, ?_⟩
  rcases h.2 with hn | ⟨g, cap, cur, rfl, hb, hgg, rest⟩
  · exact .inl hn
  · exact .inr ⟨g, cap, cur, rfl, hb, (hk g rfl).trans hgg, rest⟩
theorem below_of_grown_opt {w w' : World} {r : Option Nat} {B : Nat} (h : w.grownBy w' r) (hr : ∀ b, r = some b → B ≤ b) (hB : B ≤ w.heap.size) : Below B w w' :=
  ⟨h.os, h.tape, h.output, h.size, fun k hk => h.block k (by omega) (fun e => by have := hr k e.symm; omega)⟩
theorem row_set3 {w : World} {k : Nat} {a0 a1 a2 a3 a4 a5 v : Value} {T : TypeId} (h : w.heap[k]? = some (.cells #[a0, a1, a2, a3, a4, a5] T (0, 0))) :
    (w.setCell ⟨k, 3, none⟩ v).heap[k]? = some (.cells #[a0, a1, a2, v, a4, a5] T (0, 0)) := by
  simp [World.setCell, Array.getElem?_modify, h]
theorem row_set4 {w : World} {k : Nat} {a0 a1 a2 a3 a4 a5 v : Value} {T : TypeId} (h : w.heap[k]? = some (.cells #[a0, a1, a2, a3, a4, a5] T (0, 0))) :
    (w.setCell ⟨k, 4, none⟩ v).heap[k]? = some (.cells #[a0, a1, a2, a3, v, a5] T (0, 0)) := by
  simp [World.setCell, Array.getElem?_modify, h]
theorem row_set5 {w : World} {k : Nat} {a0 a1 a2 a3 a4 a5 v : Value} {T : TypeId} (h : w.heap[k]? = some (.cells #[a0, a1, a2, a3, a4, a5] T (0, 0))) :
    (w.setCell ⟨k, 5, none⟩ v).heap[k]? = some (.cells #[a0, a1, a2, a3, a4, v] T (0, 0)) := by
  simp [World.setCell, Array.getElem?_modify, h]
theorem JRepS.shape {w : World} {S : Nat → Prop} {v : JV} {d0 d1 d2 d3 d4 d5 : Value} (h : JRepS w S v [d0, d1, d2, d3, d4, d5]) :
    ∃ k hh t A1 n1 m1 A2 n2 m2 A3 n3 m3, d0 = .int .i64 k ∧ d1 = .int .i64 hh ∧ d2 = .string t ∧ d3 = .slice A1 n1 m1 ∧ d4 = .slice A2 n2 m2 ∧ d5 = .slice A3 n3 m3 := by
  obtain ⟨k, hh, t, l, ks1, vs1⟩ := v
  unfold JRepS at h
  obtain ⟨_, _, _, vl, vk, vv, e, ⟨A1, m1, rfl, _⟩, ⟨A2, m2, rfl, _⟩, ⟨A3, m3, rfl, _⟩⟩ := h
  simp only [List.cons.injEq, and_true] at e
  obtain ⟨rfl, rfl, rfl, rfl, rfl, rfl⟩ := e
  exact ⟨_, _, _, _, _, _, _, _, _, _, _, _, rfl, rfl, rfl, rfl, rfl, rfl⟩

/-- The blocks beside the row, from a number on. -/
def Beside (N : Nat) (w : World) (v : Value) (b : Nat) : Prop := N ≤ b ∧ b < w.heap.size ∧ v.ownBlock ≠ some b

/-- One value more in the row: the rest's values stay, the new one's are beside the row. -/
theorem flat_grown {N j : Nat} {v' v'' : Value} {xs : List Value} {l : List JV} {y : JV} {d0 d1 d2 d3 d4 d5 : Value} {wo w1 w2 : World}
    (hown : wo.ownsRow N 26 6 v' j xs) (hfl : JFlat wo (Beside N wo v') l xs) (hN : N ≤ wo.heap.size) (hk1 : ∀ k, k < wo.heap.size → v'.ownBlock ≠ some k → N ≤ k → w2.heap[k]? = wo.heap[k]?)
    (hrep : JRepS w1 (fun b => wo.heap.size ≤ b ∧ b < w1.heap.size) y [d0, d1, d2, d3, d4, d5]) (h01 : wo.heap.size ≤ w1.heap.size) (hk2 : ∀ k, wo.heap.size ≤ k → k < w1.heap.size → w2.heap[k]? = w1.heap[k]?)
    (h12 : w1.heap.size < w2.heap.size) (hob : v''.ownBlock = v'.ownBlock ∨ ∃ g, v''.ownBlock = some g ∧ w1.heap.size ≤ g) :
    JFlat w2 (Beside N w2 v'') (l ++ [y]) (xs ++ [d0, d1, d2, d3, d4, d5]) := by
  refine JFlat.snoc (JRepS.mono (fun b hb => hk2 b hb.1 hb.2) (fun b hb => ⟨by omega, by omega, ?_⟩) y _ hrep) (JFlat.mono (fun b hb => hk1 b hb.2.1 hb.2.2 hb.1) (fun b hb => ⟨hb.1, by have := hb.2.1; omega, ?_⟩) hfl)
  · intro e
    rcases hob with h | ⟨g, h, hg⟩
    · have := hown.lt b (h ▸ e); omega
    · rw [h] at e; cases e; omega
  · intro e
    rcases hob with h | ⟨g, h, hg⟩
    · exact hb.2.2 (h ▸ e)
    · rw [h] at e; cases e; have := hb.2.1; omega
/-- What the row holds at its end, read as a slice's cells. -/
theorem flat_slof {N n : Nat} {v' : Value} {xs : List Value} {l : List JV} {w : World} {S : Nat → Prop} (hown : w.ownsRow N 26 6 v' n xs) (hfl : JFlat w (Beside N w v') l xs) (hl : l.length = n) (hn : n * 104 ≤ 140737488351232)
    (hS : ∀ b, N ≤ b → b < w.heap.size → S b) : SlOf n 104 (JCellsS w S l) v' := by
  have hfl' := hfl.mono (w' := w) (S' := S) (fun _ _ => rfl) (fun b hb => hS b hb.1 hb.2.1)
  have hlt := hown.lt
  have hc := fun (g : Nat) => hown.cells (g := g)
  rcases hown.2 with ⟨rfl, rfl⟩ | ⟨g, cap, cur, rfl, hbg, hg, hnc, hcm, hcs, htake⟩
  · exact ⟨none, 0, rfl, Nat.le_refl _, by omega, .inl rfl⟩
  · refine ⟨_, cap, rfl, hnc, hn, .inr ⟨g, 0, rfl, hfl'.cells (hS g hbg (hlt g rfl).2) fun j u hj => ?_⟩⟩
    have := hc g rfl j u hj
    rwa [show (⟨g, 0, none⟩ : Addr).add j = ⟨g, 0 + j, none⟩ by unfold Addr.add; split <;> simp_all] at this
theorem six_cells {w : World} {k : Nat} {d0 d1 d2 d3 d4 d5 : Value} {T : TypeId} {fr : Nat × Nat} (h : w.heap[k]? = some (.cells #[d0, d1, d2, d3, d4, d5] T fr)) :
    ∀ j u, [d0, d1, d2, d3, d4, d5][j]? = some u → w.cell? ((⟨k, 0, none⟩ : Addr).add j) = some u := by
  obtain ⟨h0, h1, h2, h3, h4, h5⟩ := box6 h
  intro j u hj
  rw [show (⟨k, 0, none⟩ : Addr).add j = ⟨k, j, none⟩ by unfold Addr.add; split <;> simp_all]
  rcases j with _ | _ | _ | _ | _ | _ | j
  · exact h0.trans hj
  · exact h1.trans hj
  · exact h2.trans hj
  · exact h3.trans hj
  · exact h4.trans hj
  · exact h5.trans hj
  · simp at hj
theorem six_one (k h : Int) (t : ByteArray) (A1 A2 A3 : Option Addr) (n1 m1 n2 m2 n3 m3 : Nat) : ∀ u ∈ [Value.int .i64 k, .int .i64 h, .string t, .slice A1 n1 m1, .slice A2 n2 m2, .slice A3 n3 m3], u.oneCell' = true := by
  simp [Value.oneCell']
theorem slice_of_own {w : World} {base : Nat} {e : TypeId} {size : Nat} {v : Value} {n : Nat} {xs : List Value} (h : w.ownsRow base e size v n xs) : ∃ A c, v = .slice A n c := by
  rcases h.2 with ⟨rfl, rfl⟩ | ⟨g, cap, cur, rfl, _⟩
  · exact ⟨_, _, rfl⟩
  · exact ⟨_, _, rfl⟩
theorem set6_block (w : World) (g : Nat) (v0 v1 v2 v3 v4 v5 : Value) (k : Nat) (h : k ≠ g) :
    ((((((w.setCell ⟨g, 0, none⟩ v0).setCell ⟨g, 1, none⟩ v1).setCell ⟨g, 2, none⟩ v2).setCell ⟨g, 3, none⟩ v3).setCell ⟨g, 4, none⟩ v4).setCell ⟨g, 5, none⟩ v5).heap[k]? = w.heap[k]? := by
  rw [Below.heap_setCell _ ⟨g, 5, none⟩ _ k h, Below.heap_setCell _ ⟨g, 4, none⟩ _ k h, Below.heap_setCell _ ⟨g, 3, none⟩ _ k h, Below.heap_setCell _ ⟨g, 2, none⟩ _ k h, Below.heap_setCell _ ⟨g, 1, none⟩ _ k h, Below.heap_setCell _ ⟨g, 0, none⟩ _ k h]
theorem set6_size (w : World) (g : Nat) (v0 v1 v2 v3 v4 v5 : Value) :
    ((((((w.setCell ⟨g, 0, none⟩ v0).setCell ⟨g, 1, none⟩ v1).setCell ⟨g, 2, none⟩ v2).setCell ⟨g, 3, none⟩ v3).setCell ⟨g, 4, none⟩ v4).setCell ⟨g, 5, none⟩ v5).heap.size = w.heap.size := by
  simp [World.setCell]
end Go.Proofs.YtmjegeipnaalnaaGreatDoor

/- From Go's values to a value of the thin package: a list: the walk. -/
namespace Go.Proofs.YtmjegeipnaalnaaGreatDoor
open Go.RowKit

/-- What the way out of Go promises for one value. -/
def FromC (v : JV) : Prop := ∀ (x : Value) (w : World), PRep w 0 w.heap.size v x → Good v → Few 1002 v → Short v →
  Calls Tryz.prog 83 #[x] w fun e w' => ∃ c0 c1 c2 c3 c4 c5, e = .returned (.tuple #[.agg #[c0, c1, c2, c3, c4, c5], .bool true]) ∧ JRepS w' (fun b => w.heap.size ≤ b ∧ b < w'.heap.size) v [c0, c1, c2, c3, c4, c5] ∧ Below w.heap.size w w'

set_option maxRecDepth 100000 in
set_option maxHeartbeats 8000000 in
theorem listFromGo (l : List JV) (ih : ∀ y ∈ l, FromC y) (gl : GoodL l) (fl : FewL 1002 l) (sl : ShortL l) (b n m : Nat) (C : Array Value) (cs : List Value) (T : TypeId) (w : World) (hb : b < w.heap.size) (hblk : w.heap[b]? = some (.cells C T (0, 0))) (hC : ∀ j (hj : j < cs.length), C[j]? = some cs[j]) (hv : PVals w 0 w.heap.size l cs) (hn : l.length = n) (hn1 : n ≤ 1002) :
    Calls Tryz.prog 130 #[.slice (some ⟨b, 0, none⟩) n m] w fun e w' => ∃ v', e = .returned (.tuple #[.agg #[.int .i64 5, .int .i64 0, .string ⟨#[]⟩, v', .slice none 0 0, .slice none 0 0], .bool true]) ∧ SlOf n 104 (JCellsS w' (fun b => w.heap.size ≤ b ∧ b < w'.heap.size) l) v' ∧ Below w.heap.size w w' := by
  obtain ⟨hR, hO⟩ := two_new w (.cells #[.int .i64 0, .int .i64 0, .string ⟨#[]⟩, .slice none 0 0, .slice none 0 0, .slice none 0 0] 26) (.cells #[.int .i64 5, .int .i64 0, .string ⟨#[]⟩, .slice none 0 0, .slice none 0 0, .slice none 0 0] 26)
  have hB := ((Below.refl w.heap.size w).alloc (Nat.le_refl _) (.cells #[.int .i64 0, .int .i64 0, .string ⟨#[]⟩, .slice none 0 0, .slice none 0 0, .slice none 0 0] 26)).alloc (by simp) (.cells #[.int .i64 5, .int .i64 0, .string ⟨#[]⟩, .slice none 0 0, .slice none 0 0, .slice none 0 0] 26)
  have hsz : w.heap.size + 2 ≤ ((w.alloc (.cells #[.int .i64 0, .int .i64 0, .string ⟨#[]⟩, .slice none 0 0, .slice none 0 0, .slice none 0 0] 26)).alloc (.cells #[.int .i64 5, .int .i64 0, .string ⟨#[]⟩, .slice none 0 0, .slice none 0 0, .slice none 0 0] 26)).heap.size := by simp
  have HN := Lib.hid hn
  have HLEN := Lib.hid hv.length
  have HV := Lib.hid hv
  have HBLK := Lib.hid hblk
  have HCC := Lib.hid hC
  clear hn hv hblk hC
  go_enter Tryz.func130, Tryz.ntmps130
  go_upto_region 2 with (fail)
  generalize ((w.alloc (.cells #[.int .i64 0, .int .i64 0, .string ⟨#[]⟩, .slice none 0 0, .slice none 0 0, .slice none 0 0] 26)).alloc (.cells #[.int .i64 5, .int .i64 0, .string ⟨#[]⟩, .slice none 0 0, .slice none 0 0, .slice none 0 0] 26)) = w0 at *
  go_wp2_with fail
  go_loopw [12] (fun i wr => ∃ (j : Nat) (v' : Value) (xs : List Value), j ≤ n ∧ i = .int .i64 j ∧ wr.heap[w.heap.size]? = some (.cells #[.int .i64 0, .int .i64 0, .string ⟨#[]⟩, .slice none 0 0, .slice none 0 0, .slice none 0 0] 26) ∧ wr.heap[w.heap.size + 1]? = some (.cells #[.int .i64 5, .int .i64 0, .string ⟨#[]⟩, v', .slice none 0 0, .slice none 0 0] 26) ∧
    wr.ownsRow (w.heap.size + 2) 26 6 v' j xs ∧ JFlat wr (Beside (w.heap.size + 2) wr v') (l.take j) xs ∧ Below w.heap.size w wr ∧ w.heap.size + 2 ≤ wr.heap.size) (fun i _ => n - (intOf i).toNat)
  case atStart => exact ⟨0, .slice none 0 0, [], Nat.zero_le _, rfl, hR, hO, World.ownsRow_nil _ _ _ _, by simp [JFlat], hB, hsz⟩
  case round =>
    obtain ⟨j, v', xs, hj, rfl, hRr, hOr, hown, hfl, hbr, hszr⟩ := hrel
    obtain ⟨wo, rfl⟩ : ∃ wo, wo = wr := ⟨_, rfl⟩
    by_cases hjn : j < n
    · have hjl : j < l.length := by rw [HN.out]; exact hjn
      have hjc : j < cs.length := by rw [HLEN.out]; exact hjl
      have hcell : wo.cell? ⟨b, j, none⟩ = some cs[j] := by
        have q := kept_below hbr hb HBLK.out
        have q2 := HCC.out j hjc
        simp [World.cell?, q, q2]
      have hg := PRep.mono (w' := wo) (fun k _ hk => hbr.block k hk) (Nat.le_refl _) (show w.heap.size ≤ wo.heap.size by omega) _ _ (HV.out.get j hjl hjc)
      have C := Lib.hid (ih _ (List.getElem_mem hjl) cs[j] wo hg (gl.get _ (List.getElem_mem hjl)) (fl.get _ (List.getElem_mem hjl)) (sl.get _ (List.getElem_mem hjl)))
      have HT := Lib.hid (show l.take (j + 1) = l.take j ++ [l[j]] from List.take_succ_eq_append_getElem hjl)
      generalize l[j] = y at *
      generalize cs[j] = cv at *
      clear hg
      go_wp2_with fail
      refine C.out.mono ?_
      rintro e w1 ⟨d0, d1, d2, d3, d4, d5, rfl, hrep, hb1⟩
      obtain ⟨k1, h1, t1, A1, n1, m1, A2, n2, m2, A3, n3, m3, rfl, rfl, rfl, rfl, rfl, rfl⟩ := hrep.shape
      go_upto_region 8 with (fail)
      obtain ⟨iT, hi, hz, hs, hby⟩ : ∃ i, Tryz.prog.info? 26 = some i ∧ i.zero = some (.agg #[.int .i64 0, .int .i64 0, .string ⟨#[]⟩, .slice none 0 0, .slice none 0 0, .slice none 0 0]) ∧ i.size = 6 ∧ i.bytes = 104 := ⟨Tryz.t26, by kernel_rfl, by kernel_rfl, by kernel_rfl, by kernel_rfl⟩
      obtain ⟨Av, cv', rfl⟩ := slice_of_own hown
      have hXA := heap_alloc_new w1 (.cells #[.int .i64 k1, .int .i64 h1, .string t1, .slice A1 n1 m1, .slice A2 n2 m2, .slice A3 n3 m3] 26)
      have hbA := hb1.alloc (by have := hb1.size; omega) (.cells #[.int .i64 k1, .int .i64 h1, .string t1, .slice A1 n1 m1, .slice A2 n2 m2, .slice A3 n3 m3] 26)
      have hszA : (w1.alloc (.cells #[.int .i64 k1, .int .i64 h1, .string t1, .slice A1 n1 m1, .slice A2 n2 m2, .slice A3 n3 m3] 26)).heap.size = w1.heap.size + 1 := by simp
      have hkA : ∀ k, k < w1.heap.size → (w1.alloc (.cells #[.int .i64 k1, .int .i64 h1, .string t1, .slice A1 n1 m1, .slice A2 n2 m2, .slice A3 n3 m3] 26)).heap[k]? = w1.heap[k]? := fun k hk => heap_alloc_old w1 _ hk
      have hlt1 := hb1.size
      generalize w1.alloc (.cells #[.int .i64 k1, .int .i64 h1, .string t1, .slice A1 n1 m1, .slice A2 n2 m2, .slice A3 n3 m3] 26) = wA at *
      have hownA := (ownsRow_keep hown (fun k hk => hbA.block k (hown.lt k hk).2)).alloc (.cells #[.int .i64 k1, .int .i64 h1, .string t1, .slice A1 n1 m1, .slice A2 n2 m2, .slice A3 n3 m3] 26)
      have hnew := heap_alloc_new wA (.cells #[.int .i64 k1, .int .i64 h1, .string t1, .slice A1 n1 m1, .slice A2 n2 m2, .slice A3 n3 m3] 26)
      have hB2 := (hbr.trans (hbA.mono (by omega))).alloc (by omega) (.cells #[.int .i64 k1, .int .i64 h1, .string t1, .slice A1 n1 m1, .slice A2 n2 m2, .slice A3 n3 m3] 26)
      have hO1 := kept_below hbA (by omega) hOr
      have hR1 := kept_below hbA (by omega) hRr
      obtain ⟨x0, x1, x2, x3, x4, x5⟩ := box6 hO1
      obtain ⟨f0, f1, f2, f3, f4, f5, _⟩ := frozen7 hO1
      obtain ⟨y0, y1, y2, y3, y4, y5⟩ := box6 hXA
      have C1 := Lib.hid (six_cells hnew)
      rw [hszA] at C1
      have C2 := Lib.hid (six_one k1 h1 t1 A1 A2 A3 n1 m1 n2 m2 n3 m3)
      have C3 := Lib.hid (show j + 1 ≤ maxLen by unfold maxLen; omega)
      have C4 := Lib.hid (show (j + 1) * 104 ≤ 140737488355328 by omega)
      have C5 := Lib.hid (show w.heap.size + 2 ≤ (wA.alloc (.cells #[.int .i64 k1, .int .i64 h1, .string t1, .slice A1 n1 m1, .slice A2 n2 m2, .slice A3 n3 m3] 26)).heap.size by simp; omega)
      have HREP := Lib.hid hrep
      clear hrep
      go_wp2_with (first | (at_builtin; refine wpList_append_own_at _ rfl _ _ 23 rfl (w.heap.size + 2) 26 iT _ 6 104 Tryz.underlying23 hi hz hs hby rfl (by decide) _ _ _ rfl hownA ⟨w1.heap.size + 1, 0, none⟩ 1 1 [.int .i64 k1, .int .i64 h1, .string t1, .slice A1 n1 m1, .slice A2 n2 m2, .slice A3 n3 m3] rfl rfl C1.out C2.out C3.out C4.out C5.out ?_; intro v'' w2 h2 h3 _ h5; obtain ⟨Av2, cv2, rfl⟩ := slice_of_own h2; have hO2 := blk_kept (k := w.heap.size + 1) (by rw [heap_alloc_old wA _ (by omega)]; exact hO1) h3 (by intro e; have := (hown.lt _ e.symm).1; omega); obtain ⟨z0, z1, z2, z3, z4, z5⟩ := box6 hO2; obtain ⟨g0, g1, g2, g3, g4, g5, _⟩ := frozen7 hO2) | go_in)
      have hszB : (wA.alloc (.cells #[.int .i64 k1, .int .i64 h1, .string t1, .slice A1 n1 m1, .slice A2 n2 m2, .slice A3 n3 m3] 26)).heap.size = w1.heap.size + 2 := by simp [hszA]
      have hs2 : w1.heap.size + 2 ≤ w2.heap.size := by have := h3.size; omega
      have hne : ∀ k, Value.ownBlock (.slice Av j cv') = some k → w.heap.size + 2 ≤ k ∧ k < wo.heap.size := hown.lt
      have hstay : ∀ k, k ≠ w.heap.size + 1 → (w2.setCell ⟨w.heap.size + 1, 3, none⟩ (.slice Av2 (j + 1) cv2)).heap[k]? = w2.heap[k]? := fun k hk => Below.heap_setCell w2 ⟨w.heap.size + 1, 3, none⟩ _ k hk
      have hkA2 : ∀ k, k < w1.heap.size + 1 → Value.ownBlock (.slice Av j cv') ≠ some k → w2.heap[k]? = wA.heap[k]? := fun k hk hk2 => (h3.block k (by omega) (fun e => hk2 e.symm)).trans (heap_alloc_old wA _ (by omega))
      have hsC : (w2.setCell ⟨w.heap.size + 1, 3, none⟩ (.slice Av2 (j + 1) cv2)).heap.size = w2.heap.size := by simp [World.setCell]
      refine ⟨⟨j + 1, .slice Av2 (j + 1) cv2, _, by omega, by simp, ?_, row_set3 hO2, ownsRow_keep h2 (fun k hk => hstay k (by have := (h2.lt k hk).1; omega)), HT.out ▸ flat_grown (wo := wo) (w1 := w1) hown hfl hszr (fun k hk hk2 hk3 => (hstay k (by omega)).trans ((hkA2 k (by omega) hk2).trans (hbA.block k hk))) HREP.out hlt1 (fun k hk hk2 => (hstay k (by omega)).trans ((hkA2 k (by omega) (fun e => by have := (hne k e).2; omega)).trans (hkA k hk2))) (by rw [hsC]; omega) ?_, below_set (hB2.trans (below_of_grown_opt h3 (fun b hb => by have := (hne b hb).1; omega) (by omega))) (by omega), by rw [hsC]; omega⟩, ?gn⟩
      case gn => show n - ((j : Int) + 1).toNat < n - (j : Int).toNat; omega
      · rw [hstay _ (by omega)]
        exact (hkA2 _ (by omega) (fun e => by have := (hne _ e).1; omega)).trans hR1
      · rcases h5 with h | h
        · exact .inl h
        · exact .inr ⟨_, h, by omega⟩
    · have hjn' : j = n := by omega
      subst hjn'
      rw [List.take_of_length_le (by have := HN.out; omega)] at hfl
      have HSL := Lib.hid (flat_slof (S := fun b => w.heap.size + 2 ≤ b ∧ b < wo.heap.size) hown hfl HN.out (by omega) (fun b h1 h2 => ⟨h1, h2⟩))
      obtain ⟨Av, cv', rfl⟩ := slice_of_own hown
      obtain ⟨x0, x1, x2, x3, x4, x5⟩ := box6 hOr
      obtain ⟨y0, y1, y2, y3, y4, y5⟩ := box6 hRr
      obtain ⟨f0, f1, f2, f3, f4, f5, _⟩ := frozen7 hRr
      clear hfl
      go_wp2_with fail
      refine bodyPost_ret (v := .tuple #[.agg #[.int .i64 5, .int .i64 0, .string ⟨#[]⟩, .slice Av j cv', .slice none 0 0, .slice none 0 0], .bool true]) (by simp [results, Tryz.results130, go_sem, *]) rfl ⟨_, rfl, ?_, below_set6 hbr (Nat.le_refl _) _ _ _ _ _ _⟩
      exact HSL.out.imp (JCellsS.mono (fun b hb => set6_block _ _ _ _ _ _ _ _ b (by omega)) (fun b hb => ⟨by omega, by rw [set6_size]; exact hb.2⟩) l)
end Go.Proofs.YtmjegeipnaalnaaGreatDoor

/- Two rows that a call owns and lets grow, one behind the other: what holds behind both. -/
namespace Go.Proofs.YtmjegeipnaalnaaGreatDoor
open Go.RowKit

/-- The blocks beside two rows, from a number on. -/
def Beside2 (N : Nat) (w : World) (u v : Value) (b : Nat) : Prop := N ≤ b ∧ b < w.heap.size ∧ u.ownBlock ≠ some b ∧ v.ownBlock ≠ some b
/-- Behind both appends. -/
def St2 (w1 w3 : World) (N n : Nat) (u v u2 v2 : Value) (xs ys : List Value) : Prop :=
  w3.ownsRow N 9 1 u2 n xs ∧ w3.ownsRow N 26 6 v2 n ys ∧ w1.heap.size ≤ w3.heap.size ∧ (w3.os = w1.os ∧ w3.tape = w1.tape ∧ w3.output = w1.output) ∧
  (∀ k, k < w1.heap.size → u.ownBlock ≠ some k → v.ownBlock ≠ some k → w3.heap[k]? = w1.heap[k]?) ∧
  (u2.ownBlock = u.ownBlock ∨ ∃ g, u2.ownBlock = some g ∧ w1.heap.size ≤ g) ∧ (v2.ownBlock = v.ownBlock ∨ ∃ g, v2.ownBlock = some g ∧ w1.heap.size ≤ g) ∧ (∀ g, u2.ownBlock = some g → v2.ownBlock ≠ some g)

/-- Ahead of the second append: the first row is longer, the second one as it was; what is to be appended lies in a block of its own. -/
def Mid (wA W2 : World) (N n j : Nat) (u v u2 : Value) (xs' ys : List Value) (bv : Nat) (cs : Array Value) : Prop :=
  ∃ g cap, u2 = .slice (some ⟨g, 0, none⟩) n cap ∧ W2.ownsRow N 9 1 u2 n xs' ∧ W2.ownsRow N 26 6 v j ys ∧ wA.heap.size ≤ W2.heap.size ∧ (W2.os = wA.os ∧ W2.tape = wA.tape ∧ W2.output = wA.output) ∧
    (∀ k, k < wA.heap.size → u.ownBlock ≠ some k → W2.heap[k]? = wA.heap[k]?) ∧ (u.ownBlock = some g ∨ wA.heap.size ≤ g) ∧ g < W2.heap.size ∧ v.ownBlock ≠ some g ∧ W2.heap[bv]? = some (.cells cs 26 (0, 0))
theorem mid_mk {wA W w2 W2 : World} {N j n g cap H bv : Nat} {u v : Value} {xs ys xs' : List Value} {cs : Array Value} (_hownK : wA.ownsRow N 9 1 u j xs) (hownV : wA.ownsRow N 26 6 v j ys) (hne : ∀ g, u.ownBlock = some g → v.ownBlock ≠ some g)
    (hb : Below wA.heap.size wA W) (gK : W.grownBy w2 u.ownBlock) (oK : w2.ownsRow N 9 1 (.slice (some ⟨g, 0, none⟩) n cap) n xs') (aK : u.ownBlock = some g ∨ g = H) (hH : wA.heap.size ≤ H) (lK : g < w2.heap.size)
    (hb2 : Below w2.heap.size w2 W2) (hbox : W2.heap[bv]? = some (.cells cs 26 (0, 0))) : Mid wA W2 N n j u v (.slice (some ⟨g, 0, none⟩) n cap) xs' ys bv cs := by
  have s1 := hb.size
  have s2 := gK.size
  have s3 := hb2.size
  have hk : ∀ k, k < wA.heap.size → u.ownBlock ≠ some k → W2.heap[k]? = wA.heap[k]? := fun k h1 h2 => by
    rw [hb2.block k (by omega), gK.block k (by omega) (fun e => h2 e.symm), hb.block k h1]
  refine ⟨g, cap, rfl, ownsRow_keep oK (fun k h => ?_), ownsRow_keep hownV (fun k h => hk k (hownV.lt k h).2 (fun e => hne k e h)), by omega, ⟨?_, ?_, ?_⟩, hk, ?_, by omega, fun e => ?_, hbox⟩
  · have e : g = k := by simpa [Value.ownBlock] using h
    subst e
    exact hb2.block g lK
  · rw [hb2.os, gK.os, hb.os]
  · rw [hb2.tape, gK.tape, hb.tape]
  · rw [hb2.output, gK.output, hb.output]
  · rcases aK with h | h
    · exact .inl h
    · exact .inr (by omega)
  · rcases aK with h | h
    · exact hne g h e
    · have := (hownV.lt g e).2; omega
theorem mid_box {W w2 : World} {u : Value} {k : Nat} {o : Obj} (gK : W.grownBy w2 u.ownBlock) (h : W.heap[k]? = some o) (hu : u.ownBlock ≠ some k) : w2.heap[k]? = some o := blk_kept h gK (fun e => hu e.symm)
theorem st2_mid {wA W2 w3 : World} {N j n g' cap' bv : Nat} {u v u2 : Value} {xs' ys ys' : List Value} {cs : Array Value} (hm : Mid wA W2 N n j u v u2 xs' ys bv cs)
    (gV : W2.grownBy w3 v.ownBlock) (oV : w3.ownsRow N 26 6 (.slice (some ⟨g', 0, none⟩) n cap') n ys') (aV : v.ownBlock = some g' ∨ g' = W2.heap.size) :
    St2 wA w3 N n u v u2 (.slice (some ⟨g', 0, none⟩) n cap') xs' ys' := by
  obtain ⟨g, cap, rfl, oK, hV, hs, ⟨e1, e2, e3⟩, hk, aK, lK, nv, _⟩ := hm
  have s4 := gV.size
  refine ⟨ownsRow_keep oK (fun k h => ?_), oV, by omega, ⟨gV.os.trans e1, gV.tape.trans e2, gV.output.trans e3⟩, fun k h1 h2 h3 => (gV.block k (by omega) (fun e => h3 e.symm)).trans (hk k h1 h2), ?_, ?_, fun z h1 h2 => ?_⟩
  · have e : g = k := by simpa [Value.ownBlock] using h
    subst e
    exact gV.block g lK (fun e => nv e.symm)
  · rcases aK with h | h
    · left; rw [h]; rfl
    · exact .inr ⟨g, rfl, h⟩
  · rcases aV with h | h
    · left; rw [h]; rfl
    · exact .inr ⟨g', rfl, by omega⟩
  · have f1 : g = z := by simpa [Value.ownBlock] using h1
    have f2 : g' = z := by simpa [Value.ownBlock] using h2
    rcases aV with h | h
    · exact nv (by rw [h, f2, f1])
    · omega
theorem flat_two {N j : Nat} {u v u2 v2 : Value} {xs ys : List Value} {l : List JV} {y : JV} {d0 d1 d2 d3 d4 d5 : Value} {wo w1 w4 : World}
    (hownU : wo.ownsRow N 9 1 u j xs) (hownV : wo.ownsRow N 26 6 v j ys) (hfl : JFlat wo (Beside2 N wo u v) l ys) (hN : N ≤ wo.heap.size)
    (hk1 : ∀ k, N ≤ k → k < wo.heap.size → u.ownBlock ≠ some k → v.ownBlock ≠ some k → w4.heap[k]? = wo.heap[k]?)
    (hrep : JRepS w1 (fun b => wo.heap.size ≤ b ∧ b < w1.heap.size) y [d0, d1, d2, d3, d4, d5]) (hk2 : ∀ k, wo.heap.size ≤ k → k < w1.heap.size → w4.heap[k]? = w1.heap[k]?) (h01 : wo.heap.size ≤ w1.heap.size) (h12 : w1.heap.size ≤ w4.heap.size)
    (hU : u2.ownBlock = u.ownBlock ∨ ∃ g, u2.ownBlock = some g ∧ w1.heap.size ≤ g) (hV : v2.ownBlock = v.ownBlock ∨ ∃ g, v2.ownBlock = some g ∧ w1.heap.size ≤ g) :
    JFlat w4 (Beside2 N w4 u2 v2) (l ++ [y]) (ys ++ [d0, d1, d2, d3, d4, d5]) := by
  refine JFlat.snoc (JRepS.mono (fun b hb => hk2 b hb.1 hb.2) (fun b hb => ⟨by omega, by omega, ?_, ?_⟩) y _ hrep) (JFlat.mono (fun b hb => hk1 b hb.1 hb.2.1 hb.2.2.1 hb.2.2.2) (fun b hb => ⟨hb.1, by have := hb.2.1; omega, ?_, ?_⟩) hfl)
  · intro e
    rcases hU with h | ⟨g, h, hg⟩
    · have := hownU.lt b (h ▸ e); omega
    · rw [h] at e; cases e; omega
  · intro e
    rcases hV with h | ⟨g, h, hg⟩
    · have := hownV.lt b (h ▸ e); omega
    · rw [h] at e; cases e; omega
  · intro e
    rcases hU with h | ⟨g, h, hg⟩
    · exact hb.2.2.1 (h ▸ e)
    · rw [h] at e; cases e; have := hb.2.1; omega
  · intro e
    rcases hV with h | ⟨g, h, hg⟩
    · exact hb.2.2.2 (h ▸ e)
    · rw [h] at e; cases e; have := hb.2.1; omega
theorem SCellsS_of {w : World} {S : Nat → Prop} {b : Nat} (hb : S b) : ∀ {ks : List ByteArray} {o : Nat}, (∀ k ∈ ks, k.size ≤ 140737488351232) → (∀ j u, (ks.map Value.string)[j]? = some u → w.cell? ⟨b, o + j, none⟩ = some u) → SCellsS w S ks b o
  | [], _, _, _ => by unfold SCellsS; trivial
  | k :: ks, o, hs, hc => by
    unfold SCellsS
    refine ⟨hb, hs k (by simp), hc 0 _ rfl, SCellsS_of hb (fun x hx => hs x (by simp [hx])) fun j u hj => ?_⟩
    rw [show o + 1 + j = o + (j + 1) by omega]
    exact hc (j + 1) u (by simpa using hj)
theorem keys_slof {N n : Nat} {u : Value} {ks : List ByteArray} {w : World} {S : Nat → Prop} (hown : w.ownsRow N 9 1 u n (ks.map Value.string)) (hl : ks.length = n) (hn : n * 16 ≤ 140737488351232) (hs : ∀ k ∈ ks, k.size ≤ 140737488351232)
    (hS : ∀ b, N ≤ b → b < w.heap.size → S b) : SlOf n 16 (SCellsS w S ks) u := by
  have hlt := hown.lt
  have hc := fun (g : Nat) => hown.cells (g := g)
  rcases hown.2 with ⟨rfl, h0⟩ | ⟨g, cap, cur, rfl, hbg, hg, hnc, hcm, hcs, htake⟩
  · have hn0 : n = 0 := by
      have : (ks.map Value.string).length = n * 1 := hown.1
      rw [h0] at this
      simp at this
      omega
    subst hn0
    exact ⟨none, 0, rfl, Nat.le_refl _, by omega, .inl rfl⟩
  · refine ⟨_, cap, rfl, hnc, hn, .inr ⟨g, 0, rfl, SCellsS_of (hS g hbg (hlt g rfl).2) hs fun j u hj => ?_⟩⟩
    have := hc g rfl j u hj
    rwa [show (⟨g, 0, none⟩ : Addr).add j = ⟨g, 0 + j, none⟩ by unfold Addr.add; split <;> simp_all] at this
theorem flat2_slof {N n : Nat} {u v : Value} {xs : List Value} {l : List JV} {w : World} {S : Nat → Prop} (hown : w.ownsRow N 26 6 v n xs) (hfl : JFlat w (Beside2 N w u v) l xs) (hl : l.length = n) (hn : n * 104 ≤ 140737488351232)
    (hS : ∀ b, N ≤ b → b < w.heap.size → S b) : SlOf n 104 (JCellsS w S l) v :=
  flat_slof hown (hfl.mono (S' := Beside N w v) (fun _ _ => rfl) (fun _b hb => ⟨hb.1, hb.2.1, hb.2.2.2⟩)) hl hn hS
end Go.Proofs.YtmjegeipnaalnaaGreatDoor

/- A region that draws its order: loads are taken first under a condition that holds till a certain operation, a store, has come up. -/
namespace Go.Proofs.YtmjegeipnaalnaaGreatDoor
section
variable {P : Program} {ops : Array Oper} {Q : Exit → Act → World → Prop} {md : Region.Mode} {S : World → Prop} {T : Bool → World → Prop} {t : Nat}

/-- Whatever order is picked from here on, and T holds behind every operation that is carried out: it may hang on whether number t has come up. -/
def wpAnyU (P : Program) (md : Region.Mode) (ops : Array Oper) (Q : Exit → Act → World → Prop) (T : Bool → World → Prop) (t : Nat) : Nat → Array Bool → Act → World → Prop
  | 0, listed, a, w => Region.ready md ops listed = [] ∧ Q .normal a w
  | fuel + 1, listed, a, w =>
    (Region.ready md ops listed = [] → Q .normal a w) ∧
    ∀ i ∈ Region.ready md ops listed, wpOp P ops Q i (fun a' w' => T ((listed.setIfInBounds i true).getD t false) w' ∧ wpAnyU P md ops Q T t fuel (listed.setIfInBounds i true) a' w') a w

theorem wpAny_of_U : ∀ (fuel : Nat) (listed : Array Bool) (a : Act) (w : World), wpAnyU P md ops Q T t fuel listed a w → wpAny P md ops Q fuel listed a w
  | 0, _, _, _, h => h
  | fuel + 1, _, _, _, h => ⟨h.1, fun i hi => wpOp_mono (fun a' w' h' => wpAny_of_U fuel _ a' w' h'.2) (h.2 i hi)⟩

theorem wpAnyU_first {i : Nat} {oi : Oper} {v : Value} (hi : ops[i]? = some oi) (hsel : ∀ (j : Nat) (o : Oper) cs b, ops[j]? = some o → o.op ≠ .select cs b)
    (hQ : ∀ c a w, Q (.panic c) (a.put oi.dst v) w → Q (.panic c) a w) (ht : ∃ ot, ops[t]? = some ot ∧ ∃ e ∈ ot.after, Region.binds md e = true ∧ e.on = i) :
    ∀ (fuel : Nat) (listed : Array Bool) (a : Act) (w : World), listed.getD t false = false →
      (∀ j oj, ops[j]? = some oj → j ≠ i → listed.getD j true = false → (∀ e ∈ oj.after, Region.binds md e = true → e.on ≠ i) → oi.apart ops oj = true) →
      i ∈ Region.ready md ops listed → YieldsIf P ops (T false) oi v a → T false w →
      wpAnyU P md ops Q T t fuel (listed.setIfInBounds i true) (a.put oi.dst v) w → wpAnyU P md ops Q T t (fuel + 1) listed a w := by
  intro fuel
  have hti : ∀ (listed : Array Bool), i ∈ Region.ready md ops listed → t ∉ Region.ready md ops listed := fun listed hr htr => by
    obtain ⟨ot, hot, e, he, hb, heq⟩ := ht
    obtain ⟨_, o2, ho2, hall⟩ := mem_ready.1 htr
    rw [hot] at ho2
    obtain rfl : ot = o2 := by simpa using ho2
    have h1 := hall e he hb
    have h0 := (mem_ready.1 hr).1
    rw [heq] at h1
    rcases Nat.lt_or_ge i listed.size with h' | h'
    · simp [h'] at h0 h1; rw [h0] at h1; cases h1
    · simp [Array.getElem?_eq_none h'] at h1
  induction fuel with
  | zero =>
    intro listed a w htl _ hr hy hS H
    refine ⟨fun h => (by rw [h] at hr; cases hr), fun j hj => ?_⟩
    by_cases hji : j = i
    · have hit : i ≠ t := fun e => hti listed hr (by rw [← e]; exact hr)
      subst hji; exact hy.wpOp hi hS ⟨by rw [getD_set_ne false hit, htl]; exact hS, H⟩
    · have := ready_mono hj hji
      rw [H.1] at this
      cases this
  | succ fuel ih =>
    intro listed a w htl hfree hr hy hS H
    refine ⟨fun h => (by rw [h] at hr; cases hr), fun j hj => ?_⟩
    by_cases hji : j = i
    · have hit : i ≠ t := fun e => hti listed hr (by rw [← e]; exact hr)
      subst hji; exact hy.wpOp hi hS ⟨by rw [getD_set_ne false hit, htl]; exact hS, H⟩
    · have h1 := H.2 j (ready_mono hj hji)
      obtain ⟨hjun, oj, hoj, hall⟩ := mem_ready.1 hj
      have hnot : ∀ e ∈ oj.after, Region.binds md e = true → e.on ≠ i := fun e he hb heq => by
        have h1 := hall e he hb
        have h0 := (mem_ready.1 hr).1
        rw [heq] at h1
        rcases Nat.lt_or_ge i listed.size with h' | h'
        · simp [h'] at h0 h1; rw [h0] at h1; cases h1
        · simp [Array.getElem?_eq_none h'] at h1
      have hjt : j ≠ t := fun e => hti listed hr (e ▸ hj)
      have hit : i ≠ t := fun e => hti listed hr (e ▸ hr)
      have h2 := wpOp_putIf hoj (hfree j oj hoj hji hjun hnot) (fun cs b => hsel i oi cs b hi) (fun cs b => hsel j oj cs b hoj) hQ hy h1
      have hfree' : ∀ k ok, ops[k]? = some ok → k ≠ i → (listed.setIfInBounds j true).getD k true = false →
          (∀ e ∈ ok.after, Region.binds md e = true → e.on ≠ i) → oi.apart ops ok = true := fun k ok hk hki hun hno => by
        refine hfree k ok hk hki ?_ hno
        by_cases hjk : j = k
        · subst hjk; exact hjun
        · rw [getD_set_ne true hjk] at hun; exact hun
      have htj : (listed.setIfInBounds j true).getD t false = false := by rw [getD_set_ne false hjt]; exact htl
      have htij : ((listed.setIfInBounds i true).setIfInBounds j true).getD t false = false := by rw [getD_set_ne false hjt, getD_set_ne false hit]; exact htl
      refine wpOp_mono (fun a' w' h3 => ⟨by rw [htj]; exact htij ▸ h3.2.1, ih (listed.setIfInBounds j true) a' w' htj hfree' (ready_mono hr (Ne.symm hji)) h3.1 (htij ▸ h3.2.1) ?_⟩) h2
      rw [Array.setIfInBounds_comm _ _ hji]
      exact h3.2.2

theorem wpAnyU_first2 {i : Nat} {oi : Oper} {v : Value} (hi : ops[i]? = some oi) (hsel : ∀ (j : Nat) (o : Oper) cs b, ops[j]? = some o → o.op ≠ .select cs b)
    (hQ : ∀ c a w, Q (.panic c) (a.put oi.dst v) w → Q (.panic c) a w) (hit : i ≠ t) (hT : ∀ b w, T b w → S w) :
    ∀ (fuel : Nat) (listed : Array Bool) (a : Act) (w : World), (∀ j oj, ops[j]? = some oj → j ≠ i → listed.getD j true = false → (∀ e ∈ oj.after, Region.binds md e = true → e.on ≠ i) → oi.apart ops oj = true) →
      i ∈ Region.ready md ops listed → YieldsIf P ops S oi v a → T (listed.getD t false) w →
      wpAnyU P md ops Q T t fuel (listed.setIfInBounds i true) (a.put oi.dst v) w → wpAnyU P md ops Q T t (fuel + 1) listed a w := by
  intro fuel
  induction fuel with
  | zero =>
    intro listed a w _ hr hy hS H
    refine ⟨fun h => (by rw [h] at hr; cases hr), fun j hj => ?_⟩
    by_cases hji : j = i
    · subst hji; exact hy.wpOp hi (hT _ _ hS) ⟨by rw [getD_set_ne false hit]; exact hS, H⟩
    · have := ready_mono hj hji
      rw [H.1] at this
      cases this
  | succ fuel ih =>
    intro listed a w hfree hr hy hS H
    refine ⟨fun h => (by rw [h] at hr; cases hr), fun j hj => ?_⟩
    by_cases hji : j = i
    · subst hji; exact hy.wpOp hi (hT _ _ hS) ⟨by rw [getD_set_ne false hit]; exact hS, H⟩
    · have h1 := H.2 j (ready_mono hj hji)
      obtain ⟨hjun, oj, hoj, hall⟩ := mem_ready.1 hj
      have hnot : ∀ e ∈ oj.after, Region.binds md e = true → e.on ≠ i := fun e he hb heq => by
        have h1 := hall e he hb
        have h0 := (mem_ready.1 hr).1
        rw [heq] at h1
        rcases Nat.lt_or_ge i listed.size with h' | h'
        · simp [h'] at h0 h1; rw [h0] at h1; cases h1
        · simp [Array.getElem?_eq_none h'] at h1
      have h2 := wpOp_putIf hoj (hfree j oj hoj hji hjun hnot) (fun cs b => hsel i oi cs b hi) (fun cs b => hsel j oj cs b hoj) hQ hy h1
      have hfree' : ∀ k ok, ops[k]? = some ok → k ≠ i → (listed.setIfInBounds j true).getD k true = false →
          (∀ e ∈ ok.after, Region.binds md e = true → e.on ≠ i) → oi.apart ops ok = true := fun k ok hk hki hun hno => by
        refine hfree k ok hk hki ?_ hno
        by_cases hjk : j = k
        · subst hjk; exact hjun
        · rw [getD_set_ne true hjk] at hun; exact hun
      have hcm : ((listed.setIfInBounds i true).setIfInBounds j true).getD t false = (listed.setIfInBounds j true).getD t false := by rw [Array.setIfInBounds_comm _ _ (Ne.symm hji), getD_set_ne false hit]
      refine wpOp_mono (fun a' w' h3 => ⟨hcm ▸ h3.2.1, ih (listed.setIfInBounds j true) a' w' hfree' (ready_mono hr (Ne.symm hji)) h3.1 (hcm ▸ h3.2.1) ?_⟩) h2
      rw [Array.setIfInBounds_comm _ _ hji]
      exact h3.2.2

/-- Take number i first; number t waits for it. -/
theorem wpAnyU_take {i : Nat} {oi : Oper} {v : Value} {fuel : Nat} {listed : Array Bool} {a : Act} {w : World} (hi : ops[i]? = some oi)
    (hs : Region.noSelect ops = true) (hf : Region.free md ops listed i = true) (hr : (Region.ready md ops listed).contains i = true)
    (ht : ((ops[t]?).any fun o => o.after.any fun e => Region.binds md e && e.on == i) = true) (htl : listed.getD t false = false)
    (hQ : ∀ c a w, Q (.panic c) (a.put oi.dst v) w → Q (.panic c) a w) (hw : Region.wanted oi (yielded ops a.tmps) = true) (hS : T false w) (hy : ∀ w, T false w → (execOp a.eval oi).run P w = .ok (.value v) w)
    (h : wpAnyU P md ops Q T t fuel (listed.setIfInBounds i true) (a.put oi.dst v) w) : wpAnyU P md ops Q T t (fuel + 1) listed a w := by
  refine wpAnyU_first hi (Region.noSelect_spec hs) hQ ?_ fuel listed a w htl (Region.free_spec hi hf) (by simpa using hr) (Or.inl ⟨hw, hy⟩) hS h
  cases hot : ops[t]? with
  | none => rw [hot] at ht; cases ht
  | some ot =>
    rw [hot] at ht
    have ht' : (ot.after.any fun e => Region.binds md e && e.on == i) = true := ht
    obtain ⟨e, he, h2⟩ := Array.any_eq_true'.1 ht'
    simp only [Bool.and_eq_true, beq_iff_eq] at h2
    exact ⟨ot, rfl, e, he, h2.1, h2.2⟩
/-- Take number i first, whose value hangs on what holds all along. -/
theorem wpAnyU_take2 (S : World → Prop) {i : Nat} {oi : Oper} {v : Value} {fuel : Nat} {listed : Array Bool} {a : Act} {w : World} (hi : ops[i]? = some oi)
    (hs : Region.noSelect ops = true) (hf : Region.free md ops listed i = true) (hr : (Region.ready md ops listed).contains i = true)
    (hit : i ≠ t) (hT : ∀ b w, T b w → S w) (hQ : ∀ c a w, Q (.panic c) (a.put oi.dst v) w → Q (.panic c) a w) (hw : Region.wanted oi (yielded ops a.tmps) = true) (hS : T (listed.getD t false) w) (hy : ∀ w, S w → (execOp a.eval oi).run P w = .ok (.value v) w)
    (h : wpAnyU P md ops Q T t fuel (listed.setIfInBounds i true) (a.put oi.dst v) w) : wpAnyU P md ops Q T t (fuel + 1) listed a w :=
  wpAnyU_first2 hi (Region.noSelect_spec hs) hQ hit hT fuel listed a w (Region.free_spec hi hf) (by simpa using hr) (Or.inl ⟨hw, hy⟩) hS h
theorem wpAnyU_done {listed : Array Bool} {a : Act} {w : World} (hr : Region.ready md ops listed = []) (h : Q .normal a w) :
    ∀ fuel, wpAnyU P md ops Q T t fuel listed a w
  | 0 => ⟨hr, h⟩
  | _ + 1 => ⟨fun _ => h, by rw [hr]; simp⟩
theorem wp_region_U {id : Nat} {a : Act} {w : World} (T : Bool → World → Prop) (t : Nat) (hm : P.follows .mixedOrders = true)
    (h : wpAnyU P .any ops Q T t ops.size (Array.replicate ops.size false) a w.drew) : (Code.region id ops true).wp P Q a w :=
  wp_region_any hm (wpAny_of_U _ _ _ _ h)
/-- Each of some operations comes up next. -/
def AllReadyU (P : Program) (md : Region.Mode) (ops : Array Oper) (Q : Exit → Act → World → Prop) (T : Bool → World → Prop) (t fuel : Nat) (listed : Array Bool) (a : Act) (w : World) (rs : List Nat) : Prop :=
  ∀ i ∈ rs, wpOp P ops Q i (fun a' w' => T ((listed.setIfInBounds i true).getD t false) w' ∧ wpAnyU P md ops Q T t fuel (listed.setIfInBounds i true) a' w') a w
theorem AllReadyU.nil {fuel : Nat} {listed : Array Bool} {a : Act} {w : World} : AllReadyU P md ops Q T t fuel listed a w [] := fun _ h => by cases h
theorem AllReadyU.cons {fuel : Nat} {listed : Array Bool} {a : Act} {w : World} {i : Nat} {o : Oper} {rs : List Nat} (ho : ops[i]? = some o)
    (h : ∀ K' : Act → World → Prop, Shut (∀ a w, T ((listed.setIfInBounds i true).getD t false) w → wpAnyU P md ops Q T t fuel (listed.setIfInBounds i true) a w → K' a w) → if Region.wanted o (yielded ops a.tmps) = true then Oper.wp P o a w K' Q else K' (a.put o.dst undef) w)
    (hs : AllReadyU P md ops Q T t fuel listed a w rs) : AllReadyU P md ops Q T t fuel listed a w (i :: rs) := fun j hj => by
  rcases List.mem_cons.1 hj with rfl | hj
  · exact wpOp_step ho (fun K' hK => h K' (fun a w hS hW => hK a w ⟨hS, hW⟩))
  · exact hs j hj
theorem wpAnyU_ready {rs : List Nat} {fuel : Nat} {listed : Array Bool} {a : Act} {w : World} (hr : Region.ready md ops listed = rs) (hne : rs ≠ [])
    (h : AllReadyU P md ops Q T t fuel listed a w rs) : wpAnyU P md ops Q T t (fuel + 1) listed a w := ⟨fun h0 => absurd (hr ▸ h0) hne, hr ▸ h⟩
end
end Go.Proofs.YtmjegeipnaalnaaGreatDoor
