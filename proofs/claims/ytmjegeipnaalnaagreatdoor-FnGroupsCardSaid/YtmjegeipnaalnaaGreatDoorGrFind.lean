/- Looking for one text in another: the specification's own search and the program's search answer alike. What the specification's containment computes, on our trees. Where a key stands among a map's keys: the walk of the specification's look-up. What a right value looks like, from top to bottom; the order of its keys; where a key stands. -/
import Derived.Test.YtmjegeipnaalnaaGreatDoorProg
import Derived.Lib.Hide
import Derived.WalkKit
import Derived.Test.YtmjegeipnaalnaaGreatDoorGrRep
import Derived.StillTailTactics
import Derived.Deep.CutBlock
import Derived.Deep.LoopGhost

/- Looking for one text in another: the specification's own search and the program's search answer alike. -/
namespace Go.Proofs.YtmjegeipnaalnaaGreatDoor
open Go.RowKit

/-- The part lies in the text at this place. -/
def hit (s p : ByteArray) (i : Nat) : Bool := (s.extract i (i + p.size)).toList == p.toList
/-- The first place where the part lies, or minus one. -/
def findB (s p : ByteArray) : Int := match (List.range (s.size + 1 - p.size)).find? (fun i => hit s p i) with
  | some i => i
  | none => -1

theorem findB_at {s p : ByteArray} {i : Nat} (hi : i < s.size + 1 - p.size) (h : hit s p i = true) (hl : ∀ j, j < i → hit s p j = false) : findB s p = i := by
  unfold findB
  have : (List.range (s.size + 1 - p.size)).find? (fun i => hit s p i) = some i := by
    rw [List.find?_range_eq_some]
    exact ⟨h, by simpa using hi, fun j hj => by simp [hl j hj]⟩
  rw [this]
theorem findB_none {s p : ByteArray} (hl : ∀ j, j < s.size + 1 - p.size → hit s p j = false) : findB s p = -1 := by
  unfold findB
  have : (List.range (s.size + 1 - p.size)).find? (fun i => hit s p i) = none := by
    rw [List.find?_eq_none]
    intro x hx
    simp [hl x (by simpa using hx)]
  rw [this]

set_option maxRecDepth 100000 in
theorem zzIndex_walk (s p : ByteArray) (w : World) (hs : s.size ≤ 140737488351232) (hp : p.size ≤ 140737488351232) :
    Calls Tryz.prog 201 #[.string s, .string p] w fun e w' => e = .returned (.int .i64 (findB s p)) ∧ w' = w := by
  go_enter Tryz.func201, Tryz.ntmps201
  go_wp2_with fail
  go_loopw [5] (fun i wr => ∃ j : Nat, j ≤ s.size + 1 ∧ i = .int .i64 j ∧ (∀ k, k < j → k < s.size + 1 - p.size → hit s p k = false) ∧ wr = w) (fun i _ => s.size + 1 - (intOf i).toNat)
  case atStart => exact ⟨0, by omega, rfl, by simp, rfl⟩
  case round =>
    obtain ⟨j, hj, rfl, hno, rfl⟩ := hrel
    by_cases hjl : j + p.size ≤ s.size
    · have f1 : (0 : Int) ≤ (j : Int) := by omega
      have f2 : (j : Int) ≤ (j : Int) + (p.size : Int) := by omega
      have f3 : (j : Int) + (p.size : Int) ≤ (s.size : Int) := by omega
      by_cases hh : hit s p j = true
      · have hh' : ((s.extract j (j + p.size)).toList == p.toList) = true := hh
        go_wp2_with fail
        go_ret
        rw [findB_at (by omega) hh fun k hk => hno k hk (by omega)]
        exact ⟨rfl, rfl⟩
      · have hh' : ((s.extract j (j + p.size)).toList == p.toList) = false := by simpa [hit] using hh
        go_wp2_with fail
        refine ⟨⟨j + 1, by omega, by go_num, fun k hk hk2 => ?_, trivial⟩, by simp [intOf]; omega⟩
        by_cases e : k = j
        · subst e; simpa using hh
        · exact hno k (by omega) hk2
    · go_wp2_with fail
      go_ret
      rw [findB_none fun k hk => hno k (show k < j by omega) hk]
      exact ⟨rfl, rfl⟩
set_option maxRecDepth 100000 in
theorem find_walk (s p : ByteArray) (w : World) (hs : s.size ≤ 140737488351232) (hp : p.size ≤ 140737488351232) :
    Calls Tryz.prog 117 #[.string s, .string p, .int .i64 0] w fun e w' => e = .returned (.int .i64 (findB s p)) ∧ w' = w := by
  go_enter Tryz.func117, Tryz.ntmps117
  go_wp2_with fail
  go_loopw [7] (fun i wr => ∃ j : Nat, j ≤ s.size + 1 ∧ i = .int .i64 j ∧ (∀ k, k < j → k < s.size + 1 - p.size → hit s p k = false) ∧ wr = w) (fun i _ => s.size + 1 - (intOf i).toNat)
  case atStart => exact ⟨0, by omega, rfl, by simp, rfl⟩
  case round =>
    obtain ⟨j, hj, rfl, hno, rfl⟩ := hrel
    by_cases hjl : j + p.size ≤ s.size
    · have f1 : (0 : Int) ≤ (j : Int) := by omega
      have f2 : (j : Int) ≤ (j : Int) + (p.size : Int) := by omega
      have f3 : (j : Int) + (p.size : Int) ≤ (s.size : Int) := by omega
      by_cases hh : hit s p j = true
      · have hh' : ((s.extract j (j + p.size)).toList == p.toList) = true := hh
        go_wp2_with fail
        go_ret
        rw [findB_at (by omega) hh fun k hk => hno k hk (by omega)]
        exact ⟨rfl, rfl⟩
      · have hh' : ((s.extract j (j + p.size)).toList == p.toList) = false := by simpa [hit] using hh
        go_wp2_with fail
        refine ⟨⟨j + 1, by omega, by go_num, fun k hk hk2 => ?_, trivial⟩, by simp [intOf]; omega⟩
        by_cases e : k = j
        · subst e; simpa using hh
        · exact hno k (by omega) hk2
    · go_wp2_with fail
      go_ret
      rw [findB_none fun k hk => hno k (show k < j by omega) hk]
      exact ⟨rfl, rfl⟩

theorem zzContains_walk (s p : ByteArray) (w : World) (hs : s.size ≤ 140737488351232) (hp : p.size ≤ 140737488351232) :
    Calls Tryz.prog 138 #[.string s, .string p] w fun e w' => e = .returned (.bool (decide (findB s p ≥ 0))) ∧ w' = w := by
  go_enter Tryz.func138, Tryz.ntmps138
  go_wp2_with (go_at_call 201; refine (zzIndex_walk s p _ hs hp).mono ?_; rintro e w1 ⟨rfl, rfl⟩)
  go_ret
  exact ⟨rfl, rfl⟩
end Go.Proofs.YtmjegeipnaalnaaGreatDoor

/- What the specification's containment computes, on our trees. -/
namespace Go.Proofs.YtmjegeipnaalnaaGreatDoor

/-- The value beside a key, if the key is there. -/
def getV : List ByteArray → List JV → ByteArray → Option JV
  | k :: ks, v :: vs, x => if k.toList == x.toList then some v else getV ks vs x
  | _, _, _ => none

mutual
/-- a holds b. The second tree is the one that is gone down. -/
def holdsV : JV → JV → Bool
  | .mk k h t l ks vs, .mk k' h' t' l' ks' vs' =>
    if k ≠ k' then false
    else if k = 4 then decide (0 ≤ findB t t')
    else if k = 5 then holdsL l l'
    else if k = 6 then holdsM ks vs ks' vs'
    else h == h'
/-- Every element of the second list is held by one of the first. -/
def holdsL (l : List JV) : List JV → Bool
  | [] => true
  | y :: r => l.any (fun x => holdsV x y) && holdsL l r
/-- Every entry of the second map is held by the first map's entry of that key. -/
def holdsM (ks : List ByteArray) (vs : List JV) : List ByteArray → List JV → Bool
  | k :: r, y :: s => (match getV ks vs k with | some x => holdsV x y | none => false) && holdsM ks vs r s
  | _, _ => true
end
end Go.Proofs.YtmjegeipnaalnaaGreatDoor

/- Where a key stands among a map's keys: the walk of the specification's look-up. -/
namespace Go.Proofs.YtmjegeipnaalnaaGreatDoor
open Go.RowKit

/-- How many of the first keys lie below this one. -/
def placeN : List ByteArray → ByteArray → Nat
  | [], _ => 0
  | k :: r, x => if keyLt k x then placeN r x + 1 else 0
/-- The key stands at its place. -/
def isAt (ks : List ByteArray) (x : ByteArray) : Bool := match ks[placeN ks x]? with
  | some k => k.toList == x.toList
  | none => false
theorem placeN_le (x : ByteArray) : ∀ ks : List ByteArray, placeN ks x ≤ ks.length
  | [] => Nat.le_refl _
  | k :: r => by unfold placeN; split; · simpa using placeN_le x r
                 · simp
theorem placeN_below (x : ByteArray) : ∀ (ks : List ByteArray) (j : Nat) (_h : j < placeN ks x) (h2 : j < ks.length), keyLt ks[j] x = true
  | [], _, h, _ => by simp [placeN] at h
  | k :: r, 0, h, _ => by unfold placeN at h; split at h <;> simp_all
  | k :: r, j + 1, h, h2 => by
    unfold placeN at h
    split at h
    · simpa using placeN_below x r j (by omega) (by simpa using h2)
    · omega
theorem placeN_at (x : ByteArray) : ∀ (ks : List ByteArray) (_h : placeN ks x < ks.length), keyLt ks[placeN ks x] x = false
  | [], h => by simp at h
  | k :: r, h => by
    unfold placeN at h ⊢
    split
    · rename_i hk
      simp only [hk, if_true] at h
      simpa using placeN_at x r (by simpa using h)
    · rename_i hk
      simpa using hk

theorem place_step {x : ByteArray} {ks : List ByteArray} {j : Nat} (hj : j ≤ placeN ks x) (hl : j < ks.length) (h : keyLt ks[j] x = true) : j + 1 ≤ placeN ks x := by
  rcases Nat.lt_or_ge j (placeN ks x) with h1 | h1
  · exact h1
  · have e : j = placeN ks x := by omega
    subst e
    rw [placeN_at x ks hl] at h
    cases h
theorem place_stop {x : ByteArray} {ks : List ByteArray} {j : Nat} (hj : j ≤ placeN ks x) (hl : j < ks.length) (h : keyLt ks[j] x = false) : placeN ks x = j := by
  rcases Nat.lt_or_ge j (placeN ks x) with h1 | h1
  · rw [placeN_below x ks j h1 hl] at h; cases h
  · omega
set_option maxRecDepth 100000 in
set_option maxHeartbeats 2000000 in
theorem place_walk (ks : List ByteArray) (x : ByteArray) (c0 c1 c2 c3 c5 : Value) (A : Option Addr) (n m : Nat) (w : World) (hn : n = ks.length) (hm : n ≤ 9000000000000)
    (hS : n = 0 ∨ ∃ b o, A = some ⟨b, o, none⟩ ∧ SCells w w.heap.size ks b o) :
    Calls Tryz.prog 187 #[.agg #[c0, c1, c2, c3, .slice A n m, c5], .string x] w fun e w' => e = .returned (.tuple #[.int .i64 (placeN ks x), .bool (isAt ks x)]) ∧ Below w.heap.size w w' := by
  have HN := Lib.hid hn
  clear hn
  go_enter Tryz.func187, Tryz.ntmps187
  have hX := heap_alloc_new w (.cells #[c0, c1, c2, c3, .slice A n m, c5] 26)
  have hB := (Below.refl w.heap.size w).alloc (Nat.le_refl _) (.cells #[c0, c1, c2, c3, .slice A n m, c5] 26)
  obtain ⟨x0, x1, x2, x3, x4, x5⟩ := box6 hX
  go_upto_block 0 with (fail)
  go_cut [6] (fun i wx => i = .int .i64 (placeN ks x) ∧ wx = w.alloc (.cells #[c0, c1, c2, c3, .slice A n m, c5] 26))
  case first =>
    go_wp2_with fail
    go_loopw [6] (fun i wr => ∃ j : Nat, j ≤ placeN ks x ∧ i = .int .i64 j ∧ wr = w.alloc (.cells #[c0, c1, c2, c3, .slice A n m, c5] 26)) (fun i _ => ks.length - (intOf i).toNat)
    case atStart => exact ⟨0, Nat.zero_le _, rfl, rfl⟩
    case round =>
      obtain ⟨j, hj, rfl, rfl⟩ := hrel
      by_cases hjn : j < n
      · have hjl : j < ks.length := by rw [← HN.out]; exact hjn
        obtain ⟨b1, o1, rfl, hJ⟩ : ∃ b o, A = some ⟨b, o, none⟩ ∧ SCells w w.heap.size ks b o := by
          rcases hS with h0 | h0
          · omega
          · exact h0
        obtain ⟨hb1, hz, hc⟩ := SCells.get ks b1 o1 (SCells.below hB (Nat.le_refl _) ks b1 o1 hJ) j hjl
        cases hk : keyLt ks[j] x with
        | true =>
          have hk' : Op.bytesLess ks[j].toList x.toList = true := hk
          go_wp2_with fail
          exact ⟨⟨j + 1, place_step hj hjl hk, by go_num, trivial⟩, by simp [intOf]; omega⟩
        | false =>
          have hk' : Op.bytesLess ks[j].toList x.toList = false := hk
          go_wp2_with fail
          go_meet
          exact ⟨by rw [place_stop hj hjl hk], rfl⟩
      · go_wp2_with fail
        go_meet
        exact ⟨by have := placeN_le x ks; rw [show placeN ks x = j by have := HN.out; omega], rfl⟩
  case rest =>
    obtain ⟨rfl, rfl⟩ := hcut
    generalize hi : placeN ks x = i
    have HI := Lib.hid hi
    clear hi
    by_cases hin : i < n
    · have hjl : i < ks.length := by rw [← HN.out]; exact hin
      obtain ⟨b1, o1, rfl, hJ⟩ : ∃ b o, A = some ⟨b, o, none⟩ ∧ SCells w w.heap.size ks b o := by
        rcases hS with h0 | h0
        · omega
        · exact h0
      obtain ⟨hb1, hz, hc⟩ := SCells.get ks b1 o1 (SCells.below hB (Nat.le_refl _) ks b1 o1 hJ) i hjl
      have he : isAt ks x = (ks[i].toList == x.toList) := by
        unfold isAt; rw [HI.out, List.getElem?_eq_getElem hjl]
      have HE := Lib.hid he
      clear he
      go_wp2_with fail
      refine wp_region_quiet_tail 16 (by kernel_rfl) (by kernel_rfl) ?_
      simp only [List.take_succ_cons, List.take_zero, List.drop_succ_cons, List.drop_zero]
      repeat (go_big_quiet_step (fail))
      refine wpQuiet_nil ?_
      go_wp2_with fail
      go_ret2
      rw [HE.out, HI.out]
      exact ⟨rfl, hB.drew⟩
    · have he : isAt ks x = false := by
        unfold isAt; rw [HI.out, List.getElem?_eq_none (by rw [← HN.out]; omega)]
      have HE := Lib.hid he
      clear he
      go_wp2_with fail
      refine wp_region_quiet_tail 16 (by kernel_rfl) (by kernel_rfl) ?_
      simp only [List.take_succ_cons, List.take_zero, List.drop_succ_cons, List.drop_zero]
      repeat (go_big_quiet_step (fail))
      refine wpQuiet_nil ?_
      go_wp2_with fail
      go_ret2
      rw [HE.out, HI.out]
      exact ⟨rfl, hB.drew⟩
end Go.Proofs.YtmjegeipnaalnaaGreatDoor

/- What a right value looks like, from top to bottom; the order of its keys; where a key stands. -/
namespace Go.Proofs.YtmjegeipnaalnaaGreatDoor

/-- Keys that rise, behind a first one. -/
def Rising : Option ByteArray → List ByteArray → Prop
  | _, [] => True
  | p, k :: r => prevOk p k = true ∧ Rising (some k) r
mutual
/-- A right value: so are its parts. -/
def Good : JV → Prop
  | .mk k h t l ks vs => (JV.mk k h t l ks vs).headOk = true ∧ (JV.mk k h t l ks vs).halfOk = true ∧ Rising none ks ∧ GoodL l ∧ GoodL vs
def GoodL : List JV → Prop
  | [] => True
  | x :: r => Good x ∧ GoodL r
end

theorem not_bad {x y : Bool} (h : x = true → y = true) (hy : y = false) : x = false := by cases x <;> simp_all
theorem str_ok {V : ByteArray → Bool} {s : Lk} {t : ByteArray} (h : (s.str V t).bad = false) : s.bad = false := by
  simp [Lk.str] at h; exact h.1
theorem want_ok {s : Lk} {b : Bool} (h : (s.want b).bad = false) : s.bad = false ∧ b = true := by
  simp [Lk.want] at h; exact h
theorem Lk.entries_sticky (V : ByteArray → Bool) (d : Int) (vs : List JV) (ks : List ByteArray) (p : Option ByteArray) (s : Lk) (h : s.bad = true) : (Lk.entries V d vs ks p s).bad = true := by rw [Lk.entries_bad V d vs ks p s h]; exact h
theorem headOk_len {k h : Int} {t : ByteArray} {l vs : List JV} {ks : List ByteArray} (hh : (JV.mk k h t l ks vs).headOk = true) : ks.length = vs.length := by
  simp [JV.headOk] at hh; omega

mutual
theorem good_value (V : ByteArray → Bool) (d : Int) : ∀ (v : JV) (s : Lk), (Lk.value V d v s).bad = false → Good v
  | .mk k h t l ks vs, s, hb => by
    by_cases hp : (s.part d).bad = true
    · simp [Lk.value, hp] at hb
    · have hp' : (s.part d).bad = false := by simpa using hp
      simp only [Lk.value, hp', Bool.false_eq_true, if_false] at hb
      have h1 := not_bad (fun e => Lk.entries_sticky V (d + 1) vs ks none _ e) hb
      have h2 := not_bad (fun e => Lk.list_sticky V (d + 1) l _ e) h1
      have h3 := want_ok (str_ok h2)
      have h4 := want_ok h3.1
      have h5 := good_entries V (d + 1) vs ks none _ (headOk_len h4.2) hb
      unfold Good
      exact ⟨h4.2, h3.2, h5.2, good_list V (d + 1) l _ h1, h5.1⟩
theorem good_list (V : ByteArray → Bool) (d : Int) : ∀ (l : List JV) (s : Lk), (Lk.list V d l s).bad = false → GoodL l
  | [], _, _ => by unfold GoodL; trivial
  | x :: r, s, hb => by
    have h0 := not_bad (fun e => Lk.list_sticky V d (x :: r) s e) hb
    rw [Lk.list_cons_ok V d x r s h0] at hb
    have h1 := not_bad (fun e => Lk.list_sticky V d r _ e) hb
    unfold GoodL
    exact ⟨good_value V d x s h1, good_list V d r _ hb⟩
theorem good_entries (V : ByteArray → Bool) (d : Int) : ∀ (vs : List JV) (ks : List ByteArray) (p : Option ByteArray) (s : Lk), ks.length = vs.length → (Lk.entries V d vs ks p s).bad = false → GoodL vs ∧ Rising p ks
  | [], [], _, _, _, _ => by unfold GoodL Rising; exact ⟨trivial, trivial⟩
  | [], _ :: _, _, _, hl, _ => absurd hl (by simp)
  | _ :: _, [], _, _, hl, _ => absurd hl (by simp)
  | x :: r, k :: ks, p, s, hl, hb => by
    have h0 := not_bad (fun e => Lk.entries_sticky V d (x :: r) (k :: ks) p s e) hb
    rw [Lk.entries_cons_ok V d x r k ks p s h0] at hb
    have h1 := not_bad (fun e => Lk.entries_sticky V d r ks (some k) _ e) hb
    have h2 := good_entries V d r ks (some k) _ (by simpa using hl) hb
    have h3 := not_bad (fun e => Lk.value_bad V d x _ e) h1
    unfold GoodL Rising
    exact ⟨⟨good_value V d x _ h1, h2.1⟩, (want_ok h3).2, h2.2⟩
end
theorem good_of_fit {v : JV} (h : fitB v = true) : Good v := by
  unfold fitB at h
  exact good_value validB 0 v _ (by simpa using h)

theorem GoodL.get : ∀ {l : List JV}, GoodL l → ∀ x ∈ l, Good x
  | [], _, _, hx => by simp at hx
  | y :: r, h, x, hx => by
    unfold GoodL at h
    rcases List.mem_cons.1 hx with e | e
    · exact e ▸ h.1
    · exact GoodL.get h.2 x e

/-- What the head of a right value says. -/
theorem Good.head {k h : Int} {t : ByteArray} {l vs : List JV} {ks : List ByteArray} (hg : Good (.mk k h t l ks vs)) :
    0 ≤ k ∧ k ≤ 6 ∧ (k = 3 ∨ h = 0) ∧ ks.length = vs.length ∧ (k = 5 ∨ l = []) ∧ -18014398509481984 ≤ h ∧ h ≤ 18014398509481984 ∧ (h.tmod 2 = 0 ∨ (-9007199254740992 < h ∧ h < 9007199254740992)) ∧ Rising none ks ∧ GoodL l ∧ GoodL vs := by
  unfold Good at hg
  obtain ⟨h1, h2, h3, h4, h5⟩ := hg
  have hl := headOk_len h1
  simp [JV.headOk] at h1
  simp [JV.halfOk] at h2
  refine ⟨by omega, by omega, ?_, hl, ?_, h2.1.1, h2.1.2, h2.2, h3, h4, h5⟩
  · rcases h1.1.1.1.1.2 with e | e
    · exact .inl e
    · exact .inr e
  · rcases h1.1.1.2 with e | e
    · exact .inl e
    · exact .inr e

theorem bl_irrefl : ∀ x : List UInt8, Op.bytesLess x x = false
  | [] => rfl
  | a :: x => by simp [Op.bytesLess, bl_irrefl x]
theorem bl_trans : ∀ {x y z : List UInt8}, Op.bytesLess x y = true → Op.bytesLess y z = true → Op.bytesLess x z = true
  | x, y, [], _, h2 => by cases y <;> simp [Op.bytesLess] at h2
  | [], _, _ :: _, _, _ => rfl
  | a :: x, [], _, h1, _ => by simp [Op.bytesLess] at h1
  | a :: x, b :: y, c :: z, h1, h2 => by
    simp only [Op.bytesLess, Bool.or_eq_true, Bool.and_eq_true, decide_eq_true_eq, beq_iff_eq] at h1 h2 ⊢
    rcases h1 with h1 | ⟨rfl, h1⟩
    · rcases h2 with h2 | ⟨rfl, h2⟩
      · exact .inl (UInt8.lt_trans h1 h2)
      · exact .inl h1
    · rcases h2 with h2 | ⟨rfl, h2⟩
      · exact .inl h2
      · exact .inr ⟨rfl, bl_trans h1 h2⟩
theorem bl_total : ∀ {x y : List UInt8}, Op.bytesLess x y = false → x ≠ y → Op.bytesLess y x = true
  | [], [], _, h => absurd rfl h
  | [], _ :: _, h, _ => by simp [Op.bytesLess] at h
  | _ :: _, [], _, _ => rfl
  | a :: x, b :: y, h1, h2 => by
    simp only [Op.bytesLess, Bool.or_eq_false_iff, Bool.or_eq_true, Bool.and_eq_true, decide_eq_true_eq, decide_eq_false_iff_not, beq_iff_eq] at h1 ⊢
    obtain ⟨h3, h4⟩ := h1
    by_cases e : a = b
    · subst e
      have h5 : Op.bytesLess x y = false := by simpa using h4
      exact .inr ⟨rfl, bl_total h5 (fun e => h2 (by rw [e]))⟩
    · left
      have h6 : ¬ a.toNat < b.toNat := fun e2 => h3 (UInt8.lt_iff_toNat_lt.2 e2)
      have h7 : a.toNat ≠ b.toNat := fun e2 => e (UInt8.toNat_inj.1 e2)
      exact UInt8.lt_iff_toNat_lt.2 (by omega)

theorem rising_all : ∀ {ks : List ByteArray} {k : ByteArray}, Rising (some k) ks → ∀ x ∈ ks, keyLt k x = true
  | [], _, _, x, hx => by simp at hx
  | y :: r, k, h, x, hx => by
    unfold Rising at h
    have h1 : keyLt k y = true := h.1
    rcases List.mem_cons.1 hx with e | e
    · rw [e]; exact h1
    · exact bl_trans h1 (rising_all h.2 x e)
theorem keyLt_ne {a b : ByteArray} (h : keyLt a b = true) : (a.toList == b.toList) = false := by
  cases hc : a.toList == b.toList with
  | false => rfl
  | true =>
    unfold keyLt at h
    rw [beq_iff_eq.1 hc, bl_irrefl] at h
    cases h
theorem getV_none : ∀ {ks : List ByteArray} {vs : List JV} {x : ByteArray}, (∀ k ∈ ks, (k.toList == x.toList) = false) → getV ks vs x = none
  | [], _, _, _ => by unfold getV; rfl
  | _ :: _, [], _, _ => by unfold getV; rfl
  | k :: r, v :: s, x, h => by
    unfold getV
    rw [h k (by simp)]
    simp only [Bool.false_eq_true, if_false]
    exact getV_none fun y hy => h y (by simp [hy])
theorem isAt_cons (k : ByteArray) (r : List ByteArray) (x : ByteArray) : isAt (k :: r) x = if keyLt k x = true then isAt r x else k.toList == x.toList := by
  by_cases hk : keyLt k x = true
  · have hp : placeN (k :: r) x = placeN r x + 1 := by simp [placeN, hk]
    unfold isAt
    rw [hp, if_pos hk]
    simp
  · have hp : placeN (k :: r) x = 0 := by simp [placeN, hk]
    unfold isAt
    rw [hp, if_neg hk]
    simp
/-- Where the keys rise, the place of a key tells whether it is there, and which value is its. -/
theorem getV_isAt (x : ByteArray) : ∀ {ks : List ByteArray} {vs : List JV} {p : Option ByteArray}, Rising p ks → ks.length = vs.length →
    (isAt ks x = true ∧ ∃ h : placeN ks x < vs.length, getV ks vs x = some vs[placeN ks x]) ∨ (isAt ks x = false ∧ getV ks vs x = none)
  | [], [], _, _, _ => .inr ⟨by simp [isAt], by unfold getV; rfl⟩
  | [], _ :: _, _, _, hl => absurd hl (by simp)
  | _ :: _, [], _, _, hl => absurd hl (by simp)
  | k :: r, v :: s, p, h, hl => by
    unfold Rising at h
    rw [isAt_cons]
    by_cases hk : keyLt k x = true
    · have ne := keyLt_ne hk
      have hp : placeN (k :: r) x = placeN r x + 1 := by simp [placeN, hk]
      have hg : getV (k :: r) (v :: s) x = getV r s x := by conv => lhs; unfold getV; rw [ne]; simp only [Bool.false_eq_true, if_false]
      rw [if_pos hk, hg]
      rcases getV_isAt x h.2 (show r.length = s.length by simpa using hl) with ⟨h1, h2, h3⟩ | h1
      · refine .inl ⟨h1, by rw [hp]; simpa using h2, ?_⟩
        rw [h3]
        simp [hp]
      · exact .inr h1
    · rw [if_neg hk]
      have hp : placeN (k :: r) x = 0 := by simp [placeN, hk]
      cases he : k.toList == x.toList with
      | true =>
        refine .inl ⟨rfl, by rw [hp]; simp, ?_⟩
        conv => lhs; unfold getV; rw [he]; simp only [if_true]
        simp [hp]
      | false =>
        refine .inr ⟨rfl, getV_none fun y hy => ?_⟩
        rcases List.mem_cons.1 hy with e | e
        · rw [e]; exact he
        · have hxk : keyLt x k = true := bl_total (by simpa [keyLt] using hk) (fun e2 => by rw [e2] at he; simp at he)
          have hky := rising_all h.2 y e
          have hxy : keyLt x y = true := bl_trans hxk hky
          have := keyLt_ne hxy
          cases hc : y.toList == x.toList with
          | false => rfl
          | true => rw [beq_iff_eq.1 hc] at this; simp at this
end Go.Proofs.YtmjegeipnaalnaaGreatDoor
