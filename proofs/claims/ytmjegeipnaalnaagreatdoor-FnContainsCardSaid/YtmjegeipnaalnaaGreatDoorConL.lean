/- The program's containment over lists. -/
import Derived.Test.YtmjegeipnaalnaaGreatDoorCon
import Derived.WalkMore
namespace Go.Proofs.YtmjegeipnaalnaaGreatDoor
open Go.RowKit

/-- What the program's containment promises for one second value. -/
def ConC (y : JV) : Prop := ∀ (x : JV) (l r : Value) (w : World), GRep w 0 w.heap.size x l → GRep w 0 w.heap.size y r → Good x → Good y →
  Calls Tryz.prog 84 #[l, r] w fun e w' => ∃ v, e = .returned v ∧ Ans x y v ∧ Below w.heap.size w w'

theorem cell_list {w : World} {b : Nat} {cs : List Value} {T : TypeId} (h : w.heap[b]? = some (.cells (List.toArray cs) T (0, 0))) (i : Nat) (hi : i < cs.length) : w.cell? ⟨b, i, none⟩ = some cs[i] := by
  simp [World.cell?, h, hi]

set_option maxRecDepth 100000 in
set_option maxHeartbeats 8000000 in
theorem con_list (l l' : List JV) (ih : ∀ y ∈ l', ConC y) (gl : GoodL l) (gl' : GoodL l') (b b' n n' : Nat) (cs cs' : List Value) (T T' : TypeId) (w : World) (hn : l.length = n) (hn' : l'.length = n') (hm : n ≤ 9000000000000) (hm' : n' ≤ 9000000000000) (hb : b < w.heap.size) (hb' : b' < w.heap.size)
    (hc : w.heap[b]? = some (.cells (List.toArray cs) T (0, 0))) (hc' : w.heap[b']? = some (.cells (List.toArray cs') T' (0, 0))) (hv : GVals w 0 w.heap.size l cs) (hv' : GVals w 0 w.heap.size l' cs') :
    Calls Tryz.prog 139 #[.slice (some ⟨b, 0, none⟩) n n, .slice (some ⟨b', 0, none⟩) n' n'] w fun e w' => ∃ v, e = .returned v ∧ v = .iface 4 (.bool (holdsL l l')) ∧ Below w.heap.size w w' := by
  have HN := Lib.hid hn
  have HN' := Lib.hid hn'
  have HL := Lib.hid hv.length
  have HL' := Lib.hid hv'.length
  have HC := Lib.hid hc
  have HC' := Lib.hid hc'
  have HV := Lib.hid hv
  have HV' := Lib.hid hv'
  clear hn hn' hc hc' hv hv'
  go_enter Tryz.func139, Tryz.ntmps139
  go_wp2_with fail
  go_step3
  go_wp2_with fail
  go_step3
  go_wp2_with fail
  go_loopw [11] (fun i wr => ∃ j : Nat, j ≤ n' ∧ i = .int .i64 j ∧ holdsL l (l'.take j) = true ∧ Below w.heap.size w wr) (fun i _ => n' - (intOf i).toNat)
  case atStart => exact ⟨0, Nat.zero_le _, rfl, by simp [holdsL], Below.refl _ _⟩
  case round =>
    obtain ⟨j, hj, rfl, hjt, hbr⟩ := hrel
    obtain ⟨wo, rfl⟩ : ∃ wo, wo = wr := ⟨_, rfl⟩
    by_cases hjn : j < n'
    · have hjl : j < l'.length := by rw [HN'.out]; exact hjn
      have hjc : j < cs'.length := by rw [HL'.out]; exact hjl
      have hcell := cell_list (kept_below hbr hb' HC'.out) j hjc
      have hg := HV'.out.get j hjl hjc
      have hsw : w.heap.size ≤ wo.heap.size := hbr.size
      have hC : ConC l'[j] := ih _ (List.getElem_mem hjl)
      have hG : Good l'[j] := gl'.get _ (List.getElem_mem hjl)
      have HT := Lib.hid (holdsL_take l l' j hjl hjt)
      have HS := Lib.hid (holdsL_stop l l' j hjl)
      generalize l'[j] = y at *
      generalize cs'[j] = vy at *
      have HCC := Lib.hid hC
      have HG2 := Lib.hid hg
      clear hC hg
      go_wp2_with fail
      go_loopw [17] (fun i wy => ∃ m : Nat, m ≤ n ∧ i = .int .i64 m ∧ (l.take m).any (fun x => holdsV x y) = false ∧ Below wo.heap.size wo wy) (fun i _ => n - (intOf i).toNat)
      case atStart => exact ⟨0, Nat.zero_le _, rfl, by simp, Below.refl _ _⟩
      case round =>
        obtain ⟨m, hm1, rfl, hno, hby⟩ := hrel
        obtain ⟨wy, rfl⟩ : ∃ wy, wy = wr := ⟨_, rfl⟩
        have hbw : Below w.heap.size w wy := hbr.trans (hby.mono hsw)
        have hsy : wo.heap.size ≤ wy.heap.size := hby.size
        by_cases hmn : m < n
        · have hml : m < l.length := by rw [HN.out]; exact hmn
          have hmc : m < cs.length := by rw [HL.out]; exact hml
          have hcell2 := cell_list (kept_below hbw hb HC.out) m hmc
          have hg2 := HV.out.get m hml hmc
          have hany : (l.take (m + 1)).any (fun x => holdsV x y) = holdsV l[m] y := by rw [any_take _ _ _ hml, hno]; rfl
          have hall : holdsV l[m] y = true → l.any (fun x => holdsV x y) = true := fun e => List.any_eq_true.2 ⟨l[m], List.getElem_mem hml, e⟩
          have hgx : Good l[m] := gl.get _ (List.getElem_mem hml)
          have HA := Lib.hid hany
          have HAL := Lib.hid hall
          clear hany hall hno
          generalize l[m] = x at *
          generalize cs[m] = vx at *
          have c := HCC.out x vx vy wy (hg2.below hbw (by omega)) (HG2.out.below hbw (by omega)) hgx hG
          have C := Lib.hid c
          clear c hg2
          go_wp2_with fail
          refine C.out.mono ?_
          rintro e wc ⟨v, rfl, ha, hbc⟩
          rcases ha with rfl | ⟨hf, _, a, rfl⟩
          · obtain ⟨z, hz⟩ : ∃ z, holdsV x y = z := ⟨_, rfl⟩
            rw [hz]
            have HZ := Lib.hid hz
            clear hz
            cases z with
            | true =>
              go_wp2_with fail
              exact ⟨⟨j + 1, by omega, by go_num, by rw [HT.out, HAL.out HZ.out], hbw.trans (hbc.mono (by omega))⟩, by simp [intOf]; omega⟩
            | false =>
              go_wp2_with fail
              exact ⟨⟨m + 1, by omega, by go_num, by rw [HA.out, HZ.out], hby.trans (hbc.mono hsy)⟩, by simp [intOf]; omega⟩
          · have HF := Lib.hid hf
            clear hf
            go_wp2_with fail
            exact ⟨⟨m + 1, by omega, by go_num, by rw [HA.out, HF.out], hby.trans (hbc.mono hsy)⟩, by simp [intOf]; omega⟩
        · have e : l.take m = l := List.take_of_length_le (by rw [HN.out]; omega)
          rw [e] at hno
          have HNO := Lib.hid hno
          clear hno
          go_wp2_with fail
          try rw [Exit.noGoto_ret]
          go_ret
          exact ⟨_, rfl, by rw [HS.out HNO.out]; rfl, hbw⟩
    · have e : l'.take j = l' := List.take_of_length_le (by rw [HN'.out]; omega)
      rw [e] at hjt
      have HJT := Lib.hid hjt
      clear hjt
      go_wp2_with fail
      try rw [Exit.noGoto_ret]
      go_ret
      exact ⟨_, rfl, by rw [HJT.out]; rfl, hbr⟩
end Go.Proofs.YtmjegeipnaalnaaGreatDoor
