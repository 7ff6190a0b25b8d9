/- The program's containment over lists. The program's containment over maps. The program's containment, for all right values: it answers as the specification does, or (kinds differ) with an error. -/
import Derived.Test.YtmjegeipnaalnaaGreatDoorGrCon
import Derived.WalkMore

/- The program's containment over lists. -/
namespace Go.Proofs.YtmjegeipnaalnaaGreatDoor
open Go.RowKit

/-- What the program's containment promises for one second value. -/
def ConC (y : JV) : Prop := ∀ (x : JV) (l r : Value) (w : World), GRep w 0 w.heap.size x l → GRep w 0 w.heap.size y r → Good x → Good y →
  Calls Tryz.prog 84 #[l, r] w fun e w' => ∃ v, e = .returned v ∧ Ans x y v ∧ Below w.heap.size w w'

theorem cell_list {w : World} {b : Nat} {cs : List Value} {T : TypeId} (h : w.heap[b]? = some (.cells (List.toArray cs) T (0, 0))) (i : Nat) (hi : i < cs.length) : w.cell? ⟨b, i, none⟩ = some cs[i] := by
  simp [World.cell?, h, hi]

set_option maxRecDepth 100000 in
set_option maxHeartbeats 8000000 in
theorem con_list (l l' : List JV) (ih : ∀ y ∈ l', ConC y) (gl : GoodL l) (gl' : GoodL l') (b b' n n' : Nat) (cs cs' : List Value) (T T' : TypeId) (w : World) (hn : l.length = n) (hn' : l'.length = n') (hm : n ≤ 9000000000000) (hm' : n' ≤ 9000000000000) (hb : b < w.heap.size) (hb' : b' < w.heap.size)
    (hc : w.heap[b]? = some (.cells (List.toArray cs) T (0, 0))) (hc' : w.heap[b']? = some (.cells (List.toArray cs') T' (0, 0))) (hv : GVals w 0 w.heap.size l cs) (hv' : GVals w 0 w.heap.size l' cs') :
    Calls Tryz.prog 139 #[.slice (some ⟨b, 0, none⟩) n n, .slice (some ⟨b', 0, none⟩) n' n'] w fun e w' => ∃ v, e = .returned v ∧ v = .iface 4 (.bool (holdsL l l')) ∧ Below w.heap.size w w' := by
  have HN := Lib.hid hn
  have HN' := Lib.hid hn'
  have HL := Lib.hid hv.length
  have HL' := Lib.hid hv'.length
  have HC := Lib.hid hc
  have HC' := Lib.hid hc'
  have HV := Lib.hid hv
  have HV' := Lib.hid hv'
  clear hn hn' hc hc' hv hv'
  go_enter Tryz.func139, Tryz.ntmps139
  go_wp2_with fail
  go_step3
  go_wp2_with fail
  go_step3
  go_wp2_with fail
  go_loopw [11] (fun i wr => ∃ j : Nat, j ≤ n' ∧ i = .int .i64 j ∧ holdsL l (l'.take j) = true ∧ Below w.heap.size w wr) (fun i _ => n' - (intOf i).toNat)
  case atStart => exact ⟨0, Nat.zero_le _, rfl, by simp [holdsL], Below.refl _ _⟩
  case round =>
    obtain ⟨j, hj, rfl, hjt, hbr⟩ := hrel
    obtain ⟨wo, rfl⟩ : ∃ wo, wo = wr := ⟨_, rfl⟩
    by_cases hjn : j < n'
    · have hjl : j < l'.length := by rw [HN'.out]; exact hjn
      have hjc : j < cs'.length := by rw [HL'.out]; exact hjl
      have hcell := cell_list (kept_below hbr hb' HC'.out) j hjc
      have hg := HV'.out.get j hjl hjc
      have hsw : w.heap.size ≤ wo.heap.size := hbr.size
      have hC : ConC l'[j] := ih _ (List.getElem_mem hjl)
      have hG : Good l'[j] := gl'.get _ (List.getElem_mem hjl)
      have HT := Lib.hid (holdsL_take l l' j hjl hjt)
      have HS := Lib.hid (holdsL_stop l l' j hjl)
      generalize l'[j] = y at *
      generalize cs'[j] = vy at *
      have HCC := Lib.hid hC
      have HG2 := Lib.hid hg
      clear hC hg
      go_wp2_with fail
      go_loopw [17] (fun i wy => ∃ m : Nat, m ≤ n ∧ i = .int .i64 m ∧ (l.take m).any (fun x => holdsV x y) = false ∧ Below wo.heap.size wo wy) (fun i _ => n - (intOf i).toNat)
      case atStart => exact ⟨0, Nat.zero_le _, rfl, by simp, Below.refl _ _⟩
      case round =>
        obtain ⟨m, hm1, rfl, hno, hby⟩ := hrel
        obtain ⟨wy, rfl⟩ : ∃ wy, wy = wr := ⟨_, rfl⟩
        have hbw : Below w.heap.size w wy := hbr.trans (hby.mono hsw)
        have hsy : wo.heap.size ≤ wy.heap.size := hby.size
        by_cases hmn : m < n
        · have hml : m < l.length := by rw [HN.out]; exact hmn
          have hmc : m < cs.length := by rw [HL.out]; exact hml
          have hcell2 := cell_list (kept_below hbw hb HC.out) m hmc
          have hg2 := HV.out.get m hml hmc
          have hany : (l.take (m + 1)).any (fun x => holdsV x y) = holdsV l[m] y := by rw [any_take _ _ _ hml, hno]; rfl
          have hall : holdsV l[m] y = true → l.any (fun x => holdsV x y) = true := fun e => List.any_eq_true.2 ⟨l[m], List.getElem_mem hml, e⟩
          have hgx : Good l[m] := gl.get _ (List.getElem_mem hml)
          have HA := Lib.hid hany
          have HAL := Lib.hid hall
          clear hany hall hno
          generalize l[m] = x at *
          generalize cs[m] = vx at *
          have c := HCC.out x vx vy wy (hg2.below hbw (by omega)) (HG2.out.below hbw (by omega)) hgx hG
          have C := Lib.hid c
          clear c hg2
          go_wp2_with fail
          refine C.out.mono ?_
          rintro e wc ⟨v, rfl, ha, hbc⟩
          rcases ha with rfl | ⟨hf, _, a, rfl⟩
          · obtain ⟨z, hz⟩ : ∃ z, holdsV x y = z := ⟨_, rfl⟩
            rw [hz]
            have HZ := Lib.hid hz
            clear hz
            cases z with
            | true =>
              go_wp2_with fail
              exact ⟨⟨j + 1, by omega, by go_num, by rw [HT.out, HAL.out HZ.out], hbw.trans (hbc.mono (by omega))⟩, by simp [intOf]; omega⟩
            | false =>
              go_wp2_with fail
              exact ⟨⟨m + 1, by omega, by go_num, by rw [HA.out, HZ.out], hby.trans (hbc.mono hsy)⟩, by simp [intOf]; omega⟩
          · have HF := Lib.hid hf
            clear hf
            go_wp2_with fail
            exact ⟨⟨m + 1, by omega, by go_num, by rw [HA.out, HF.out], hby.trans (hbc.mono hsy)⟩, by simp [intOf]; omega⟩
        · have e : l.take m = l := List.take_of_length_le (by rw [HN.out]; omega)
          rw [e] at hno
          have HNO := Lib.hid hno
          clear hno
          go_wp2_with fail
          try rw [Exit.noGoto_ret]
          go_ret
          exact ⟨_, rfl, by rw [HS.out HNO.out]; rfl, hbw⟩
    · have e : l'.take j = l' := List.take_of_length_le (by rw [HN'.out]; omega)
      rw [e] at hjt
      have HJT := Lib.hid hjt
      clear hjt
      go_wp2_with fail
      try rw [Exit.noGoto_ret]
      go_ret
      exact ⟨_, rfl, by rw [HJT.out]; rfl, hbr⟩
end Go.Proofs.YtmjegeipnaalnaaGreatDoor

/- The program's containment over maps. -/
namespace Go.Proofs.YtmjegeipnaalnaaGreatDoor
open Go.RowKit

theorem iterSeen_at {w : World} {r : Nat} {a : Option Nat} {b c : Nat} {s : Array Nat} (h : w.heap[r]? = some (.mapIter a b s c)) : w.iterSeen r = s := by
  unfold World.iterSeen; rw [h]
theorem zero_any (w : World) : (zeroValue 20).run Tryz.prog w = .ok .nilIface w := by kernel_rfl
/-- One entry of a map, by its place. -/
theorem ent_at {es : List MapEntry} {ks : List ByteArray} (hk : es.map (·.key) = ks.map Value.string) (hb : es.map (·.born) = List.range es.length) (i : Nat) (hi : i < es.length) (hik : i < ks.length) : es[i].key = .string ks[i] ∧ es[i].born = i := by
  constructor
  · have := congrArg (·[i]?) hk
    simpa [hi, hik] using this
  · have := congrArg (·[i]?) hb
    simpa [hi] using this
theorem born_stamp {es : List MapEntry} (hb : es.map (·.born) = List.range es.length) : (∀ x ∈ es, x.born < es.length) ∧ (es.map (·.born)).Nodup := by
  constructor
  · intro x hx
    have : x.born ∈ es.map (·.born) := List.mem_map.2 ⟨x, hx, rfl⟩
    rw [hb] at this
    exact List.mem_range.1 this
  · rw [hb]; exact List.nodup_range

theorem getV_mem {x : ByteArray} {y : JV} : ∀ {ks : List ByteArray} {vs : List JV}, getV ks vs x = some y → ∃ k, ∃ h : k < vs.length, vs[k] = y
  | [], _, h => by unfold getV at h; cases h
  | _ :: _, [], h => by unfold getV at h; cases h
  | k :: ks, v :: vs, h => by
    unfold getV at h
    split at h
    · exact ⟨0, by simp, by simpa using h⟩
    · obtain ⟨k, h1, h2⟩ := getV_mem h
      exact ⟨k + 1, by simpa using h1, by simpa using h2⟩

set_option maxRecDepth 100000 in
set_option maxHeartbeats 8000000 in
theorem con_map (ks ks' : List ByteArray) (vs vs' : List JV) (ih : ∀ y ∈ vs', ConC y) (gv : GoodL vs) (gv' : GoodL vs') (hl : ks.length = vs.length) (hl' : ks'.length = vs'.length) (hris' : Rising none ks') (b b' : Nat) (es es' : List MapEntry) (w : World) (_hm : es.length ≤ 9000000000000) (_hm' : es'.length ≤ 9000000000000) (hb : b < w.heap.size) (hb' : b' < w.heap.size)
    (hc : w.heap[b]? = some (.map (List.toArray es) es.length)) (hc' : w.heap[b']? = some (.map (List.toArray es') es'.length)) (hk : es.map (·.key) = ks.map Value.string) (hk' : es'.map (·.key) = ks'.map Value.string) (ho' : es'.map (·.born) = List.range es'.length)
    (hv : GVals w 0 w.heap.size vs (es.map (·.val))) (hv' : GVals w 0 w.heap.size vs' (es'.map (·.val))) :
    Calls Tryz.prog 140 #[.map (some b), .map (some b')] w fun e w' => ∃ v, e = .returned v ∧ v = .iface 4 (.bool (holdsM ks vs ks' vs')) ∧ Below w.heap.size w w' := by
  have hlk : es.length = ks.length := by have := congrArg List.length hk; simpa using this
  have hlk' : es'.length = ks'.length := by have := congrArg List.length hk'; simpa using this
  have hrg := run_range_map (P := Tryz.prog) w 83 9 20 b' _ _ Tryz.underlying83 hc'
  obtain ⟨n, hn⟩ : ∃ n, es.length = n := ⟨_, rfl⟩
  obtain ⟨n', hn'⟩ : ∃ n', es'.length = n' := ⟨_, rfl⟩
  rw [hn] at hc
  rw [hn'] at hc' hrg
  have HN := Lib.hid hn
  have HN' := Lib.hid hn'
  have hlen : ∀ ty, (Builtin.len_ #[83] ty #[.map (some b)]).run Tryz.prog w = .ok (goInt n) w := fun ty => by rw [run_len_map w 83 ty b _ _ (by kernel_rfl) hc]; simp [HN.out]
  have hlen' : ∀ ty, (Builtin.len_ #[83] ty #[.map (some b')]).run Tryz.prog w = .ok (goInt n') w := fun ty => by rw [run_len_map w 83 ty b' _ _ (by kernel_rfl) hc']; simp [HN'.out]
  have hI := heap_alloc_new w (.mapIter (some b') n' #[] n')
  have hB := (Below.refl w.heap.size w).alloc (Nat.le_refl _) (.mapIter (some b') n' #[] n')
  have hsz : w.heap.size + 1 ≤ (w.alloc (.mapIter (some b') n' #[] n')).heap.size := by simp
  have HK := Lib.hid hk
  have HK' := Lib.hid hk'
  have HO' := Lib.hid ho'
  have HL := Lib.hid hl
  have HL' := Lib.hid hl'
  have HV := Lib.hid hv
  have HV' := Lib.hid hv'
  have HC := Lib.hid hc
  have HC' := Lib.hid hc'
  have HLK := Lib.hid hlk
  have HLK' := Lib.hid hlk'
  have HSH := Lib.hid (fun (h : n < n') => holdsM_short (ks := ks) (vs := vs) hris' hl' (by omega))
  clear hn hn' hk hk' ho' hl hl' hv hv' hc hc' hlk hlk'
  by_cases hsh : n < n'
  · go_enter Tryz.func140, Tryz.ntmps140
    go_wp2_with fail
    go_ret
    exact ⟨_, rfl, by rw [HSH.out hsh]; rfl, Below.refl _ _⟩
  · go_enter Tryz.func140, Tryz.ntmps140
    go_wp2_with fail
    generalize w.alloc (.mapIter (some b') n' #[] n') = w0 at *
    go_loopw [] (fun wr => ∃ seen : Array Nat, wr.heap[w.heap.size]? = some (.mapIter (some b') n' seen n') ∧ Below w.heap.size w wr ∧ w.heap.size + 1 ≤ wr.heap.size ∧ ∀ i (h1 : i < ks'.length) (h2 : i < vs'.length), seen.contains i = true → passV ks vs ks'[i] vs'[i] = true) (fun wr => (leftOf (List.toArray es') (wr.iterSeen w.heap.size)).size)
    case atStart => exact ⟨#[], hI, hB, hsz, fun i _ _ h => by simp at h⟩
    case round =>
      obtain ⟨seen, hit, hbr, hszr, hps⟩ := hrel
      obtain ⟨wo, rfl⟩ : ∃ wo, wo = wr := ⟨_, rfl⟩
      have hst := born_stamp HO'.out
      have hm0 := iterSeen_at hit
      have law := run_next_any (P := Tryz.prog) wo 0 w.heap.size b' n' n' seen _ n' hit (kept_below hbr hb' HC'.out) (by simpa [HN'.out] using hst.1) (Nat.le_refl _)
      rcases law with ⟨h0, hrun⟩ | ⟨e, he, w1, hw1, hrun⟩
      · have hnx : ∀ ty, (Instr.next (.pointer (some ⟨w.heap.size, 0, none⟩)) false ty).run Tryz.prog wo = _ := fun _ => hrun
        have hall : holdsM ks vs ks' vs' = true := holdsM_true fun i h1 h2 => by
          have hi : i < es'.length := by rw [HLK'.out]; exact h1
          have hs := all_seen _ seen h0 es'[i] (by simp)
          rw [(ent_at HK'.out HO'.out i hi h1).2] at hs
          exact hps i h1 h2 hs
        have HALL := Lib.hid hall
        clear hall hps h0 hrun
        go_wp2_with fail
        go_ret
        exact ⟨_, rfl, by rw [HALL.out]; rfl, hbr⟩
      · have hmem := mem_left he
        obtain ⟨i, hi, hie⟩ := List.mem_iff_getElem.1 hmem.1
        have hi' : i < es'.length := by simpa using hi
        have hie' : es'[i] = e := by simpa using hie
        have hik : i < ks'.length := by rw [← HLK'.out]; exact hi'
        have hiv : i < vs'.length := by rw [← HL'.out]; exact hik
        obtain ⟨hkey, hbo⟩ := ent_at HK'.out HO'.out i hi' hik
        rw [hie'] at hkey hbo
        have hg := HV'.out.get i hiv (by simpa using hi')
        rw [List.getElem_map, hie'] at hg
        rw [hkey] at hrun
        have hC : ConC vs'[i] := ih _ (List.getElem_mem hiv)
        have hG : Good vs'[i] := gv'.get _ (List.getElem_mem hiv)
        have hfail := fun (e : passV ks vs ks'[i] vs'[i] = false) => holdsM_false (ks := ks) (vs := vs) (r := ks') (s := vs') i hik hiv e
        have hstep : passV ks vs ks'[i] vs'[i] = true → ∀ k (h1 : k < ks'.length) (h2 : k < vs'.length), (seen.push e.born).contains k = true → passV ks vs ks'[k] vs'[k] = true := by
          intro hp k h1 h2 hs
          rw [contains_push, Bool.or_eq_true] at hs
          rcases hs with hs | hs
          · exact hps k h1 h2 hs
          · have : k = i := by rw [← hbo]; exact beq_iff_eq.1 hs
            subst this
            exact hp
        have hsmall := left_shrinks _ seen e he
        have hit1 : (layB w1 w.heap.size (.mapIter (some b') n' (seen.push e.born) n')).heap[w.heap.size]? = some (.mapIter (some b') n' (seen.push e.born) n') := layB_at (o' := .mapIter (some b') n' seen n') (by rcases hw1 with rfl | rfl <;> exact hit)
        have hw1s : w1.heap.size = wo.heap.size := by rcases hw1 with rfl | rfl <;> rfl
        have hbr1 : Below w.heap.size w w1 := by
          rcases hw1 with rfl | rfl
          · exact hbr
          · exact hbr.drew
        have hbl : Below w.heap.size w (layB w1 w.heap.size (.mapIter (some b') n' (seen.push e.born) n')) := Below.lay hbr1 (Nat.le_refl _) _
        have hszl : w.heap.size + 1 ≤ (layB w1 w.heap.size (.mapIter (some b') n' (seen.push e.born) n')).heap.size := by rw [layB_size, hw1s]; exact hszr
        have hmc := kept_below hbl hb HC.out
        have hmc' := kept_below hbl hb' HC'.out
        have hen := run_entry_any (P := Tryz.prog) _ w.heap.size b' n' seen _ n' e hit1 hmc' hmem.1 (by simpa using hst.2)
        rw [hkey] at hen
        have HG2 := Lib.hid hg
        have HCC := Lib.hid hC
        have HFA := Lib.hid hfail
        have HST := Lib.hid hstep
        have HSM := Lib.hid hsmall
        have HM0 := Lib.hid hm0
        have hfl := find_look ks'[i] ks vs es 0 HK.out HV.out HL.out
        clear hg hC hfail hstep hsmall hm0 hst hps hie hi he hmem hkey
        generalize ks'[i] = key at *
        generalize vs'[i] = y at *
        generalize layB w1 w.heap.size (.mapIter (some b') n' (seen.push e.born) n') = wl at *
        have hnx : ∀ ty, (Instr.next (.pointer (some ⟨w.heap.size, 0, none⟩)) false ty).run Tryz.prog wo = _ := fun _ => hrun
        clear hrun
        rcases hfl with ⟨hgn, hfn⟩ | ⟨x, c, j, hgn, hfn, hgx⟩
        · have hlook := run_look_none (P := Tryz.prog) (z := .nilIface) Tryz.underlying83 Tryz.underlying9 (zero_any wl) hmc (by simpa using hfn)
          have HF := Lib.hid (HFA.out (by unfold passV; rw [hgn]))
          clear hfn hgn
          go_wp2_with fail
          go_ret
          exact ⟨_, rfl, by rw [HF.out]; rfl, hbl⟩
        · have hlook := run_look_some (P := Tryz.prog) Tryz.underlying83 Tryz.underlying9 hmc (by simpa using hfn)
          have hpv : passV ks vs key y = holdsV x y := by unfold passV; rw [hgn]
          have hgx2 : Good x := by
            obtain ⟨k2, hk2, hx2⟩ := getV_mem hgn
            rw [← hx2]; exact gv.get _ (List.getElem_mem hk2)
          have HP := Lib.hid hpv
          have c1 := HCC.out x c e.val wl (hgx.below hbl (by omega)) (HG2.out.below hbl (by omega)) hgx2 hG
          have C := Lib.hid c1
          clear hfn hgn hgx hpv c1
          go_wp2_with fail
          refine C.out.mono ?_
          rintro e2 wc ⟨v, rfl, ha, hbc⟩
          have hitc := kept_below hbc (by omega) hit1
          have hbcw : Below w.heap.size w wc := hbl.trans (hbc.mono (by omega))
          have hsc : w.heap.size + 1 ≤ wc.heap.size := Nat.le_trans hszl hbc.size
          have hmeas : (leftOf (List.toArray es') (wc.iterSeen w.heap.size)).size < (leftOf (List.toArray es') (wo.iterSeen w.heap.size)).size := by rw [iterSeen_at hitc, HM0.out]; exact HSM.out
          have HME := Lib.hid hmeas
          have HIT := Lib.hid hitc
          clear hmeas hitc
          rcases ha with rfl | ⟨hf, _, a, rfl⟩
          · obtain ⟨z, hz⟩ : ∃ z, holdsV x y = z := ⟨_, rfl⟩
            rw [hz]
            have HZ := Lib.hid hz
            clear hz
            cases z with
            | true =>
              go_wp2_with fail
              exact ⟨⟨_, HIT.out, hbcw, hsc, HST.out (by rw [HP.out, HZ.out])⟩, HME.out⟩
            | false =>
              have HF := Lib.hid (HFA.out (by rw [HP.out, HZ.out]))
              go_wp2_with fail
              go_ret
              exact ⟨_, rfl, by rw [HF.out]; rfl, hbcw⟩
          · have HF := Lib.hid (HFA.out (by rw [HP.out, hf]))
            clear hf
            go_wp2_with fail
            go_ret
            exact ⟨_, rfl, by rw [HF.out]; rfl, hbcw⟩
end Go.Proofs.YtmjegeipnaalnaaGreatDoor

/- The program's containment, for all right values: it answers as the specification does, or (kinds differ) with an error. -/
namespace Go.Proofs.YtmjegeipnaalnaaGreatDoor
open Go.RowKit

theorem enters133 : Enters 133 := fun args w => Go.Proofs.enters_of Tryz.func133 (by kernel_rfl) rfl args w
theorem enters134 : Enters 134 := fun args w => Go.Proofs.enters_of Tryz.func134 (by kernel_rfl) rfl args w
theorem enters137 : Enters 137 := fun args w => Go.Proofs.enters_of Tryz.func137 (by kernel_rfl) rfl args w
theorem enters139 : Enters 139 := fun args w => Go.Proofs.enters_of Tryz.func139 (by kernel_rfl) rfl args w
theorem enters140 : Enters 140 := fun args w => Go.Proofs.enters_of Tryz.func140 (by kernel_rfl) rfl args w
theorem enters141 : Enters 141 := fun args w => Go.Proofs.enters_of Tryz.func141 (by kernel_rfl) rfl args w

set_option maxRecDepth 100000 in
theorem con_door (l r : Value) (w : World) (R : Value → World → Prop)
    (h : Calls Tryz.prog 132 #[l, r, .func (.func 133) #[] #[], .func (.func 134) #[] #[], .func (.func 135) #[] #[], .func (.func 137) #[] #[], .func (.func 139) #[] #[], .func (.func 140) #[] #[], .func (.func 141) #[] #[]] w fun e w' => ∃ v, e = .returned v ∧ R v w') :
    Calls Tryz.prog 84 #[l, r] w fun e w' => ∃ v, e = .returned v ∧ R v w' := by
  have C := Lib.hid h
  clear h
  go_enter Tryz.func84, Tryz.ntmps84
  go_wp2_with fail
  refine C.out.mono ?_
  rintro e w1 ⟨v, rfl, hr⟩
  go_wp2_with fail
  go_ret
  exact ⟨_, rfl, hr⟩

/-- The class of a kind. -/
def cls (k : Int) : Nat := if k ≤ 1 then k.toNat else (k - 1).toNat
theorem GRep.shp {w : World} {lo B : Nat} {v : JV} {x : Value} (h : GRep w lo B v x) : Shp x (cls v.kind) := by
  obtain ⟨k, hh, t, l, ks, vs⟩ := v
  unfold GRep at h
  simp only [JV.kind]
  rcases h with ⟨rfl, rfl⟩ | ⟨rfl, rfl⟩ | ⟨rfl, rfl⟩ | ⟨rfl, _, _, _, _, rfl⟩ | ⟨rfl, _, _, _, rfl⟩ | ⟨rfl, _, rfl⟩ | ⟨rfl, _, _, _, _, _, rfl, _⟩ | ⟨rfl, _, _, _, _, rfl, _⟩
  · exact .nil
  · exact .bool _
  · exact .bool _
  · exact .int _
  · exact .flo _
  · exact .str _
  · exact .lst _ _ _
  · exact .mp _

theorem grep_num {w : World} {lo B : Nat} {h : Int} {t : ByteArray} {l vs : List JV} {ks : List ByteArray} {x : Value} (hg : GRep w lo B (.mk 3 h t l ks vs) x) :
    (∃ n, h = 2 * n ∧ -9007199254740992 ≤ n ∧ n ≤ 9007199254740992 ∧ x = .iface 3 (.int .i64 n)) ∨ (h % 2 = 1 ∧ -9007199254740992 < h ∧ h < 9007199254740992 ∧ x = .iface 79 (.float .f64 (halfBits h))) := by
  unfold GRep at hg
  simpa using hg
theorem grep_text {w : World} {lo B : Nat} {h : Int} {t : ByteArray} {l vs : List JV} {ks : List ByteArray} {x : Value} (hg : GRep w lo B (.mk 4 h t l ks vs) x) : t.size ≤ 140737488351232 ∧ x = .iface 9 (.string t) := by
  unfold GRep at hg
  simpa using hg
theorem grep_list {w : World} {lo B : Nat} {h : Int} {t : ByteArray} {l vs : List JV} {ks : List ByteArray} {x : Value} (hg : GRep w lo B (.mk 5 h t l ks vs) x) :
    ∃ b cs T, b < B ∧ x = .iface 80 (.slice (some ⟨b, 0, none⟩) l.length l.length) ∧ l.length ≤ 9000000000000 ∧ w.heap[b]? = some (.cells (List.toArray cs) T (0, 0)) ∧ GVals w lo B l cs := by
  unfold GRep at hg
  rcases hg with ⟨e, _⟩ | ⟨e, _⟩ | ⟨e, _⟩ | ⟨e, _⟩ | ⟨e, _⟩ | ⟨e, _⟩ | ⟨_, b, cs, T, _, h1, h2, h3, h4, h5⟩ | ⟨e, _⟩
  all_goals first
    | exact ⟨b, cs, T, h1, h2, h3, h4, h5⟩
    | (exfalso; revert e; decide)
theorem grep_map {w : World} {lo B : Nat} {h : Int} {t : ByteArray} {l vs : List JV} {ks : List ByteArray} {x : Value} (hg : GRep w lo B (.mk 6 h t l ks vs) x) :
    ∃ b es, b < B ∧ x = .iface 83 (.map (some b)) ∧ w.heap[b]? = some (.map (List.toArray es) es.length) ∧ es.length ≤ 9000000000000 ∧ es.map (·.key) = ks.map Value.string ∧ es.map (·.born) = List.range es.length ∧ GVals w lo B vs (es.map (·.val)) := by
  unfold GRep at hg
  rcases hg with ⟨e, _⟩ | ⟨e, _⟩ | ⟨e, _⟩ | ⟨e, _⟩ | ⟨e, _⟩ | ⟨e, _⟩ | ⟨e, _⟩ | ⟨_, b, es, _, h1, h2, h3, h4, h5, h6, h7⟩
  all_goals first
    | exact ⟨b, es, h1, h2, h3, h4, h5, h6, h7⟩
    | (exfalso; revert e; decide)
theorem grep_plain {w : World} {lo B : Nat} {k h : Int} {t : ByteArray} {l vs : List JV} {ks : List ByteArray} {x : Value} (hg : GRep w lo B (.mk k h t l ks vs) x) (hk : k ≤ 2) :
    (k = 0 ∧ x = .nilIface) ∨ (k = 1 ∧ x = .iface 4 (.bool false)) ∨ (k = 2 ∧ x = .iface 4 (.bool true)) := by
  unfold GRep at hg
  rcases hg with e | e | e | ⟨e, _⟩ | ⟨e, _⟩ | ⟨e, _⟩ | ⟨e, _⟩ | ⟨e, _⟩
  · exact .inl e
  · exact .inr (.inl e)
  · exact .inr (.inr e)
  all_goals (exfalso; omega)

theorem kind_of_cls {k k' : Int} (h0 : 0 ≤ k) (h0' : 0 ≤ k') (h : cls k = cls k') : k = k' ∨ (k = 1 ∧ k' = 2) ∨ (k = 2 ∧ k' = 1) := by
  unfold cls at h
  split at h <;> split at h <;> omega

theorem plain_same {k : Int} {l r : Value} (h : (k = 0 ∧ l = .nilIface) ∨ (k = 1 ∧ l = .iface 4 (.bool false)) ∨ (k = 2 ∧ l = .iface 4 (.bool true))) (h' : (k = 0 ∧ r = .nilIface) ∨ (k = 1 ∧ r = .iface 4 (.bool false)) ∨ (k = 2 ∧ r = .iface 4 (.bool true))) :
    l = r ∧ (l = .nilIface ∨ ∃ b, l = .iface 4 (.bool b)) := by
  rcases h with ⟨e, rfl⟩ | ⟨e, rfl⟩ | ⟨e, rfl⟩ <;> rcases h' with ⟨e', rfl⟩ | ⟨e', rfl⟩ | ⟨e', rfl⟩
  all_goals first
    | (exfalso; omega)
    | exact ⟨rfl, .inl rfl⟩
    | exact ⟨rfl, .inr ⟨_, rfl⟩⟩

set_option maxRecDepth 10000 in
theorem con_all : ∀ y, ConC y := by
  refine JV.ind fun k' h' t' l' ks' vs' ihl ihv => ?_
  intro x lv rv w hx hy gx gy
  obtain ⟨k, h, t, l, ks, vs⟩ := x
  obtain ⟨x1, x2, x3, x4, x5, x6, x7, x8, x9, x10, x11⟩ := gx.head
  obtain ⟨y1, y2, y3, y4, y5, y6, y7, y8, y9, y10, y11⟩ := gy.head
  refine con_door lv rv w (fun v w' => Ans (.mk k h t l ks vs) (.mk k' h' t' l' ks' vs') v ∧ Below w.heap.size w w') ?_
  by_cases hc : cls k = cls k'
  · rcases kind_of_cls x1 y1 hc with rfl | ⟨rfl, rfl⟩ | ⟨rfl, rfl⟩
    · by_cases h2 : k ≤ 2
      · have hv : holdsV (.mk k h t l ks vs) (.mk k h' t' l' ks' vs') = true := by
          rw [holdsV_rest (by omega) (by omega) (by omega), x3.resolve_left (by omega), y3.resolve_left (by omega)]; rfl
        refine sw_fall 141 enters141 lv rv _ _ hx.shp hy.shp (.inr (by simp only [JV.kind]; unfold cls; split <;> omega)) _ _ _ _ _ _ w _ ?_
        have hsame : lv = rv ∧ (lv = .nilIface ∨ ∃ b, lv = .iface 4 (.bool b)) := plain_same (grep_plain hx h2) (grep_plain hy h2)
        obtain ⟨rfl, rfl | ⟨b, rfl⟩⟩ := hsame
        · refine (con_nil w).mono ?_
          rintro e w' ⟨v, rfl, rfl, rfl⟩
          exact ⟨_, rfl, .inl (by rw [hv]), Below.refl _ _⟩
        · refine (con_bool b b w).mono ?_
          rintro e w' ⟨v, rfl, (⟨_, rfl⟩ | ⟨hne, _⟩), hb⟩
          · exact ⟨_, rfl, .inl (by rw [hv]), hb⟩
          · exact absurd rfl hne
      · by_cases h3 : k = 3
        · subst h3
          have hv : holdsV (.mk 3 h t l ks vs) (.mk 3 h' t' l' ks' vs') = (h == h') := holdsV_rest (by decide) (by decide) (by decide)
          rcases grep_num hx with ⟨n, e1, e2, e3, rfl⟩ | ⟨e1, e2, e3, rfl⟩ <;> rcases grep_num hy with ⟨n', f1, f2, f3, rfl⟩ | ⟨f1, f2, f3, rfl⟩
          · refine sw_ii 133 enters133 n n' _ _ _ _ _ _ w _ ((con_int n n' w).mono ?_)
            rintro e w' ⟨v, rfl, rfl, rfl⟩
            refine ⟨_, rfl, .inl ?_, Below.refl _ _⟩
            have : (h == h') = (n == n') := by rw [Bool.eq_iff_iff]; simp only [beq_iff_eq]; omega
            rw [hv, this]
          · obtain ⟨i, hi⟩ := half_int n e2 e3
            obtain ⟨_, j, hj, hh⟩ := half_odd h' (by omega) f2 f3
            have ho := order_half hi hh (by omega)
            refine sw_if 134 enters134 n _ _ _ _ _ _ _ w _ ((con_flo _ _ _ ho w).mono ?_)
            rintro e w' ⟨v, rfl, rfl, rfl⟩
            refine ⟨_, rfl, .inl ?_, Below.refl _ _⟩
            rw [hv, e1]
          · obtain ⟨i, hi⟩ := half_int n' f2 f3
            obtain ⟨_, j, hj, hh⟩ := half_odd h (by omega) e2 e3
            have ho := order_half hh hi (by omega)
            refine sw_fi 134 enters134 _ n' _ _ _ _ _ _ w _ ((con_flo _ _ _ ho w).mono ?_)
            rintro e w' ⟨v, rfl, rfl, rfl⟩
            refine ⟨_, rfl, .inl ?_, Below.refl _ _⟩
            rw [hv, f1]
          · obtain ⟨_, j, hj, hh⟩ := half_odd h (by omega) e2 e3
            obtain ⟨_, j2, hj2, hh2⟩ := half_odd h' (by omega) f2 f3
            have ho := order_half hh hh2 (by omega)
            refine sw_ff 134 enters134 _ _ _ _ _ _ _ _ w _ ((con_flo _ _ _ ho w).mono ?_)
            rintro e w' ⟨v, rfl, rfl, rfl⟩
            refine ⟨_, rfl, .inl ?_, Below.refl _ _⟩
            rw [hv]
        · by_cases h4 : k = 4
          · subst h4
            obtain ⟨e1, rfl⟩ := grep_text hx
            obtain ⟨f1, rfl⟩ := grep_text hy
            refine sw_ss 137 enters137 t t' _ _ _ _ _ _ w _ ((con_str t t' e1 f1 w).mono ?_)
            rintro e w' ⟨v, rfl, rfl, rfl⟩
            exact ⟨_, rfl, .inl (by rw [holdsV_text]), Below.refl _ _⟩
          · by_cases h5 : k = 5
            · subst h5
              obtain ⟨b, cs, T, a1, rfl, a2, a3, a4⟩ := grep_list hx
              obtain ⟨b', cs', T', a1', rfl, a2', a3', a4'⟩ := grep_list hy
              refine sw_ll 139 enters139 _ _ _ _ _ _ _ _ _ _ _ _ w _ ((con_list l l' ihl x10 y10 b b' _ _ cs cs' T T' w rfl rfl a2 a2' a1 a1' a3 a3' a4 a4').mono ?_)
              rintro e w' ⟨v, rfl, rfl, hb⟩
              exact ⟨_, rfl, .inl (by rw [holdsV_list]), hb⟩
            · have h6 : k = 6 := by omega
              subst h6
              obtain ⟨b, es, a1, rfl, a2, a3, a4, a5, a6⟩ := grep_map hx
              obtain ⟨b', es', a1', rfl, a2', a3', a4', a5', a6'⟩ := grep_map hy
              refine sw_mm 140 enters140 _ _ _ _ _ _ _ _ w _ ((con_map ks ks' vs vs' ihv x11 y11 x4 y4 y9 b b' es es' w a3 a3' a1 a1' a2 a2' a4 a4' a5' a6 a6').mono ?_)
              rintro e w' ⟨v, rfl, rfl, hb⟩
              exact ⟨_, rfl, .inl (by rw [holdsV_map]), hb⟩
    · refine sw_fall 141 enters141 lv rv _ _ hx.shp hy.shp (.inr (by simp only [JV.kind]; decide)) _ _ _ _ _ _ w _ ?_
      have el : lv = .iface 4 (.bool false) := by rcases grep_plain hx (by decide) with ⟨e, _⟩ | ⟨_, e⟩ | ⟨e, _⟩ <;> first | exact e | cases e
      have er : rv = .iface 4 (.bool true) := by rcases grep_plain hy (by decide) with ⟨e, _⟩ | ⟨e, _⟩ | ⟨_, e⟩ <;> first | exact e | cases e
      rw [el, er]
      refine (con_bool false true w).mono ?_
      rintro e w' ⟨v, rfl, (⟨hh, _⟩ | ⟨_, p, rfl⟩), hb⟩
      · cases hh
      · exact ⟨_, rfl, .inr ⟨holdsV_ne (by decide), by simp only [JV.kind]; decide, p, rfl⟩, hb⟩
    · refine sw_fall 141 enters141 lv rv _ _ hx.shp hy.shp (.inr (by simp only [JV.kind]; decide)) _ _ _ _ _ _ w _ ?_
      have el : lv = .iface 4 (.bool true) := by rcases grep_plain hx (by decide) with ⟨e, _⟩ | ⟨e, _⟩ | ⟨_, e⟩ <;> first | exact e | cases e
      have er : rv = .iface 4 (.bool false) := by rcases grep_plain hy (by decide) with ⟨e, _⟩ | ⟨_, e⟩ | ⟨e, _⟩ <;> first | exact e | cases e
      rw [el, er]
      refine (con_bool true false w).mono ?_
      rintro e w' ⟨v, rfl, (⟨hh, _⟩ | ⟨_, p, rfl⟩), hb⟩
      · cases hh
      · exact ⟨_, rfl, .inr ⟨holdsV_ne (by decide), by simp only [JV.kind]; decide, p, rfl⟩, hb⟩
  · have hne : k ≠ k' := fun e => hc (by rw [e])
    refine sw_fall 141 enters141 lv rv _ _ hx.shp hy.shp (.inl hc) _ _ _ _ _ _ w _ ((con_fall lv rv _ _ hx.shp hy.shp hc w).mono ?_)
    rintro e w' ⟨v, rfl, ⟨p, rfl⟩, hb⟩
    exact ⟨_, rfl, .inr ⟨holdsV_ne hne, hne, p, rfl⟩, hb⟩
end Go.Proofs.YtmjegeipnaalnaaGreatDoor
