/- The program's containment over maps. -/
import Derived.Test.YtmjegeipnaalnaaGreatDoorConL
namespace Go.Proofs.YtmjegeipnaalnaaGreatDoor
open Go.RowKit

theorem iterSeen_at {w : World} {r : Nat} {a : Option Nat} {b c : Nat} {s : Array Nat} (h : w.heap[r]? = some (.mapIter a b s c)) : w.iterSeen r = s := by
  unfold World.iterSeen; rw [h]
theorem zero_any (w : World) : (zeroValue 20).run Tryz.prog w = .ok .nilIface w := by kernel_rfl
/-- One entry of a map, by its place. -/
theorem ent_at {es : List MapEntry} {ks : List ByteArray} (hk : es.map (·.key) = ks.map Value.string) (hb : es.map (·.born) = List.range es.length) (i : Nat) (hi : i < es.length) (hik : i < ks.length) : es[i].key = .string ks[i] ∧ es[i].born = i := by
  constructor
  · have := congrArg (·[i]?) hk
    simpa [hi, hik] using this
  · have := congrArg (·[i]?) hb
    simpa [hi] using this
theorem born_stamp {es : List MapEntry} (hb : es.map (·.born) = List.range es.length) : (∀ x ∈ es, x.born < es.length) ∧ (es.map (·.born)).Nodup := by
  constructor
  · intro x hx
    have : x.born ∈ es.map (·.born) := List.mem_map.2 ⟨x, hx, rfl⟩
    rw [hb] at this
    exact List.mem_range.1 this
  · rw [hb]; exact List.nodup_range

theorem getV_mem {x : ByteArray} {y : JV} : ∀ {ks : List ByteArray} {vs : List JV}, getV ks vs x = some y → ∃ k, ∃ h : k < vs.length, vs[k] = y
  | [], _, h => by unfold getV at h; cases h
  | _ :: _, [], h => by unfold getV at h; cases h
  | k :: ks, v :: vs, h => by
    unfold getV at h
    split at h
    · exact ⟨0, by simp, by simpa using h⟩
    · obtain ⟨k, h1, h2⟩ := getV_mem h
      exact ⟨k + 1, by simpa using h1, by simpa using h2⟩

set_option maxRecDepth 100000 in
set_option maxHeartbeats 8000000 in
theorem con_map (ks ks' : List ByteArray) (vs vs' : List JV) (ih : ∀ y ∈ vs', ConC y) (gv : GoodL vs) (gv' : GoodL vs') (hl : ks.length = vs.length) (hl' : ks'.length = vs'.length) (hris' : Rising none ks') (b b' : Nat) (es es' : List MapEntry) (w : World) (_hm : es.length ≤ 9000000000000) (_hm' : es'.length ≤ 9000000000000) (hb : b < w.heap.size) (hb' : b' < w.heap.size)
    (hc : w.heap[b]? = some (.map (List.toArray es) es.length)) (hc' : w.heap[b']? = some (.map (List.toArray es') es'.length)) (hk : es.map (·.key) = ks.map Value.string) (hk' : es'.map (·.key) = ks'.map Value.string) (ho' : es'.map (·.born) = List.range es'.length)
    (hv : GVals w 0 w.heap.size vs (es.map (·.val))) (hv' : GVals w 0 w.heap.size vs' (es'.map (·.val))) :
    Calls Tryz.prog 140 #[.map (some b), .map (some b')] w fun e w' => ∃ v, e = .returned v ∧ v = .iface 4 (.bool (holdsM ks vs ks' vs')) ∧ Below w.heap.size w w' := by
  have hlk : es.length = ks.length := by have := congrArg List.length hk; simpa using this
  have hlk' : es'.length = ks'.length := by have := congrArg List.length hk'; simpa using this
  have hrg := run_range_map (P := Tryz.prog) w 83 9 20 b' _ _ Tryz.underlying83 hc'
  obtain ⟨n, hn⟩ : ∃ n, es.length = n := ⟨_, rfl⟩
  obtain ⟨n', hn'⟩ : ∃ n', es'.length = n' := ⟨_, rfl⟩
  rw [hn] at hc
  rw [hn'] at hc' hrg
  have HN := Lib.hid hn
  have HN' := Lib.hid hn'
  have hlen : ∀ ty, (Builtin.len_ #[83] ty #[.map (some b)]).run Tryz.prog w = .ok (goInt n) w := fun ty => by rw [run_len_map w 83 ty b _ _ (by kernel_rfl) hc]; simp [HN.out]
  have hlen' : ∀ ty, (Builtin.len_ #[83] ty #[.map (some b')]).run Tryz.prog w = .ok (goInt n') w := fun ty => by rw [run_len_map w 83 ty b' _ _ (by kernel_rfl) hc']; simp [HN'.out]
  have hI := heap_alloc_new w (.mapIter (some b') n' #[] n')
  have hB := (Below.refl w.heap.size w).alloc (Nat.le_refl _) (.mapIter (some b') n' #[] n')
  have hsz : w.heap.size + 1 ≤ (w.alloc (.mapIter (some b') n' #[] n')).heap.size := by simp
  have HK := Lib.hid hk
  have HK' := Lib.hid hk'
  have HO' := Lib.hid ho'
  have HL := Lib.hid hl
  have HL' := Lib.hid hl'
  have HV := Lib.hid hv
  have HV' := Lib.hid hv'
  have HC := Lib.hid hc
  have HC' := Lib.hid hc'
  have HLK := Lib.hid hlk
  have HLK' := Lib.hid hlk'
  have HSH := Lib.hid (fun (h : n < n') => holdsM_short (ks := ks) (vs := vs) hris' hl' (by omega))
  clear hn hn' hk hk' ho' hl hl' hv hv' hc hc' hlk hlk'
  by_cases hsh : n < n'
  · go_enter Tryz.func140, Tryz.ntmps140
    go_wp2_with fail
    go_ret
    exact ⟨_, rfl, by rw [HSH.out hsh]; rfl, Below.refl _ _⟩
  · go_enter Tryz.func140, Tryz.ntmps140
    go_wp2_with fail
    generalize w.alloc (.mapIter (some b') n' #[] n') = w0 at *
    go_loopw [] (fun wr => ∃ seen : Array Nat, wr.heap[w.heap.size]? = some (.mapIter (some b') n' seen n') ∧ Below w.heap.size w wr ∧ w.heap.size + 1 ≤ wr.heap.size ∧ ∀ i (h1 : i < ks'.length) (h2 : i < vs'.length), seen.contains i = true → passV ks vs ks'[i] vs'[i] = true) (fun wr => (leftOf (List.toArray es') (wr.iterSeen w.heap.size)).size)
    case atStart => exact ⟨#[], hI, hB, hsz, fun i _ _ h => by simp at h⟩
    case round =>
      obtain ⟨seen, hit, hbr, hszr, hps⟩ := hrel
      obtain ⟨wo, rfl⟩ : ∃ wo, wo = wr := ⟨_, rfl⟩
      have hst := born_stamp HO'.out
      have hm0 := iterSeen_at hit
      have law := run_next_any (P := Tryz.prog) wo 0 w.heap.size b' n' n' seen _ n' hit (kept_below hbr hb' HC'.out) (by simpa [HN'.out] using hst.1) (Nat.le_refl _)
      rcases law with ⟨h0, hrun⟩ | ⟨e, he, w1, hw1, hrun⟩
      · have hnx : ∀ ty, (Instr.next (.pointer (some ⟨w.heap.size, 0, none⟩)) false ty).run Tryz.prog wo = _ := fun _ => hrun
        have hall : holdsM ks vs ks' vs' = true := holdsM_true fun i h1 h2 => by
          have hi : i < es'.length := by rw [HLK'.out]; exact h1
          have hs := all_seen _ seen h0 es'[i] (by simp)
          rw [(ent_at HK'.out HO'.out i hi h1).2] at hs
          exact hps i h1 h2 hs
        have HALL := Lib.hid hall
        clear hall hps h0 hrun
        go_wp2_with fail
        go_ret
        exact ⟨_, rfl, by rw [HALL.out]; rfl, hbr⟩
      · have hmem := mem_left he
        obtain ⟨i, hi, hie⟩ := List.mem_iff_getElem.1 hmem.1
        have hi' : i < es'.length := by simpa using hi
        have hie' : es'[i] = e := by simpa using hie
        have hik : i < ks'.length := by rw [← HLK'.out]; exact hi'
        have hiv : i < vs'.length := by rw [← HL'.out]; exact hik
        obtain ⟨hkey, hbo⟩ := ent_at HK'.out HO'.out i hi' hik
        rw [hie'] at hkey hbo
        have hg := HV'.out.get i hiv (by simpa using hi')
        rw [List.getElem_map, hie'] at hg
        rw [hkey] at hrun
        have hC : ConC vs'[i] := ih _ (List.getElem_mem hiv)
        have hG : Good vs'[i] := gv'.get _ (List.getElem_mem hiv)
        have hfail := fun (e : passV ks vs ks'[i] vs'[i] = false) => holdsM_false (ks := ks) (vs := vs) (r := ks') (s := vs') i hik hiv e
        have hstep : passV ks vs ks'[i] vs'[i] = true → ∀ k (h1 : k < ks'.length) (h2 : k < vs'.length), (seen.push e.born).contains k = true → passV ks vs ks'[k] vs'[k] = true := by
          intro hp k h1 h2 hs
          rw [contains_push, Bool.or_eq_true] at hs
          rcases hs with hs | hs
          · exact hps k h1 h2 hs
          · have : k = i := by rw [← hbo]; exact beq_iff_eq.1 hs
            subst this
            exact hp
        have hsmall := left_shrinks _ seen e he
        have hit1 : (layB w1 w.heap.size (.mapIter (some b') n' (seen.push e.born) n')).heap[w.heap.size]? = some (.mapIter (some b') n' (seen.push e.born) n') := layB_at (o' := .mapIter (some b') n' seen n') (by rcases hw1 with rfl | rfl <;> exact hit)
        have hw1s : w1.heap.size = wo.heap.size := by rcases hw1 with rfl | rfl <;> rfl
        have hbr1 : Below w.heap.size w w1 := by
          rcases hw1 with rfl | rfl
          · exact hbr
          · exact hbr.drew
        have hbl : Below w.heap.size w (layB w1 w.heap.size (.mapIter (some b') n' (seen.push e.born) n')) := Below.lay hbr1 (Nat.le_refl _) _
        have hszl : w.heap.size + 1 ≤ (layB w1 w.heap.size (.mapIter (some b') n' (seen.push e.born) n')).heap.size := by rw [layB_size, hw1s]; exact hszr
        have hmc := kept_below hbl hb HC.out
        have hmc' := kept_below hbl hb' HC'.out
        have hen := run_entry_any (P := Tryz.prog) _ w.heap.size b' n' seen _ n' e hit1 hmc' hmem.1 (by simpa using hst.2)
        rw [hkey] at hen
        have HG2 := Lib.hid hg
        have HCC := Lib.hid hC
        have HFA := Lib.hid hfail
        have HST := Lib.hid hstep
        have HSM := Lib.hid hsmall
        have HM0 := Lib.hid hm0
        have hfl := find_look ks'[i] ks vs es 0 HK.out HV.out HL.out
        clear hg hC hfail hstep hsmall hm0 hst hps hie hi he hmem hkey
        generalize ks'[i] = key at *
        generalize vs'[i] = y at *
        generalize layB w1 w.heap.size (.mapIter (some b') n' (seen.push e.born) n') = wl at *
        have hnx : ∀ ty, (Instr.next (.pointer (some ⟨w.heap.size, 0, none⟩)) false ty).run Tryz.prog wo = _ := fun _ => hrun
        clear hrun
        rcases hfl with ⟨hgn, hfn⟩ | ⟨x, c, j, hgn, hfn, hgx⟩
        · have hlook := run_look_none (P := Tryz.prog) (z := .nilIface) Tryz.underlying83 Tryz.underlying9 (zero_any wl) hmc (by simpa using hfn)
          have HF := Lib.hid (HFA.out (by unfold passV; rw [hgn]))
          clear hfn hgn
          go_wp2_with fail
          go_ret
          exact ⟨_, rfl, by rw [HF.out]; rfl, hbl⟩
        · have hlook := run_look_some (P := Tryz.prog) Tryz.underlying83 Tryz.underlying9 hmc (by simpa using hfn)
          have hpv : passV ks vs key y = holdsV x y := by unfold passV; rw [hgn]
          have hgx2 : Good x := by
            obtain ⟨k2, hk2, hx2⟩ := getV_mem hgn
            rw [← hx2]; exact gv.get _ (List.getElem_mem hk2)
          have HP := Lib.hid hpv
          have c1 := HCC.out x c e.val wl (hgx.below hbl (by omega)) (HG2.out.below hbl (by omega)) hgx2 hG
          have C := Lib.hid c1
          clear hfn hgn hgx hpv c1
          go_wp2_with fail
          refine C.out.mono ?_
          rintro e2 wc ⟨v, rfl, ha, hbc⟩
          have hitc := kept_below hbc (by omega) hit1
          have hbcw : Below w.heap.size w wc := hbl.trans (hbc.mono (by omega))
          have hsc : w.heap.size + 1 ≤ wc.heap.size := Nat.le_trans hszl hbc.size
          have hmeas : (leftOf (List.toArray es') (wc.iterSeen w.heap.size)).size < (leftOf (List.toArray es') (wo.iterSeen w.heap.size)).size := by rw [iterSeen_at hitc, HM0.out]; exact HSM.out
          have HME := Lib.hid hmeas
          have HIT := Lib.hid hitc
          clear hmeas hitc
          rcases ha with rfl | ⟨hf, _, a, rfl⟩
          · obtain ⟨z, hz⟩ : ∃ z, holdsV x y = z := ⟨_, rfl⟩
            rw [hz]
            have HZ := Lib.hid hz
            clear hz
            cases z with
            | true =>
              go_wp2_with fail
              exact ⟨⟨_, HIT.out, hbcw, hsc, HST.out (by rw [HP.out, HZ.out])⟩, HME.out⟩
            | false =>
              have HF := Lib.hid (HFA.out (by rw [HP.out, HZ.out]))
              go_wp2_with fail
              go_ret
              exact ⟨_, rfl, by rw [HF.out]; rfl, hbcw⟩
          · have HF := Lib.hid (HFA.out (by rw [HP.out, hf]))
            clear hf
            go_wp2_with fail
            go_ret
            exact ⟨_, rfl, by rw [HF.out]; rfl, hbcw⟩
end Go.Proofs.YtmjegeipnaalnaaGreatDoor
