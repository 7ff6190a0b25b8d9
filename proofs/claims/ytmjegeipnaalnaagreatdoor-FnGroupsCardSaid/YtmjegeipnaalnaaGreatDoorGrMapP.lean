/- Go's maps with keys of text, the entries in whatever order: looking a key up, laying one, copying a map. -/
import Derived.Test.YtmjegeipnaalnaaGreatDoorGrMapW
import Derived.Lib.Hide
import Derived.WalkMore
namespace Go.Proofs.YtmjegeipnaalnaaGreatDoor
open Go.RowKit

/-- All keys are texts. -/
def StrKeys (es : List MapEntry) : Prop := ∀ e ∈ es, ∃ s, e.key = .string s

theorem findNow_none {x : ByteArray} : ∀ (es : List MapEntry) (i : Nat), (∀ e ∈ es, ∃ s, e.key = .string s ∧ s ≠ x) → Instr.findNow .string (.string x) es i = some none
  | [], _, _ => rfl
  | e :: es, i, h => by
    obtain ⟨s, hs, hne⟩ := h e (by simp)
    have h1 : Instr.sameNow .string (.string x) e.key = some false := by
      rw [hs]
      show some (x == s) = _
      rw [ba_beq]
      congr 1
      cases hc : x.toList == s.toList with
      | false => rfl
      | true => exact absurd (ba_ext (beq_iff_eq.1 hc)).symm hne
    unfold Instr.findNow
    rw [h1]
    exact findNow_none es (i + 1) fun q hq => h q (by simp [hq])
theorem findNow_some {x : ByteArray} : ∀ (es : List MapEntry) (i : Nat), StrKeys es → (∃ e ∈ es, e.key = .string x) → ∃ j e, es[j]? = some e ∧ e.key = .string x ∧ Instr.findNow .string (.string x) es i = some (some (i + j, e.val))
  | [], _, _, h => by obtain ⟨e, he, _⟩ := h; simp at he
  | e :: es, i, hs, h => by
    obtain ⟨s, hk⟩ := hs e (by simp)
    by_cases e0 : s = x
    · subst e0
      refine ⟨0, e, rfl, hk, ?_⟩
      have h1 : Instr.sameNow .string (.string s) e.key = some true := by
        rw [hk]
        show some (s == s) = _
        rw [ba_beq]; simp
      unfold Instr.findNow
      rw [h1]
      rfl
    · have h1 : Instr.sameNow .string (.string x) e.key = some false := by
        rw [hk]
        show some (x == s) = _
        rw [ba_beq]
        congr 1
        cases hc : x.toList == s.toList with
        | false => rfl
        | true => exact absurd (ba_ext (beq_iff_eq.1 hc)).symm e0
      obtain ⟨q, hq, hqk⟩ := h
      have hq' : q ∈ es := by
        rcases List.mem_cons.1 hq with e2 | e2
        · rw [e2, hk] at hqk; injection hqk with hqk; exact absurd hqk e0
        · exact e2
      obtain ⟨j, q2, h2, h3, h4⟩ := findNow_some es (i + 1) (fun z hz => hs z (by simp [hz])) ⟨q, hq', hqk⟩
      refine ⟨j + 1, q2, by simpa using h2, h3, ?_⟩
      unfold Instr.findNow
      rw [h1, show i + (j + 1) = i + 1 + j by omega]
      exact h4

/-- Laying a key that is there. -/
theorem run_update_same {P : Program} {mty kt et : TypeId} {w : World} {r : Nat} {s : ByteArray} {val : Value} {es : Array MapEntry} {clock : Nat} {j : Nat} {e : MapEntry} (hm : P.underlying mty = some (.map kt et)) (hk : P.underlying kt = some .string) (hb : w.heap[r]? = some (.map es clock))
    (he : es[j]? = some e) (hke : e.key = .string s) (hf : Instr.findNow .string (.string s) es.toList 0 = some (some (j, e.val))) :
    (Instr.mapUpdate mty (.map (some r)) (.string s) val).run P w = .ok () (layB w r (.map (es.modify j fun q => { q with key := .string s, val := val }) clock)) := by
  have hc : (Instr.checkKey false 10000 kt (.string s)).run P w = .ok () w := MapKept.run_checkKey (k := .string s) hk (by simp [MapKept.IsKey]) false 9999
  have hst : (Instr.keyThatStays (.string s) (.string s)).run P w = .ok (.string s) w := by
    have : Instr.sameBits 10000 (.string s) (.string s) = true := by
      show (s == s) = true
      rw [ba_beq]; simp
    simp [Instr.keyThatStays, this]
  simp [Instr.mapUpdate, run_underlying hm, MapKept.run_getObj_map hb, hc, MapKept.run_findKey hk hf, MapKept.run_setObj_map _ hb, Result.andThen, layB, he, hke, hst]

theorem prs_perm_keys {a b : List MapEntry} (h : (prs a).Perm (prs b)) : a.length = b.length := by
  have := h.length_eq; simpa [prs] using this

theorem iterSeen_of {w : World} {r : Nat} {a : Option Nat} {b c : Nat} {s : Array Nat} (h : w.heap[r]? = some (.mapIter a b s c)) : w.iterSeen r = s := by
  unfold World.iterSeen; rw [h]
theorem nodup_of_born {l : List MapEntry} (h : (l.map (·.born)).Nodup) : l.Nodup := by
  unfold List.Nodup at h ⊢
  rw [List.pairwise_map] at h
  exact h.imp fun hne e => hne (by rw [e])

theorem inj_of_keys : ∀ {l : List MapEntry} {a c : MapEntry}, ((prs l).map (·.1)).Nodup → a ∈ l → c ∈ l → a.key = c.key → a = c
  | [], _, _, _, h, _, _ => absurd h (by simp)
  | x :: l, a, c, hn, ha, hc, hk => by
    have hn' : x.key ∉ (prs l).map (·.1) ∧ ((prs l).map (·.1)).Nodup := List.nodup_cons.1 hn
    have hin : ∀ q ∈ l, q.key ∈ (prs l).map (·.1) := fun q hq => List.mem_map.2 ⟨(q.key, q.val), List.mem_map.2 ⟨q, hq, rfl⟩, rfl⟩
    rcases List.mem_cons.1 ha with e1 | h1
    · rcases List.mem_cons.1 hc with e2 | h2
      · rw [e1, e2]
      · exact absurd (by rw [← e1, hk]; exact hin c h2) hn'.1
    · rcases List.mem_cons.1 hc with e2 | h2
      · exact absurd (by rw [← e2, ← hk]; exact hin a h1) hn'.1
      · exact inj_of_keys hn'.2 h1 h2 hk

set_option maxRecDepth 100000 in
set_option maxHeartbeats 8000000 in
/-- maps.Copy into a new map: the same entries, in whatever order. -/
theorem copy_walk (b d : Nat) (es : List MapEntry) (clock : Nat) (w : World) (hd : b < d) (hb : w.heap[b]? = some (.map (List.toArray es) clock)) (hdn : w.heap[d]? = some (.map #[] 0)) (hst : ∀ e ∈ es, e.born < clock) (hnd : (es.map (·.born)).Nodup) (hks : StrKeys es) (hkn : ((prs es).map (·.1)).Nodup) :
    Calls Tryz.prog 154 #[.map (some d), .map (some b)] w fun e w' => ∃ es2 : List MapEntry, e = .returned (.tuple #[]) ∧ w'.heap[d]? = some (.map (List.toArray es2) es2.length) ∧ (prs es2).Perm (prs es) ∧ es2.map (·.born) = List.range es2.length ∧ Below d w w' := by
  have hrg := run_range_map (P := Tryz.prog) w 83 9 20 b _ _ Tryz.underlying83 hb
  have hI := heap_alloc_new w (.mapIter (some b) clock #[] clock)
  have hB := (Below.refl w.heap.size w).alloc (Nat.le_refl _) (.mapIter (some b) clock #[] clock)
  have hdlt : d < w.heap.size := (Array.getElem?_eq_some_iff.1 hdn).1
  have hd1 : (w.alloc (.mapIter (some b) clock #[] clock)).heap[d]? = some (.map #[] 0) := kept_below hB hdlt hdn
  have hb1 : (w.alloc (.mapIter (some b) clock #[] clock)).heap[b]? = some (.map (List.toArray es) clock) := kept_below hB (by omega) hb
  have hB1 : Below d w (w.alloc (.mapIter (some b) clock #[] clock)) := hB.mono (by omega)
  have HST := Lib.hid hst
  have HND := Lib.hid hnd
  have HKS := Lib.hid hks
  have HKN := Lib.hid hkn
  clear hst hnd hks hkn
  go_enter Tryz.func154, Tryz.ntmps154
  go_wp2_with fail
  generalize w.alloc (.mapIter (some b) clock #[] clock) = w0 at *
  go_loopw [] (fun wr => ∃ (seen : Array Nat) (es2 L : List MapEntry), wr.heap[w.heap.size]? = some (.mapIter (some b) clock seen clock) ∧ wr.heap[d]? = some (.map (List.toArray es2) es2.length) ∧ wr.heap[b]? = some (.map (List.toArray es) clock) ∧ prs es2 = prs L ∧ es2.map (·.born) = List.range es2.length ∧ L.Nodup ∧ (∀ e ∈ L, e ∈ es) ∧ (∀ e ∈ es, seen.contains e.born = true → e ∈ L) ∧ (∀ e ∈ L, seen.contains e.born = true) ∧ Below d w wr) (fun wr => (leftOf (List.toArray es) (wr.iterSeen w.heap.size)).size)
  case atStart => exact ⟨#[], [], [], hI, hd1, hb1, rfl, rfl, by simp, by simp, by simp, by simp, hB1⟩
  case round =>
    obtain ⟨seen, es2, L, hit, hde, hbe, hpr, hbo, hLn, hLe, hsL, hLs, hbr⟩ := hrel
    obtain ⟨wo, rfl⟩ : ∃ wo, wo = wr := ⟨_, rfl⟩
    have hm0 := iterSeen_of hit
    have law := run_next_any (P := Tryz.prog) wo 0 w.heap.size b clock clock seen _ clock hit hbe (by simpa using HST.out) (Nat.le_refl _)
    rcases law with ⟨h0, hrun⟩ | ⟨e, he, w1, hw1, hrun⟩
    · have hnx : ∀ ty, (Instr.next (.pointer (some ⟨w.heap.size, 0, none⟩)) false ty).run Tryz.prog wo = _ := fun _ => hrun
      have hperm : L.Perm es := by
        have hen : es.Nodup := nodup_of_born HND.out
        refine (List.perm_ext_iff_of_nodup hLn hen).2 fun a => ⟨hLe a, fun ha => hsL a ha ?_⟩
        exact all_seen _ seen h0 a (by simpa using ha)
      have HP : (prs es2).Perm (prs es) := by rw [hpr]; exact hperm.map _
      clear hrun h0
      go_wp2_with fail
      go_end0
      exact ⟨es2, rfl, hde, HP, hbo, hbr⟩
    · have hmem := mem_left he
      have hees : e ∈ es := by simpa using hmem.1
      obtain ⟨s, hs⟩ := HKS.out e hees
      have heL : e ∉ L := fun h => by have := hLs e h; rw [hmem.2] at this; cases this
      have hsmall := left_shrinks _ seen e he
      have hfn : Instr.findNow .string (.string s) es2 0 = some none := findNow_none es2 0 fun q hq => by
        have : (q.key, q.val) ∈ prs es2 := List.mem_map.2 ⟨q, hq, rfl⟩
        rw [hpr] at this
        obtain ⟨q2, hq2, e2⟩ := List.mem_map.1 this
        have hk2 : q2.key = q.key := by have := congrArg Prod.fst e2; exact this
        obtain ⟨s2, hs2⟩ := HKS.out q2 (hLe q2 hq2)
        refine ⟨s2, by rw [← hk2, hs2], fun e3 => ?_⟩
        have : q2 = e := inj_of_keys HKN.out (hLe q2 hq2) hees (by rw [hs2, hs, e3])
        exact heL (this ▸ hq2)
      rw [hs] at hrun
      have hit1 : (layB w1 w.heap.size (.mapIter (some b) clock (seen.push e.born) clock)).heap[w.heap.size]? = some (.mapIter (some b) clock (seen.push e.born) clock) := layB_at (o' := .mapIter (some b) clock seen clock) (by rcases hw1 with rfl | rfl <;> exact hit)
      have hoth : ∀ k, k ≠ w.heap.size → (layB w1 w.heap.size (.mapIter (some b) clock (seen.push e.born) clock)).heap[k]? = wo.heap[k]? := fun k hk => (layB_other w1 _ hk).trans (by rcases hw1 with rfl | rfl <;> rfl)
      have hbr1 : Below d w w1 := by
        rcases hw1 with rfl | rfl
        · exact hbr
        · exact hbr.drew
      have hbl : Below d w (layB w1 w.heap.size (.mapIter (some b) clock (seen.push e.born) clock)) := Below.lay hbr1 (by omega) _
      have hbe1 := (hoth b (by omega)).trans hbe
      have hde1 := (hoth d (by omega)).trans hde
      have hen := run_entry_any (P := Tryz.prog) _ w.heap.size b clock seen _ clock e hit1 hbe1 hmem.1 (by simpa using HND.out)
      rw [hs] at hen
      generalize layB w1 w.heap.size (.mapIter (some b) clock (seen.push e.born) clock) = wl at *
      have hup := run_update (P := Tryz.prog) (val := e.val) Tryz.underlying83 Tryz.underlying9 hde1 (by simpa using hfn)
      have hdf := layB_at (o := .map ((List.toArray es2).push { key := .string s, val := e.val, born := es2.length : MapEntry }) (es2.length + 1)) hde1
      have hof := fun k (hk : k ≠ d) => layB_other wl (r := d) (.map ((List.toArray es2).push { key := .string s, val := e.val, born := es2.length : MapEntry }) (es2.length + 1)) hk
      have hblf : Below d w (layB wl d (.map ((List.toArray es2).push { key := .string s, val := e.val, born := es2.length : MapEntry }) (es2.length + 1))) := Below.lay hbl (Nat.le_refl _) _
      generalize layB wl d (.map ((List.toArray es2).push { key := .string s, val := e.val, born := es2.length : MapEntry }) (es2.length + 1)) = wf at *
      have hitf := (hof w.heap.size (by omega)).trans hit1
      have hbf := (hof b (by omega)).trans hbe1
      have hnx : ∀ ty, (Instr.next (.pointer (some ⟨w.heap.size, 0, none⟩)) false ty).run Tryz.prog wo = _ := fun _ => hrun
      have hme : (leftOf (List.toArray es) (wf.iterSeen w.heap.size)).size < (leftOf (List.toArray es) (wo.iterSeen w.heap.size)).size := by rw [iterSeen_of hitf, hm0]; exact hsmall
      have HFIN := Lib.hid (show ∃ (seen : Array Nat) (es2 L : List MapEntry), wf.heap[w.heap.size]? = some (.mapIter (some b) clock seen clock) ∧ wf.heap[d]? = some (.map (List.toArray es2) es2.length) ∧ wf.heap[b]? = some (.map (List.toArray es) clock) ∧ prs es2 = prs L ∧ es2.map (·.born) = List.range es2.length ∧ L.Nodup ∧ (∀ e ∈ L, e ∈ es) ∧ (∀ e ∈ es, seen.contains e.born = true → e ∈ L) ∧ (∀ e ∈ L, seen.contains e.born = true) ∧ Below d w wf from by
        refine ⟨seen.push e.born, es2 ++ [{ key := .string s, val := e.val, born := es2.length : MapEntry }], L ++ [e], hitf, ?_, hbf, ?_, ?_, ?_, ?_, ?_, ?_, hblf⟩
        · rw [hdf]; simp
        · unfold prs at hpr ⊢
          rw [List.map_append, List.map_append, hpr, List.map_singleton, List.map_singleton, hs]
        · rw [List.map_append, hbo, List.length_append]
          show List.range es2.length ++ [es2.length] = List.range (es2.length + 1)
          rw [List.range_succ]
        · rw [List.nodup_append]
          exact ⟨hLn, by simp, fun a ha c hc => by
            have : c = e := by simpa using hc
            subst this
            exact fun h => heL (h ▸ ha)⟩
        · intro q hq
          rcases List.mem_append.1 hq with h | h
          · exact hLe q h
          · have : q = e := by simpa using h
            rw [this]; exact hees
        · intro q hq hc
          rw [contains_push, Bool.or_eq_true] at hc
          rcases hc with h | h
          · exact List.mem_append.2 (.inl (hsL q hq h))
          · have : q = e := born_inj HND.out hq hees (beq_iff_eq.1 h)
            rw [this]; simp
        · intro q hq
          rw [contains_push, Bool.or_eq_true]
          rcases List.mem_append.1 hq with h | h
          · exact .inl (hLs q h)
          · have : q = e := by simpa using h
            rw [this]; exact .inr (by simp))
      have HME := Lib.hid hme
      clear hrun hfn hdf hof hblf hitf hbf hit1 hoth hbe1 hde1 hbl hbr1 hw1 hsmall hm0 hpr hbo hLn hLe hsL hLs heL hme he hmem
      go_wp2_with fail
      exact ⟨HFIN.out, HME.out⟩
end Go.Proofs.YtmjegeipnaalnaaGreatDoor
