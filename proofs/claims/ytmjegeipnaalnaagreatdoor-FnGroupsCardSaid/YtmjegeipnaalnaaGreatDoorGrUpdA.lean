/- Setting at a path: the walk, for every path of keys and small indices. Setting at a path: every path of keys and small indices, every right value. Getting at a path, where it can be gone: the walks. -/
import Derived.Test.YtmjegeipnaalnaaGreatDoorGrUpdS

/- Setting at a path: the walk, for every path of keys and small indices. -/
namespace Go.Proofs.YtmjegeipnaalnaaGreatDoor
open Go.RowKit

theorem Good.bare {k h : Int} {t : ByteArray} {l vs : List JV} {ks : List ByteArray} (hg : Good (.mk k h t l ks vs)) : k ≠ 6 → ks = [] ∧ vs = [] := by
  intro hk
  have hl := hg.head.2.2.2.1
  unfold Good at hg
  have h1 := hg.1
  simp [JV.headOk] at h1
  have hks : ks = [] := by
    rcases h1.1.2 with e | e
    · exact absurd e hk
    · exact e
  subst hks
  exact ⟨rfl, List.length_eq_zero_iff.1 (by simpa using hl.symm)⟩

theorem upd_nil : UpdC [] := by
  intro x v nv vv pv w hx hv hg hf hp
  obtain ⟨A, c, rfl, h1, h2, h3⟩ := hp
  have HX := Lib.hid hx
  clear hx hv hg hf
  go_enter Tryz.func223, Tryz.ntmps223
  go_wp2_with fail
  go_ret2
  exact ⟨.inl ⟨x, nv, by unfold setT; rfl, rfl, HX.out⟩, Below.refl _ _⟩

set_option maxRecDepth 100000 in
set_option maxHeartbeats 8000000 in
/-- A key: of nothing, of a map; else an error. -/
theorem upd_key (k : ByteArray) (pv1 nv vv : Value) (b o n c : Nat) (w : World) (i : Nat) (hsh : Shp vv i) (hn : n + 1 ≤ c) (hc : c ≤ 1000000) (hcell : w.cell? ⟨b, o, none⟩ = some (.iface 9 (.string k))) (hpv : (c = 1 ∧ n = 0 ∧ pv1 = .slice (some ⟨b, o, none⟩) 0 0) ∨ (c ≠ 1 ∧ pv1 = .slice (some ⟨b, o + 1, none⟩) n (c - 1))) (ro : Option JV)
    (h0 : vv = .nilIface → Calls Tryz.prog 269 #[.map none, .string k, pv1, nv, .map none] w fun e w' => UpdR ro w' e ∧ Below w.heap.size w w')
    (h6 : ∀ m, vv = .iface 83 (.map m) → Calls Tryz.prog 269 #[.map m, .string k, pv1, nv, .map none] w fun e w' => UpdR ro w' e ∧ Below w.heap.size w w')
    (hR : i ≠ 0 → i ≠ 5 → ro = none) :
    Calls Tryz.prog 223 #[vv, .slice (some ⟨b, o, none⟩) (n + 1) c, nv, .map none] w fun e w' => UpdR ro w' e ∧ Below w.heap.size w w' := by
  have H0 := Lib.hid h0
  have H6 := Lib.hid h6
  have HR := Lib.hid hR
  clear h0 h6 hR
  rcases hpv with ⟨rfl, rfl, rfl⟩ | ⟨hc1, rfl⟩
  all_goals
    cases hsh
    case nil =>
      have C := Lib.hid (H0.out rfl)
      go_enter Tryz.func223, Tryz.ntmps223
      go_wp2_with fail
      refine C.out.mono ?_
      rintro e w1 ⟨hr, hb⟩
      rcases hr with ⟨r, u, rfl, rfl, hu⟩ | ⟨rfl, T, a, hT, rfl⟩
      · have HU := Lib.hid hu
        clear hu
        go_wp2_with fail
        go_ret2
        exact ⟨.inl ⟨r, u, rfl, rfl, HU.out⟩, hb⟩
      · go_wp2_with fail
        go_ret2
        exact ⟨.inr ⟨rfl, T, a, hT, rfl⟩, hb⟩
    case mp A =>
      have C := Lib.hid (H6.out A rfl)
      go_enter Tryz.func223, Tryz.ntmps223
      go_wp2_with fail
      refine C.out.mono ?_
      rintro e w1 ⟨hr, hb⟩
      rcases hr with ⟨r, u, rfl, rfl, hu⟩ | ⟨rfl, T, a, hT, rfl⟩
      · have HU := Lib.hid hu
        clear hu
        go_wp2_with fail
        go_ret2
        exact ⟨.inl ⟨r, u, rfl, rfl, HU.out⟩, hb⟩
      · go_wp2_with fail
        go_ret2
        exact ⟨.inr ⟨rfl, T, a, hT, rfl⟩, hb⟩
    all_goals
      obtain rfl := HR.out (by decide) (by decide)
      have HB := Lib.hid (fun (z : Obj) => (Below.refl w.heap.size w).alloc (Nat.le_refl _) z)
      go_enter Tryz.func223, Tryz.ntmps223
      go_wp2_with (go_at_call 224; refine (toInt_walk _ _).mono ?_; rintro e w' ⟨rfl, hw'⟩; obtain rfl := hw'.symm)
      go_ret2
      exact ⟨.inr ⟨rfl, _, _, by first | exact .inl rfl | exact .inr rfl, rfl⟩, HB.out _⟩

set_option maxRecDepth 100000 in
set_option maxHeartbeats 8000000 in
/-- An index: of nothing, of a list; else an error. -/
theorem upd_idx (ix : Int) (pv1 nv vv : Value) (b o n c : Nat) (w : World) (i : Nat) (hsh : Shp vv i) (hn : n + 1 ≤ c) (hc : c ≤ 1000000) (hcell : w.cell? ⟨b, o, none⟩ = some (.iface 3 (.int .i64 ix))) (hpv : (c = 1 ∧ n = 0 ∧ pv1 = .slice (some ⟨b, o, none⟩) 0 0) ∨ (c ≠ 1 ∧ pv1 = .slice (some ⟨b, o + 1, none⟩) n (c - 1))) (ro : Option JV)
    (h0 : vv = .nilIface → Calls Tryz.prog 270 #[.slice none 0 0, .int .i64 ix, pv1, nv, .map none] w fun e w' => UpdR ro w' e ∧ Below w.heap.size w w')
    (h6 : ∀ A n1 m1, vv = .iface 80 (.slice A n1 m1) → Calls Tryz.prog 270 #[.slice A n1 m1, .int .i64 ix, pv1, nv, .map none] w fun e w' => UpdR ro w' e ∧ Below w.heap.size w w')
    (hR : i ≠ 0 → i ≠ 4 → ro = none) :
    Calls Tryz.prog 223 #[vv, .slice (some ⟨b, o, none⟩) (n + 1) c, nv, .map none] w fun e w' => UpdR ro w' e ∧ Below w.heap.size w w' := by
  have H0 := Lib.hid h0
  have H6 := Lib.hid h6
  have HR := Lib.hid hR
  clear h0 h6 hR
  rcases hpv with ⟨rfl, rfl, rfl⟩ | ⟨hc1, rfl⟩
  all_goals
    cases hsh
    case nil =>
      have C := Lib.hid (H0.out rfl)
      go_enter Tryz.func223, Tryz.ntmps223
      go_wp2_with (go_at_call 224; refine (toInt_walk _ _).mono ?_; rintro e w' ⟨rfl, hw'⟩; obtain rfl := hw'.symm)
      refine C.out.mono ?_
      rintro e w1 ⟨hr, hb⟩
      rcases hr with ⟨r, u, rfl, rfl, hu⟩ | ⟨rfl, T, a, hT, rfl⟩
      · have HU := Lib.hid hu
        clear hu
        go_wp2_with fail
        go_ret2
        exact ⟨.inl ⟨r, u, rfl, rfl, HU.out⟩, hb⟩
      · go_wp2_with fail
        go_ret2
        exact ⟨.inr ⟨rfl, T, a, hT, rfl⟩, hb⟩
    case lst A n1 m1 =>
      have C := Lib.hid (H6.out A n1 m1 rfl)
      go_enter Tryz.func223, Tryz.ntmps223
      go_wp2_with (go_at_call 224; refine (toInt_walk _ _).mono ?_; rintro e w' ⟨rfl, hw'⟩; obtain rfl := hw'.symm)
      refine C.out.mono ?_
      rintro e w1 ⟨hr, hb⟩
      rcases hr with ⟨r, u, rfl, rfl, hu⟩ | ⟨rfl, T, a, hT, rfl⟩
      · have HU := Lib.hid hu
        clear hu
        go_wp2_with fail
        go_ret2
        exact ⟨.inl ⟨r, u, rfl, rfl, HU.out⟩, hb⟩
      · go_wp2_with fail
        go_ret2
        exact ⟨.inr ⟨rfl, T, a, hT, rfl⟩, hb⟩
    all_goals
      obtain rfl := HR.out (by decide) (by decide)
      have HB := Lib.hid (fun (z : Obj) => (Below.refl w.heap.size w).alloc (Nat.le_refl _) z)
      go_enter Tryz.func223, Tryz.ntmps223
      go_wp2_with (go_at_call 224; refine (toInt_walk _ _).mono ?_; rintro e w' ⟨rfl, hw'⟩; obtain rfl := hw'.symm)
      go_ret2
      exact ⟨.inr ⟨rfl, _, _, by first | exact .inl rfl | exact .inr rfl, rfl⟩, HB.out _⟩

end Go.Proofs.YtmjegeipnaalnaaGreatDoor

/- Setting at a path: every path of keys and small indices, every right value. -/
namespace Go.Proofs.YtmjegeipnaalnaaGreatDoor
open Go.RowKit

/-- The class of a kind. -/
def clsP (k : Int) : Nat := if k ≤ 1 then k.toNat else (k - 1).toNat
theorem PRep.shp {w : World} {lo B : Nat} {v : JV} {x : Value} (h : PRep w lo B v x) : Shp x (clsP v.kind) := by
  obtain ⟨k, hh, t, l, ks, vs⟩ := v
  unfold PRep at h
  simp only [JV.kind]
  rcases h with ⟨rfl, rfl⟩ | ⟨rfl, rfl⟩ | ⟨rfl, rfl⟩ | ⟨rfl, _, _, _, _, rfl⟩ | ⟨rfl, _, _, _, rfl⟩ | ⟨rfl, _, rfl⟩ | ⟨rfl, _, _, _, _, _, rfl, _⟩ | ⟨rfl, _, _, _, _, _, rfl, _⟩
  · exact .nil
  · exact .bool _
  · exact .bool _
  · exact .int _
  · exact .flo _
  · exact .str _
  · exact .lst _ _ _
  · exact .mp _
theorem prep_nil_kind {w : World} {lo B : Nat} {k h : Int} {t : ByteArray} {l vs : List JV} {ks : List ByteArray} (hp : PRep w lo B (.mk k h t l ks vs) .nilIface) : k = 0 := by
  unfold PRep at hp
  rcases hp with ⟨e, _⟩ | ⟨_, e⟩ | ⟨_, e⟩ | ⟨_, _, _, _, _, e⟩ | ⟨_, _, _, _, e⟩ | ⟨_, _, e⟩ | ⟨_, _, _, _, _, _, e, _⟩ | ⟨_, _, _, _, _, _, e, _⟩
  · exact e
  all_goals cases e
theorem prep_map_kind {w : World} {lo B : Nat} {k h : Int} {t : ByteArray} {l vs : List JV} {ks : List ByteArray} {m : Option Nat} (hp : PRep w lo B (.mk k h t l ks vs) (.iface 83 (.map m))) : k = 6 ∧ ∃ b, m = some b := by
  unfold PRep at hp
  rcases hp with ⟨_, e⟩ | ⟨_, e⟩ | ⟨_, e⟩ | ⟨_, _, _, _, _, e⟩ | ⟨_, _, _, _, e⟩ | ⟨_, _, e⟩ | ⟨_, _, _, _, _, _, e, _⟩ | ⟨e0, b, _, _, _, _, e, _⟩
  all_goals first
    | (cases e; done)
    | (refine ⟨e0, b, ?_⟩; simpa using e)
    | (exfalso; revert e; simp; done)
theorem prep_list_kind {w : World} {lo B : Nat} {k h : Int} {t : ByteArray} {l vs : List JV} {ks : List ByteArray} {A : Option Addr} {n m : Nat} (hp : PRep w lo B (.mk k h t l ks vs) (.iface 80 (.slice A n m))) :
    k = 5 ∧ n = l.length ∧ m = l.length ∧ ∃ b cs T, A = some ⟨b, 0, none⟩ ∧ b < B ∧ w.heap[b]? = some (.cells (List.toArray cs) T (0, 0)) ∧ PVals w lo B l cs := by
  unfold PRep at hp
  rcases hp with ⟨_, e⟩ | ⟨_, e⟩ | ⟨_, e⟩ | ⟨_, _, _, _, _, e⟩ | ⟨_, _, _, _, e⟩ | ⟨_, _, e⟩ | ⟨e0, b, cs, T, _, h1, e, h2, h3⟩ | ⟨_, _, _, _, _, _, e, _⟩
  all_goals first
    | (cases e; done)
    | (exfalso; revert e; simp; done)
    | skip
  have e2 : A = some ⟨b, 0, none⟩ ∧ n = l.length ∧ m = l.length := by simpa using e
  exact ⟨e0, e2.2.1, e2.2.2, b, cs, T, e2.1, h1, h2, h3⟩

theorem upd_all : ∀ p, UpdC p
  | [] => upd_nil
  | s :: p => by
    have ih := upd_all p
    intro x v nv vv pv w hx hv hg hf hp
    obtain ⟨A, c, rfl, h1, h2, h3⟩ := hp
    obtain ⟨b, o, rfl, hpa⟩ : ∃ b o, A = some ⟨b, o, none⟩ ∧ PathAt w w.heap.size (s :: p) b o := h3.resolve_left (by simp)
    unfold PathAt at hpa
    obtain ⟨hb, hok, hcell, htail⟩ := hpa
    have h1' : p.length + 1 ≤ c := by simpa using h1
    obtain ⟨pv1, hpv, hpv1⟩ : ∃ pv1, ((c = 1 ∧ p.length = 0 ∧ pv1 = .slice (some ⟨b, o, none⟩) 0 0) ∨ (c ≠ 1 ∧ pv1 = .slice (some ⟨b, o + 1, none⟩) p.length (c - 1))) ∧ PathV w p pv1 := by
      by_cases hc : c = 1
      · have hp0 : p = [] := List.length_eq_zero_iff.1 (by omega)
        subst hp0
        exact ⟨_, .inl ⟨hc, rfl, rfl⟩, some ⟨b, o, none⟩, 0, rfl, by simp, by omega, .inl rfl⟩
      · exact ⟨_, .inr ⟨hc, rfl⟩, some ⟨b, o + 1, none⟩, c - 1, rfl, by omega, by omega, .inr ⟨b, o + 1, rfl, htail⟩⟩
    have hshp := hv.shp
    obtain ⟨k, h, t, l, ks, vs⟩ := v
    obtain ⟨x1, x2, _, x4, x5, _, _, _, _, x10, _⟩ := hg.head
    cases s with
    | key key =>
      refine upd_key key pv1 nv vv b o p.length c w _ hshp h1' h2 hcell hpv _ (fun e => ?_) (fun m e => ?_) (fun hi0 hi5 => ?_)
      · subst e
        obtain rfl := prep_nil_kind hv
        obtain ⟨rfl, rfl⟩ := hg.bare (by decide)
        have : setT (.key key :: p) x (.mk 0 h t l [] []) = (setT p x nullT).map fun u => mapT (insK [] key) (insV [] [] key u) := by
          conv => lhs; unfold setT
          rw [if_pos (show (JV.mk 0 h t l [] []).kind = 0 ∨ (JV.mk 0 h t l [] []).kind = 6 from Or.inl rfl)]; rfl
        rw [this]
        exact updObj_nil p ih key x nv pv1 w hx hpv1
      · subst e
        obtain ⟨rfl, b2, rfl⟩ := prep_map_kind hv
        obtain rfl : l = [] := x5.resolve_left (by decide)
        exact updObj_map p ih key x ks vs h t nv pv1 b2 w hx hv hg hf hpv1
      · unfold setT
        rw [if_neg]
        show ¬ (k = 0 ∨ k = 6)
        simp only [JV.kind] at hi0 hi5
        unfold clsP at hi0 hi5
        rintro (e | e)
        · subst e; exact hi0 (by decide)
        · subst e; exact hi5 (by decide)
    | idx i =>
      have hi : i ≤ 100 := hok
      refine upd_idx i pv1 nv vv b o p.length c w _ hshp h1' h2 hcell hpv _ (fun e => ?_) (fun A2 n2 m2 e => ?_) (fun hi0 hi5 => ?_)
      · subst e
        obtain rfl := prep_nil_kind hv
        obtain rfl : l = [] := x5.resolve_left (by decide)
        have : setT (.idx i :: p) x (.mk 0 h t [] ks vs) = (setT p x nullT).map fun u => listT (setL [] i u) := by
          conv => lhs; unfold setT
          rw [if_pos (show (JV.mk 0 h t [] ks vs).kind = 0 ∨ (JV.mk 0 h t [] ks vs).kind = 5 from Or.inl rfl)]; rfl
        rw [this]
        exact updArr_nil p ih i hi x nv pv1 w hx hpv1
      · subst e
        obtain ⟨rfl, rfl, rfl, b2, cs, T, rfl, hb2, hblk, hvals⟩ := prep_list_kind hv
        have : setT (.idx i :: p) x (.mk 5 h t l ks vs) = (setT p x (l[i]?.getD nullT)).map fun u => listT (setL l i u) := by
          conv => lhs; unfold setT
          rw [if_pos (show (JV.mk 5 h t l ks vs).kind = 0 ∨ (JV.mk 5 h t l ks vs).kind = 5 from Or.inr rfl)]; rfl
        rw [this]
        have hf2 := hf
        unfold Few at hf2
        exact updArr_list p ih i hi x l nv pv1 b2 l.length cs T w hx hb2 hblk hvals x10 hf2.2.2.2.1 rfl hf2.1 hpv1
      · unfold setT
        rw [if_neg]
        show ¬ (k = 0 ∨ k = 5)
        simp only [JV.kind] at hi0 hi5
        unfold clsP at hi0 hi5
        rintro (e | e)
        · subst e; exact hi0 (by decide)
        · subst e; exact hi5 (by decide)
end Go.Proofs.YtmjegeipnaalnaaGreatDoor

/- Getting at a path, where it can be gone: the walks. -/
namespace Go.Proofs.YtmjegeipnaalnaaGreatDoor
open Go.RowKit

set_option maxRecDepth 100000 in
set_option maxHeartbeats 2000000 in
theorem index_walk (b n i : Nat) (cs : List Value) (T : TypeId) (w : World) (hn : cs.length = n) (hn1 : n ≤ 1001) (hi : i ≤ 100) (hb : w.heap[b]? = some (.cells (List.toArray cs) T (0, 0))) :
    Calls Tryz.prog 225 #[.slice (some ⟨b, 0, none⟩) n n, .int .i64 i] w fun e w' => e = .returned (cs[i]?.getD .nilIface) ∧ w' = w := by
  have HCL := Lib.hid (fun W => clamp_walk i n W (by omega) (by omega))
  have HN := Lib.hid hn
  by_cases h : i < n
  · have hic : i < cs.length := by omega
    rw [List.getElem?_eq_getElem hic]
    have hcell := cell_lst hb i hic
    rw [if_pos h] at HCL
    show Calls Tryz.prog 225 _ w fun e w' => e = .returned cs[i] ∧ w' = w
    generalize cs[i] = c at *
    clear hn
    go_enter Tryz.func225, Tryz.ntmps225
    go_wp2_with (go_at_call 272; refine (HCL.out _).mono ?_; rintro e w' ⟨rfl, hw'⟩; obtain rfl := hw'.symm)
    go_ret
    exact ⟨rfl, rfl⟩
  · rw [List.getElem?_eq_none (by omega)]
    rw [if_neg h] at HCL
    have h2 : n ≤ i := Nat.le_of_not_lt h
    clear hn h
    show Calls Tryz.prog 225 _ w fun e w' => e = .returned .nilIface ∧ w' = w
    go_enter Tryz.func225, Tryz.ntmps225
    go_wp2_with (go_at_call 272; refine (HCL.out _).mono ?_; rintro e w' ⟨rfl, hw'⟩; obtain rfl := hw'.symm)
    go_ret
    exact ⟨rfl, rfl⟩

theorem run_lookv_none {P : Program} {mty kt et : TypeId} {w : World} {r : Nat} {s : ByteArray} {es : Array MapEntry} {clock : Nat} {z : Value} (hm : P.underlying mty = some (.map kt et)) (hk : P.underlying kt = some .string) (hz : (zeroValue et).run P w = .ok z w) (hb : w.heap[r]? = some (.map es clock))
    (hf : Instr.findNow .string (.string s) es.toList 0 = some none) :
    (Instr.lookup mty (.map (some r)) (.string s) false).run P w = .ok z w := by
  have hc : ∀ e, (Instr.checkKey e 10000 kt (.string s)).run P w = .ok () w := fun e => MapKept.run_checkKey (k := .string s) hk (by simp [MapKept.IsKey]) e 9999
  simp [Instr.lookup, run_underlying hm, MapKept.run_getObj_map hb, hc, MapKept.run_findKey hk hf, hz, Result.andThen]
theorem run_lookv_some {P : Program} {mty kt et : TypeId} {w : World} {r : Nat} {s : ByteArray} {es : Array MapEntry} {clock : Nat} {j : Nat} {c : Value} (hm : P.underlying mty = some (.map kt et)) (hk : P.underlying kt = some .string) (hb : w.heap[r]? = some (.map es clock))
    (hf : Instr.findNow .string (.string s) es.toList 0 = some (some (j, c))) :
    (Instr.lookup mty (.map (some r)) (.string s) false).run P w = .ok c w := by
  have hc : ∀ e, (Instr.checkKey e 10000 kt (.string s)).run P w = .ok () w := fun e => MapKept.run_checkKey (k := .string s) hk (by simp [MapKept.IsKey]) e 9999
  simp [Instr.lookup, run_underlying hm, MapKept.run_getObj_map hb, hc, MapKept.run_findKey hk hf, Result.andThen]

/-- A map's block, out of what stands for it. -/
theorem prep_map {w : World} {lo B : Nat} {h : Int} {t : ByteArray} {l vs : List JV} {ks : List ByteArray} {x : Value} (hv : PRep w lo B (.mk 6 h t l ks vs) x) :
    ∃ b es clock, lo ≤ b ∧ b < B ∧ x = .iface 83 (.map (some b)) ∧ w.heap[b]? = some (.map (List.toArray es) clock) ∧ (∀ e ∈ es, e.born < clock) ∧ (es.map (·.born)).Nodup ∧ (∀ q ∈ prs es, ∃ k ∈ ks, q.1 = .string k) ∧ ((prs es).map (·.1)).Nodup ∧ PEnts w lo B vs ks (prs es) := by
  unfold PRep at hv
  rcases hv with ⟨e, _⟩ | ⟨e, _⟩ | ⟨e, _⟩ | ⟨e, _⟩ | ⟨e, _⟩ | ⟨e, _⟩ | ⟨e, _⟩ | ⟨_, b, es, clock, h0, h1, h2, h3, h4, h5, h6, h7, h8⟩
  all_goals first
    | (exfalso; revert e; decide)
    | exact ⟨b, es, clock, h0, h1, h2, h3, h4, h5, h6, h7, h8⟩
/-- What a map's look-up finds. -/
theorem lookv {w : World} {lo B : Nat} {ks : List ByteArray} {vs : List JV} {b clock : Nat} {es : List MapEntry} (k : ByteArray) (hr : Rising none ks) (hl : ks.length = vs.length) (hblk : w.heap[b]? = some (.map (List.toArray es) clock)) (hkin : ∀ q ∈ prs es, ∃ k ∈ ks, q.1 = .string k) (hkn : ((prs es).map (·.1)).Nodup) (hents : PEnts w lo B vs ks (prs es)) :
    ∃ c, (Instr.lookup 83 (.map (some b)) (.string k) false).run Tryz.prog w = .ok c w ∧ PRep w lo B ((getV ks vs k).getD nullT) c := by
  cases hgv : getV ks vs k with
  | none =>
    have hfn : Instr.findNow .string (.string k) es 0 = some none := by
      refine findNow_none es 0 fun e he => ?_
      obtain ⟨k2, hk2, h2⟩ := hkin (e.key, e.val) (List.mem_map.2 ⟨e, he, rfl⟩)
      refine ⟨k2, h2, fun e3 => ?_⟩
      obtain ⟨j, hj, e4⟩ := List.mem_iff_getElem.1 hk2
      have := getV_at (vs := vs) hr j hj (by omega)
      rw [e4, e3, hgv] at this
      cases this
    exact ⟨.nilIface, run_lookv_none (P := Tryz.prog) Tryz.underlying83 Tryz.underlying9 (by kernel_rfl) hblk (by simpa using hfn), prep_null w lo B⟩
  | some y =>
    obtain ⟨c, h3, h4⟩ := hents.get hgv
    obtain ⟨e, he, e2⟩ := List.mem_map.1 h3
    have hek : e.key = .string k := congrArg Prod.fst e2
    have hev : e.val = c := congrArg Prod.snd e2
    have hks : StrKeys es := fun e he => by
      obtain ⟨k2, _, h2⟩ := hkin (e.key, e.val) (List.mem_map.2 ⟨e, he, rfl⟩)
      exact ⟨k2, h2⟩
    obtain ⟨j, q, h5, h6, h7⟩ := findNow_some es 0 hks ⟨e, he, hek⟩
    have : q = e := inj_of_keys hkn (List.mem_of_getElem? h5) he (by rw [h6, hek])
    subst this
    exact ⟨c, run_lookv_some (P := Tryz.prog) (j := 0 + j) Tryz.underlying83 Tryz.underlying9 hblk (by rw [← hev]; simpa using h7), h4⟩

set_option maxRecDepth 100000 in
set_option maxHeartbeats 4000000 in
/-- One step down. -/
theorem index2_walk (s : Step) (hs : StepOk s) (v y : JV) (vv : Value) (w : World) (hv : PRep w 0 w.heap.size v vv) (hg : Good v) (hf : Few 1001 v) (hy : getT [s] v = some y) :
    Calls Tryz.prog 180 #[.nilIface, vv, SVal s] w fun e w' => ∃ u, e = .returned u ∧ PRep w 0 w.heap.size y u ∧ w' = w := by
  obtain ⟨k, h, t, l, ks, vs⟩ := v
  obtain ⟨_, _, _, x4, x5, _, _, _, x9, _, _⟩ := hg.head
  cases s with
  | key key =>
    unfold getT at hy
    split at hy
    · rename_i hk
      obtain rfl : atK (.mk k h t l ks vs) key = y := by unfold getT at hy; simpa using hy
      rcases hk with hk | hk
      · have hk' : k = 0 := hk
        subst hk'
        obtain ⟨rfl, rfl⟩ := hg.bare (by decide)
        have : vv = .nilIface := by
          unfold PRep at hv
          rcases hv with ⟨_, e⟩ | ⟨e, _⟩ | ⟨e, _⟩ | ⟨e, _⟩ | ⟨e, _⟩ | ⟨e, _⟩ | ⟨e, _⟩ | ⟨e, _⟩
          all_goals first
            | exact e
            | (exfalso; revert e; decide)
        subst this
        show Calls Tryz.prog 180 #[.nilIface, .nilIface, .iface 9 (.string key)] w _
        go_enter Tryz.func180, Tryz.ntmps180
        go_wp2_with fail
        go_ret
        exact ⟨_, rfl, prep_null w 0 _, rfl⟩
      · have hk' : k = 6 := hk
        subst hk'
        obtain ⟨b, es, clock, _, _, rfl, hblk, _, _, hkin, hkn, hents⟩ := prep_map hv
        obtain ⟨c, hlook, hc⟩ := lookv key x9 x4 hblk hkin hkn hents
        have HC := Lib.hid (show PRep w 0 w.heap.size (atK (.mk 6 h t l ks vs) key) c from hc)
        clear hv hg hf hy hkin hkn hents hc
        show Calls Tryz.prog 180 #[.nilIface, .iface 83 (.map (some b)), .iface 9 (.string key)] w _
        go_enter Tryz.func180, Tryz.ntmps180
        go_wp2_with fail
        go_ret
        exact ⟨_, rfl, HC.out, rfl⟩
    · cases hy
  | idx i =>
    have hi : i ≤ 100 := hs
    unfold getT at hy
    split at hy
    · rename_i hk
      obtain rfl : atI (.mk k h t l ks vs) i = y := by unfold getT at hy; simpa using hy
      rcases hk with hk | hk
      · have hk' : k = 0 := hk
        subst hk'
        obtain rfl : l = [] := x5.resolve_left (by decide)
        have : vv = .nilIface := by
          unfold PRep at hv
          rcases hv with ⟨_, e⟩ | ⟨e, _⟩ | ⟨e, _⟩ | ⟨e, _⟩ | ⟨e, _⟩ | ⟨e, _⟩ | ⟨e, _⟩ | ⟨e, _⟩
          all_goals first
            | exact e
            | (exfalso; revert e; decide)
        subst this
        show Calls Tryz.prog 180 #[.nilIface, .nilIface, .iface 3 (.int .i64 i)] w _
        go_enter Tryz.func180, Tryz.ntmps180
        go_wp2_with (go_at_call 224; refine (toInt_walk _ _).mono ?_; rintro e w' ⟨rfl, hw'⟩; obtain rfl := hw'.symm)
        go_ret
        exact ⟨_, rfl, by show PRep _ 0 _ nullT .nilIface; exact prep_null _ 0 _, rfl⟩
      · have hk' : k = 5 := hk
        subst hk'
        obtain ⟨b, cs, T, rfl, hblk, hvals⟩ : ∃ b cs T, vv = .iface 80 (.slice (some ⟨b, 0, none⟩) l.length l.length) ∧ w.heap[b]? = some (.cells (List.toArray cs) T (0, 0)) ∧ PVals w 0 w.heap.size l cs := by
          unfold PRep at hv
          rcases hv with ⟨e, _⟩ | ⟨e, _⟩ | ⟨e, _⟩ | ⟨e, _⟩ | ⟨e, _⟩ | ⟨e, _⟩ | ⟨_, b, cs, T, _, _, e, h2, h3⟩ | ⟨e, _⟩
          all_goals first
            | exact ⟨b, cs, T, e, h2, h3⟩
            | (exfalso; revert e; decide)
        have hl1 : l.length ≤ 1001 := by unfold Few at hf; exact hf.1
        have C := Lib.hid (index_walk b l.length i cs T w hvals.length hl1 hi hblk)
        have HC := Lib.hid (show PRep w 0 w.heap.size (atI (.mk 5 h t l ks vs) i) (cs[i]?.getD .nilIface) from by
          show PRep w 0 w.heap.size (l[i]?.getD nullT) _
          have hle := hvals.length
          by_cases hil : i < l.length
          · rw [List.getElem?_eq_getElem hil, List.getElem?_eq_getElem (by omega)]
            exact hvals.get i hil (by omega)
          · rw [List.getElem?_eq_none (by omega), List.getElem?_eq_none (by omega)]
            exact prep_null w 0 _)
        generalize cs[i]?.getD .nilIface = c at *
        generalize l.length = n at *
        clear hv hg hf hy hvals
        show Calls Tryz.prog 180 #[.nilIface, .iface 80 (.slice (some ⟨b, 0, none⟩) n n), .iface 3 (.int .i64 i)] w _
        go_enter Tryz.func180, Tryz.ntmps180
        go_wp2_with (first
          | (go_at_call 224; refine (toInt_walk _ _).mono ?_; rintro e w' ⟨rfl, hw'⟩; obtain rfl := hw'.symm)
          | (go_at_call 225; refine C.out.mono ?_; rintro e w' ⟨rfl, hw'⟩; obtain rfl := hw'.symm))
        go_ret
        exact ⟨_, rfl, HC.out, rfl⟩
    · cases hy
end Go.Proofs.YtmjegeipnaalnaaGreatDoor
