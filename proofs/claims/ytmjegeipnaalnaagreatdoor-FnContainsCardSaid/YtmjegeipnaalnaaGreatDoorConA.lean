/- The program's containment, for all right values: it answers as the specification does, or (kinds differ) with an error. -/
import Derived.Test.YtmjegeipnaalnaaGreatDoorConM
namespace Go.Proofs.YtmjegeipnaalnaaGreatDoor
open Go.RowKit

theorem enters133 : Enters 133 := fun args w => Go.Proofs.enters_of Tryz.func133 (by kernel_rfl) rfl args w
theorem enters134 : Enters 134 := fun args w => Go.Proofs.enters_of Tryz.func134 (by kernel_rfl) rfl args w
theorem enters137 : Enters 137 := fun args w => Go.Proofs.enters_of Tryz.func137 (by kernel_rfl) rfl args w
theorem enters139 : Enters 139 := fun args w => Go.Proofs.enters_of Tryz.func139 (by kernel_rfl) rfl args w
theorem enters140 : Enters 140 := fun args w => Go.Proofs.enters_of Tryz.func140 (by kernel_rfl) rfl args w
theorem enters141 : Enters 141 := fun args w => Go.Proofs.enters_of Tryz.func141 (by kernel_rfl) rfl args w

set_option maxRecDepth 100000 in
theorem con_door (l r : Value) (w : World) (R : Value → World → Prop)
    (h : Calls Tryz.prog 132 #[l, r, .func (.func 133) #[] #[], .func (.func 134) #[] #[], .func (.func 135) #[] #[], .func (.func 137) #[] #[], .func (.func 139) #[] #[], .func (.func 140) #[] #[], .func (.func 141) #[] #[]] w fun e w' => ∃ v, e = .returned v ∧ R v w') :
    Calls Tryz.prog 84 #[l, r] w fun e w' => ∃ v, e = .returned v ∧ R v w' := by
  have C := Lib.hid h
  clear h
  go_enter Tryz.func84, Tryz.ntmps84
  go_wp2_with fail
  refine C.out.mono ?_
  rintro e w1 ⟨v, rfl, hr⟩
  go_wp2_with fail
  go_ret
  exact ⟨_, rfl, hr⟩

/-- The class of a kind. -/
def cls (k : Int) : Nat := if k ≤ 1 then k.toNat else (k - 1).toNat
theorem GRep.shp {w : World} {lo B : Nat} {v : JV} {x : Value} (h : GRep w lo B v x) : Shp x (cls v.kind) := by
  obtain ⟨k, hh, t, l, ks, vs⟩ := v
  unfold GRep at h
  simp only [JV.kind]
  rcases h with ⟨rfl, rfl⟩ | ⟨rfl, rfl⟩ | ⟨rfl, rfl⟩ | ⟨rfl, _, _, _, _, rfl⟩ | ⟨rfl, _, _, _, rfl⟩ | ⟨rfl, _, rfl⟩ | ⟨rfl, _, _, _, _, _, rfl, _⟩ | ⟨rfl, _, _, _, _, rfl, _⟩
  · exact .nil
  · exact .bool _
  · exact .bool _
  · exact .int _
  · exact .flo _
  · exact .str _
  · exact .lst _ _ _
  · exact .mp _

theorem grep_num {w : World} {lo B : Nat} {h : Int} {t : ByteArray} {l vs : List JV} {ks : List ByteArray} {x : Value} (hg : GRep w lo B (.mk 3 h t l ks vs) x) :
    (∃ n, h = 2 * n ∧ -9007199254740992 ≤ n ∧ n ≤ 9007199254740992 ∧ x = .iface 3 (.int .i64 n)) ∨ (h % 2 = 1 ∧ -9007199254740992 < h ∧ h < 9007199254740992 ∧ x = .iface 79 (.float .f64 (halfBits h))) := by
  unfold GRep at hg
  simpa using hg
theorem grep_text {w : World} {lo B : Nat} {h : Int} {t : ByteArray} {l vs : List JV} {ks : List ByteArray} {x : Value} (hg : GRep w lo B (.mk 4 h t l ks vs) x) : t.size ≤ 140737488351232 ∧ x = .iface 9 (.string t) := by
  unfold GRep at hg
  simpa using hg
theorem grep_list {w : World} {lo B : Nat} {h : Int} {t : ByteArray} {l vs : List JV} {ks : List ByteArray} {x : Value} (hg : GRep w lo B (.mk 5 h t l ks vs) x) :
    ∃ b cs T, b < B ∧ x = .iface 80 (.slice (some ⟨b, 0, none⟩) l.length l.length) ∧ l.length ≤ 9000000000000 ∧ w.heap[b]? = some (.cells (List.toArray cs) T (0, 0)) ∧ GVals w lo B l cs := by
  unfold GRep at hg
  rcases hg with ⟨e, _⟩ | ⟨e, _⟩ | ⟨e, _⟩ | ⟨e, _⟩ | ⟨e, _⟩ | ⟨e, _⟩ | ⟨_, b, cs, T, _, h1, h2, h3, h4, h5⟩ | ⟨e, _⟩
  all_goals first
    | exact ⟨b, cs, T, h1, h2, h3, h4, h5⟩
    | (exfalso; revert e; decide)
theorem grep_map {w : World} {lo B : Nat} {h : Int} {t : ByteArray} {l vs : List JV} {ks : List ByteArray} {x : Value} (hg : GRep w lo B (.mk 6 h t l ks vs) x) :
    ∃ b es, b < B ∧ x = .iface 83 (.map (some b)) ∧ w.heap[b]? = some (.map (List.toArray es) es.length) ∧ es.length ≤ 9000000000000 ∧ es.map (·.key) = ks.map Value.string ∧ es.map (·.born) = List.range es.length ∧ GVals w lo B vs (es.map (·.val)) := by
  unfold GRep at hg
  rcases hg with ⟨e, _⟩ | ⟨e, _⟩ | ⟨e, _⟩ | ⟨e, _⟩ | ⟨e, _⟩ | ⟨e, _⟩ | ⟨e, _⟩ | ⟨_, b, es, _, h1, h2, h3, h4, h5, h6, h7⟩
  all_goals first
    | exact ⟨b, es, h1, h2, h3, h4, h5, h6, h7⟩
    | (exfalso; revert e; decide)
theorem grep_plain {w : World} {lo B : Nat} {k h : Int} {t : ByteArray} {l vs : List JV} {ks : List ByteArray} {x : Value} (hg : GRep w lo B (.mk k h t l ks vs) x) (hk : k ≤ 2) :
    (k = 0 ∧ x = .nilIface) ∨ (k = 1 ∧ x = .iface 4 (.bool false)) ∨ (k = 2 ∧ x = .iface 4 (.bool true)) := by
  unfold GRep at hg
  rcases hg with e | e | e | ⟨e, _⟩ | ⟨e, _⟩ | ⟨e, _⟩ | ⟨e, _⟩ | ⟨e, _⟩
  · exact .inl e
  · exact .inr (.inl e)
  · exact .inr (.inr e)
  all_goals (exfalso; omega)

theorem kind_of_cls {k k' : Int} (h0 : 0 ≤ k) (h0' : 0 ≤ k') (h : cls k = cls k') : k = k' ∨ (k = 1 ∧ k' = 2) ∨ (k = 2 ∧ k' = 1) := by
  unfold cls at h
  split at h <;> split at h <;> omega

theorem plain_same {k : Int} {l r : Value} (h : (k = 0 ∧ l = .nilIface) ∨ (k = 1 ∧ l = .iface 4 (.bool false)) ∨ (k = 2 ∧ l = .iface 4 (.bool true))) (h' : (k = 0 ∧ r = .nilIface) ∨ (k = 1 ∧ r = .iface 4 (.bool false)) ∨ (k = 2 ∧ r = .iface 4 (.bool true))) :
    l = r ∧ (l = .nilIface ∨ ∃ b, l = .iface 4 (.bool b)) := by
  rcases h with ⟨e, rfl⟩ | ⟨e, rfl⟩ | ⟨e, rfl⟩ <;> rcases h' with ⟨e', rfl⟩ | ⟨e', rfl⟩ | ⟨e', rfl⟩
  all_goals first
    | (exfalso; omega)
    | exact ⟨rfl, .inl rfl⟩
    | exact ⟨rfl, .inr ⟨_, rfl⟩⟩

set_option maxRecDepth 10000 in
theorem con_all : ∀ y, ConC y := by
  refine JV.ind fun k' h' t' l' ks' vs' ihl ihv => ?_
  intro x lv rv w hx hy gx gy
  obtain ⟨k, h, t, l, ks, vs⟩ := x
  obtain ⟨x1, x2, x3, x4, x5, x6, x7, x8, x9, x10, x11⟩ := gx.head
  obtain ⟨y1, y2, y3, y4, y5, y6, y7, y8, y9, y10, y11⟩ := gy.head
  refine con_door lv rv w (fun v w' => Ans (.mk k h t l ks vs) (.mk k' h' t' l' ks' vs') v ∧ Below w.heap.size w w') ?_
  by_cases hc : cls k = cls k'
  · rcases kind_of_cls x1 y1 hc with rfl | ⟨rfl, rfl⟩ | ⟨rfl, rfl⟩
    · by_cases h2 : k ≤ 2
      · have hv : holdsV (.mk k h t l ks vs) (.mk k h' t' l' ks' vs') = true := by
          rw [holdsV_rest (by omega) (by omega) (by omega), x3.resolve_left (by omega), y3.resolve_left (by omega)]; rfl
        refine sw_fall 141 enters141 lv rv _ _ hx.shp hy.shp (.inr (by simp only [JV.kind]; unfold cls; split <;> omega)) _ _ _ _ _ _ w _ ?_
        have hsame : lv = rv ∧ (lv = .nilIface ∨ ∃ b, lv = .iface 4 (.bool b)) := plain_same (grep_plain hx h2) (grep_plain hy h2)
        obtain ⟨rfl, rfl | ⟨b, rfl⟩⟩ := hsame
        · refine (con_nil w).mono ?_
          rintro e w' ⟨v, rfl, rfl, rfl⟩
          exact ⟨_, rfl, .inl (by rw [hv]), Below.refl _ _⟩
        · refine (con_bool b b w).mono ?_
          rintro e w' ⟨v, rfl, (⟨_, rfl⟩ | ⟨hne, _⟩), hb⟩
          · exact ⟨_, rfl, .inl (by rw [hv]), hb⟩
          · exact absurd rfl hne
      · by_cases h3 : k = 3
        · subst h3
          have hv : holdsV (.mk 3 h t l ks vs) (.mk 3 h' t' l' ks' vs') = (h == h') := holdsV_rest (by decide) (by decide) (by decide)
          rcases grep_num hx with ⟨n, e1, e2, e3, rfl⟩ | ⟨e1, e2, e3, rfl⟩ <;> rcases grep_num hy with ⟨n', f1, f2, f3, rfl⟩ | ⟨f1, f2, f3, rfl⟩
          · refine sw_ii 133 enters133 n n' _ _ _ _ _ _ w _ ((con_int n n' w).mono ?_)
            rintro e w' ⟨v, rfl, rfl, rfl⟩
            refine ⟨_, rfl, .inl ?_, Below.refl _ _⟩
            have : (h == h') = (n == n') := by rw [Bool.eq_iff_iff]; simp only [beq_iff_eq]; omega
            rw [hv, this]
          · obtain ⟨i, hi⟩ := half_int n e2 e3
            obtain ⟨_, j, hj, hh⟩ := half_odd h' (by omega) f2 f3
            have ho := order_half hi hh (by omega)
            refine sw_if 134 enters134 n _ _ _ _ _ _ _ w _ ((con_flo _ _ _ ho w).mono ?_)
            rintro e w' ⟨v, rfl, rfl, rfl⟩
            refine ⟨_, rfl, .inl ?_, Below.refl _ _⟩
            rw [hv, e1]
          · obtain ⟨i, hi⟩ := half_int n' f2 f3
            obtain ⟨_, j, hj, hh⟩ := half_odd h (by omega) e2 e3
            have ho := order_half hh hi (by omega)
            refine sw_fi 134 enters134 _ n' _ _ _ _ _ _ w _ ((con_flo _ _ _ ho w).mono ?_)
            rintro e w' ⟨v, rfl, rfl, rfl⟩
            refine ⟨_, rfl, .inl ?_, Below.refl _ _⟩
            rw [hv, f1]
          · obtain ⟨_, j, hj, hh⟩ := half_odd h (by omega) e2 e3
            obtain ⟨_, j2, hj2, hh2⟩ := half_odd h' (by omega) f2 f3
            have ho := order_half hh hh2 (by omega)
            refine sw_ff 134 enters134 _ _ _ _ _ _ _ _ w _ ((con_flo _ _ _ ho w).mono ?_)
            rintro e w' ⟨v, rfl, rfl, rfl⟩
            refine ⟨_, rfl, .inl ?_, Below.refl _ _⟩
            rw [hv]
        · by_cases h4 : k = 4
          · subst h4
            obtain ⟨e1, rfl⟩ := grep_text hx
            obtain ⟨f1, rfl⟩ := grep_text hy
            refine sw_ss 137 enters137 t t' _ _ _ _ _ _ w _ ((con_str t t' e1 f1 w).mono ?_)
            rintro e w' ⟨v, rfl, rfl, rfl⟩
            exact ⟨_, rfl, .inl (by rw [holdsV_text]), Below.refl _ _⟩
          · by_cases h5 : k = 5
            · subst h5
              obtain ⟨b, cs, T, a1, rfl, a2, a3, a4⟩ := grep_list hx
              obtain ⟨b', cs', T', a1', rfl, a2', a3', a4'⟩ := grep_list hy
              refine sw_ll 139 enters139 _ _ _ _ _ _ _ _ _ _ _ _ w _ ((con_list l l' ihl x10 y10 b b' _ _ cs cs' T T' w rfl rfl a2 a2' a1 a1' a3 a3' a4 a4').mono ?_)
              rintro e w' ⟨v, rfl, rfl, hb⟩
              exact ⟨_, rfl, .inl (by rw [holdsV_list]), hb⟩
            · have h6 : k = 6 := by omega
              subst h6
              obtain ⟨b, es, a1, rfl, a2, a3, a4, a5, a6⟩ := grep_map hx
              obtain ⟨b', es', a1', rfl, a2', a3', a4', a5', a6'⟩ := grep_map hy
              refine sw_mm 140 enters140 _ _ _ _ _ _ _ _ w _ ((con_map ks ks' vs vs' ihv x11 y11 x4 y4 y9 b b' es es' w a3 a3' a1 a1' a2 a2' a4 a4' a5' a6 a6').mono ?_)
              rintro e w' ⟨v, rfl, rfl, hb⟩
              exact ⟨_, rfl, .inl (by rw [holdsV_map]), hb⟩
    · refine sw_fall 141 enters141 lv rv _ _ hx.shp hy.shp (.inr (by simp only [JV.kind]; decide)) _ _ _ _ _ _ w _ ?_
      have el : lv = .iface 4 (.bool false) := by rcases grep_plain hx (by decide) with ⟨e, _⟩ | ⟨_, e⟩ | ⟨e, _⟩ <;> first | exact e | cases e
      have er : rv = .iface 4 (.bool true) := by rcases grep_plain hy (by decide) with ⟨e, _⟩ | ⟨e, _⟩ | ⟨_, e⟩ <;> first | exact e | cases e
      rw [el, er]
      refine (con_bool false true w).mono ?_
      rintro e w' ⟨v, rfl, (⟨hh, _⟩ | ⟨_, p, rfl⟩), hb⟩
      · cases hh
      · exact ⟨_, rfl, .inr ⟨holdsV_ne (by decide), by simp only [JV.kind]; decide, p, rfl⟩, hb⟩
    · refine sw_fall 141 enters141 lv rv _ _ hx.shp hy.shp (.inr (by simp only [JV.kind]; decide)) _ _ _ _ _ _ w _ ?_
      have el : lv = .iface 4 (.bool true) := by rcases grep_plain hx (by decide) with ⟨e, _⟩ | ⟨e, _⟩ | ⟨_, e⟩ <;> first | exact e | cases e
      have er : rv = .iface 4 (.bool false) := by rcases grep_plain hy (by decide) with ⟨e, _⟩ | ⟨_, e⟩ | ⟨e, _⟩ <;> first | exact e | cases e
      rw [el, er]
      refine (con_bool true false w).mono ?_
      rintro e w' ⟨v, rfl, (⟨hh, _⟩ | ⟨_, p, rfl⟩), hb⟩
      · cases hh
      · exact ⟨_, rfl, .inr ⟨holdsV_ne (by decide), by simp only [JV.kind]; decide, p, rfl⟩, hb⟩
  · have hne : k ≠ k' := fun e => hc (by rw [e])
    refine sw_fall 141 enters141 lv rv _ _ hx.shp hy.shp (.inl hc) _ _ _ _ _ _ w _ ((con_fall lv rv _ _ hx.shp hy.shp hc w).mono ?_)
    rintro e w' ⟨v, rfl, ⟨p, rfl⟩, hb⟩
    exact ⟨_, rfl, .inr ⟨holdsV_ne hne, hne, p, rfl⟩, hb⟩
end Go.Proofs.YtmjegeipnaalnaaGreatDoor
