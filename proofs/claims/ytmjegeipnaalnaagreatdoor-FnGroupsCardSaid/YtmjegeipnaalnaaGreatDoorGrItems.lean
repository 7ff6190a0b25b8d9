/- The package's sort of items: the row of items, in the stable order of their keys: the walk. sort_by: the values in the stable order of their keys: the walk. -/
import Derived.Test.YtmjegeipnaalnaaGreatDoorGrStab0
import Derived.Test.YtmjegeipnaalnaaGreatDoorGrFroM

/- The package's sort of items: the row of items, in the stable order of their keys: the walk. -/
namespace Go.Proofs.YtmjegeipnaalnaaGreatDoor
open Go.RowKit Go.Sort

/-- A value of Go's type any. -/
def AnyV (x : Value) : Prop := x = .nilIface ∨ ∃ T u, x = .iface T u
theorem box1 {w : World} {k : Nat} {a0 : Value} {T : TypeId} {fr : Nat × Nat} (h : w.heap[k]? = some (.cells #[a0] T fr)) : w.cell? ⟨k, 0, none⟩ = some a0 := by simp [World.cell?, h]
/-- The places in order. -/
def idArr (n : Nat) : Array Nat := Array.range n
/-- The places in the stable order of their keys. -/
def sortA (kt : Nat → JV) (n : Nat) : Array Nat := stableF (itemLt kt) (idArr n)

theorem make_ptr (n : Nat) (hn : n ≤ 1000000000) (w : World) :
    (Instr.makeSlice 140 (.int .i64 n) (.int .i64 n)).run Tryz.prog w = .ok (.slice (some ⟨w.heap.size, 0, none⟩) n n) (w.alloc (.cells (Array.replicate n (Value.pointer none)) 143)) := by
  obtain ⟨i, hi, hz, hs, hb⟩ : ∃ i, Tryz.prog.info? 143 = some i ∧ i.zero = some (.pointer none) ∧ i.size = 1 ∧ i.bytes = 8 := ⟨Tryz.t143, by kernel_rfl, by kernel_rfl, by kernel_rfl, by kernel_rfl⟩
  have h := run_make (P := Tryz.prog) w 140 143 i (.pointer none) (by kernel_rfl) hi hz .i64 .i64 n n (by omega) (by omega) (by rw [hb]; omega) (by omega)
  have e : madeCells (Value.pointer none).cells (((n : Int).toNat) * i.size) = Array.replicate n (Value.pointer none) := by
    rw [hs]
    apply Array.ext
    · simp [madeCells]
    · intro k h1 h2
      simp [madeCells, Value.cells, Nat.mod_one]
  rw [h, e, Int.toNat_natCast]

set_option maxRecDepth 100000 in
set_option maxHeartbeats 8000000 in
theorem items_walk (nm : ByteArray) (n bv bk : Nat) (Kt : List JV) (cv ck : List Value) (Tv Tk : TypeId) (w : World) (hlk : Kt.length = n) (hnv : cv.length = n) (hn : n ≤ 1000000) (hbv : bv < w.heap.size) (hbk : bk < w.heap.size)
    (hSV : ∀ j, j < n → AnyV (cv.getD j .nilIface)) (hcv : w.heap[bv]? = some (.cells (List.toArray cv) Tv (0, 0))) (hck : w.heap[bk]? = some (.cells (List.toArray ck) Tk (0, 0))) (hK : GVals w 0 w.heap.size Kt ck) (hG : GoodL Kt) (hS : ShortL Kt) :
    Calls Tryz.prog 142 #[.string nm, .iface 80 (.slice (some ⟨bv, 0, none⟩) n n), .iface 80 (.slice (some ⟨bk, 0, none⟩) n n)] w fun e w' => ∃ blk bx pb, e = .returned (.tuple #[.slice (some ⟨blk, 0, none⟩) n n, .nilIface]) ∧ w.heap.size ≤ blk ∧
      RowI n blk bx pb (fun i => cv.getD i .nilIface) (fun i => ck.getD i .nilIface) (fun i => Kt.getD i nullT) (sortA (fun i => Kt.getD i nullT) n) w' ∧ Below w.heap.size w w' := by
  have hnk : ck.length = n := by rw [hK.length]; exact hlk
  have hSK : ∀ j, j < n → AnyV (ck.getD j .nilIface) := fun j hj => by
    have h1 : j < ck.length := by omega
    have := (hK.get j (by omega) h1).shape
    rw [List.getD_eq_getElem?_getD, List.getElem?_eq_getElem h1]
    exact this
  have HG := Lib.hid (show ∀ i, i < n → Good (Kt.getD i nullT) ∧ Short (Kt.getD i nullT) from fun i hi => by
    have h1 : i < Kt.length := by omega
    rw [List.getD_eq_getElem?_getD, List.getElem?_eq_getElem h1]
    exact ⟨hG.get _ (List.getElem_mem h1), hS.get _ (List.getElem_mem h1)⟩)
  have HKEY := Lib.hid (show ∀ i, i < n → GRep w 0 w.heap.size (Kt.getD i nullT) (ck.getD i .nilIface) from fun i hi => by
    have h1 : i < Kt.length := by omega
    have h2 : i < ck.length := by omega
    rw [List.getD_eq_getElem?_getD, List.getElem?_eq_getElem h1, List.getD_eq_getElem?_getD, List.getElem?_eq_getElem h2]
    exact hK.get i h1 h2)
  clear hK hG hS hlk
  have hmk := make_ptr n (by omega) w
  have hnn : ((n : Int) != n) = false := by simp
  have hrow := heap_alloc_old (w.alloc (.cells (Array.replicate n (Value.pointer none)) 143)) (.cells #[.slice (some ⟨w.heap.size, 0, none⟩) n n] 140) (r := w.heap.size) (by simp)
  rw [heap_alloc_new] at hrow
  have hbox := heap_alloc_new (w.alloc (.cells (Array.replicate n (Value.pointer none)) 143)) (.cells #[.slice (some ⟨w.heap.size, 0, none⟩) n n] 140)
  have hB := ((Below.refl w.heap.size w).alloc (Nat.le_refl _) (.cells (Array.replicate n (Value.pointer none)) 143)).alloc (by simp) (.cells #[.slice (some ⟨w.heap.size, 0, none⟩) n n] 140)
  have hsz : ((w.alloc (.cells (Array.replicate n (Value.pointer none)) 143)).alloc (.cells #[.slice (some ⟨w.heap.size, 0, none⟩) n n] 140)).heap.size = w.heap.size + 2 := by simp
  rw [show (w.alloc (.cells (Array.replicate n (Value.pointer none)) 143)).heap.size = w.heap.size + 1 by simp] at hbox
  have HNV := Lib.hid hnv
  have HNK := Lib.hid hnk
  have HCV := Lib.hid hcv
  have HCK := Lib.hid hck
  clear hnv hnk hcv hck
  go_enter Tryz.func142, Tryz.ntmps142
  go_upto_region 12 with (fail)
  generalize ((w.alloc (.cells (Array.replicate n (Value.pointer none)) 143)).alloc (.cells #[.slice (some ⟨w.heap.size, 0, none⟩) n n] 140)) = w0 at *
  have HSZ := Lib.hid hsz
  clear hmk hnn hsz
  go_wp2_with fail
  go_loopw [66] (fun vi wr => ∃ j : Nat, vi = .int .i64 j ∧ j ≤ n ∧ wr.heap[w.heap.size]? = some (.cells ((List.range j).map (itemV fun i => w.heap.size + 2 + i) ++ List.replicate (n - j) (Value.pointer none)).toArray 143 (0, 0)) ∧
    wr.heap[w.heap.size + 1]? = some (.cells #[.slice (some ⟨w.heap.size, 0, none⟩) n n] 140 (0, 0)) ∧ (∀ i, i < j → wr.heap[w.heap.size + 2 + i]? = some (.cells #[cv.getD i .nilIface, ck.getD i .nilIface] 146 (0, 0))) ∧ Below w.heap.size w wr ∧ wr.heap.size = w.heap.size + 2 + j) (fun vi _ => n - (intOf vi).toNat)
  case atStart => exact ⟨0, rfl, Nat.zero_le _, by simpa using hrow, hbox, fun i h => absurd h (by omega), hB, HSZ.out⟩
  case round =>
    obtain ⟨j, rfl, hj, hcl, hbx, hit, hbr, hszr⟩ := hrel
    obtain ⟨wo, rfl⟩ : ∃ wo, wo = wr := ⟨_, rfl⟩
    by_cases hjn : j < n
    · have hjv : j < cv.length := by rw [HNV.out]; exact hjn
      have hjk : j < ck.length := by rw [HNK.out]; exact hjn
      have c1 : wo.cell? ⟨bv, j, none⟩ = some (cv.getD j .nilIface) := by
        have := (hbr.block bv hbv).trans HCV.out
        simp [World.cell?, this, hjv]
      have c2 : wo.cell? ⟨bk, j, none⟩ = some (ck.getD j .nilIface) := by
        have := (hbr.block bk hbk).trans HCK.out
        simp [World.cell?, this, hjk]
      have c3 := box1 hbx
      have HCL := Lib.hid hcl
      have HBX := Lib.hid hbx
      have HIT := Lib.hid hit
      have HSR := Lib.hid hszr
      clear hcl hbx hit hszr
      have hsv := hSV j hjn
      have hsk := hSK j hjn
      obtain ⟨vj, hvj⟩ : ∃ v, cv.getD j .nilIface = v := ⟨_, rfl⟩
      obtain ⟨kj, hkj⟩ : ∃ v, ck.getD j .nilIface = v := ⟨_, rfl⟩
      rw [hvj] at c1 hsv
      rw [hkj] at c2 hsk
      have HVJ := Lib.hid hvj
      have HKJ := Lib.hid hkj
      clear hvj hkj
      go_upto_region 15 with (fail)
      have hltb : bk < wo.heap.size := Nat.lt_of_lt_of_le hbk hbr.size
      have hltx : w.heap.size + 1 < wo.heap.size := by have := HSR.out; omega
      have hneb : bk ≠ w.heap.size := by omega
      have hl0 : ((List.range j).map (itemV fun i => w.heap.size + 2 + i)).length = j := by simp
      have h1 := nth_zero (z := Value.pointer none) hl0 hjn
      have HSS := Lib.hid (show ∀ (o : Obj), (wo.alloc o).drew.cell? ⟨w.heap.size, j, none⟩ = some (.pointer none) ∧ (wo.alloc o).drew.frozen? ⟨w.heap.size, j, none⟩ = false from fun o => by
        have h2 : (wo.alloc o).drew.heap[w.heap.size]? = _ := (heap_alloc_old wo o (r := w.heap.size) (by omega)).trans HCL.out
        exact ⟨by simp only [World.cell?, h2]; simpa using h1, by simp [World.frozen?, h2]⟩)
      have HS := Lib.hid (fun (W : World) (h1 : W.heap[w.heap.size + 1]? = wo.heap[w.heap.size + 1]?) (h2 : W.heap[bk]? = wo.heap[bk]?) => (⟨by simp only [World.cell?, h1] at c3 ⊢; exact c3, by simp only [World.cell?, h2] at c2 ⊢; exact c2⟩ : W.cell? ⟨w.heap.size + 1, 0, none⟩ = some (.slice (some ⟨w.heap.size, 0, none⟩) n n) ∧ W.cell? ⟨bk, j, none⟩ = some kj))
      have HF := Lib.hid (show ∃ j' : Nat, Value.int .i64 ((j : Int) + 1) = .int .i64 j' ∧ j' ≤ n ∧ (((wo.alloc (.cells #[vj, kj] 146)).setCell ⟨w.heap.size, j, none⟩ (.pointer (some ⟨wo.heap.size, 0, none⟩))).drew).heap[w.heap.size]? = some (.cells ((List.range j').map (itemV fun i => w.heap.size + 2 + i) ++ List.replicate (n - j') (Value.pointer none)).toArray 143 (0, 0)) ∧
    (((wo.alloc (.cells #[vj, kj] 146)).setCell ⟨w.heap.size, j, none⟩ (.pointer (some ⟨wo.heap.size, 0, none⟩))).drew).heap[w.heap.size + 1]? = some (.cells #[.slice (some ⟨w.heap.size, 0, none⟩) n n] 140 (0, 0)) ∧ (∀ i, i < j' → (((wo.alloc (.cells #[vj, kj] 146)).setCell ⟨w.heap.size, j, none⟩ (.pointer (some ⟨wo.heap.size, 0, none⟩))).drew).heap[w.heap.size + 2 + i]? = some (.cells #[cv.getD i .nilIface, ck.getD i .nilIface] 146 (0, 0))) ∧ Below w.heap.size w (((wo.alloc (.cells #[vj, kj] 146)).setCell ⟨w.heap.size, j, none⟩ (.pointer (some ⟨wo.heap.size, 0, none⟩))).drew) ∧ (((wo.alloc (.cells #[vj, kj] 146)).setCell ⟨w.heap.size, j, none⟩ (.pointer (some ⟨wo.heap.size, 0, none⟩))).drew).heap.size = w.heap.size + 2 + j' from by
        have a1 : (wo.alloc (.cells #[vj, kj] 146)).heap[w.heap.size]? = _ := (heap_alloc_old wo (.cells #[vj, kj] 146) (r := w.heap.size) (by omega)).trans HCL.out
        have hset := heap_setCell_same (wo.alloc (.cells #[vj, kj] 146)) w.heap.size j _ 143 (.pointer (some ⟨wo.heap.size, 0, none⟩)) a1
        rw [set_nth hl0 hjn] at hset
        have hoth : ∀ k, k ≠ w.heap.size → ((wo.alloc (.cells #[vj, kj] 146)).setCell ⟨w.heap.size, j, none⟩ (.pointer (some ⟨wo.heap.size, 0, none⟩))).heap[k]? = (wo.alloc (.cells #[vj, kj] 146)).heap[k]? := fun k hk => Below.heap_setCell _ _ _ _ (by simpa using hk)
        have hnew := heap_alloc_new wo (.cells #[vj, kj] 146)
        refine ⟨j + 1, congrArg (Value.int .i64) (by omega), by omega, ?_, ?_, ?_, ((hbr.alloc (by omega) _).setCell (Nat.le_refl _) _).drew, ?_⟩
        · refine hset.trans ?_
          rw [List.range_succ, List.map_append, HSR.out]
          rfl
        · exact (hoth _ (by omega)).trans ((heap_alloc_old wo _ hltx).trans HBX.out)
        · intro i hi
          rcases Nat.lt_or_ge i j with h | h
          · exact (hoth _ (by omega)).trans ((heap_alloc_old wo _ (by have := HSR.out; omega)).trans (HIT.out i h))
          · obtain rfl : i = j := by omega
            rw [HVJ.out, HKJ.out, ← HSR.out]
            exact (hoth _ (by omega)).trans hnew
        · show ((wo.alloc _).setCell _ _).heap.size = _
          simp [World.setCell]
          have := HSR.out
          omega)
      clear c2 c3 c1 h1 hl0
      rcases hsv with rfl | ⟨T1, u1, rfl⟩ <;> rcases hsk with rfl | ⟨T2, u2, rfl⟩
      · obtain ⟨hc3, hf3⟩ := HSS.out (.cells #[.nilIface, .nilIface] 146)
        go_region_held3 (fun w' => w'.cell? ⟨w.heap.size + 1, 0, none⟩ = some (.slice (some ⟨w.heap.size, 0, none⟩) n n) ∧ w'.cell? ⟨bk, j, none⟩ = some (.nilIface))
          (first
            | exact HS.out _ (Below.heap_alloc _ _ _ hltx) (Below.heap_alloc _ _ _ hltb)
            | exact HS.out _ ((Below.heap_setCell _ ⟨w.heap.size, j, none⟩ _ _ (by simp)).trans (Below.heap_alloc _ _ _ hltx)) ((Below.heap_setCell _ ⟨w.heap.size, j, none⟩ _ _ hneb).trans (Below.heap_alloc _ _ _ hltb))
            | exact HS.out _ rfl rfl)
          (first
            | fail)
        go_wp2_with fail
        exact ⟨HF.out, by simp [intOf]; omega⟩
      · obtain ⟨hc3, hf3⟩ := HSS.out (.cells #[.nilIface, .iface T2 u2] 146)
        go_region_held3 (fun w' => w'.cell? ⟨w.heap.size + 1, 0, none⟩ = some (.slice (some ⟨w.heap.size, 0, none⟩) n n) ∧ w'.cell? ⟨bk, j, none⟩ = some (.iface T2 u2))
          (first
            | exact HS.out _ (Below.heap_alloc _ _ _ hltx) (Below.heap_alloc _ _ _ hltb)
            | exact HS.out _ ((Below.heap_setCell _ ⟨w.heap.size, j, none⟩ _ _ (by simp)).trans (Below.heap_alloc _ _ _ hltx)) ((Below.heap_setCell _ ⟨w.heap.size, j, none⟩ _ _ hneb).trans (Below.heap_alloc _ _ _ hltb))
            | exact HS.out _ rfl rfl)
          (first
            | fail)
        go_wp2_with fail
        exact ⟨HF.out, by simp [intOf]; omega⟩
      · obtain ⟨hc3, hf3⟩ := HSS.out (.cells #[.iface T1 u1, .nilIface] 146)
        go_region_held3 (fun w' => w'.cell? ⟨w.heap.size + 1, 0, none⟩ = some (.slice (some ⟨w.heap.size, 0, none⟩) n n) ∧ w'.cell? ⟨bk, j, none⟩ = some (.nilIface))
          (first
            | exact HS.out _ (Below.heap_alloc _ _ _ hltx) (Below.heap_alloc _ _ _ hltb)
            | exact HS.out _ ((Below.heap_setCell _ ⟨w.heap.size, j, none⟩ _ _ (by simp)).trans (Below.heap_alloc _ _ _ hltx)) ((Below.heap_setCell _ ⟨w.heap.size, j, none⟩ _ _ hneb).trans (Below.heap_alloc _ _ _ hltb))
            | exact HS.out _ rfl rfl)
          (first
            | fail)
        go_wp2_with fail
        exact ⟨HF.out, by simp [intOf]; omega⟩
      · obtain ⟨hc3, hf3⟩ := HSS.out (.cells #[.iface T1 u1, .iface T2 u2] 146)
        go_region_held3 (fun w' => w'.cell? ⟨w.heap.size + 1, 0, none⟩ = some (.slice (some ⟨w.heap.size, 0, none⟩) n n) ∧ w'.cell? ⟨bk, j, none⟩ = some (.iface T2 u2))
          (first
            | exact HS.out _ (Below.heap_alloc _ _ _ hltx) (Below.heap_alloc _ _ _ hltb)
            | exact HS.out _ ((Below.heap_setCell _ ⟨w.heap.size, j, none⟩ _ _ (by simp)).trans (Below.heap_alloc _ _ _ hltx)) ((Below.heap_setCell _ ⟨w.heap.size, j, none⟩ _ _ hneb).trans (Below.heap_alloc _ _ _ hltb))
            | exact HS.out _ rfl rfl)
          (first
            | fail)
        go_wp2_with fail
        exact ⟨HF.out, by simp [intOf]; omega⟩
    · obtain rfl : j = n := by omega
      have c3 := box1 hbx
      have hlt : w.heap.size < wo.heap.size := by omega
      have hrow : RowI j w.heap.size (w.heap.size + 1) (fun i => w.heap.size + 2 + i) (fun i => cv.getD i .nilIface) (fun i => ck.getD i .nilIface) (fun i => Kt.getD i nullT) (idArr j) wo := by
        refine ⟨by simp [idArr], fun i hi => ?_, fun i hi => ?_, hlt, by omega, by omega, c3, fun i hi => by omega, hit, fun i hi => GRep.mono (fun k _ hk => hbr.block k hk) (Nat.le_refl _) (Nat.le_refl _) _ _ (HKEY.out i hi)⟩
        · unfold idArr
          rw [getElem!_pos _ i (by simpa using hi)]
          simpa using hi
        · have hi2 : i < j := by simpa [idArr] using hi
          have e : (idArr j)[i]! = i := by
            unfold idArr
            rw [getElem!_pos _ i (by simpa using hi2)]
            simp
          rw [e, Nat.zero_add]
          constructor
          · simp only [World.cell?, hcl]
            simp [hi2]
          · simp [World.frozen?, hcl]
      have C := Lib.hid (sliceStable_walk hrow HG.out (by omega))
      clear hcl hbx hit hszr hrow
      go_wp2_with fail
      refine C.out.mono ?_
      rintro e w3 ⟨rfl, hR3, hM3⟩
      have c4 := hR3.box
      have HR3 := Lib.hid hR3
      have HB3 := Lib.hid (hbr.trans (hM3.below (Nat.le_refl _) (by omega)))
      clear hR3 hM3 c3
      go_wp2_with fail
      go_ret2
      exact ⟨w.heap.size, w.heap.size + 1, fun i => w.heap.size + 2 + i, rfl, Nat.le_refl _, HR3.out, HB3.out⟩
end Go.Proofs.YtmjegeipnaalnaaGreatDoor

/- sort_by: the values in the stable order of their keys: the walk. -/
namespace Go.Proofs.YtmjegeipnaalnaaGreatDoor
open Go.RowKit Go.Sort

/-- All places are places. -/
def InB (n : Nat) (l : List Nat) : Prop := l.length = n ∧ ∀ i ∈ l, i < n
theorem inB_of {S : Array Nat} {n : Nat} (hs : S.size = n) (h : ∀ j, j < n → S[j]! < n) : InB n S.toList := ⟨by simpa using hs, fun i hi => by
  obtain ⟨k, hk, rfl⟩ := List.mem_iff_getElem.1 hi
  have hk2 : k < S.size := by simpa using hk
  have := h k (by omega)
  rw [getElem!_pos S k hk2] at this
  simpa using this⟩

theorem take_at {S : Array Nat} {j n : Nat} (hs : S.size = n) (hj : j < n) : S.toList.take (j + 1) = S.toList.take j ++ [S[j]!] := by
  have h : j < S.toList.length := by simpa [hs] using hj
  rw [List.take_succ_eq_append_getElem h, getElem!_pos S j (by omega)]
  simp

set_option maxRecDepth 100000 in
set_option maxHeartbeats 8000000 in
theorem sortBy_walk (nm : ByteArray) (n bv bk : Nat) (Kt : List JV) (cv ck : List Value) (Tv Tk : TypeId) (w : World) (hlk : Kt.length = n) (hnv : cv.length = n) (hn : n ≤ 1000000) (hbv : bv < w.heap.size) (hbk : bk < w.heap.size)
    (hSV : ∀ j, j < n → AnyV (cv.getD j .nilIface)) (hcv : w.heap[bv]? = some (.cells (List.toArray cv) Tv (0, 0))) (hck : w.heap[bk]? = some (.cells (List.toArray ck) Tk (0, 0))) (hK : GVals w 0 w.heap.size Kt ck) (hG : GoodL Kt) (hS : ShortL Kt) :
    Calls Tryz.prog 144 #[.string nm, .iface 80 (.slice (some ⟨bv, 0, none⟩) n n), .iface 80 (.slice (some ⟨bk, 0, none⟩) n n)] w fun e w' => ∃ g, e = .returned (.iface 80 (.slice (some ⟨g, 0, none⟩) n n)) ∧ w.heap.size ≤ g ∧ g < w'.heap.size ∧
      w'.heap[g]? = some (.cells ((sortA (fun i => Kt.getD i nullT) n).toList.map fun i => cv.getD i .nilIface).toArray 20 (0, 0)) ∧ InB n (sortA (fun i => Kt.getD i nullT) n).toList ∧ Below w.heap.size w w' := by
  have C := Lib.hid (items_walk nm n bv bk Kt cv ck Tv Tk w hlk hnv hn hbv hbk hSV hcv hck hK hG hS)
  clear hlk hnv hcv hck hK hG hS
  generalize sortA (fun i => Kt.getD i nullT) n = S at *
  go_enter Tryz.func144, Tryz.ntmps144
  go_wp2_with fail
  refine C.out.mono ?_
  rintro e w1 ⟨blk, bx, pb, rfl, hge, hR, hb1⟩
  have HR := Lib.hid hR
  have hlow := hR.low
  have hmk := make_any n (by omega) w1
  have hN := heap_alloc_new w1 (.cells (Array.replicate n Value.nilIface) 20)
  have hB := hb1.alloc hb1.size (.cells (Array.replicate n Value.nilIface) 20)
  have hold : ∀ k, k < w1.heap.size → (w1.alloc (.cells (Array.replicate n Value.nilIface) 20)).heap[k]? = w1.heap[k]? := fun k hk => heap_alloc_old w1 _ hk
  have hsz : w1.heap.size + 1 ≤ (w1.alloc (.cells (Array.replicate n Value.nilIface) 20)).heap.size := by simp
  have hs1 := hb1.size
  clear hR hb1 C
  go_wp2_with fail
  generalize w1.alloc (.cells (Array.replicate n Value.nilIface) 20) = w2 at *
  clear hmk
  go_loopw [27] (fun vi wr => ∃ j : Nat, vi = .int .i64 j ∧ j ≤ n ∧ wr.heap[w1.heap.size]? = some (.cells ((S.toList.take j).map (fun i => cv.getD i .nilIface) ++ List.replicate (n - j) Value.nilIface).toArray 20 (0, 0)) ∧ (∀ k, k ≠ w1.heap.size → wr.heap[k]? = w2.heap[k]?) ∧ Below w.heap.size w wr ∧ w1.heap.size + 1 ≤ wr.heap.size) (fun vi _ => n - (intOf vi).toNat)
  case atStart => exact ⟨0, rfl, Nat.zero_le _, by simpa using hN, fun _ _ => rfl, hB, hsz⟩
  case round =>
    obtain ⟨j, rfl, hj, hcl, hoth, hbr, hszr⟩ := hrel
    obtain ⟨wo, rfl⟩ : ∃ wo, wo = wr := ⟨_, rfl⟩
    by_cases hjn : j < n
    · have hkeep : ∀ k, k < w1.heap.size → wo.heap[k]? = w1.heap[k]? := fun k hk => (hoth k (by omega)).trans (hold k hk)
      have hc1 : wo.cell? ⟨blk, j, none⟩ = some (.pointer (some ⟨pb S[j]!, 0, none⟩)) := by
        have := (HR.out.holds j (by rw [HR.out.size]; exact hjn)).1
        rw [Nat.zero_add] at this
        simp only [World.cell?, hkeep blk hlow] at this ⊢
        exact this
      have hx := HR.out.lt j hjn
      have hit := HR.out.item _ hx
      obtain ⟨hc2, _⟩ := box2' ((hkeep _ (heap_lt hit)).trans hit)
      have hTK := take_at HR.out.size hjn
      have hav := hSV _ hx
      have hl0 : ((S.toList.take j).map fun i => cv.getD i .nilIface).length = j := by have := HR.out.size; simp; omega
      have hc3 : wo.cell? ⟨w1.heap.size, j, none⟩ = some .nilIface := by
        have := nth_zero (z := Value.nilIface) hl0 hjn
        simp only [World.cell?, hcl]
        simpa using this
      have hf3 : wo.frozen? ⟨w1.heap.size, j, none⟩ = false := by simp [World.frozen?, hcl]
      have hmk2 : (S.toList.take (j + 1)).map (fun i => cv.getD i .nilIface) = (S.toList.take j).map (fun i => cv.getD i .nilIface) ++ [cv.getD S[j]! .nilIface] := by rw [hTK, List.map_append]; rfl
      generalize cv.getD S[j]! .nilIface = vx at *
      have hset := heap_setCell_same wo w1.heap.size j _ 20 vx hcl
      rw [set_nth hl0 hjn, ← hmk2] at hset
      have hoth2 : ∀ k, k ≠ w1.heap.size → (wo.setCell ⟨w1.heap.size, j, none⟩ vx).heap[k]? = w2.heap[k]? := fun k hk => (Below.heap_setCell _ _ _ _ (by simpa using hk)).trans (hoth k hk)
      have hszf : (wo.setCell ⟨w1.heap.size, j, none⟩ vx).heap.size = wo.heap.size := by simp [World.setCell]
      have HF := Lib.hid (show _ ∧ _ ∧ _ from ⟨hset, hoth2, hszf⟩)
      clear hset hoth2 hszf hmk2 hTK hl0 hcl hoth hkeep hit hx
      generalize pb S[j]! = px at *
      rcases hav with rfl | ⟨T1, u1, rfl⟩
      all_goals
        go_wp2_with fail
        exact ⟨⟨j + 1, by go_num, by omega, HF.out.1, HF.out.2.1, hbr.setCell hs1 _, by rw [HF.out.2.2]; exact hszr⟩, by simp [intOf]; omega⟩
    · obtain rfl : j = n := by omega
      have hsS := HR.out.size
      rw [List.take_of_length_le (by simp; omega)] at hcl
      have HCL := Lib.hid hcl
      clear hcl hoth hsS
      go_wp2_with fail
      go_ret
      exact ⟨w1.heap.size, rfl, hs1, by omega, by simpa using HCL.out, inB_of HR.out.size HR.out.lt, hbr⟩
end Go.Proofs.YtmjegeipnaalnaaGreatDoor
