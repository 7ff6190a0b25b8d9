/- What the four rows' closings share: the two tables of unicode/utf8 out of a row's list, and the arguments read again behind a call. No function of the program starts a goroutine: so no row's call does. FnGroups: the card's last closed cells. What the four cards' closings share: closed facts of the program, each of its own. -/
import Derived.Test.YtmjegeipnaalnaaGreatDoorGrRep
import Derived.Test.YtmjegeipnaalnaaGreatDoorRows
import Derived.Test.YtmjegeipnaalnaaGreatDoorTie
import Derived.Test.YtmjegeipnaalnaaGreatDoorCards
import Derived.Ground.NamesProg
import Derived.WalkKit
import Derived.ProofKit
import Derived.PinnedBridge
import Derived.Lay
import Derived.LaidMore
import Derived.SevenTiedAt
import Derived.Carry

/- What the four rows' closings share: the two tables of unicode/utf8 out of a row's list, and the arguments read again behind a call. -/
namespace Go.Proofs.YtmjegeipnaalnaaGreatDoor
open Go.RowKit Go.ChangeShapes Go.WideShapes Go.Lib

theorem gFirst : Tryz.prog.globalNamed "unicode/utf8.first" = some 1 := by kernel_rfl
theorem gAccept : Tryz.prog.globalNamed "unicode/utf8.acceptRanges" = some 2 := by kernel_rfl
theorem tyFirst : (Tryz.prog.globals[1]?).map (·.type) = some 248 := by kernel_rfl
theorem tyAccept : (Tryz.prog.globals[2]?).map (·.type) = some 251 := by kernel_rfl
theorem cells5 : Tryz.prog.cellsOf 5 = 1 := by kernel_rfl
theorem cells248 : Tryz.prog.cellsOf 248 = 256 := by kernel_rfl
theorem cells250 : Tryz.prog.cellsOf 250 = 2 := by kernel_rfl

theorem tabs_of_reads {w : World} (h3 : VarReads Tryz.prog w "unicode/utf8.first" firstData) (h4 : VarReads Tryz.prog w "unicode/utf8.acceptRanges" acceptData) : Tabs w := by
  refine ⟨fun c hc => ?_, fun i hi => ?_⟩
  · obtain ⟨g, t, cs, fuel, p, hg, hty, hvar, hd⟩ := h3
    obtain rfl := Option.some.inj (gFirst.symm.trans hg)
    obtain rfl := Option.some.inj (tyFirst.symm.trans hty)
    have hcs := cells_of_tab Tryz.underlying248 Tryz.underlying5 cells5 cells248 hd
    have := World.var?_cell hg hvar c
    rw [this, ← Array.getElem?_toList, hcs]
    simp [firstTab, hc]
  · obtain ⟨g, t, cs, fuel, p, hg, hty, hvar, hd⟩ := h4
    obtain rfl := Option.some.inj (gAccept.symm.trans hg)
    obtain rfl := Option.some.inj (tyAccept.symm.trans hty)
    obtain ⟨fuel', d, q, hdi, he⟩ := array_elem Tryz.underlying251 hd i hi
    simp only [List.getElem?_map, List.getElem?_range hi, Option.map_some, Option.some.injEq] at hdi
    subst hdi
    rw [cells250] at he
    have hcs := ints_of_struct Tryz.underlying250 (fun j f hj => by
      match j, hj with
      | 0, hj => simp at hj; subst hj; exact ⟨Tryz.underlying5, rfl, cells5⟩
      | 1, hj => simp at hj; subst hj; exact ⟨Tryz.underlying5, rfl, cells5⟩
      | j + 2, hj => simp at hj) (by rw [cells250]; rfl) he
    have e0 := congrArg (·[0]?) hcs
    have e1 := congrArg (·[1]?) hcs
    simp only [List.getElem?_take, List.getElem?_drop] at e0 e1
    constructor
    · rw [World.var?_cell hg hvar (2 * i), ← Array.getElem?_toList]
      simpa [Nat.mul_comm] using e0
    · rw [World.var?_cell hg hvar (2 * i + 1), ← Array.getElem?_toList]
      simpa [Nat.mul_comm] using e1

theorem accept_eq : (Rows.laid_unicode_utf8_acceptRanges : DataW Unit) = acceptData := by kernel_rfl

theorem laidOut : laidOutB Tryz.prog = true := by kernel_rfl
theorem readable26 : Tryz.prog.readableRec 26 = true := by kernel_rfl
theorem rowed26 : 26 < Tryz.prog.types.size := of_decide_eq_true (by kernel_rfl)
theorem own : ownKnob Tryz.prog.godebug = none := by kernel_rfl

/-- The zero of the thin package's value type: the witness's argument. -/
def zeroArg : Value := .agg #[.int .i64 0, .int .i64 0, .string ⟨#[]⟩, .slice none 0 0, .slice none 0 0, .slice none 0 0]
end Go.Proofs.YtmjegeipnaalnaaGreatDoor

/- No function of the program starts a goroutine: so no row's call does. -/
namespace Go.Proofs.YtmjegeipnaalnaaGreatDoor

theorem goes_none {P : Program} (h : P.funcs.any Func.goes = false) (f : FuncId) : P.goes f = false := by
  have hg : ∀ g : FuncId, (P.funcs[g]?).any Func.goes = false := by
    intro g
    cases hc : P.funcs[g]? with
    | none => rfl
    | some fn =>
      have hm : fn ∈ P.funcs := Array.mem_of_getElem? hc
      have := Array.any_eq_false'.1 h fn hm
      simpa using this
  unfold Program.goes
  rw [h, Bool.and_false, Bool.or_false, List.any_eq_false]
  intro g _
  rw [hg g]
  decide
theorem goesBy_none {P : Program} (h : P.funcs.any Func.goes = false) (c : OpenClaim) : false = c.goesBy P := by
  unfold OpenClaim.goesBy Program.goesAt Program.goesFrom
  have h1 : (P.funcNamed c.func).any P.goes = false := by
    cases P.funcNamed c.func with
    | none => rfl
    | some f => exact goes_none h f
  rw [h1]
  have h2 : P.inits.toList.any P.goes = false := by
    rw [List.any_eq_false]
    intro f _
    rw [goes_none h f]
    decide
  cases c.start <;> simp [h2]
theorem prog_noGo : Tryz.prog.funcs.any Func.goes = false := by kernel_rfl
end Go.Proofs.YtmjegeipnaalnaaGreatDoor

/- FnGroups: the card's last closed cells. -/
namespace Go.Proofs.YtmjegeipnaalnaaGreatDoor
theorem fnGroups_goes : false = Rows.fnGroupsRow.goesBy Tryz.prog := goesBy_none prog_noGo _
theorem fnGroups_wf : Rows.fnGroupsRow.wfByText (OpenSpec.ofChange Rows.fnGroupsSpec) = true := by kernel_rfl
end Go.Proofs.YtmjegeipnaalnaaGreatDoor

/- What the four cards' closings share: closed facts of the program, each of its own. -/
namespace Go.Proofs.YtmjegeipnaalnaaGreatDoor
open Go.RowKit Go.ChangeShapes Go.WideShapes Go.Lib

theorem prog_looks : true = Tryz.prog.looks [] := by kernel_rfl
theorem prog_main : Tryz.prog.mainIs = some (true, "fc857ea83164b0b35f05852fd2b286e091e6e2f6ce43fe72f9fbf7356506d65e".toList) := by kernel_rfl
theorem noStand26 : Tryz.prog.wantsStandIn 26 = false := by kernel_rfl
theorem named3 : Tryz.prog.funcNamed "pub-strainer/laws.FnContains" = some 3 := by kernel_rfl
theorem named4 : Tryz.prog.funcNamed "pub-strainer/laws.FnGroups" = some 4 := by kernel_rfl
theorem named5 : Tryz.prog.funcNamed "pub-strainer/laws.FnModRest" = some 5 := by kernel_rfl
theorem named6 : Tryz.prog.funcNamed "pub-strainer/laws.FnSetApart" = some 6 := by kernel_rfl
end Go.Proofs.YtmjegeipnaalnaaGreatDoor
