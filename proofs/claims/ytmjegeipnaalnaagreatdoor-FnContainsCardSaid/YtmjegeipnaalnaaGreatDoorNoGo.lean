/- No function of the program starts a goroutine: so no row's call does. -/
import Derived.Test.YtmjegeipnaalnaaGreatDoorClose
namespace Go.Proofs.YtmjegeipnaalnaaGreatDoor

theorem goes_none {P : Program} (h : P.funcs.any Func.goes = false) (f : FuncId) : P.goes f = false := by
  have hg : ∀ g : FuncId, (P.funcs[g]?).any Func.goes = false := by
    intro g
    cases hc : P.funcs[g]? with
    | none => rfl
    | some fn =>
      have hm : fn ∈ P.funcs := Array.mem_of_getElem? hc
      have := Array.any_eq_false'.1 h fn hm
      simpa using this
  unfold Program.goes
  rw [h, Bool.and_false, Bool.or_false, List.any_eq_false]
  intro g _
  rw [hg g]
  decide
theorem goesBy_none {P : Program} (h : P.funcs.any Func.goes = false) (c : OpenClaim) : false = c.goesBy P := by
  unfold OpenClaim.goesBy Program.goesAt Program.goesFrom
  have h1 : (P.funcNamed c.func).any P.goes = false := by
    cases P.funcNamed c.func with
    | none => rfl
    | some f => exact goes_none h f
  rw [h1]
  have h2 : P.inits.toList.any P.goes = false := by
    rw [List.any_eq_false]
    intro f _
    rw [goes_none h f]
    decide
  cases c.start <;> simp [h2]
theorem prog_noGo : Tryz.prog.funcs.any Func.goes = false := by kernel_rfl
end Go.Proofs.YtmjegeipnaalnaaGreatDoor
