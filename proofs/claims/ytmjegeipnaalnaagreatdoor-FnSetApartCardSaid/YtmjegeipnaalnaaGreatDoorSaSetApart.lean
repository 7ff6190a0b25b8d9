/- FnSetApart: its walk, whatever its arguments are: it returns true, and nothing below its heap is changed. -/
import Derived.Test.YtmjegeipnaalnaaGreatDoorSaApN
import Derived.Test.YtmjegeipnaalnaaGreatDoorSaApY
namespace Go.Proofs.YtmjegeipnaalnaaGreatDoor
open Go.RowKit

theorem SetApart_walk (v : JV) (p q : List JV) (x y : JV) (vx : Value) (P1 P2 : Option Addr) (n1 n2 m1 m2 : Nat) (x0 x1 x2 x3 x4 x5 y0 y1 y2 y3 y4 y5 : Value) (w : World) (hv : JVal w w.heap.size v vx)
    (hp : SlOf p.length 104 (JCells w w.heap.size p) (.slice P1 n1 m1)) (hq : SlOf q.length 104 (JCells w w.heap.size q) (.slice P2 n2 m2)) (hx : JRep w w.heap.size x [x0, x1, x2, x3, x4, x5]) (hy : JRep w w.heap.size y [y0, y1, y2, y3, y4, y5]) (hT : Tabs w) :
    Calls Tryz.prog 6 #[vx, .agg #[.slice P1 n1 m1, .slice P2 n2 m2], .agg #[x0, x1, x2, x3, x4, x5, y0, y1, y2, y3, y4, y5]] w fun e w' => e = .returned (.bool true) ∧ Below w.heap.size w w' := by
  by_cases hgo : goesB v p q x y
  · exact SetApart_yes v p q x y vx P1 P2 n1 n2 m1 m2 x0 x1 x2 x3 x4 x5 y0 y1 y2 y3 y4 y5 w hv hp hq hx hy hT hgo
  · exact SetApart_no v p q x y vx P1 P2 n1 n2 m1 m2 x0 x1 x2 x3 x4 x5 y0 y1 y2 y3 y4 y5 w hv hp hq hx hy hT hgo
end Go.Proofs.YtmjegeipnaalnaaGreatDoor
