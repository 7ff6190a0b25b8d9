/- What the specification's containment computes, on our trees. -/
import Derived.Test.YtmjegeipnaalnaaGreatDoorRep
import Derived.Test.YtmjegeipnaalnaaGreatDoorFind
namespace Go.Proofs.YtmjegeipnaalnaaGreatDoor

/-- The value beside a key, if the key is there. -/
def getV : List ByteArray → List JV → ByteArray → Option JV
  | k :: ks, v :: vs, x => if k.toList == x.toList then some v else getV ks vs x
  | _, _, _ => none

mutual
/-- a holds b. The second tree is the one that is gone down. -/
def holdsV : JV → JV → Bool
  | .mk k h t l ks vs, .mk k' h' t' l' ks' vs' =>
    if k ≠ k' then false
    else if k = 4 then decide (0 ≤ findB t t')
    else if k = 5 then holdsL l l'
    else if k = 6 then holdsM ks vs ks' vs'
    else h == h'
/-- Every element of the second list is held by one of the first. -/
def holdsL (l : List JV) : List JV → Bool
  | [] => true
  | y :: r => l.any (fun x => holdsV x y) && holdsL l r
/-- Every entry of the second map is held by the first map's entry of that key. -/
def holdsM (ks : List ByteArray) (vs : List JV) : List ByteArray → List JV → Bool
  | k :: r, y :: s => (match getV ks vs k with | some x => holdsV x y | none => false) && holdsM ks vs r s
  | _, _ => true
end
end Go.Proofs.YtmjegeipnaalnaaGreatDoor
