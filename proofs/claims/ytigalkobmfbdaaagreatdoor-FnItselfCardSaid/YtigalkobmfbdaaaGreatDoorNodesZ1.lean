/- How many nodes a pattern has, and the small guards of the statements: nodes, Nodes, zzFits1, first, written. -/
import Derived.Test.YtigalkobmfbdaaaGreatDoorGoodZ1
import Derived.Test.YtigalkobmfbdaaaGreatDoorExt2Z1
set_option linter.unusedVariables false
set_option linter.unusedSimpArgs false
namespace Go.Proofs.YtigalkobmfbdaaaGreatDoor
open Go.RowKit
mutual
/-- How deep, and what is left of a number. -/
def nodesF : Tree → Int → Int × Int
  | .mk _ _ ks, n => ((nodesL ks (0, n - 1)).1 + 1, (nodesL ks (0, n - 1)).2)
def nodesL : List Tree → Int × Int → Int × Int
  | [], s => s
  | t :: ts, s => if s.2 ≤ 0 then s else nodesL ts (max s.1 (nodesF t s.2).1, (nodesF t s.2).2)
end
def nodesOf (t : Tree) : Int × Int := (1000 - (nodesF t 1000).2, (nodesF t 1000).1)
mutual
def first : Tree → Bool
  | .mk k _ ks => if k.toList == [79, 114] then firstAll ks else decide (0 < (fields k).length)
def firstAll : List Tree → Bool
  | [] => true
  | t :: ts => first t && firstAll ts
end
def written (t : Tree) : Bool := decide ((nodesOf t).1 ≤ 60) && decide ((nodesOf t).2 ≤ 10) && good t 97
end Go.Proofs.YtigalkobmfbdaaaGreatDoor
