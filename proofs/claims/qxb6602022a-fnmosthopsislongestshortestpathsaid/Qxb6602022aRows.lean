/-
  No cell of these rows narrows 'for every input' (looked for: loops, veiled, ifaces, maps, wideKeys, modest, calm, conditions, laid).
  DERIVED. THE GIVEN ROWS OF THIS SEAT. 5 by the template 'for every input the law returns true; each argument reads behind the call as it read before'; 0 by the template 'total and deterministic' (their statements: Qxb6602022aTotals.lean).
  GIVEN WITH THE SEED: the statements are not yours to turn. If you find one false, say at which input.
  Laid BY PROGRAM, IN A SANDBOX (cutbox-rows.mjs): the forced cells as the released guide's own fill.sh prints them over the translation bee3403f4281e1e6… (all of the seat's roots in one cut). By AI agents, Wed Nov 11 2026. No macro, syntax, notation, axiom, sorry.
-/
import Derived.Test.Qxb6602022aChecked
import GoSem.Claim
import GoSem.ClaimJoined
import GoSem.ClaimMapViews
import Derived.JoinedTies
import Derived.KernelRfl
namespace Go.Proofs.Qxb6602022a
/- THE CELL 'sum', in the pinned program and in every row, IS THE sha256 OF THE DUMP (.gsa) THAT Qxb6602022aProg.lean LOADS. Nothing in Lean hashes anything: it is a label: what it is worth is what the hold of that sum in a sandbox is worth. -/
noncomputable def Try.pinned : Pinned := { name := "qxb6602022a", sum := "bee3403f4281e1e6606c28c6468622996f173eb653b4b10c5bc94db1a63eefd5", checked := Try.checked }
namespace Rows
def none {H : Type} : Left H := { results := [], args := [] }

/-- 'zzlaws_internal_wan_b1.FnMostPeersIsLargestDegree': WHATEVER THE INPUT: true; the input reads as it did. -/
def fnMostPeersIsLargestDegreeSpec : ChangeSpec := { name := "fnMostPeersIsLargestDegree", fn := fun _ => fun
  | [d] => { results := [.lit (.bool true)], args := [d] }
  | _ => none }
def fnMostPeersIsLargestDegreeRow : OpenClaim := { program := "qxb6602022a", sum := "bee3403f4281e1e6606c28c6468622996f173eb653b4b10c5bc94db1a63eefd5", func := "example.com/stakeweave/stakeweave/zzlaws_internal_wan_b1.FnMostPeersIsLargestDegree", spec := "fnMostPeersIsLargestDegree", apart := false }
def FnMostPeersIsLargestDegreeSaid : Prop := fnMostPeersIsLargestDegreeRow.holds Try.pinned (OpenSpec.ofChange fnMostPeersIsLargestDegreeSpec)

/-- ITS FALSE NEIGHBOUR: 'it returns false'. Refute it at one input. -/
def fnMostPeersIsLargestDegreeWrong : ChangeSpec := { name := "fnMostPeersIsLargestDegree", fn := fun _ => fun
  | [d] => { results := [.lit (.bool false)], args := [d] }
  | _ => none }
def FnMostPeersIsLargestDegreeWrongFalsely : Prop := fnMostPeersIsLargestDegreeRow.holds Try.pinned (OpenSpec.ofChange fnMostPeersIsLargestDegreeWrong)

/-- 'zzlaws_internal_wan_b1.FnMostPeersAddedNodeTakesMax': WHATEVER THE INPUT: true; the input reads as it did. -/
def fnMostPeersAddedNodeTakesMaxSpec : ChangeSpec := { name := "fnMostPeersAddedNodeTakesMax", fn := fun _ => fun
  | [d1, d2] => { results := [.lit (.bool true)], args := [d1, d2] }
  | _ => none }
def fnMostPeersAddedNodeTakesMaxRow : OpenClaim := { program := "qxb6602022a", sum := "bee3403f4281e1e6606c28c6468622996f173eb653b4b10c5bc94db1a63eefd5", func := "example.com/stakeweave/stakeweave/zzlaws_internal_wan_b1.FnMostPeersAddedNodeTakesMax", spec := "fnMostPeersAddedNodeTakesMax", apart := false }
def FnMostPeersAddedNodeTakesMaxSaid : Prop := fnMostPeersAddedNodeTakesMaxRow.holds Try.pinned (OpenSpec.ofChange fnMostPeersAddedNodeTakesMaxSpec)

/-- ITS FALSE NEIGHBOUR: 'it returns false'. Refute it at one input. -/
def fnMostPeersAddedNodeTakesMaxWrong : ChangeSpec := { name := "fnMostPeersAddedNodeTakesMax", fn := fun _ => fun
  | [d1, d2] => { results := [.lit (.bool false)], args := [d1, d2] }
  | _ => none }
def FnMostPeersAddedNodeTakesMaxWrongFalsely : Prop := fnMostPeersAddedNodeTakesMaxRow.holds Try.pinned (OpenSpec.ofChange fnMostPeersAddedNodeTakesMaxWrong)

/-- 'zzlaws_internal_wan_b1.FnMostHopsIsLongestShortestPath': WHATEVER THE INPUT: true; the input reads as it did. -/
def fnMostHopsIsLongestShortestPathSpec : ChangeSpec := { name := "fnMostHopsIsLongestShortestPath", fn := fun _ => fun
  | [d] => { results := [.lit (.bool true)], args := [d] }
  | _ => none }
def fnMostHopsIsLongestShortestPathRow : OpenClaim := { program := "qxb6602022a", sum := "bee3403f4281e1e6606c28c6468622996f173eb653b4b10c5bc94db1a63eefd5", func := "example.com/stakeweave/stakeweave/zzlaws_internal_wan_b1.FnMostHopsIsLongestShortestPath", spec := "fnMostHopsIsLongestShortestPath", apart := false }
def FnMostHopsIsLongestShortestPathSaid : Prop := fnMostHopsIsLongestShortestPathRow.holds Try.pinned (OpenSpec.ofChange fnMostHopsIsLongestShortestPathSpec)

/-- ITS FALSE NEIGHBOUR: 'it returns false'. Refute it at one input. -/
def fnMostHopsIsLongestShortestPathWrong : ChangeSpec := { name := "fnMostHopsIsLongestShortestPath", fn := fun _ => fun
  | [d] => { results := [.lit (.bool false)], args := [d] }
  | _ => none }
def FnMostHopsIsLongestShortestPathWrongFalsely : Prop := fnMostHopsIsLongestShortestPathRow.holds Try.pinned (OpenSpec.ofChange fnMostHopsIsLongestShortestPathWrong)

/-- 'zzlaws_internal_wan_b1.FnMostHopsBoundedAndZeroExactlyWithoutLinks': WHATEVER THE INPUT: true; the input reads as it did. -/
def fnMostHopsBoundedAndZeroExactlyWithoutLinksSpec : ChangeSpec := { name := "fnMostHopsBoundedAndZeroExactlyWithoutLinks", fn := fun _ => fun
  | [d] => { results := [.lit (.bool true)], args := [d] }
  | _ => none }
def fnMostHopsBoundedAndZeroExactlyWithoutLinksRow : OpenClaim := { program := "qxb6602022a", sum := "bee3403f4281e1e6606c28c6468622996f173eb653b4b10c5bc94db1a63eefd5", func := "example.com/stakeweave/stakeweave/zzlaws_internal_wan_b1.FnMostHopsBoundedAndZeroExactlyWithoutLinks", spec := "fnMostHopsBoundedAndZeroExactlyWithoutLinks", apart := false }
def FnMostHopsBoundedAndZeroExactlyWithoutLinksSaid : Prop := fnMostHopsBoundedAndZeroExactlyWithoutLinksRow.holds Try.pinned (OpenSpec.ofChange fnMostHopsBoundedAndZeroExactlyWithoutLinksSpec)

/-- ITS FALSE NEIGHBOUR: 'it returns false'. Refute it at one input. -/
def fnMostHopsBoundedAndZeroExactlyWithoutLinksWrong : ChangeSpec := { name := "fnMostHopsBoundedAndZeroExactlyWithoutLinks", fn := fun _ => fun
  | [d] => { results := [.lit (.bool false)], args := [d] }
  | _ => none }
def FnMostHopsBoundedAndZeroExactlyWithoutLinksWrongFalsely : Prop := fnMostHopsBoundedAndZeroExactlyWithoutLinksRow.holds Try.pinned (OpenSpec.ofChange fnMostHopsBoundedAndZeroExactlyWithoutLinksWrong)

/-- 'zzlaws_internal_wan_b1.FnMostHopsIgnoresNodeNumbering': WHATEVER THE INPUT: true; the input reads as it did. -/
def fnMostHopsIgnoresNodeNumberingSpec : ChangeSpec := { name := "fnMostHopsIgnoresNodeNumbering", fn := fun _ => fun
  | [d] => { results := [.lit (.bool true)], args := [d] }
  | _ => none }
def fnMostHopsIgnoresNodeNumberingRow : OpenClaim := { program := "qxb6602022a", sum := "bee3403f4281e1e6606c28c6468622996f173eb653b4b10c5bc94db1a63eefd5", func := "example.com/stakeweave/stakeweave/zzlaws_internal_wan_b1.FnMostHopsIgnoresNodeNumbering", spec := "fnMostHopsIgnoresNodeNumbering", apart := false }
def FnMostHopsIgnoresNodeNumberingSaid : Prop := fnMostHopsIgnoresNodeNumberingRow.holds Try.pinned (OpenSpec.ofChange fnMostHopsIgnoresNodeNumberingSpec)

/-- ITS FALSE NEIGHBOUR: 'it returns false'. Refute it at one input. -/
def fnMostHopsIgnoresNodeNumberingWrong : ChangeSpec := { name := "fnMostHopsIgnoresNodeNumbering", fn := fun _ => fun
  | [d] => { results := [.lit (.bool false)], args := [d] }
  | _ => none }
def FnMostHopsIgnoresNodeNumberingWrongFalsely : Prop := fnMostHopsIgnoresNodeNumberingRow.holds Try.pinned (OpenSpec.ofChange fnMostHopsIgnoresNodeNumberingWrong)

end Rows
end Go.Proofs.Qxb6602022a
