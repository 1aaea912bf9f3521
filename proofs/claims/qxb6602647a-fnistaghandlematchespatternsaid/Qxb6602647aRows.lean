/-
  No cell of these rows narrows 'for every input' (looked for: loops, veiled, ifaces, maps, wideKeys, modest, calm, conditions, laid).
  DERIVED. THE GIVEN ROWS OF THIS SEAT. 2 by the template 'for every input the law returns true; each argument reads behind the call as it read before'; 0 by the template 'total and deterministic' (their statements: Qxb6602647aTotals.lean).
  GIVEN WITH THE SEED: the statements are not yours to turn. If you find one false, say at which input.
  Laid BY PROGRAM, IN A SANDBOX (cutbox-rows.mjs): the forced cells as the released guide's own fill.sh prints them over the translation acbc961ce5abe299… (all of the seat's roots in one cut). By AI agents, Wed Nov 11 2026. No macro, syntax, notation, axiom, sorry.
-/
import Derived.Test.Qxb6602647aChecked
import GoSem.Claim
import GoSem.ClaimJoined
import GoSem.ClaimMapViews
import Derived.JoinedTies
import Derived.KernelRfl
namespace Go.Proofs.Qxb6602647a
/- THE CELL 'sum', in the pinned program and in every row, IS THE sha256 OF THE DUMP (.gsa) THAT Qxb6602647aProg.lean LOADS. Nothing in Lean hashes anything: it is a label: what it is worth is what the hold of that sum in a sandbox is worth. -/
noncomputable def Try.pinned : Pinned := { name := "qxb6602647a", sum := "acbc961ce5abe299b67aaab3186b520c906a322b5f367fb4d4efd628438910c3", checked := Try.checked }
namespace Rows
def none {H : Type} : Left H := { results := [], args := [] }

/-- 'zzlaws_internal_object_b1.FnIsTagHandleMatchesPattern': WHATEVER THE INPUT: true; the input reads as it did. -/
def fnIsTagHandleMatchesPatternSpec : ChangeSpec := { name := "fnIsTagHandleMatchesPattern", fn := fun _ => fun
  | [d] => { results := [.lit (.bool true)], args := [d] }
  | _ => none }
def fnIsTagHandleMatchesPatternRow : OpenClaim := { program := "qxb6602647a", sum := "acbc961ce5abe299b67aaab3186b520c906a322b5f367fb4d4efd628438910c3", func := "example.com/dunlin/dunlin/zzlaws_internal_object_b1.FnIsTagHandleMatchesPattern", spec := "fnIsTagHandleMatchesPattern", apart := false }
def FnIsTagHandleMatchesPatternSaid : Prop := fnIsTagHandleMatchesPatternRow.holds Try.pinned (OpenSpec.ofChange fnIsTagHandleMatchesPatternSpec)

/-- ITS FALSE NEIGHBOUR: 'it returns false'. Refute it at one input. -/
def fnIsTagHandleMatchesPatternWrong : ChangeSpec := { name := "fnIsTagHandleMatchesPattern", fn := fun _ => fun
  | [d] => { results := [.lit (.bool false)], args := [d] }
  | _ => none }
def FnIsTagHandleMatchesPatternWrongFalsely : Prop := fnIsTagHandleMatchesPatternRow.holds Try.pinned (OpenSpec.ofChange fnIsTagHandleMatchesPatternWrong)

/-- 'zzlaws_internal_object_b1.FnIsTagHandleNamesJoin': WHATEVER THE INPUT: true; the input reads as it did. -/
def fnIsTagHandleNamesJoinSpec : ChangeSpec := { name := "fnIsTagHandleNamesJoin", fn := fun _ => fun
  | [d1, d2] => { results := [.lit (.bool true)], args := [d1, d2] }
  | _ => none }
def fnIsTagHandleNamesJoinRow : OpenClaim := { program := "qxb6602647a", sum := "acbc961ce5abe299b67aaab3186b520c906a322b5f367fb4d4efd628438910c3", func := "example.com/dunlin/dunlin/zzlaws_internal_object_b1.FnIsTagHandleNamesJoin", spec := "fnIsTagHandleNamesJoin", apart := false }
def FnIsTagHandleNamesJoinSaid : Prop := fnIsTagHandleNamesJoinRow.holds Try.pinned (OpenSpec.ofChange fnIsTagHandleNamesJoinSpec)

/-- ITS FALSE NEIGHBOUR: 'it returns false'. Refute it at one input. -/
def fnIsTagHandleNamesJoinWrong : ChangeSpec := { name := "fnIsTagHandleNamesJoin", fn := fun _ => fun
  | [d1, d2] => { results := [.lit (.bool false)], args := [d1, d2] }
  | _ => none }
def FnIsTagHandleNamesJoinWrongFalsely : Prop := fnIsTagHandleNamesJoinRow.holds Try.pinned (OpenSpec.ofChange fnIsTagHandleNamesJoinWrong)

end Rows
end Go.Proofs.Qxb6602647a
