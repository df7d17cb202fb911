/-
  No cell of these rows narrows 'for every input' (looked for: loops, veiled, ifaces, maps, wideKeys, modest, calm, conditions, laid).
  DERIVED. THE GIVEN ROWS OF THIS SEAT. 2 by the template 'for every input the law returns true; each argument reads behind the call as it read before'; 0 by the template 'total and deterministic' (their statements: Qxb6619715aTotals.lean).
  GIVEN WITH THE SEED: the statements are not yours to turn. If you find one false, say at which input.
  Laid BY PROGRAM, IN A SANDBOX (cutbox-rows.mjs): the forced cells as the released guide's own fill.sh prints them over the translation 79dfb5b5f8542c14… (all of the seat's roots in one cut). By AI agents, Wed Nov 11 2026. No macro, syntax, notation, axiom, sorry.
-/
import Derived.Test.Qxb6619715aChecked
import GoSem.Claim
import GoSem.ClaimJoined
import GoSem.ClaimMapViews
import Derived.JoinedTies
import Derived.KernelRfl
namespace Go.Proofs.Qxb6619715a
/- THE CELL 'sum', in the pinned program and in every row, IS THE sha256 OF THE DUMP (.gsa) THAT Qxb6619715aProg.lean LOADS. Nothing in Lean hashes anything: it is a label: what it is worth is what the hold of that sum in a sandbox is worth. -/
noncomputable def Try.pinned : Pinned := { name := "qxb6619715a", sum := "79dfb5b5f8542c143eb5b5ef0fddd3c0cb681287e8951738227b7e1595fb7ed8", checked := Try.checked }
namespace Rows
def none {H : Type} : Left H := { results := [], args := [] }

/-- 'zzlaws_internal_enforce_b1.FnThroughTwoStepsCompose': WHATEVER THE INPUT: true; the input reads as it did. -/
def fnThroughTwoStepsComposeSpec : ChangeSpec := { name := "fnThroughTwoStepsCompose", fn := fun _ => fun
  | [d1, d2, d3, d4, d5, d6, d7, d8, d9] => { results := [.lit (.bool true)], args := [d1, d2, d3, d4, d5, d6, d7, d8, d9] }
  | _ => none }
def fnThroughTwoStepsComposeRow : OpenClaim := { program := "qxb6619715a", sum := "79dfb5b5f8542c143eb5b5ef0fddd3c0cb681287e8951738227b7e1595fb7ed8", func := "example.com/covenant/covenant/zzlaws_internal_enforce_b1.FnThroughTwoStepsCompose", spec := "fnThroughTwoStepsCompose", unfollowed := true, recurses := true, apart := false }
def FnThroughTwoStepsComposeSaid : Prop := fnThroughTwoStepsComposeRow.holds Try.pinned (OpenSpec.ofChange fnThroughTwoStepsComposeSpec)

/-- ITS FALSE NEIGHBOUR: 'it returns false'. Refute it at one input. -/
def fnThroughTwoStepsComposeWrong : ChangeSpec := { name := "fnThroughTwoStepsCompose", fn := fun _ => fun
  | [d1, d2, d3, d4, d5, d6, d7, d8, d9] => { results := [.lit (.bool false)], args := [d1, d2, d3, d4, d5, d6, d7, d8, d9] }
  | _ => none }
def FnThroughTwoStepsComposeWrongFalsely : Prop := fnThroughTwoStepsComposeRow.holds Try.pinned (OpenSpec.ofChange fnThroughTwoStepsComposeWrong)

/-- 'zzlaws_internal_enforce_b1.FnCircleIsFirstShortestWayBack': WHATEVER THE INPUT: true; the input reads as it did. -/
def fnCircleIsFirstShortestWayBackSpec : ChangeSpec := { name := "fnCircleIsFirstShortestWayBack", fn := fun _ => fun
  | [d1, d2, d3, d4] => { results := [.lit (.bool true)], args := [d1, d2, d3, d4] }
  | _ => none }
def fnCircleIsFirstShortestWayBackRow : OpenClaim := { program := "qxb6619715a", sum := "79dfb5b5f8542c143eb5b5ef0fddd3c0cb681287e8951738227b7e1595fb7ed8", func := "example.com/covenant/covenant/zzlaws_internal_enforce_b1.FnCircleIsFirstShortestWayBack", spec := "fnCircleIsFirstShortestWayBack", apart := false }
def FnCircleIsFirstShortestWayBackSaid : Prop := fnCircleIsFirstShortestWayBackRow.holds Try.pinned (OpenSpec.ofChange fnCircleIsFirstShortestWayBackSpec)

/-- ITS FALSE NEIGHBOUR: 'it returns false'. Refute it at one input. -/
def fnCircleIsFirstShortestWayBackWrong : ChangeSpec := { name := "fnCircleIsFirstShortestWayBack", fn := fun _ => fun
  | [d1, d2, d3, d4] => { results := [.lit (.bool false)], args := [d1, d2, d3, d4] }
  | _ => none }
def FnCircleIsFirstShortestWayBackWrongFalsely : Prop := fnCircleIsFirstShortestWayBackRow.holds Try.pinned (OpenSpec.ofChange fnCircleIsFirstShortestWayBackWrong)

end Rows
end Go.Proofs.Qxb6619715a
