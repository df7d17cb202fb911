/-
  No cell of these rows narrows 'for every input' (looked for: loops, veiled, ifaces, maps, wideKeys, modest, calm, conditions, laid).
  DERIVED. THE GIVEN ROWS OF THIS SEAT. 2 by the template 'for every input the law returns true; each argument reads behind the call as it read before'; 0 by the template 'total and deterministic' (their statements: Qxb6619447aTotals.lean).
  GIVEN WITH THE SEED: the statements are not yours to turn. If you find one false, say at which input.
  Laid BY PROGRAM, IN A SANDBOX (cutbox-rows.mjs): the forced cells as the released guide's own fill.sh prints them over the translation fee4c1f192e13dc3… (all of the seat's roots in one cut). By AI agents, Wed Nov 11 2026. No macro, syntax, notation, axiom, sorry.
-/
import Derived.Test.Qxb6619447aChecked
import GoSem.Claim
import GoSem.ClaimJoined
import GoSem.ClaimMapViews
import Derived.JoinedTies
import Derived.KernelRfl
namespace Go.Proofs.Qxb6619447a
/- THE CELL 'sum', in the pinned program and in every row, IS THE sha256 OF THE DUMP (.gsa) THAT Qxb6619447aProg.lean LOADS. Nothing in Lean hashes anything: it is a label: what it is worth is what the hold of that sum in a sandbox is worth. -/
noncomputable def Try.pinned : Pinned := { name := "qxb6619447a", sum := "fee4c1f192e13dc30ae859779c02ce55a8e2f0617d3c96bb64a170e3c42c83f3", checked := Try.checked }
namespace Rows
def none {H : Type} : Left H := { results := [], args := [] }

/-- 'zzlaws_gitops_b1.FnGlobEscapeJoinsAndMatchesOnlyItsPath': WHATEVER THE INPUT: true; the input reads as it did. -/
def fnGlobEscapeJoinsAndMatchesOnlyItsPathSpec : ChangeSpec := { name := "fnGlobEscapeJoinsAndMatchesOnlyItsPath", fn := fun _ => fun
  | [d1, d2] => { results := [.lit (.bool true)], args := [d1, d2] }
  | _ => none }
def fnGlobEscapeJoinsAndMatchesOnlyItsPathRow : OpenClaim := { program := "qxb6619447a", sum := "fee4c1f192e13dc30ae859779c02ce55a8e2f0617d3c96bb64a170e3c42c83f3", func := "example.com/coxswain/coxswain/zzlaws_gitops_b1.FnGlobEscapeJoinsAndMatchesOnlyItsPath", spec := "fnGlobEscapeJoinsAndMatchesOnlyItsPath", inPlace := ["internal/bytealg.IndexByteString", "internal/bytealg.IndexString", "internal/abi.NoEscape"], named := ["internal/bytealg.MaxLen"], apart := false }
def FnGlobEscapeJoinsAndMatchesOnlyItsPathSaid : Prop := fnGlobEscapeJoinsAndMatchesOnlyItsPathRow.holds Try.pinned (OpenSpec.ofChange fnGlobEscapeJoinsAndMatchesOnlyItsPathSpec)

/-- ITS FALSE NEIGHBOUR: 'it returns false'. Refute it at one input. -/
def fnGlobEscapeJoinsAndMatchesOnlyItsPathWrong : ChangeSpec := { name := "fnGlobEscapeJoinsAndMatchesOnlyItsPath", fn := fun _ => fun
  | [d1, d2] => { results := [.lit (.bool false)], args := [d1, d2] }
  | _ => none }
def FnGlobEscapeJoinsAndMatchesOnlyItsPathWrongFalsely : Prop := fnGlobEscapeJoinsAndMatchesOnlyItsPathRow.holds Try.pinned (OpenSpec.ofChange fnGlobEscapeJoinsAndMatchesOnlyItsPathWrong)

/-- 'zzlaws_gitops_b1.FnConflictKindByVersionsHeldAndMirror': WHATEVER THE INPUT: true; the input reads as it did. -/
def fnConflictKindByVersionsHeldAndMirrorSpec : ChangeSpec := { name := "fnConflictKindByVersionsHeldAndMirror", fn := fun _ => fun
  | [d] => { results := [.lit (.bool true)], args := [d] }
  | _ => none }
def fnConflictKindByVersionsHeldAndMirrorRow : OpenClaim := { program := "qxb6619447a", sum := "fee4c1f192e13dc30ae859779c02ce55a8e2f0617d3c96bb64a170e3c42c83f3", func := "example.com/coxswain/coxswain/zzlaws_gitops_b1.FnConflictKindByVersionsHeldAndMirror", spec := "fnConflictKindByVersionsHeldAndMirror", apart := false }
def FnConflictKindByVersionsHeldAndMirrorSaid : Prop := fnConflictKindByVersionsHeldAndMirrorRow.holds Try.pinned (OpenSpec.ofChange fnConflictKindByVersionsHeldAndMirrorSpec)

/-- ITS FALSE NEIGHBOUR: 'it returns false'. Refute it at one input. -/
def fnConflictKindByVersionsHeldAndMirrorWrong : ChangeSpec := { name := "fnConflictKindByVersionsHeldAndMirror", fn := fun _ => fun
  | [d] => { results := [.lit (.bool false)], args := [d] }
  | _ => none }
def FnConflictKindByVersionsHeldAndMirrorWrongFalsely : Prop := fnConflictKindByVersionsHeldAndMirrorRow.holds Try.pinned (OpenSpec.ofChange fnConflictKindByVersionsHeldAndMirrorWrong)

end Rows
end Go.Proofs.Qxb6619447a
