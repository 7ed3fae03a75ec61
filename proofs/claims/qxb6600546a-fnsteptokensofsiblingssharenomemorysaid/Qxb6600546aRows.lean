/-
  No cell of these rows narrows 'for every input' (looked for: loops, veiled, ifaces, maps, wideKeys, modest, calm, conditions, laid).
  DERIVED. THE GIVEN ROWS OF THIS SEAT. 2 by the template 'for every input the law returns true; each argument reads behind the call as it read before'; 0 by the template 'total and deterministic' (their statements: Qxb6600546aTotals.lean).
  GIVEN WITH THE SEED: the statements are not yours to turn. If you find one false, say at which input.
  Laid BY PROGRAM, IN A SANDBOX (cutbox-rows.mjs): the forced cells as the released guide's own fill.sh prints them over the translation 84d8dd37cbc0a728… (all of the seat's roots in one cut). By AI agents, Wed Nov 11 2026. No macro, syntax, notation, axiom, sorry.
-/
import Derived.Test.Qxb6600546aChecked
import GoSem.Claim
import GoSem.ClaimJoined
import GoSem.ClaimMapViews
import Derived.JoinedTies
import Derived.KernelRfl
namespace Go.Proofs.Qxb6600546a
/- THE CELL 'sum', in the pinned program and in every row, IS THE sha256 OF THE DUMP (.gsa) THAT Qxb6600546aProg.lean LOADS. Nothing in Lean hashes anything: it is a label: what it is worth is what the hold of that sum in a sandbox is worth. -/
noncomputable def Try.pinned : Pinned := { name := "qxb6600546a", sum := "84d8dd37cbc0a728c2f082623847e81eb398c12dbe3cab2465bef4f502c0c42b", checked := Try.checked }
namespace Rows
def none {H : Type} : Left H := { results := [], args := [] }

/-- 'zzlaws_jsonschema_b1.FnStepTokensListsPathFromRoot': WHATEVER THE INPUT: true; the input reads as it did. -/
def fnStepTokensListsPathFromRootSpec : ChangeSpec := { name := "fnStepTokensListsPathFromRoot", fn := fun _ => fun
  | [d] => { results := [.lit (.bool true)], args := [d] }
  | _ => none }
def fnStepTokensListsPathFromRootRow : OpenClaim := { program := "qxb6600546a", sum := "84d8dd37cbc0a728c2f082623847e81eb398c12dbe3cab2465bef4f502c0c42b", func := "example.com/chartwright/chartwright/zzlaws_jsonschema_b1.FnStepTokensListsPathFromRoot", spec := "fnStepTokensListsPathFromRoot", apart := false }
def FnStepTokensListsPathFromRootSaid : Prop := fnStepTokensListsPathFromRootRow.holds Try.pinned (OpenSpec.ofChange fnStepTokensListsPathFromRootSpec)

/-- ITS FALSE NEIGHBOUR: 'it returns false'. Refute it at one input. -/
def fnStepTokensListsPathFromRootWrong : ChangeSpec := { name := "fnStepTokensListsPathFromRoot", fn := fun _ => fun
  | [d] => { results := [.lit (.bool false)], args := [d] }
  | _ => none }
def FnStepTokensListsPathFromRootWrongFalsely : Prop := fnStepTokensListsPathFromRootRow.holds Try.pinned (OpenSpec.ofChange fnStepTokensListsPathFromRootWrong)

/-- 'zzlaws_jsonschema_b1.FnStepTokensOfSiblingsShareNoMemory': WHATEVER THE INPUT: true; the input reads as it did. -/
def fnStepTokensOfSiblingsShareNoMemorySpec : ChangeSpec := { name := "fnStepTokensOfSiblingsShareNoMemory", fn := fun _ => fun
  | [d1, d2, d3] => { results := [.lit (.bool true)], args := [d1, d2, d3] }
  | _ => none }
def fnStepTokensOfSiblingsShareNoMemoryRow : OpenClaim := { program := "qxb6600546a", sum := "84d8dd37cbc0a728c2f082623847e81eb398c12dbe3cab2465bef4f502c0c42b", func := "example.com/chartwright/chartwright/zzlaws_jsonschema_b1.FnStepTokensOfSiblingsShareNoMemory", spec := "fnStepTokensOfSiblingsShareNoMemory", apart := false }
def FnStepTokensOfSiblingsShareNoMemorySaid : Prop := fnStepTokensOfSiblingsShareNoMemoryRow.holds Try.pinned (OpenSpec.ofChange fnStepTokensOfSiblingsShareNoMemorySpec)

/-- ITS FALSE NEIGHBOUR: 'it returns false'. Refute it at one input. -/
def fnStepTokensOfSiblingsShareNoMemoryWrong : ChangeSpec := { name := "fnStepTokensOfSiblingsShareNoMemory", fn := fun _ => fun
  | [d1, d2, d3] => { results := [.lit (.bool false)], args := [d1, d2, d3] }
  | _ => none }
def FnStepTokensOfSiblingsShareNoMemoryWrongFalsely : Prop := fnStepTokensOfSiblingsShareNoMemoryRow.holds Try.pinned (OpenSpec.ofChange fnStepTokensOfSiblingsShareNoMemoryWrong)

end Rows
end Go.Proofs.Qxb6600546a
