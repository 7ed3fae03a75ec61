/-
  No cell of these rows narrows 'for every input' (looked for: loops, veiled, ifaces, maps, wideKeys, modest, calm, conditions, laid).
  DERIVED. THE GIVEN ROWS OF THIS SEAT. 4 by the template 'for every input the law returns true; each argument reads behind the call as it read before'; 0 by the template 'total and deterministic' (their statements: Qxb6605452aTotals.lean).
  GIVEN WITH THE SEED: the statements are not yours to turn. If you find one false, say at which input.
  Laid BY PROGRAM, IN A SANDBOX (cutbox-rows.mjs): the forced cells as the released guide's own fill.sh prints them over the translation 6d84954d26470cd8… (all of the seat's roots in one cut). By AI agents, Wed Nov 11 2026. No macro, syntax, notation, axiom, sorry.
-/
import Derived.Test.Qxb6605452aChecked
import GoSem.Claim
import GoSem.ClaimJoined
import GoSem.ClaimMapViews
import Derived.JoinedTies
import Derived.KernelRfl
namespace Go.Proofs.Qxb6605452a
/- THE CELL 'sum', in the pinned program and in every row, IS THE sha256 OF THE DUMP (.gsa) THAT Qxb6605452aProg.lean LOADS. Nothing in Lean hashes anything: it is a label: what it is worth is what the hold of that sum in a sandbox is worth. -/
noncomputable def Try.pinned : Pinned := { name := "qxb6605452a", sum := "6d84954d26470cd83bf3b4fc9d258050021ddc3b42859c70aceb7456fa32aa07", checked := Try.checked }
namespace Rows
def none {H : Type} : Left H := { results := [], args := [] }

/-- 'zzlaws_internal_schedule_b1.FnComponentsExact': WHATEVER THE INPUT: true; the input reads as it did. -/
def fnComponentsExactSpec : ChangeSpec := { name := "fnComponentsExact", fn := fun _ => fun
  | [d1, d2] => { results := [.lit (.bool true)], args := [d1, d2] }
  | _ => none }
def fnComponentsExactRow : OpenClaim := { program := "qxb6605452a", sum := "6d84954d26470cd83bf3b4fc9d258050021ddc3b42859c70aceb7456fa32aa07", func := "example.com/holdfast/holdfast/zzlaws_internal_schedule_b1.FnComponentsExact", spec := "fnComponentsExact", unfollowed := true, recurses := true, apart := false }
def FnComponentsExactSaid : Prop := fnComponentsExactRow.holds Try.pinned (OpenSpec.ofChange fnComponentsExactSpec)

/-- ITS FALSE NEIGHBOUR: 'it returns false'. Refute it at one input. -/
def fnComponentsExactWrong : ChangeSpec := { name := "fnComponentsExact", fn := fun _ => fun
  | [d1, d2] => { results := [.lit (.bool false)], args := [d1, d2] }
  | _ => none }
def FnComponentsExactWrongFalsely : Prop := fnComponentsExactRow.holds Try.pinned (OpenSpec.ofChange fnComponentsExactWrong)

/-- 'zzlaws_internal_schedule_b1.FnComponentsPartitionOrderTranspose': WHATEVER THE INPUT: true; the input reads as it did. -/
def fnComponentsPartitionOrderTransposeSpec : ChangeSpec := { name := "fnComponentsPartitionOrderTranspose", fn := fun _ => fun
  | [d1, d2] => { results := [.lit (.bool true)], args := [d1, d2] }
  | _ => none }
def fnComponentsPartitionOrderTransposeRow : OpenClaim := { program := "qxb6605452a", sum := "6d84954d26470cd83bf3b4fc9d258050021ddc3b42859c70aceb7456fa32aa07", func := "example.com/holdfast/holdfast/zzlaws_internal_schedule_b1.FnComponentsPartitionOrderTranspose", spec := "fnComponentsPartitionOrderTranspose", unfollowed := true, recurses := true, apart := false }
def FnComponentsPartitionOrderTransposeSaid : Prop := fnComponentsPartitionOrderTransposeRow.holds Try.pinned (OpenSpec.ofChange fnComponentsPartitionOrderTransposeSpec)

/-- ITS FALSE NEIGHBOUR: 'it returns false'. Refute it at one input. -/
def fnComponentsPartitionOrderTransposeWrong : ChangeSpec := { name := "fnComponentsPartitionOrderTranspose", fn := fun _ => fun
  | [d1, d2] => { results := [.lit (.bool false)], args := [d1, d2] }
  | _ => none }
def FnComponentsPartitionOrderTransposeWrongFalsely : Prop := fnComponentsPartitionOrderTransposeRow.holds Try.pinned (OpenSpec.ofChange fnComponentsPartitionOrderTransposeWrong)

/-- 'zzlaws_internal_schedule_b1.FnCycleShortestLowest': WHATEVER THE INPUT: true; the input reads as it did. -/
def fnCycleShortestLowestSpec : ChangeSpec := { name := "fnCycleShortestLowest", fn := fun _ => fun
  | [d1, d2] => { results := [.lit (.bool true)], args := [d1, d2] }
  | _ => none }
def fnCycleShortestLowestRow : OpenClaim := { program := "qxb6605452a", sum := "6d84954d26470cd83bf3b4fc9d258050021ddc3b42859c70aceb7456fa32aa07", func := "example.com/holdfast/holdfast/zzlaws_internal_schedule_b1.FnCycleShortestLowest", spec := "fnCycleShortestLowest", unfollowed := true, recurses := true, apart := false }
def FnCycleShortestLowestSaid : Prop := fnCycleShortestLowestRow.holds Try.pinned (OpenSpec.ofChange fnCycleShortestLowestSpec)

/-- ITS FALSE NEIGHBOUR: 'it returns false'. Refute it at one input. -/
def fnCycleShortestLowestWrong : ChangeSpec := { name := "fnCycleShortestLowest", fn := fun _ => fun
  | [d1, d2] => { results := [.lit (.bool false)], args := [d1, d2] }
  | _ => none }
def FnCycleShortestLowestWrongFalsely : Prop := fnCycleShortestLowestRow.holds Try.pinned (OpenSpec.ofChange fnCycleShortestLowestWrong)

/-- 'zzlaws_internal_schedule_b1.FnCycleSimpleInOneComponent': WHATEVER THE INPUT: true; the input reads as it did. -/
def fnCycleSimpleInOneComponentSpec : ChangeSpec := { name := "fnCycleSimpleInOneComponent", fn := fun _ => fun
  | [d1, d2] => { results := [.lit (.bool true)], args := [d1, d2] }
  | _ => none }
def fnCycleSimpleInOneComponentRow : OpenClaim := { program := "qxb6605452a", sum := "6d84954d26470cd83bf3b4fc9d258050021ddc3b42859c70aceb7456fa32aa07", func := "example.com/holdfast/holdfast/zzlaws_internal_schedule_b1.FnCycleSimpleInOneComponent", spec := "fnCycleSimpleInOneComponent", unfollowed := true, recurses := true, apart := false }
def FnCycleSimpleInOneComponentSaid : Prop := fnCycleSimpleInOneComponentRow.holds Try.pinned (OpenSpec.ofChange fnCycleSimpleInOneComponentSpec)

/-- ITS FALSE NEIGHBOUR: 'it returns false'. Refute it at one input. -/
def fnCycleSimpleInOneComponentWrong : ChangeSpec := { name := "fnCycleSimpleInOneComponent", fn := fun _ => fun
  | [d1, d2] => { results := [.lit (.bool false)], args := [d1, d2] }
  | _ => none }
def FnCycleSimpleInOneComponentWrongFalsely : Prop := fnCycleSimpleInOneComponentRow.holds Try.pinned (OpenSpec.ofChange fnCycleSimpleInOneComponentWrong)

end Rows
end Go.Proofs.Qxb6605452a
