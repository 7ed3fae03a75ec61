/-
  No cell of these rows narrows 'for every input' (looked for: loops, veiled, ifaces, maps, wideKeys, modest, calm, conditions, laid).
  DERIVED. THE GIVEN ROWS OF THIS SEAT. 3 by the template 'for every input the law returns true; each argument reads behind the call as it read before'; 0 by the template 'total and deterministic' (their statements: Qxb6605489aTotals.lean).
  GIVEN WITH THE SEED: the statements are not yours to turn. If you find one false, say at which input.
  Laid BY PROGRAM, IN A SANDBOX (cutbox-rows.mjs): the forced cells as the released guide's own fill.sh prints them over the translation 5531e3de1a6da4e3… (all of the seat's roots in one cut). By AI agents, Wed Nov 11 2026. No macro, syntax, notation, axiom, sorry.
-/
import Derived.Test.Qxb6605489aChecked
import GoSem.Claim
import GoSem.ClaimJoined
import GoSem.ClaimMapViews
import Derived.JoinedTies
import Derived.KernelRfl
namespace Go.Proofs.Qxb6605489a
/- THE CELL 'sum', in the pinned program and in every row, IS THE sha256 OF THE DUMP (.gsa) THAT Qxb6605489aProg.lean LOADS. Nothing in Lean hashes anything: it is a label: what it is worth is what the hold of that sum in a sandbox is worth. -/
noncomputable def Try.pinned : Pinned := { name := "qxb6605489a", sum := "5531e3de1a6da4e37ecc4d2703886c83a4152be351db9a3237691c71a2fb9cc2", checked := Try.checked }
namespace Rows
def none {H : Type} : Left H := { results := [], args := [] }

/-- 'zzlaws_internal_txlog_b1.FnDecodeNameFramedRoundTrip': WHATEVER THE INPUT: true; the input reads as it did. -/
def fnDecodeNameFramedRoundTripSpec : ChangeSpec := { name := "fnDecodeNameFramedRoundTrip", fn := fun _ => fun
  | [d1, d2, d3, d4] => { results := [.lit (.bool true)], args := [d1, d2, d3, d4] }
  | _ => none }
def fnDecodeNameFramedRoundTripRow : OpenClaim := { program := "qxb6605489a", sum := "5531e3de1a6da4e37ecc4d2703886c83a4152be351db9a3237691c71a2fb9cc2", func := "example.com/concordat/concordat/zzlaws_internal_txlog_b1.FnDecodeNameFramedRoundTrip", spec := "fnDecodeNameFramedRoundTrip", apart := false }
def FnDecodeNameFramedRoundTripSaid : Prop := fnDecodeNameFramedRoundTripRow.holds Try.pinned (OpenSpec.ofChange fnDecodeNameFramedRoundTripSpec)

/-- ITS FALSE NEIGHBOUR: 'it returns false'. Refute it at one input. -/
def fnDecodeNameFramedRoundTripWrong : ChangeSpec := { name := "fnDecodeNameFramedRoundTrip", fn := fun _ => fun
  | [d1, d2, d3, d4] => { results := [.lit (.bool false)], args := [d1, d2, d3, d4] }
  | _ => none }
def FnDecodeNameFramedRoundTripWrongFalsely : Prop := fnDecodeNameFramedRoundTripRow.holds Try.pinned (OpenSpec.ofChange fnDecodeNameFramedRoundTripWrong)

/-- 'zzlaws_internal_txlog_b1.FnNamesSizeEncodeDecode': WHATEVER THE INPUT: true; the input reads as it did. -/
def fnNamesSizeEncodeDecodeSpec : ChangeSpec := { name := "fnNamesSizeEncodeDecode", fn := fun _ => fun
  | [d] => { results := [.lit (.bool true)], args := [d] }
  | _ => none }
def fnNamesSizeEncodeDecodeRow : OpenClaim := { program := "qxb6605489a", sum := "5531e3de1a6da4e37ecc4d2703886c83a4152be351db9a3237691c71a2fb9cc2", func := "example.com/concordat/concordat/zzlaws_internal_txlog_b1.FnNamesSizeEncodeDecode", spec := "fnNamesSizeEncodeDecode", apart := false }
def FnNamesSizeEncodeDecodeSaid : Prop := fnNamesSizeEncodeDecodeRow.holds Try.pinned (OpenSpec.ofChange fnNamesSizeEncodeDecodeSpec)

/-- ITS FALSE NEIGHBOUR: 'it returns false'. Refute it at one input. -/
def fnNamesSizeEncodeDecodeWrong : ChangeSpec := { name := "fnNamesSizeEncodeDecode", fn := fun _ => fun
  | [d] => { results := [.lit (.bool false)], args := [d] }
  | _ => none }
def FnNamesSizeEncodeDecodeWrongFalsely : Prop := fnNamesSizeEncodeDecodeRow.holds Try.pinned (OpenSpec.ofChange fnNamesSizeEncodeDecodeWrong)

/-- 'zzlaws_internal_txlog_b1.FnLocationsRecordReadsBack': WHATEVER THE INPUT: true; the input reads as it did. -/
def fnLocationsRecordReadsBackSpec : ChangeSpec := { name := "fnLocationsRecordReadsBack", fn := fun _ => fun
  | [d1, d2, d3] => { results := [.lit (.bool true)], args := [d1, d2, d3] }
  | _ => none }
def fnLocationsRecordReadsBackRow : OpenClaim := { program := "qxb6605489a", sum := "5531e3de1a6da4e37ecc4d2703886c83a4152be351db9a3237691c71a2fb9cc2", func := "example.com/concordat/concordat/zzlaws_internal_txlog_b1.FnLocationsRecordReadsBack", spec := "fnLocationsRecordReadsBack", apart := false }
def FnLocationsRecordReadsBackSaid : Prop := fnLocationsRecordReadsBackRow.holds Try.pinned (OpenSpec.ofChange fnLocationsRecordReadsBackSpec)

/-- ITS FALSE NEIGHBOUR: 'it returns false'. Refute it at one input. -/
def fnLocationsRecordReadsBackWrong : ChangeSpec := { name := "fnLocationsRecordReadsBack", fn := fun _ => fun
  | [d1, d2, d3] => { results := [.lit (.bool false)], args := [d1, d2, d3] }
  | _ => none }
def FnLocationsRecordReadsBackWrongFalsely : Prop := fnLocationsRecordReadsBackRow.holds Try.pinned (OpenSpec.ofChange fnLocationsRecordReadsBackWrong)

end Rows
end Go.Proofs.Qxb6605489a
