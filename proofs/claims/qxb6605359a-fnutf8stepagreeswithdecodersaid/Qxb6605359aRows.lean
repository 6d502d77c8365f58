/-
  No cell of these rows narrows 'for every input' (looked for: loops, veiled, ifaces, maps, wideKeys, modest, calm, conditions, laid).
  DERIVED. THE GIVEN ROWS OF THIS SEAT. 4 by the template 'for every input the law returns true; each argument reads behind the call as it read before'; 0 by the template 'total and deterministic' (their statements: Qxb6605359aTotals.lean).
  GIVEN WITH THE SEED: the statements are not yours to turn. If you find one false, say at which input.
  Laid BY PROGRAM, IN A SANDBOX (cutbox-rows.mjs): the forced cells as the released guide's own fill.sh prints them over the translation 3c4e8297d75ac1ee… (all of the seat's roots in one cut). By AI agents, Wed Nov 11 2026. No macro, syntax, notation, axiom, sorry.
-/
import Derived.Test.Qxb6605359aChecked
import GoSem.Claim
import GoSem.ClaimJoined
import GoSem.ClaimMapViews
import Derived.JoinedTies
import Derived.KernelRfl
namespace Go.Proofs.Qxb6605359a
/- THE CELL 'sum', in the pinned program and in every row, IS THE sha256 OF THE DUMP (.gsa) THAT Qxb6605359aProg.lean LOADS. Nothing in Lean hashes anything: it is a label: what it is worth is what the hold of that sum in a sandbox is worth. -/
noncomputable def Try.pinned : Pinned := { name := "qxb6605359a", sum := "3c4e8297d75ac1ee96708507168403ce0107f3e642c889bab93873d8832e8735", checked := Try.checked }
namespace Rows
def none {H : Type} : Left H := { results := [], args := [] }

/-- 'zzlaws_root_b1.FnGoesOnAgreesWithUTF8Table': WHATEVER THE INPUT: true; the input reads as it did. -/
def fnGoesOnAgreesWithUTF8TableSpec : ChangeSpec := { name := "fnGoesOnAgreesWithUTF8Table", fn := fun _ => fun
  | [d1, d2] => { results := [.lit (.bool true)], args := [d1, d2] }
  | _ => none }
def fnGoesOnAgreesWithUTF8TableRow : OpenClaim := { program := "qxb6605359a", sum := "3c4e8297d75ac1ee96708507168403ce0107f3e642c889bab93873d8832e8735", func := "example.com/whittle-thread/whittle-thread/zzlaws_root_b1.FnGoesOnAgreesWithUTF8Table", spec := "fnGoesOnAgreesWithUTF8Table", apart := false }
def FnGoesOnAgreesWithUTF8TableSaid : Prop := fnGoesOnAgreesWithUTF8TableRow.holds Try.pinned (OpenSpec.ofChange fnGoesOnAgreesWithUTF8TableSpec)

/-- ITS FALSE NEIGHBOUR: 'it returns false'. Refute it at one input. -/
def fnGoesOnAgreesWithUTF8TableWrong : ChangeSpec := { name := "fnGoesOnAgreesWithUTF8Table", fn := fun _ => fun
  | [d1, d2] => { results := [.lit (.bool false)], args := [d1, d2] }
  | _ => none }
def FnGoesOnAgreesWithUTF8TableWrongFalsely : Prop := fnGoesOnAgreesWithUTF8TableRow.holds Try.pinned (OpenSpec.ofChange fnGoesOnAgreesWithUTF8TableWrong)

/-- 'zzlaws_root_b1.FnUTF8StepAgreesWithDecoder': WHATEVER THE INPUT: true; the input reads as it did. -/
def fnUTF8StepAgreesWithDecoderSpec : ChangeSpec := { name := "fnUTF8StepAgreesWithDecoder", fn := fun _ => fun
  | [d1, d2] => { results := [.lit (.bool true)], args := [d1, d2] }
  | _ => none }
def fnUTF8StepAgreesWithDecoderRow : OpenClaim := { program := "qxb6605359a", sum := "3c4e8297d75ac1ee96708507168403ce0107f3e642c889bab93873d8832e8735", func := "example.com/whittle-thread/whittle-thread/zzlaws_root_b1.FnUTF8StepAgreesWithDecoder", spec := "fnUTF8StepAgreesWithDecoder", apart := false }
def FnUTF8StepAgreesWithDecoderSaid : Prop := fnUTF8StepAgreesWithDecoderRow.holds Try.pinned (OpenSpec.ofChange fnUTF8StepAgreesWithDecoderSpec)

/-- ITS FALSE NEIGHBOUR: 'it returns false'. Refute it at one input. -/
def fnUTF8StepAgreesWithDecoderWrong : ChangeSpec := { name := "fnUTF8StepAgreesWithDecoder", fn := fun _ => fun
  | [d1, d2] => { results := [.lit (.bool false)], args := [d1, d2] }
  | _ => none }
def FnUTF8StepAgreesWithDecoderWrongFalsely : Prop := fnUTF8StepAgreesWithDecoderRow.holds Try.pinned (OpenSpec.ofChange fnUTF8StepAgreesWithDecoderWrong)

/-- 'zzlaws_root_b1.FnUTF8StepWalksEncodedRunes': WHATEVER THE INPUT: true; the input reads as it did. -/
def fnUTF8StepWalksEncodedRunesSpec : ChangeSpec := { name := "fnUTF8StepWalksEncodedRunes", fn := fun _ => fun
  | [d] => { results := [.lit (.bool true)], args := [d] }
  | _ => none }
def fnUTF8StepWalksEncodedRunesRow : OpenClaim := { program := "qxb6605359a", sum := "3c4e8297d75ac1ee96708507168403ce0107f3e642c889bab93873d8832e8735", func := "example.com/whittle-thread/whittle-thread/zzlaws_root_b1.FnUTF8StepWalksEncodedRunes", spec := "fnUTF8StepWalksEncodedRunes", apart := false }
def FnUTF8StepWalksEncodedRunesSaid : Prop := fnUTF8StepWalksEncodedRunesRow.holds Try.pinned (OpenSpec.ofChange fnUTF8StepWalksEncodedRunesSpec)

/-- ITS FALSE NEIGHBOUR: 'it returns false'. Refute it at one input. -/
def fnUTF8StepWalksEncodedRunesWrong : ChangeSpec := { name := "fnUTF8StepWalksEncodedRunes", fn := fun _ => fun
  | [d] => { results := [.lit (.bool false)], args := [d] }
  | _ => none }
def FnUTF8StepWalksEncodedRunesWrongFalsely : Prop := fnUTF8StepWalksEncodedRunesRow.holds Try.pinned (OpenSpec.ofChange fnUTF8StepWalksEncodedRunesWrong)

/-- 'zzlaws_root_b1.FnAfterSpacesOneMoreSpaceIsOnePiece': WHATEVER THE INPUT: true; the input reads as it did. -/
def fnAfterSpacesOneMoreSpaceIsOnePieceSpec : ChangeSpec := { name := "fnAfterSpacesOneMoreSpaceIsOnePiece", fn := fun _ => fun
  | [d1, d2] => { results := [.lit (.bool true)], args := [d1, d2] }
  | _ => none }
def fnAfterSpacesOneMoreSpaceIsOnePieceRow : OpenClaim := { program := "qxb6605359a", sum := "3c4e8297d75ac1ee96708507168403ce0107f3e642c889bab93873d8832e8735", func := "example.com/whittle-thread/whittle-thread/zzlaws_root_b1.FnAfterSpacesOneMoreSpaceIsOnePiece", spec := "fnAfterSpacesOneMoreSpaceIsOnePiece", apart := false }
def FnAfterSpacesOneMoreSpaceIsOnePieceSaid : Prop := fnAfterSpacesOneMoreSpaceIsOnePieceRow.holds Try.pinned (OpenSpec.ofChange fnAfterSpacesOneMoreSpaceIsOnePieceSpec)

/-- ITS FALSE NEIGHBOUR: 'it returns false'. Refute it at one input. -/
def fnAfterSpacesOneMoreSpaceIsOnePieceWrong : ChangeSpec := { name := "fnAfterSpacesOneMoreSpaceIsOnePiece", fn := fun _ => fun
  | [d1, d2] => { results := [.lit (.bool false)], args := [d1, d2] }
  | _ => none }
def FnAfterSpacesOneMoreSpaceIsOnePieceWrongFalsely : Prop := fnAfterSpacesOneMoreSpaceIsOnePieceRow.holds Try.pinned (OpenSpec.ofChange fnAfterSpacesOneMoreSpaceIsOnePieceWrong)

end Rows
end Go.Proofs.Qxb6605359a
