/-
  No cell of these rows narrows 'for every input' (looked for: loops, veiled, ifaces, maps, wideKeys, modest, calm, conditions, laid).
  DERIVED. THE GIVEN ROWS OF THIS SEAT. 5 by the template 'for every input the law returns true; each argument reads behind the call as it read before'; 0 by the template 'total and deterministic' (their statements: Qxb6600572aTotals.lean).
  GIVEN WITH THE SEED: the statements are not yours to turn. If you find one false, say at which input.
  Laid BY PROGRAM, IN A SANDBOX (cutbox-rows.mjs): the forced cells as the released guide's own fill.sh prints them over the translation 4f66f0f802c4242b… (all of the seat's roots in one cut). By AI agents, Wed Nov 11 2026. No macro, syntax, notation, axiom, sorry.
-/
import Derived.Test.Qxb6600572aChecked
import GoSem.Claim
import GoSem.ClaimJoined
import GoSem.ClaimMapViews
import Derived.JoinedTies
import Derived.KernelRfl
namespace Go.Proofs.Qxb6600572a
/- THE CELL 'sum', in the pinned program and in every row, IS THE sha256 OF THE DUMP (.gsa) THAT Qxb6600572aProg.lean LOADS. Nothing in Lean hashes anything: it is a label: what it is worth is what the hold of that sum in a sandbox is worth. -/
noncomputable def Try.pinned : Pinned := { name := "qxb6600572a", sum := "4f66f0f802c4242be882dfe1cb3612f05f402d6e0af5b3b4da8ed3b97ba8a10c", checked := Try.checked }
namespace Rows
def none {H : Type} : Left H := { results := [], args := [] }

/-- 'zzlaws_media_b1.FnAppendWritesExactlyTheCutDescriptor': WHATEVER THE INPUT: true; the input reads as it did. -/
def fnAppendWritesExactlyTheCutDescriptorSpec : ChangeSpec := { name := "fnAppendWritesExactlyTheCutDescriptor", fn := fun _ => fun
  | [d1, d2] => { results := [.lit (.bool true)], args := [d1, d2] }
  | _ => none }
def fnAppendWritesExactlyTheCutDescriptorRow : OpenClaim := { program := "qxb6600572a", sum := "4f66f0f802c4242be882dfe1cb3612f05f402d6e0af5b3b4da8ed3b97ba8a10c", func := "example.com/meshwire/meshwire/zzlaws_media_b1.FnAppendWritesExactlyTheCutDescriptor", spec := "fnAppendWritesExactlyTheCutDescriptor", apart := false }
def FnAppendWritesExactlyTheCutDescriptorSaid : Prop := fnAppendWritesExactlyTheCutDescriptorRow.holds Try.pinned (OpenSpec.ofChange fnAppendWritesExactlyTheCutDescriptorSpec)

/-- ITS FALSE NEIGHBOUR: 'it returns false'. Refute it at one input. -/
def fnAppendWritesExactlyTheCutDescriptorWrong : ChangeSpec := { name := "fnAppendWritesExactlyTheCutDescriptor", fn := fun _ => fun
  | [d1, d2] => { results := [.lit (.bool false)], args := [d1, d2] }
  | _ => none }
def FnAppendWritesExactlyTheCutDescriptorWrongFalsely : Prop := fnAppendWritesExactlyTheCutDescriptorRow.holds Try.pinned (OpenSpec.ofChange fnAppendWritesExactlyTheCutDescriptorWrong)

/-- 'zzlaws_media_b1.FnAppendIsIndependentOfWhatCameBefore': WHATEVER THE INPUT: true; the input reads as it did. -/
def fnAppendIsIndependentOfWhatCameBeforeSpec : ChangeSpec := { name := "fnAppendIsIndependentOfWhatCameBefore", fn := fun _ => fun
  | [d1, d2] => { results := [.lit (.bool true)], args := [d1, d2] }
  | _ => none }
def fnAppendIsIndependentOfWhatCameBeforeRow : OpenClaim := { program := "qxb6600572a", sum := "4f66f0f802c4242be882dfe1cb3612f05f402d6e0af5b3b4da8ed3b97ba8a10c", func := "example.com/meshwire/meshwire/zzlaws_media_b1.FnAppendIsIndependentOfWhatCameBefore", spec := "fnAppendIsIndependentOfWhatCameBefore", apart := false }
def FnAppendIsIndependentOfWhatCameBeforeSaid : Prop := fnAppendIsIndependentOfWhatCameBeforeRow.holds Try.pinned (OpenSpec.ofChange fnAppendIsIndependentOfWhatCameBeforeSpec)

/-- ITS FALSE NEIGHBOUR: 'it returns false'. Refute it at one input. -/
def fnAppendIsIndependentOfWhatCameBeforeWrong : ChangeSpec := { name := "fnAppendIsIndependentOfWhatCameBefore", fn := fun _ => fun
  | [d1, d2] => { results := [.lit (.bool false)], args := [d1, d2] }
  | _ => none }
def FnAppendIsIndependentOfWhatCameBeforeWrongFalsely : Prop := fnAppendIsIndependentOfWhatCameBeforeRow.holds Try.pinned (OpenSpec.ofChange fnAppendIsIndependentOfWhatCameBeforeWrong)

/-- 'zzlaws_media_b1.FnAppendSeparatesDistinctDescriptors': WHATEVER THE INPUT: true; the input reads as it did. -/
def fnAppendSeparatesDistinctDescriptorsSpec : ChangeSpec := { name := "fnAppendSeparatesDistinctDescriptors", fn := fun _ => fun
  | [d1, d2] => { results := [.lit (.bool true)], args := [d1, d2] }
  | _ => none }
def fnAppendSeparatesDistinctDescriptorsRow : OpenClaim := { program := "qxb6600572a", sum := "4f66f0f802c4242be882dfe1cb3612f05f402d6e0af5b3b4da8ed3b97ba8a10c", func := "example.com/meshwire/meshwire/zzlaws_media_b1.FnAppendSeparatesDistinctDescriptors", spec := "fnAppendSeparatesDistinctDescriptors", apart := false }
def FnAppendSeparatesDistinctDescriptorsSaid : Prop := fnAppendSeparatesDistinctDescriptorsRow.holds Try.pinned (OpenSpec.ofChange fnAppendSeparatesDistinctDescriptorsSpec)

/-- ITS FALSE NEIGHBOUR: 'it returns false'. Refute it at one input. -/
def fnAppendSeparatesDistinctDescriptorsWrong : ChangeSpec := { name := "fnAppendSeparatesDistinctDescriptors", fn := fun _ => fun
  | [d1, d2] => { results := [.lit (.bool false)], args := [d1, d2] }
  | _ => none }
def FnAppendSeparatesDistinctDescriptorsWrongFalsely : Prop := fnAppendSeparatesDistinctDescriptorsRow.holds Try.pinned (OpenSpec.ofChange fnAppendSeparatesDistinctDescriptorsWrong)

/-- 'zzlaws_media_b1.FnFollowsPictureIDSeesOnlyPrevModuloWidth': WHATEVER THE INPUT: true; the input reads as it did. -/
def fnFollowsPictureIDSeesOnlyPrevModuloWidthSpec : ChangeSpec := { name := "fnFollowsPictureIDSeesOnlyPrevModuloWidth", fn := fun _ => fun
  | [d1, d2, d3] => { results := [.lit (.bool true)], args := [d1, d2, d3] }
  | _ => none }
def fnFollowsPictureIDSeesOnlyPrevModuloWidthRow : OpenClaim := { program := "qxb6600572a", sum := "4f66f0f802c4242be882dfe1cb3612f05f402d6e0af5b3b4da8ed3b97ba8a10c", func := "example.com/meshwire/meshwire/zzlaws_media_b1.FnFollowsPictureIDSeesOnlyPrevModuloWidth", spec := "fnFollowsPictureIDSeesOnlyPrevModuloWidth", apart := false }
def FnFollowsPictureIDSeesOnlyPrevModuloWidthSaid : Prop := fnFollowsPictureIDSeesOnlyPrevModuloWidthRow.holds Try.pinned (OpenSpec.ofChange fnFollowsPictureIDSeesOnlyPrevModuloWidthSpec)

/-- ITS FALSE NEIGHBOUR: 'it returns false'. Refute it at one input. -/
def fnFollowsPictureIDSeesOnlyPrevModuloWidthWrong : ChangeSpec := { name := "fnFollowsPictureIDSeesOnlyPrevModuloWidth", fn := fun _ => fun
  | [d1, d2, d3] => { results := [.lit (.bool false)], args := [d1, d2, d3] }
  | _ => none }
def FnFollowsPictureIDSeesOnlyPrevModuloWidthWrongFalsely : Prop := fnFollowsPictureIDSeesOnlyPrevModuloWidthRow.holds Try.pinned (OpenSpec.ofChange fnFollowsPictureIDSeesOnlyPrevModuloWidthWrong)

/-- 'zzlaws_media_b1.FnFollowsPictureIDImpliesWrittenUnchanged': WHATEVER THE INPUT: true; the input reads as it did. -/
def fnFollowsPictureIDImpliesWrittenUnchangedSpec : ChangeSpec := { name := "fnFollowsPictureIDImpliesWrittenUnchanged", fn := fun _ => fun
  | [d1, d2] => { results := [.lit (.bool true)], args := [d1, d2] }
  | _ => none }
def fnFollowsPictureIDImpliesWrittenUnchangedRow : OpenClaim := { program := "qxb6600572a", sum := "4f66f0f802c4242be882dfe1cb3612f05f402d6e0af5b3b4da8ed3b97ba8a10c", func := "example.com/meshwire/meshwire/zzlaws_media_b1.FnFollowsPictureIDImpliesWrittenUnchanged", spec := "fnFollowsPictureIDImpliesWrittenUnchanged", apart := false }
def FnFollowsPictureIDImpliesWrittenUnchangedSaid : Prop := fnFollowsPictureIDImpliesWrittenUnchangedRow.holds Try.pinned (OpenSpec.ofChange fnFollowsPictureIDImpliesWrittenUnchangedSpec)

/-- ITS FALSE NEIGHBOUR: 'it returns false'. Refute it at one input. -/
def fnFollowsPictureIDImpliesWrittenUnchangedWrong : ChangeSpec := { name := "fnFollowsPictureIDImpliesWrittenUnchanged", fn := fun _ => fun
  | [d1, d2] => { results := [.lit (.bool false)], args := [d1, d2] }
  | _ => none }
def FnFollowsPictureIDImpliesWrittenUnchangedWrongFalsely : Prop := fnFollowsPictureIDImpliesWrittenUnchangedRow.holds Try.pinned (OpenSpec.ofChange fnFollowsPictureIDImpliesWrittenUnchangedWrong)

end Rows
end Go.Proofs.Qxb6600572a
