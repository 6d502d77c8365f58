/-
  No cell of these rows narrows 'for every input' (looked for: loops, veiled, ifaces, maps, wideKeys, modest, calm, conditions, laid).
  DERIVED. THE GIVEN ROWS OF THIS SEAT. 3 by the template 'for every input the law returns true; each argument reads behind the call as it read before'; 0 by the template 'total and deterministic' (their statements: Qxb6605333aTotals.lean).
  GIVEN WITH THE SEED: the statements are not yours to turn. If you find one false, say at which input.
  Laid BY PROGRAM, IN A SANDBOX (cutbox-rows.mjs): the forced cells as the released guide's own fill.sh prints them over the translation 36246deea7a4d7c1… (all of the seat's roots in one cut). By AI agents, Wed Nov 11 2026. No macro, syntax, notation, axiom, sorry.
-/
import Derived.Test.Qxb6605333aChecked
import GoSem.Claim
import GoSem.ClaimJoined
import GoSem.ClaimMapViews
import Derived.JoinedTies
import Derived.KernelRfl
namespace Go.Proofs.Qxb6605333a
/- THE CELL 'sum', in the pinned program and in every row, IS THE sha256 OF THE DUMP (.gsa) THAT Qxb6605333aProg.lean LOADS. Nothing in Lean hashes anything: it is a label: what it is worth is what the hold of that sum in a sandbox is worth. -/
noncomputable def Try.pinned : Pinned := { name := "qxb6605333a", sum := "36246deea7a4d7c18450c5047892021cbec12bcab6099223b631d52b7afecb9f", checked := Try.checked }
namespace Rows
def none {H : Type} : Left H := { results := [], args := [] }

/-- 'zzlaws_internal_agent_b1.FnShlexWordsMatchesTokenModel': WHATEVER THE INPUT: true; the input reads as it did. -/
def fnShlexWordsMatchesTokenModelSpec : ChangeSpec := { name := "fnShlexWordsMatchesTokenModel", fn := fun _ => fun
  | [d] => { results := [.lit (.bool true)], args := [d] }
  | _ => none }
def fnShlexWordsMatchesTokenModelRow : OpenClaim := { program := "qxb6605333a", sum := "36246deea7a4d7c18450c5047892021cbec12bcab6099223b631d52b7afecb9f", func := "example.com/tideway/tideway/zzlaws_internal_agent_b1.FnShlexWordsMatchesTokenModel", spec := "fnShlexWordsMatchesTokenModel", inPlace := ["internal/bytealg.IndexByteString"], apart := false }
def FnShlexWordsMatchesTokenModelSaid : Prop := fnShlexWordsMatchesTokenModelRow.holds Try.pinned (OpenSpec.ofChange fnShlexWordsMatchesTokenModelSpec)

/-- ITS FALSE NEIGHBOUR: 'it returns false'. Refute it at one input. -/
def fnShlexWordsMatchesTokenModelWrong : ChangeSpec := { name := "fnShlexWordsMatchesTokenModel", fn := fun _ => fun
  | [d] => { results := [.lit (.bool false)], args := [d] }
  | _ => none }
def FnShlexWordsMatchesTokenModelWrongFalsely : Prop := fnShlexWordsMatchesTokenModelRow.holds Try.pinned (OpenSpec.ofChange fnShlexWordsMatchesTokenModelWrong)

/-- 'zzlaws_internal_agent_b1.FnShlexWordsSplitsJoinedWords': WHATEVER THE INPUT: true; the input reads as it did. -/
def fnShlexWordsSplitsJoinedWordsSpec : ChangeSpec := { name := "fnShlexWordsSplitsJoinedWords", fn := fun _ => fun
  | [d] => { results := [.lit (.bool true)], args := [d] }
  | _ => none }
def fnShlexWordsSplitsJoinedWordsRow : OpenClaim := { program := "qxb6605333a", sum := "36246deea7a4d7c18450c5047892021cbec12bcab6099223b631d52b7afecb9f", func := "example.com/tideway/tideway/zzlaws_internal_agent_b1.FnShlexWordsSplitsJoinedWords", spec := "fnShlexWordsSplitsJoinedWords", inPlace := ["internal/bytealg.IndexByteString"], apart := false }
def FnShlexWordsSplitsJoinedWordsSaid : Prop := fnShlexWordsSplitsJoinedWordsRow.holds Try.pinned (OpenSpec.ofChange fnShlexWordsSplitsJoinedWordsSpec)

/-- ITS FALSE NEIGHBOUR: 'it returns false'. Refute it at one input. -/
def fnShlexWordsSplitsJoinedWordsWrong : ChangeSpec := { name := "fnShlexWordsSplitsJoinedWords", fn := fun _ => fun
  | [d] => { results := [.lit (.bool false)], args := [d] }
  | _ => none }
def FnShlexWordsSplitsJoinedWordsWrongFalsely : Prop := fnShlexWordsSplitsJoinedWordsRow.holds Try.pinned (OpenSpec.ofChange fnShlexWordsSplitsJoinedWordsWrong)

/-- 'zzlaws_internal_agent_b1.FnSymbolicBitsUnionOverConcatenation': WHATEVER THE INPUT: true; the input reads as it did. -/
def fnSymbolicBitsUnionOverConcatenationSpec : ChangeSpec := { name := "fnSymbolicBitsUnionOverConcatenation", fn := fun _ => fun
  | [d1, d2, d3, d4, d5, d6, d7] => { results := [.lit (.bool true)], args := [d1, d2, d3, d4, d5, d6, d7] }
  | _ => none }
def fnSymbolicBitsUnionOverConcatenationRow : OpenClaim := { program := "qxb6605333a", sum := "36246deea7a4d7c18450c5047892021cbec12bcab6099223b631d52b7afecb9f", func := "example.com/tideway/tideway/zzlaws_internal_agent_b1.FnSymbolicBitsUnionOverConcatenation", spec := "fnSymbolicBitsUnionOverConcatenation", apart := false }
def FnSymbolicBitsUnionOverConcatenationSaid : Prop := fnSymbolicBitsUnionOverConcatenationRow.holds Try.pinned (OpenSpec.ofChange fnSymbolicBitsUnionOverConcatenationSpec)

/-- ITS FALSE NEIGHBOUR: 'it returns false'. Refute it at one input. -/
def fnSymbolicBitsUnionOverConcatenationWrong : ChangeSpec := { name := "fnSymbolicBitsUnionOverConcatenation", fn := fun _ => fun
  | [d1, d2, d3, d4, d5, d6, d7] => { results := [.lit (.bool false)], args := [d1, d2, d3, d4, d5, d6, d7] }
  | _ => none }
def FnSymbolicBitsUnionOverConcatenationWrongFalsely : Prop := fnSymbolicBitsUnionOverConcatenationRow.holds Try.pinned (OpenSpec.ofChange fnSymbolicBitsUnionOverConcatenationWrong)

end Rows
end Go.Proofs.Qxb6605333a
