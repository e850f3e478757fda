/-
  No cell of these rows narrows 'for every input' (looked for: loops, veiled, ifaces, maps, wideKeys, modest, calm, conditions, laid).
  DERIVED. THE GIVEN ROWS OF THIS SEAT. 7 by the template 'for every input the law returns true; each argument reads behind the call as it read before'; 0 by the template 'total and deterministic' (their statements: Qxb6000761aTotals.lean).
  GIVEN WITH THE SEED: the statements are not yours to turn. If you find one false, say at which input.
  Laid BY PROGRAM, IN A SANDBOX (cutbox-rows.mjs): the forced cells as the released guide's own fill.sh prints them over the translation 36dd712d0f58a432… (all of the seat's roots in one cut). By AI agents, Wed Nov 11 2026. No macro, syntax, notation, axiom, sorry.
-/
import Derived.Test.Qxb6000761aChecked
import GoSem.Claim
import GoSem.ClaimJoined
import GoSem.ClaimMapViews
import Derived.JoinedTies
import Derived.KernelRfl
namespace Go.Proofs.Qxb6000761a
/- THE CELL 'sum', in the pinned program and in every row, IS THE sha256 OF THE DUMP (.gsa) THAT Qxb6000761aProg.lean LOADS. Nothing in Lean hashes anything: it is a label: what it is worth is what the hold of that sum in a sandbox is worth. -/
noncomputable def Try.pinned : Pinned := { name := "qxb6000761a", sum := "36dd712d0f58a43232bcbdb01632b8fa1fa1336edb8d1d2e11875902857e3f6b", checked := Try.checked }
namespace Rows
def none {H : Type} : Left H := { results := [], args := [] }

/-- 'zzlaws_postgres_b1.FnSuccessorBoundsExactlyThePrefixRange': WHATEVER THE INPUT: true; the input reads as it did. -/
def fnSuccessorBoundsExactlyThePrefixRangeSpec : ChangeSpec := { name := "fnSuccessorBoundsExactlyThePrefixRange", fn := fun _ => fun
  | [d1, d2] => { results := [.lit (.bool true)], args := [d1, d2] }
  | _ => none }
def fnSuccessorBoundsExactlyThePrefixRangeRow : OpenClaim := { program := "qxb6000761a", sum := "36dd712d0f58a43232bcbdb01632b8fa1fa1336edb8d1d2e11875902857e3f6b", func := "example.com/fence/fence/zzlaws_postgres_b1.FnSuccessorBoundsExactlyThePrefixRange", spec := "fnSuccessorBoundsExactlyThePrefixRange", apart := false }
def FnSuccessorBoundsExactlyThePrefixRangeSaid : Prop := fnSuccessorBoundsExactlyThePrefixRangeRow.holds Try.pinned (OpenSpec.ofChange fnSuccessorBoundsExactlyThePrefixRangeSpec)

/-- ITS FALSE NEIGHBOUR: 'it returns false'. Refute it at one input. -/
def fnSuccessorBoundsExactlyThePrefixRangeWrong : ChangeSpec := { name := "fnSuccessorBoundsExactlyThePrefixRange", fn := fun _ => fun
  | [d1, d2] => { results := [.lit (.bool false)], args := [d1, d2] }
  | _ => none }
def FnSuccessorBoundsExactlyThePrefixRangeWrongFalsely : Prop := fnSuccessorBoundsExactlyThePrefixRangeRow.holds Try.pinned (OpenSpec.ofChange fnSuccessorBoundsExactlyThePrefixRangeWrong)

/-- 'zzlaws_postgres_b1.FnSuccessorRefusesExactlyAllFF': WHATEVER THE INPUT: true; the input reads as it did. -/
def fnSuccessorRefusesExactlyAllFFSpec : ChangeSpec := { name := "fnSuccessorRefusesExactlyAllFF", fn := fun _ => fun
  | [d] => { results := [.lit (.bool true)], args := [d] }
  | _ => none }
def fnSuccessorRefusesExactlyAllFFRow : OpenClaim := { program := "qxb6000761a", sum := "36dd712d0f58a43232bcbdb01632b8fa1fa1336edb8d1d2e11875902857e3f6b", func := "example.com/fence/fence/zzlaws_postgres_b1.FnSuccessorRefusesExactlyAllFF", spec := "fnSuccessorRefusesExactlyAllFF", apart := false }
def FnSuccessorRefusesExactlyAllFFSaid : Prop := fnSuccessorRefusesExactlyAllFFRow.holds Try.pinned (OpenSpec.ofChange fnSuccessorRefusesExactlyAllFFSpec)

/-- ITS FALSE NEIGHBOUR: 'it returns false'. Refute it at one input. -/
def fnSuccessorRefusesExactlyAllFFWrong : ChangeSpec := { name := "fnSuccessorRefusesExactlyAllFF", fn := fun _ => fun
  | [d] => { results := [.lit (.bool false)], args := [d] }
  | _ => none }
def FnSuccessorRefusesExactlyAllFFWrongFalsely : Prop := fnSuccessorRefusesExactlyAllFFRow.holds Try.pinned (OpenSpec.ofChange fnSuccessorRefusesExactlyAllFFWrong)

/-- 'zzlaws_postgres_b1.FnSuccessorIgnoresTrailingFF': WHATEVER THE INPUT: true; the input reads as it did. -/
def fnSuccessorIgnoresTrailingFFSpec : ChangeSpec := { name := "fnSuccessorIgnoresTrailingFF", fn := fun _ => fun
  | [d1, d2] => { results := [.lit (.bool true)], args := [d1, d2] }
  | _ => none }
def fnSuccessorIgnoresTrailingFFRow : OpenClaim := { program := "qxb6000761a", sum := "36dd712d0f58a43232bcbdb01632b8fa1fa1336edb8d1d2e11875902857e3f6b", func := "example.com/fence/fence/zzlaws_postgres_b1.FnSuccessorIgnoresTrailingFF", spec := "fnSuccessorIgnoresTrailingFF", apart := false }
def FnSuccessorIgnoresTrailingFFSaid : Prop := fnSuccessorIgnoresTrailingFFRow.holds Try.pinned (OpenSpec.ofChange fnSuccessorIgnoresTrailingFFSpec)

/-- ITS FALSE NEIGHBOUR: 'it returns false'. Refute it at one input. -/
def fnSuccessorIgnoresTrailingFFWrong : ChangeSpec := { name := "fnSuccessorIgnoresTrailingFF", fn := fun _ => fun
  | [d1, d2] => { results := [.lit (.bool false)], args := [d1, d2] }
  | _ => none }
def FnSuccessorIgnoresTrailingFFWrongFalsely : Prop := fnSuccessorIgnoresTrailingFFRow.holds Try.pinned (OpenSpec.ofChange fnSuccessorIgnoresTrailingFFWrong)

/-- 'zzlaws_postgres_b1.FnClaimableLooksTakesEachTextOnce': WHATEVER THE INPUT: true; the input reads as it did. -/
def fnClaimableLooksTakesEachTextOnceSpec : ChangeSpec := { name := "fnClaimableLooksTakesEachTextOnce", fn := fun _ => fun
  | [d1, d2] => { results := [.lit (.bool true)], args := [d1, d2] }
  | _ => none }
def fnClaimableLooksTakesEachTextOnceRow : OpenClaim := { program := "qxb6000761a", sum := "36dd712d0f58a43232bcbdb01632b8fa1fa1336edb8d1d2e11875902857e3f6b", func := "example.com/fence/fence/zzlaws_postgres_b1.FnClaimableLooksTakesEachTextOnce", spec := "fnClaimableLooksTakesEachTextOnce", apart := false }
def FnClaimableLooksTakesEachTextOnceSaid : Prop := fnClaimableLooksTakesEachTextOnceRow.holds Try.pinned (OpenSpec.ofChange fnClaimableLooksTakesEachTextOnceSpec)

/-- ITS FALSE NEIGHBOUR: 'it returns false'. Refute it at one input. -/
def fnClaimableLooksTakesEachTextOnceWrong : ChangeSpec := { name := "fnClaimableLooksTakesEachTextOnce", fn := fun _ => fun
  | [d1, d2] => { results := [.lit (.bool false)], args := [d1, d2] }
  | _ => none }
def FnClaimableLooksTakesEachTextOnceWrongFalsely : Prop := fnClaimableLooksTakesEachTextOnceRow.holds Try.pinned (OpenSpec.ofChange fnClaimableLooksTakesEachTextOnceWrong)

/-- 'zzlaws_postgres_b1.FnClaimableLooksAwaitedIsOneWindow': WHATEVER THE INPUT: true; the input reads as it did. -/
def fnClaimableLooksAwaitedIsOneWindowSpec : ChangeSpec := { name := "fnClaimableLooksAwaitedIsOneWindow", fn := fun _ => fun
  | [d1, d2, d3] => { results := [.lit (.bool true)], args := [d1, d2, d3] }
  | _ => none }
def fnClaimableLooksAwaitedIsOneWindowRow : OpenClaim := { program := "qxb6000761a", sum := "36dd712d0f58a43232bcbdb01632b8fa1fa1336edb8d1d2e11875902857e3f6b", func := "example.com/fence/fence/zzlaws_postgres_b1.FnClaimableLooksAwaitedIsOneWindow", spec := "fnClaimableLooksAwaitedIsOneWindow", apart := false }
def FnClaimableLooksAwaitedIsOneWindowSaid : Prop := fnClaimableLooksAwaitedIsOneWindowRow.holds Try.pinned (OpenSpec.ofChange fnClaimableLooksAwaitedIsOneWindowSpec)

/-- ITS FALSE NEIGHBOUR: 'it returns false'. Refute it at one input. -/
def fnClaimableLooksAwaitedIsOneWindowWrong : ChangeSpec := { name := "fnClaimableLooksAwaitedIsOneWindow", fn := fun _ => fun
  | [d1, d2, d3] => { results := [.lit (.bool false)], args := [d1, d2, d3] }
  | _ => none }
def FnClaimableLooksAwaitedIsOneWindowWrongFalsely : Prop := fnClaimableLooksAwaitedIsOneWindowRow.holds Try.pinned (OpenSpec.ofChange fnClaimableLooksAwaitedIsOneWindowWrong)

/-- 'zzlaws_postgres_b1.FnClaimableLooksJudgedIsOneWindow': WHATEVER THE INPUT: true; the input reads as it did. -/
def fnClaimableLooksJudgedIsOneWindowSpec : ChangeSpec := { name := "fnClaimableLooksJudgedIsOneWindow", fn := fun _ => fun
  | [d1, d2, d3] => { results := [.lit (.bool true)], args := [d1, d2, d3] }
  | _ => none }
def fnClaimableLooksJudgedIsOneWindowRow : OpenClaim := { program := "qxb6000761a", sum := "36dd712d0f58a43232bcbdb01632b8fa1fa1336edb8d1d2e11875902857e3f6b", func := "example.com/fence/fence/zzlaws_postgres_b1.FnClaimableLooksJudgedIsOneWindow", spec := "fnClaimableLooksJudgedIsOneWindow", apart := false }
def FnClaimableLooksJudgedIsOneWindowSaid : Prop := fnClaimableLooksJudgedIsOneWindowRow.holds Try.pinned (OpenSpec.ofChange fnClaimableLooksJudgedIsOneWindowSpec)

/-- ITS FALSE NEIGHBOUR: 'it returns false'. Refute it at one input. -/
def fnClaimableLooksJudgedIsOneWindowWrong : ChangeSpec := { name := "fnClaimableLooksJudgedIsOneWindow", fn := fun _ => fun
  | [d1, d2, d3] => { results := [.lit (.bool false)], args := [d1, d2, d3] }
  | _ => none }
def FnClaimableLooksJudgedIsOneWindowWrongFalsely : Prop := fnClaimableLooksJudgedIsOneWindowRow.holds Try.pinned (OpenSpec.ofChange fnClaimableLooksJudgedIsOneWindowWrong)

/-- 'zzlaws_postgres_b1.FnFloorClaimIsItsLooksInAFixedFrame': WHATEVER THE INPUT: true; the input reads as it did. -/
def fnFloorClaimIsItsLooksInAFixedFrameSpec : ChangeSpec := { name := "fnFloorClaimIsItsLooksInAFixedFrame", fn := fun _ => fun
  | [d1, d2] => { results := [.lit (.bool true)], args := [d1, d2] }
  | _ => none }
def fnFloorClaimIsItsLooksInAFixedFrameRow : OpenClaim := { program := "qxb6000761a", sum := "36dd712d0f58a43232bcbdb01632b8fa1fa1336edb8d1d2e11875902857e3f6b", func := "example.com/fence/fence/zzlaws_postgres_b1.FnFloorClaimIsItsLooksInAFixedFrame", spec := "fnFloorClaimIsItsLooksInAFixedFrame", apart := false }
def FnFloorClaimIsItsLooksInAFixedFrameSaid : Prop := fnFloorClaimIsItsLooksInAFixedFrameRow.holds Try.pinned (OpenSpec.ofChange fnFloorClaimIsItsLooksInAFixedFrameSpec)

/-- ITS FALSE NEIGHBOUR: 'it returns false'. Refute it at one input. -/
def fnFloorClaimIsItsLooksInAFixedFrameWrong : ChangeSpec := { name := "fnFloorClaimIsItsLooksInAFixedFrame", fn := fun _ => fun
  | [d1, d2] => { results := [.lit (.bool false)], args := [d1, d2] }
  | _ => none }
def FnFloorClaimIsItsLooksInAFixedFrameWrongFalsely : Prop := fnFloorClaimIsItsLooksInAFixedFrameRow.holds Try.pinned (OpenSpec.ofChange fnFloorClaimIsItsLooksInAFixedFrameWrong)

end Rows
end Go.Proofs.Qxb6000761a
