/-
  No cell of these rows narrows 'for every input' (looked for: loops, veiled, ifaces, maps, wideKeys, modest, calm, conditions, laid).
  DERIVED. THE GIVEN ROWS OF THIS SEAT. 5 by the template 'for every input the law returns true; each argument reads behind the call as it read before'; 0 by the template 'total and deterministic' (their statements: Qxb6001406aTotals.lean).
  GIVEN WITH THE SEED: the statements are not yours to turn. If you find one false, say at which input.
  Laid BY PROGRAM, IN A SANDBOX (cutbox-rows.mjs): the forced cells as the released guide's own fill.sh prints them over the translation 5a9be65fee428191… (all of the seat's roots in one cut). By AI agents, Wed Nov 11 2026. No macro, syntax, notation, axiom, sorry.
-/
import Derived.Test.Qxb6001406aChecked
import GoSem.Claim
import GoSem.ClaimJoined
import GoSem.ClaimMapViews
import Derived.JoinedTies
import Derived.KernelRfl
namespace Go.Proofs.Qxb6001406a
/- THE CELL 'sum', in the pinned program and in every row, IS THE sha256 OF THE DUMP (.gsa) THAT Qxb6001406aProg.lean LOADS. Nothing in Lean hashes anything: it is a label: what it is worth is what the hold of that sum in a sandbox is worth. -/
noncomputable def Try.pinned : Pinned := { name := "qxb6001406a", sum := "5a9be65fee428191db26154535fcdc357334262201ef02fa0a88c76d7967fc61", checked := Try.checked }
namespace Rows
def none {H : Type} : Left H := { results := [], args := [] }

/-- 'zzlaws_pkg_engine_b1.FnOutcomeStringTellsNamedOutcomesApart': WHATEVER THE INPUT: true; the input reads as it did. -/
def fnOutcomeStringTellsNamedOutcomesApartSpec : ChangeSpec := { name := "fnOutcomeStringTellsNamedOutcomesApart", fn := fun _ => fun
  | [d1, d2] => { results := [.lit (.bool true)], args := [d1, d2] }
  | _ => none }
def fnOutcomeStringTellsNamedOutcomesApartRow : OpenClaim := { program := "qxb6001406a", sum := "5a9be65fee428191db26154535fcdc357334262201ef02fa0a88c76d7967fc61", func := "example.com/gapwise/gapwise/zzlaws_pkg_engine_b1.FnOutcomeStringTellsNamedOutcomesApart", spec := "fnOutcomeStringTellsNamedOutcomesApart", apart := false }
def FnOutcomeStringTellsNamedOutcomesApartSaid : Prop := fnOutcomeStringTellsNamedOutcomesApartRow.holds Try.pinned (OpenSpec.ofChange fnOutcomeStringTellsNamedOutcomesApartSpec)

/-- ITS FALSE NEIGHBOUR: 'it returns false'. Refute it at one input. -/
def fnOutcomeStringTellsNamedOutcomesApartWrong : ChangeSpec := { name := "fnOutcomeStringTellsNamedOutcomesApart", fn := fun _ => fun
  | [d1, d2] => { results := [.lit (.bool false)], args := [d1, d2] }
  | _ => none }
def FnOutcomeStringTellsNamedOutcomesApartWrongFalsely : Prop := fnOutcomeStringTellsNamedOutcomesApartRow.holds Try.pinned (OpenSpec.ofChange fnOutcomeStringTellsNamedOutcomesApartWrong)

/-- 'zzlaws_pkg_engine_b1.FnOutcomeStringUnknownExactlyOutsideNamed': WHATEVER THE INPUT: true; the input reads as it did. -/
def fnOutcomeStringUnknownExactlyOutsideNamedSpec : ChangeSpec := { name := "fnOutcomeStringUnknownExactlyOutsideNamed", fn := fun _ => fun
  | [d] => { results := [.lit (.bool true)], args := [d] }
  | _ => none }
def fnOutcomeStringUnknownExactlyOutsideNamedRow : OpenClaim := { program := "qxb6001406a", sum := "5a9be65fee428191db26154535fcdc357334262201ef02fa0a88c76d7967fc61", func := "example.com/gapwise/gapwise/zzlaws_pkg_engine_b1.FnOutcomeStringUnknownExactlyOutsideNamed", spec := "fnOutcomeStringUnknownExactlyOutsideNamed", apart := false }
def FnOutcomeStringUnknownExactlyOutsideNamedSaid : Prop := fnOutcomeStringUnknownExactlyOutsideNamedRow.holds Try.pinned (OpenSpec.ofChange fnOutcomeStringUnknownExactlyOutsideNamedSpec)

/-- ITS FALSE NEIGHBOUR: 'it returns false'. Refute it at one input. -/
def fnOutcomeStringUnknownExactlyOutsideNamedWrong : ChangeSpec := { name := "fnOutcomeStringUnknownExactlyOutsideNamed", fn := fun _ => fun
  | [d] => { results := [.lit (.bool false)], args := [d] }
  | _ => none }
def FnOutcomeStringUnknownExactlyOutsideNamedWrongFalsely : Prop := fnOutcomeStringUnknownExactlyOutsideNamedRow.holds Try.pinned (OpenSpec.ofChange fnOutcomeStringUnknownExactlyOutsideNamedWrong)

/-- 'zzlaws_pkg_engine_b1.FnDefaultCollationIsModelledExactlyForUtf8mb4UnderCurrent': WHATEVER THE INPUT: true; the input reads as it did. -/
def fnDefaultCollationIsModelledExactlyForUtf8mb4UnderCurrentSpec : ChangeSpec := { name := "fnDefaultCollationIsModelledExactlyForUtf8mb4UnderCurrent", fn := fun _ => fun
  | [d1, d2] => { results := [.lit (.bool true)], args := [d1, d2] }
  | _ => none }
def fnDefaultCollationIsModelledExactlyForUtf8mb4UnderCurrentRow : OpenClaim := { program := "qxb6001406a", sum := "5a9be65fee428191db26154535fcdc357334262201ef02fa0a88c76d7967fc61", func := "example.com/gapwise/gapwise/zzlaws_pkg_engine_b1.FnDefaultCollationIsModelledExactlyForUtf8mb4UnderCurrent", spec := "fnDefaultCollationIsModelledExactlyForUtf8mb4UnderCurrent", apart := false }
def FnDefaultCollationIsModelledExactlyForUtf8mb4UnderCurrentSaid : Prop := fnDefaultCollationIsModelledExactlyForUtf8mb4UnderCurrentRow.holds Try.pinned (OpenSpec.ofChange fnDefaultCollationIsModelledExactlyForUtf8mb4UnderCurrentSpec)

/-- ITS FALSE NEIGHBOUR: 'it returns false'. Refute it at one input. -/
def fnDefaultCollationIsModelledExactlyForUtf8mb4UnderCurrentWrong : ChangeSpec := { name := "fnDefaultCollationIsModelledExactlyForUtf8mb4UnderCurrent", fn := fun _ => fun
  | [d1, d2] => { results := [.lit (.bool false)], args := [d1, d2] }
  | _ => none }
def FnDefaultCollationIsModelledExactlyForUtf8mb4UnderCurrentWrongFalsely : Prop := fnDefaultCollationIsModelledExactlyForUtf8mb4UnderCurrentRow.holds Try.pinned (OpenSpec.ofChange fnDefaultCollationIsModelledExactlyForUtf8mb4UnderCurrentWrong)

/-- 'zzlaws_pkg_engine_b1.FnDefaultCollationOfOtherCharsetsIgnoresProfile': WHATEVER THE INPUT: true; the input reads as it did. -/
def fnDefaultCollationOfOtherCharsetsIgnoresProfileSpec : ChangeSpec := { name := "fnDefaultCollationOfOtherCharsetsIgnoresProfile", fn := fun _ => fun
  | [d1, d2, d3] => { results := [.lit (.bool true)], args := [d1, d2, d3] }
  | _ => none }
def fnDefaultCollationOfOtherCharsetsIgnoresProfileRow : OpenClaim := { program := "qxb6001406a", sum := "5a9be65fee428191db26154535fcdc357334262201ef02fa0a88c76d7967fc61", func := "example.com/gapwise/gapwise/zzlaws_pkg_engine_b1.FnDefaultCollationOfOtherCharsetsIgnoresProfile", spec := "fnDefaultCollationOfOtherCharsetsIgnoresProfile", apart := false }
def FnDefaultCollationOfOtherCharsetsIgnoresProfileSaid : Prop := fnDefaultCollationOfOtherCharsetsIgnoresProfileRow.holds Try.pinned (OpenSpec.ofChange fnDefaultCollationOfOtherCharsetsIgnoresProfileSpec)

/-- ITS FALSE NEIGHBOUR: 'it returns false'. Refute it at one input. -/
def fnDefaultCollationOfOtherCharsetsIgnoresProfileWrong : ChangeSpec := { name := "fnDefaultCollationOfOtherCharsetsIgnoresProfile", fn := fun _ => fun
  | [d1, d2, d3] => { results := [.lit (.bool false)], args := [d1, d2, d3] }
  | _ => none }
def FnDefaultCollationOfOtherCharsetsIgnoresProfileWrongFalsely : Prop := fnDefaultCollationOfOtherCharsetsIgnoresProfileRow.holds Try.pinned (OpenSpec.ofChange fnDefaultCollationOfOtherCharsetsIgnoresProfileWrong)

/-- 'zzlaws_pkg_engine_b1.FnDefaultCollationTellsCharsetsApart': WHATEVER THE INPUT: true; the input reads as it did. -/
def fnDefaultCollationTellsCharsetsApartSpec : ChangeSpec := { name := "fnDefaultCollationTellsCharsetsApart", fn := fun _ => fun
  | [d1, d2, d3] => { results := [.lit (.bool true)], args := [d1, d2, d3] }
  | _ => none }
def fnDefaultCollationTellsCharsetsApartRow : OpenClaim := { program := "qxb6001406a", sum := "5a9be65fee428191db26154535fcdc357334262201ef02fa0a88c76d7967fc61", func := "example.com/gapwise/gapwise/zzlaws_pkg_engine_b1.FnDefaultCollationTellsCharsetsApart", spec := "fnDefaultCollationTellsCharsetsApart", apart := false }
def FnDefaultCollationTellsCharsetsApartSaid : Prop := fnDefaultCollationTellsCharsetsApartRow.holds Try.pinned (OpenSpec.ofChange fnDefaultCollationTellsCharsetsApartSpec)

/-- ITS FALSE NEIGHBOUR: 'it returns false'. Refute it at one input. -/
def fnDefaultCollationTellsCharsetsApartWrong : ChangeSpec := { name := "fnDefaultCollationTellsCharsetsApart", fn := fun _ => fun
  | [d1, d2, d3] => { results := [.lit (.bool false)], args := [d1, d2, d3] }
  | _ => none }
def FnDefaultCollationTellsCharsetsApartWrongFalsely : Prop := fnDefaultCollationTellsCharsetsApartRow.holds Try.pinned (OpenSpec.ofChange fnDefaultCollationTellsCharsetsApartWrong)

end Rows
end Go.Proofs.Qxb6001406a
