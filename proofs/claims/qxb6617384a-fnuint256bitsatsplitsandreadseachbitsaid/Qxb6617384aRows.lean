/-
  No cell of these rows narrows 'for every input' (looked for: loops, veiled, ifaces, maps, wideKeys, modest, calm, conditions, laid).
  DERIVED. THE GIVEN ROWS OF THIS SEAT. 4 by the template 'for every input the law returns true; each argument reads behind the call as it read before'; 0 by the template 'total and deterministic' (their statements: Qxb6617384aTotals.lean).
  GIVEN WITH THE SEED: the statements are not yours to turn. If you find one false, say at which input.
  Laid BY PROGRAM, IN A SANDBOX (cutbox-rows.mjs): the forced cells as the released guide's own fill.sh prints them over the translation 11b45e618c673a6f… (all of the seat's roots in one cut). By AI agents, Wed Nov 11 2026. No macro, syntax, notation, axiom, sorry.
-/
import Derived.Test.Qxb6617384aChecked
import GoSem.Claim
import GoSem.ClaimJoined
import GoSem.ClaimMapViews
import Derived.JoinedTies
import Derived.KernelRfl
namespace Go.Proofs.Qxb6617384a
/- THE CELL 'sum', in the pinned program and in every row, IS THE sha256 OF THE DUMP (.gsa) THAT Qxb6617384aProg.lean LOADS. Nothing in Lean hashes anything: it is a label: what it is worth is what the hold of that sum in a sandbox is worth. -/
noncomputable def Try.pinned : Pinned := { name := "qxb6617384a", sum := "11b45e618c673a6f78c9b2adf5e6de0550bbe172273dd0919e5c27cf8c035e62", checked := Try.checked }
namespace Rows
def none {H : Type} : Left H := { results := [], args := [] }

/-- 'zzlaws_internal_edsig_b1.FnUint256LessIsTrichotomousAndBorrows': WHATEVER THE INPUT: true; the input reads as it did. -/
def fnUint256LessIsTrichotomousAndBorrowsSpec : ChangeSpec := { name := "fnUint256LessIsTrichotomousAndBorrows", fn := fun _ => fun
  | [d1, d2] => { results := [.lit (.bool true)], args := [d1, d2] }
  | _ => none }
def fnUint256LessIsTrichotomousAndBorrowsRow : OpenClaim := { program := "qxb6617384a", sum := "11b45e618c673a6f78c9b2adf5e6de0550bbe172273dd0919e5c27cf8c035e62", func := "example.com/pastcone/pastcone/zzlaws_internal_edsig_b1.FnUint256LessIsTrichotomousAndBorrows", spec := "fnUint256LessIsTrichotomousAndBorrows", apart := false }
def FnUint256LessIsTrichotomousAndBorrowsSaid : Prop := fnUint256LessIsTrichotomousAndBorrowsRow.holds Try.pinned (OpenSpec.ofChange fnUint256LessIsTrichotomousAndBorrowsSpec)

/-- ITS FALSE NEIGHBOUR: 'it returns false'. Refute it at one input. -/
def fnUint256LessIsTrichotomousAndBorrowsWrong : ChangeSpec := { name := "fnUint256LessIsTrichotomousAndBorrows", fn := fun _ => fun
  | [d1, d2] => { results := [.lit (.bool false)], args := [d1, d2] }
  | _ => none }
def FnUint256LessIsTrichotomousAndBorrowsWrongFalsely : Prop := fnUint256LessIsTrichotomousAndBorrowsRow.holds Try.pinned (OpenSpec.ofChange fnUint256LessIsTrichotomousAndBorrowsWrong)

/-- 'zzlaws_internal_edsig_b1.FnUint256LessHasNothingBetweenAAndSuccessor': WHATEVER THE INPUT: true; the input reads as it did. -/
def fnUint256LessHasNothingBetweenAAndSuccessorSpec : ChangeSpec := { name := "fnUint256LessHasNothingBetweenAAndSuccessor", fn := fun _ => fun
  | [d1, d2] => { results := [.lit (.bool true)], args := [d1, d2] }
  | _ => none }
def fnUint256LessHasNothingBetweenAAndSuccessorRow : OpenClaim := { program := "qxb6617384a", sum := "11b45e618c673a6f78c9b2adf5e6de0550bbe172273dd0919e5c27cf8c035e62", func := "example.com/pastcone/pastcone/zzlaws_internal_edsig_b1.FnUint256LessHasNothingBetweenAAndSuccessor", spec := "fnUint256LessHasNothingBetweenAAndSuccessor", apart := false }
def FnUint256LessHasNothingBetweenAAndSuccessorSaid : Prop := fnUint256LessHasNothingBetweenAAndSuccessorRow.holds Try.pinned (OpenSpec.ofChange fnUint256LessHasNothingBetweenAAndSuccessorSpec)

/-- ITS FALSE NEIGHBOUR: 'it returns false'. Refute it at one input. -/
def fnUint256LessHasNothingBetweenAAndSuccessorWrong : ChangeSpec := { name := "fnUint256LessHasNothingBetweenAAndSuccessor", fn := fun _ => fun
  | [d1, d2] => { results := [.lit (.bool false)], args := [d1, d2] }
  | _ => none }
def FnUint256LessHasNothingBetweenAAndSuccessorWrongFalsely : Prop := fnUint256LessHasNothingBetweenAAndSuccessorRow.holds Try.pinned (OpenSpec.ofChange fnUint256LessHasNothingBetweenAAndSuccessorWrong)

/-- 'zzlaws_internal_edsig_b1.FnUint256BitsAtSplitsAndReadsEachBit': WHATEVER THE INPUT: true; the input reads as it did. -/
def fnUint256BitsAtSplitsAndReadsEachBitSpec : ChangeSpec := { name := "fnUint256BitsAtSplitsAndReadsEachBit", fn := fun _ => fun
  | [d1, d2, d3, d4] => { results := [.lit (.bool true)], args := [d1, d2, d3, d4] }
  | _ => none }
def fnUint256BitsAtSplitsAndReadsEachBitRow : OpenClaim := { program := "qxb6617384a", sum := "11b45e618c673a6f78c9b2adf5e6de0550bbe172273dd0919e5c27cf8c035e62", func := "example.com/pastcone/pastcone/zzlaws_internal_edsig_b1.FnUint256BitsAtSplitsAndReadsEachBit", spec := "fnUint256BitsAtSplitsAndReadsEachBit", apart := false }
def FnUint256BitsAtSplitsAndReadsEachBitSaid : Prop := fnUint256BitsAtSplitsAndReadsEachBitRow.holds Try.pinned (OpenSpec.ofChange fnUint256BitsAtSplitsAndReadsEachBitSpec)

/-- ITS FALSE NEIGHBOUR: 'it returns false'. Refute it at one input. -/
def fnUint256BitsAtSplitsAndReadsEachBitWrong : ChangeSpec := { name := "fnUint256BitsAtSplitsAndReadsEachBit", fn := fun _ => fun
  | [d1, d2, d3, d4] => { results := [.lit (.bool false)], args := [d1, d2, d3, d4] }
  | _ => none }
def FnUint256BitsAtSplitsAndReadsEachBitWrongFalsely : Prop := fnUint256BitsAtSplitsAndReadsEachBitRow.holds Try.pinned (OpenSpec.ofChange fnUint256BitsAtSplitsAndReadsEachBitWrong)

/-- 'zzlaws_internal_edsig_b1.FnUint256BitsAtWindowsRebuildTheNumber': WHATEVER THE INPUT: true; the input reads as it did. -/
def fnUint256BitsAtWindowsRebuildTheNumberSpec : ChangeSpec := { name := "fnUint256BitsAtWindowsRebuildTheNumber", fn := fun _ => fun
  | [d1, d2] => { results := [.lit (.bool true)], args := [d1, d2] }
  | _ => none }
def fnUint256BitsAtWindowsRebuildTheNumberRow : OpenClaim := { program := "qxb6617384a", sum := "11b45e618c673a6f78c9b2adf5e6de0550bbe172273dd0919e5c27cf8c035e62", func := "example.com/pastcone/pastcone/zzlaws_internal_edsig_b1.FnUint256BitsAtWindowsRebuildTheNumber", spec := "fnUint256BitsAtWindowsRebuildTheNumber", apart := false }
def FnUint256BitsAtWindowsRebuildTheNumberSaid : Prop := fnUint256BitsAtWindowsRebuildTheNumberRow.holds Try.pinned (OpenSpec.ofChange fnUint256BitsAtWindowsRebuildTheNumberSpec)

/-- ITS FALSE NEIGHBOUR: 'it returns false'. Refute it at one input. -/
def fnUint256BitsAtWindowsRebuildTheNumberWrong : ChangeSpec := { name := "fnUint256BitsAtWindowsRebuildTheNumber", fn := fun _ => fun
  | [d1, d2] => { results := [.lit (.bool false)], args := [d1, d2] }
  | _ => none }
def FnUint256BitsAtWindowsRebuildTheNumberWrongFalsely : Prop := fnUint256BitsAtWindowsRebuildTheNumberRow.holds Try.pinned (OpenSpec.ofChange fnUint256BitsAtWindowsRebuildTheNumberWrong)

end Rows
end Go.Proofs.Qxb6617384a
