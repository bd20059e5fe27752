/-
  DERIVED. GIVEN WITH THE SEED: THE CARDS: each row of Qxb6617929aDoorRows.lean that lists a variable, with what it lists TIED to the program's text (the seventh form; the later family's looks); each row that meets fmt, with fmt's text TOLD by the authors' own Lean function (tested against real Go, not proved from fmt's source: count such statements apart). THE CARD IS WHAT COUNTS. Prove the row's statement (the work); the ties are given (Qxb6617929aDoorTie.lean); close each card by the builder's one call (the guide's Derived/Test/ToyasCard.lean, 'card_holds'). Laid BY PROGRAM, IN A SANDBOX (cutbox-door.mjs). By AI agents, Wed Nov 11 2026. No macro, syntax, notation, axiom, sorry.
-/
import Derived.Test.Qxb6617929aDoorRows
import GoSem.ClaimSeven
namespace Go.Proofs.Qxb6617929aDoor
namespace Rows

/-- THE TIED CARD OF 'zzlaws_zfs_b1.FnLevelsExtendsByNext'. -/
def fnLevelsExtendsByNextCard : Claim7 := { stood := { row := fnLevelsExtendsByNextRow, standIns := [], harness := (true, "5e1e3f60c76e55f946d10818371aae9b9599445b4f40cc19c790e1e51342826f"), looks := false }, kinds := [], alts := [], laidByText := true, laidKinds := [.data, .data, .data], laidTests := true, laidLooks := .later }
def FnLevelsExtendsByNextCardSaid : Prop := Claim7.holds Tryd.pinned (.plain (OpenSpec.ofChange fnLevelsExtendsByNextSpec)) fnLevelsExtendsByNextCard

/-- THE TIED CARD OF 'zzlaws_zfs_b1.FnLevelsSuffixIndependentOfName'. -/
def fnLevelsSuffixIndependentOfNameCard : Claim7 := { stood := { row := fnLevelsSuffixIndependentOfNameRow, standIns := [], harness := (true, "5e1e3f60c76e55f946d10818371aae9b9599445b4f40cc19c790e1e51342826f"), looks := false }, kinds := [], alts := [], laidByText := true, laidKinds := [.data, .data, .data], laidTests := true, laidLooks := .later }
def FnLevelsSuffixIndependentOfNameCardSaid : Prop := Claim7.holds Tryd.pinned (.plain (OpenSpec.ofChange fnLevelsSuffixIndependentOfNameSpec)) fnLevelsSuffixIndependentOfNameCard
end Rows
end Go.Proofs.Qxb6617929aDoor
