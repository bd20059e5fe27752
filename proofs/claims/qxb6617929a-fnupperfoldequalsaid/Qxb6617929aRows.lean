/-
  No cell of these rows narrows 'for every input' (looked for: loops, veiled, ifaces, maps, wideKeys, modest, calm, conditions, laid).
  DERIVED. THE GIVEN ROWS OF THIS SEAT. 3 by the template 'for every input the law returns true; each argument reads behind the call as it read before'; 0 by the template 'total and deterministic' (their statements: Qxb6617929aTotals.lean).
  GIVEN WITH THE SEED: the statements are not yours to turn. If you find one false, say at which input.
  Laid BY PROGRAM, IN A SANDBOX (cutbox-rows.mjs): the forced cells as the released guide's own fill.sh prints them over the translation 951de2a41ad480dc… (all of the seat's roots in one cut). By AI agents, Wed Nov 11 2026. No macro, syntax, notation, axiom, sorry.
-/
import Derived.Test.Qxb6617929aChecked
import GoSem.Claim
import GoSem.ClaimJoined
import GoSem.ClaimMapViews
import Derived.JoinedTies
import Derived.KernelRfl
namespace Go.Proofs.Qxb6617929a
/- THE CELL 'sum', in the pinned program and in every row, IS THE sha256 OF THE DUMP (.gsa) THAT Qxb6617929aProg.lean LOADS. Nothing in Lean hashes anything: it is a label: what it is worth is what the hold of that sum in a sandbox is worth. -/
noncomputable def Try.pinned : Pinned := { name := "qxb6617929a", sum := "951de2a41ad480dcfb529b443e23c7a0114d73df4cfc5809362c65bf385c7220", checked := Try.checked }
namespace Rows
def none {H : Type} : Left H := { results := [], args := [] }

/-- 'zzlaws_zfs_b1.FnUpperCasePair': WHATEVER THE INPUT: true; the input reads as it did. -/
def fnUpperCasePairSpec : ChangeSpec := { name := "fnUpperCasePair", fn := fun _ => fun
  | [d] => { results := [.lit (.bool true)], args := [d] }
  | _ => none }
def fnUpperCasePairRow : OpenClaim := { program := "qxb6617929a", sum := "951de2a41ad480dcfb529b443e23c7a0114d73df4cfc5809362c65bf385c7220", func := "example.com/stoneward/stoneward/zzlaws_zfs_b1.FnUpperCasePair", spec := "fnUpperCasePair", apart := false }
def FnUpperCasePairSaid : Prop := fnUpperCasePairRow.holds Try.pinned (OpenSpec.ofChange fnUpperCasePairSpec)

/-- ITS FALSE NEIGHBOUR: 'it returns false'. Refute it at one input. -/
def fnUpperCasePairWrong : ChangeSpec := { name := "fnUpperCasePair", fn := fun _ => fun
  | [d] => { results := [.lit (.bool false)], args := [d] }
  | _ => none }
def FnUpperCasePairWrongFalsely : Prop := fnUpperCasePairRow.holds Try.pinned (OpenSpec.ofChange fnUpperCasePairWrong)

/-- 'zzlaws_zfs_b1.FnUpperFoldEqual': WHATEVER THE INPUT: true; the input reads as it did. -/
def fnUpperFoldEqualSpec : ChangeSpec := { name := "fnUpperFoldEqual", fn := fun _ => fun
  | [d1, d2] => { results := [.lit (.bool true)], args := [d1, d2] }
  | _ => none }
def fnUpperFoldEqualRow : OpenClaim := { program := "qxb6617929a", sum := "951de2a41ad480dcfb529b443e23c7a0114d73df4cfc5809362c65bf385c7220", func := "example.com/stoneward/stoneward/zzlaws_zfs_b1.FnUpperFoldEqual", spec := "fnUpperFoldEqual", apart := false }
def FnUpperFoldEqualSaid : Prop := fnUpperFoldEqualRow.holds Try.pinned (OpenSpec.ofChange fnUpperFoldEqualSpec)

/-- ITS FALSE NEIGHBOUR: 'it returns false'. Refute it at one input. -/
def fnUpperFoldEqualWrong : ChangeSpec := { name := "fnUpperFoldEqual", fn := fun _ => fun
  | [d1, d2] => { results := [.lit (.bool false)], args := [d1, d2] }
  | _ => none }
def FnUpperFoldEqualWrongFalsely : Prop := fnUpperFoldEqualRow.holds Try.pinned (OpenSpec.ofChange fnUpperFoldEqualWrong)

/-- 'zzlaws_zfs_b1.FnStatusOfCaseSensitivePrefixFree': WHATEVER THE INPUT: true; the input reads as it did. -/
def fnStatusOfCaseSensitivePrefixFreeSpec : ChangeSpec := { name := "fnStatusOfCaseSensitivePrefixFree", fn := fun _ => fun
  | [d1, d2, d3] => { results := [.lit (.bool true)], args := [d1, d2, d3] }
  | _ => none }
def fnStatusOfCaseSensitivePrefixFreeRow : OpenClaim := { program := "qxb6617929a", sum := "951de2a41ad480dcfb529b443e23c7a0114d73df4cfc5809362c65bf385c7220", func := "example.com/stoneward/stoneward/zzlaws_zfs_b1.FnStatusOfCaseSensitivePrefixFree", spec := "fnStatusOfCaseSensitivePrefixFree", apart := false }
def FnStatusOfCaseSensitivePrefixFreeSaid : Prop := fnStatusOfCaseSensitivePrefixFreeRow.holds Try.pinned (OpenSpec.ofChange fnStatusOfCaseSensitivePrefixFreeSpec)

/-- ITS FALSE NEIGHBOUR: 'it returns false'. Refute it at one input. -/
def fnStatusOfCaseSensitivePrefixFreeWrong : ChangeSpec := { name := "fnStatusOfCaseSensitivePrefixFree", fn := fun _ => fun
  | [d1, d2, d3] => { results := [.lit (.bool false)], args := [d1, d2, d3] }
  | _ => none }
def FnStatusOfCaseSensitivePrefixFreeWrongFalsely : Prop := fnStatusOfCaseSensitivePrefixFreeRow.holds Try.pinned (OpenSpec.ofChange fnStatusOfCaseSensitivePrefixFreeWrong)

end Rows
end Go.Proofs.Qxb6617929a
