/-
  No cell of these rows narrows 'for every input' (looked for: loops, veiled, ifaces, maps, wideKeys, modest, calm, conditions, laid).
  DERIVED. THE GIVEN ROWS OF THIS SEAT. 4 by the template 'for every input the law returns true; each argument reads behind the call as it read before'; 0 by the template 'total and deterministic' (their statements: Qxb6000066aTotals.lean).
  GIVEN WITH THE SEED: the statements are not yours to turn. If you find one false, say at which input.
  Laid BY PROGRAM, IN A SANDBOX (cutbox-rows.mjs): the forced cells as the released guide's own fill.sh prints them over the translation 2cf6486dc3642ace… (all of the seat's roots in one cut). By AI agents, Wed Nov 11 2026. No macro, syntax, notation, axiom, sorry.
-/
import Derived.Test.Qxb6000066aChecked
import GoSem.Claim
import GoSem.ClaimJoined
import GoSem.ClaimMapViews
import Derived.JoinedTies
import Derived.KernelRfl
namespace Go.Proofs.Qxb6000066a
/- THE CELL 'sum', in the pinned program and in every row, IS THE sha256 OF THE DUMP (.gsa) THAT Qxb6000066aProg.lean LOADS. Nothing in Lean hashes anything: it is a label: what it is worth is what the hold of that sum in a sandbox is worth. -/
noncomputable def Try.pinned : Pinned := { name := "qxb6000066a", sum := "2cf6486dc3642ace17184c2354d47a3a802b449a75d605543090643e080ddadc", checked := Try.checked }
namespace Rows
def none {H : Type} : Left H := { results := [], args := [] }

/-- 'zzlaws_pkg_sheet_b1.FnCodeLengthPrefix': WHATEVER THE INPUT: true; the input reads as it did. -/
def fnCodeLengthPrefixSpec : ChangeSpec := { name := "fnCodeLengthPrefix", fn := fun _ => fun
  | [d] => { results := [.lit (.bool true)], args := [d] }
  | _ => none }
def fnCodeLengthPrefixRow : OpenClaim := { program := "qxb6000066a", sum := "2cf6486dc3642ace17184c2354d47a3a802b449a75d605543090643e080ddadc", func := "example.com/vestbook/vestbook/zzlaws_pkg_sheet_b1.FnCodeLengthPrefix", spec := "fnCodeLengthPrefix", apart := false }
def FnCodeLengthPrefixSaid : Prop := fnCodeLengthPrefixRow.holds Try.pinned (OpenSpec.ofChange fnCodeLengthPrefixSpec)

/-- ITS FALSE NEIGHBOUR: 'it returns false'. Refute it at one input. -/
def fnCodeLengthPrefixWrong : ChangeSpec := { name := "fnCodeLengthPrefix", fn := fun _ => fun
  | [d] => { results := [.lit (.bool false)], args := [d] }
  | _ => none }
def FnCodeLengthPrefixWrongFalsely : Prop := fnCodeLengthPrefixRow.holds Try.pinned (OpenSpec.ofChange fnCodeLengthPrefixWrong)

/-- 'zzlaws_pkg_sheet_b1.FnPrivateUseTable': WHATEVER THE INPUT: true; the input reads as it did. -/
def fnPrivateUseTableSpec : ChangeSpec := { name := "fnPrivateUseTable", fn := fun _ => fun
  | [d] => { results := [.lit (.bool true)], args := [d] }
  | _ => none }
def fnPrivateUseTableRow : OpenClaim := { program := "qxb6000066a", sum := "2cf6486dc3642ace17184c2354d47a3a802b449a75d605543090643e080ddadc", func := "example.com/vestbook/vestbook/zzlaws_pkg_sheet_b1.FnPrivateUseTable", spec := "fnPrivateUseTable", apart := false }
def FnPrivateUseTableSaid : Prop := fnPrivateUseTableRow.holds Try.pinned (OpenSpec.ofChange fnPrivateUseTableSpec)

/-- ITS FALSE NEIGHBOUR: 'it returns false'. Refute it at one input. -/
def fnPrivateUseTableWrong : ChangeSpec := { name := "fnPrivateUseTable", fn := fun _ => fun
  | [d] => { results := [.lit (.bool false)], args := [d] }
  | _ => none }
def FnPrivateUseTableWrongFalsely : Prop := fnPrivateUseTableRow.holds Try.pinned (OpenSpec.ofChange fnPrivateUseTableWrong)

/-- 'zzlaws_pkg_sheet_b1.FnPrivateUseRange': WHATEVER THE INPUT: true; the input reads as it did. -/
def fnPrivateUseRangeSpec : ChangeSpec := { name := "fnPrivateUseRange", fn := fun _ => fun
  | [d] => { results := [.lit (.bool true)], args := [d] }
  | _ => none }
def fnPrivateUseRangeRow : OpenClaim := { program := "qxb6000066a", sum := "2cf6486dc3642ace17184c2354d47a3a802b449a75d605543090643e080ddadc", func := "example.com/vestbook/vestbook/zzlaws_pkg_sheet_b1.FnPrivateUseRange", spec := "fnPrivateUseRange", apart := false }
def FnPrivateUseRangeSaid : Prop := fnPrivateUseRangeRow.holds Try.pinned (OpenSpec.ofChange fnPrivateUseRangeSpec)

/-- ITS FALSE NEIGHBOUR: 'it returns false'. Refute it at one input. -/
def fnPrivateUseRangeWrong : ChangeSpec := { name := "fnPrivateUseRange", fn := fun _ => fun
  | [d] => { results := [.lit (.bool false)], args := [d] }
  | _ => none }
def FnPrivateUseRangeWrongFalsely : Prop := fnPrivateUseRangeRow.holds Try.pinned (OpenSpec.ofChange fnPrivateUseRangeWrong)

/-- 'zzlaws_pkg_sheet_b1.FnPrivateUseRoundTrip': WHATEVER THE INPUT: true; the input reads as it did. -/
def fnPrivateUseRoundTripSpec : ChangeSpec := { name := "fnPrivateUseRoundTrip", fn := fun _ => fun
  | [d] => { results := [.lit (.bool true)], args := [d] }
  | _ => none }
def fnPrivateUseRoundTripRow : OpenClaim := { program := "qxb6000066a", sum := "2cf6486dc3642ace17184c2354d47a3a802b449a75d605543090643e080ddadc", func := "example.com/vestbook/vestbook/zzlaws_pkg_sheet_b1.FnPrivateUseRoundTrip", spec := "fnPrivateUseRoundTrip", apart := false }
def FnPrivateUseRoundTripSaid : Prop := fnPrivateUseRoundTripRow.holds Try.pinned (OpenSpec.ofChange fnPrivateUseRoundTripSpec)

/-- ITS FALSE NEIGHBOUR: 'it returns false'. Refute it at one input. -/
def fnPrivateUseRoundTripWrong : ChangeSpec := { name := "fnPrivateUseRoundTrip", fn := fun _ => fun
  | [d] => { results := [.lit (.bool false)], args := [d] }
  | _ => none }
def FnPrivateUseRoundTripWrongFalsely : Prop := fnPrivateUseRoundTripRow.holds Try.pinned (OpenSpec.ofChange fnPrivateUseRoundTripWrong)

end Rows
end Go.Proofs.Qxb6000066a
