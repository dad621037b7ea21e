/-
  No cell of these rows narrows 'for every input' (looked for: loops, veiled, ifaces, maps, wideKeys, modest, calm, conditions, laid).
  DERIVED. THE GIVEN ROWS OF THIS SEAT. 7 by the template 'for every input the law returns true; each argument reads behind the call as it read before'; 0 by the template 'total and deterministic' (their statements: Qxb6600323aTotals.lean).
  GIVEN WITH THE SEED: the statements are not yours to turn. If you find one false, say at which input.
  Laid BY PROGRAM, IN A SANDBOX (cutbox-rows.mjs): the forced cells as the released guide's own fill.sh prints them over the translation b82100da16537f45… (all of the seat's roots in one cut). By AI agents, Wed Nov 11 2026. No macro, syntax, notation, axiom, sorry.
-/
import Derived.Test.Qxb6600323aChecked
import GoSem.Claim
import GoSem.ClaimJoined
import GoSem.ClaimMapViews
import Derived.JoinedTies
import Derived.KernelRfl
namespace Go.Proofs.Qxb6600323a
/- THE CELL 'sum', in the pinned program and in every row, IS THE sha256 OF THE DUMP (.gsa) THAT Qxb6600323aProg.lean LOADS. Nothing in Lean hashes anything: it is a label: what it is worth is what the hold of that sum in a sandbox is worth. -/
noncomputable def Try.pinned : Pinned := { name := "qxb6600323a", sum := "b82100da16537f4524634e655d1d37f9846033f9652e02e5d82bd55e7f059a12", checked := Try.checked }
namespace Rows
def none {H : Type} : Left H := { results := [], args := [] }

/-- 'zzlaws_root_b1.FnApplyBlockSegments': WHATEVER THE INPUT: true; the input reads as it did. -/
def fnApplyBlockSegmentsSpec : ChangeSpec := { name := "fnApplyBlockSegments", fn := fun _ => fun
  | [d1, d2, d3] => { results := [.lit (.bool true)], args := [d1, d2, d3] }
  | _ => none }
def fnApplyBlockSegmentsRow : OpenClaim := { program := "qxb6600323a", sum := "b82100da16537f4524634e655d1d37f9846033f9652e02e5d82bd55e7f059a12", func := "example.com/millefeuille/millefeuille/zzlaws_root_b1.FnApplyBlockSegments", spec := "fnApplyBlockSegments", apart := false }
def FnApplyBlockSegmentsSaid : Prop := fnApplyBlockSegmentsRow.holds Try.pinned (OpenSpec.ofChange fnApplyBlockSegmentsSpec)

/-- ITS FALSE NEIGHBOUR: 'it returns false'. Refute it at one input. -/
def fnApplyBlockSegmentsWrong : ChangeSpec := { name := "fnApplyBlockSegments", fn := fun _ => fun
  | [d1, d2, d3] => { results := [.lit (.bool false)], args := [d1, d2, d3] }
  | _ => none }
def FnApplyBlockSegmentsWrongFalsely : Prop := fnApplyBlockSegmentsRow.holds Try.pinned (OpenSpec.ofChange fnApplyBlockSegmentsWrong)

/-- 'zzlaws_root_b1.FnApplyBlockSplitFree': WHATEVER THE INPUT: true; the input reads as it did. -/
def fnApplyBlockSplitFreeSpec : ChangeSpec := { name := "fnApplyBlockSplitFree", fn := fun _ => fun
  | [d1, d2, d3, d4] => { results := [.lit (.bool true)], args := [d1, d2, d3, d4] }
  | _ => none }
def fnApplyBlockSplitFreeRow : OpenClaim := { program := "qxb6600323a", sum := "b82100da16537f4524634e655d1d37f9846033f9652e02e5d82bd55e7f059a12", func := "example.com/millefeuille/millefeuille/zzlaws_root_b1.FnApplyBlockSplitFree", spec := "fnApplyBlockSplitFree", apart := false }
def FnApplyBlockSplitFreeSaid : Prop := fnApplyBlockSplitFreeRow.holds Try.pinned (OpenSpec.ofChange fnApplyBlockSplitFreeSpec)

/-- ITS FALSE NEIGHBOUR: 'it returns false'. Refute it at one input. -/
def fnApplyBlockSplitFreeWrong : ChangeSpec := { name := "fnApplyBlockSplitFree", fn := fun _ => fun
  | [d1, d2, d3, d4] => { results := [.lit (.bool false)], args := [d1, d2, d3, d4] }
  | _ => none }
def FnApplyBlockSplitFreeWrongFalsely : Prop := fnApplyBlockSplitFreeRow.holds Try.pinned (OpenSpec.ofChange fnApplyBlockSplitFreeWrong)

/-- 'zzlaws_root_b1.FnApplyBlockNothingLost': WHATEVER THE INPUT: true; the input reads as it did. -/
def fnApplyBlockNothingLostSpec : ChangeSpec := { name := "fnApplyBlockNothingLost", fn := fun _ => fun
  | [d1, d2] => { results := [.lit (.bool true)], args := [d1, d2] }
  | _ => none }
def fnApplyBlockNothingLostRow : OpenClaim := { program := "qxb6600323a", sum := "b82100da16537f4524634e655d1d37f9846033f9652e02e5d82bd55e7f059a12", func := "example.com/millefeuille/millefeuille/zzlaws_root_b1.FnApplyBlockNothingLost", spec := "fnApplyBlockNothingLost", apart := false }
def FnApplyBlockNothingLostSaid : Prop := fnApplyBlockNothingLostRow.holds Try.pinned (OpenSpec.ofChange fnApplyBlockNothingLostSpec)

/-- ITS FALSE NEIGHBOUR: 'it returns false'. Refute it at one input. -/
def fnApplyBlockNothingLostWrong : ChangeSpec := { name := "fnApplyBlockNothingLost", fn := fun _ => fun
  | [d1, d2] => { results := [.lit (.bool false)], args := [d1, d2] }
  | _ => none }
def FnApplyBlockNothingLostWrongFalsely : Prop := fnApplyBlockNothingLostRow.holds Try.pinned (OpenSpec.ofChange fnApplyBlockNothingLostWrong)

/-- 'zzlaws_root_b1.FnRelistedExact': WHATEVER THE INPUT: true; the input reads as it did. -/
def fnRelistedExactSpec : ChangeSpec := { name := "fnRelistedExact", fn := fun _ => fun
  | [d1, d2, d3, d4, d5] => { results := [.lit (.bool true)], args := [d1, d2, d3, d4, d5] }
  | _ => none }
def fnRelistedExactRow : OpenClaim := { program := "qxb6600323a", sum := "b82100da16537f4524634e655d1d37f9846033f9652e02e5d82bd55e7f059a12", func := "example.com/millefeuille/millefeuille/zzlaws_root_b1.FnRelistedExact", spec := "fnRelistedExact", apart := false }
def FnRelistedExactSaid : Prop := fnRelistedExactRow.holds Try.pinned (OpenSpec.ofChange fnRelistedExactSpec)

/-- ITS FALSE NEIGHBOUR: 'it returns false'. Refute it at one input. -/
def fnRelistedExactWrong : ChangeSpec := { name := "fnRelistedExact", fn := fun _ => fun
  | [d1, d2, d3, d4, d5] => { results := [.lit (.bool false)], args := [d1, d2, d3, d4, d5] }
  | _ => none }
def FnRelistedExactWrongFalsely : Prop := fnRelistedExactRow.holds Try.pinned (OpenSpec.ofChange fnRelistedExactWrong)

/-- 'zzlaws_root_b1.FnRelistedNewBasesAfterInherited': WHATEVER THE INPUT: true; the input reads as it did. -/
def fnRelistedNewBasesAfterInheritedSpec : ChangeSpec := { name := "fnRelistedNewBasesAfterInherited", fn := fun _ => fun
  | [d1, d2] => { results := [.lit (.bool true)], args := [d1, d2] }
  | _ => none }
def fnRelistedNewBasesAfterInheritedRow : OpenClaim := { program := "qxb6600323a", sum := "b82100da16537f4524634e655d1d37f9846033f9652e02e5d82bd55e7f059a12", func := "example.com/millefeuille/millefeuille/zzlaws_root_b1.FnRelistedNewBasesAfterInherited", spec := "fnRelistedNewBasesAfterInherited", apart := false }
def FnRelistedNewBasesAfterInheritedSaid : Prop := fnRelistedNewBasesAfterInheritedRow.holds Try.pinned (OpenSpec.ofChange fnRelistedNewBasesAfterInheritedSpec)

/-- ITS FALSE NEIGHBOUR: 'it returns false'. Refute it at one input. -/
def fnRelistedNewBasesAfterInheritedWrong : ChangeSpec := { name := "fnRelistedNewBasesAfterInherited", fn := fun _ => fun
  | [d1, d2] => { results := [.lit (.bool false)], args := [d1, d2] }
  | _ => none }
def FnRelistedNewBasesAfterInheritedWrongFalsely : Prop := fnRelistedNewBasesAfterInheritedRow.holds Try.pinned (OpenSpec.ofChange fnRelistedNewBasesAfterInheritedWrong)

/-- 'zzlaws_root_b1.FnSortPrefixesStableOrder': WHATEVER THE INPUT: true; the input reads as it did. -/
def fnSortPrefixesStableOrderSpec : ChangeSpec := { name := "fnSortPrefixesStableOrder", fn := fun _ => fun
  | [d] => { results := [.lit (.bool true)], args := [d] }
  | _ => none }
def fnSortPrefixesStableOrderRow : OpenClaim := { program := "qxb6600323a", sum := "b82100da16537f4524634e655d1d37f9846033f9652e02e5d82bd55e7f059a12", func := "example.com/millefeuille/millefeuille/zzlaws_root_b1.FnSortPrefixesStableOrder", spec := "fnSortPrefixesStableOrder", apart := false }
def FnSortPrefixesStableOrderSaid : Prop := fnSortPrefixesStableOrderRow.holds Try.pinned (OpenSpec.ofChange fnSortPrefixesStableOrderSpec)

/-- ITS FALSE NEIGHBOUR: 'it returns false'. Refute it at one input. -/
def fnSortPrefixesStableOrderWrong : ChangeSpec := { name := "fnSortPrefixesStableOrder", fn := fun _ => fun
  | [d] => { results := [.lit (.bool false)], args := [d] }
  | _ => none }
def FnSortPrefixesStableOrderWrongFalsely : Prop := fnSortPrefixesStableOrderRow.holds Try.pinned (OpenSpec.ofChange fnSortPrefixesStableOrderWrong)

/-- 'zzlaws_root_b1.FnSortPrefixesOrderFree': WHATEVER THE INPUT: true; the input reads as it did. -/
def fnSortPrefixesOrderFreeSpec : ChangeSpec := { name := "fnSortPrefixesOrderFree", fn := fun _ => fun
  | [d] => { results := [.lit (.bool true)], args := [d] }
  | _ => none }
def fnSortPrefixesOrderFreeRow : OpenClaim := { program := "qxb6600323a", sum := "b82100da16537f4524634e655d1d37f9846033f9652e02e5d82bd55e7f059a12", func := "example.com/millefeuille/millefeuille/zzlaws_root_b1.FnSortPrefixesOrderFree", spec := "fnSortPrefixesOrderFree", apart := false }
def FnSortPrefixesOrderFreeSaid : Prop := fnSortPrefixesOrderFreeRow.holds Try.pinned (OpenSpec.ofChange fnSortPrefixesOrderFreeSpec)

/-- ITS FALSE NEIGHBOUR: 'it returns false'. Refute it at one input. -/
def fnSortPrefixesOrderFreeWrong : ChangeSpec := { name := "fnSortPrefixesOrderFree", fn := fun _ => fun
  | [d] => { results := [.lit (.bool false)], args := [d] }
  | _ => none }
def FnSortPrefixesOrderFreeWrongFalsely : Prop := fnSortPrefixesOrderFreeRow.holds Try.pinned (OpenSpec.ofChange fnSortPrefixesOrderFreeWrong)

end Rows
end Go.Proofs.Qxb6600323a
