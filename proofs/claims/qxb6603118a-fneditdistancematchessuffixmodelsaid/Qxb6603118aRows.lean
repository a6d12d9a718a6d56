/-
  No cell of these rows narrows 'for every input' (looked for: loops, veiled, ifaces, maps, wideKeys, modest, calm, conditions, laid).
  DERIVED. THE GIVEN ROWS OF THIS SEAT. 7 by the template 'for every input the law returns true; each argument reads behind the call as it read before'; 0 by the template 'total and deterministic' (their statements: Qxb6603118aTotals.lean).
  GIVEN WITH THE SEED: the statements are not yours to turn. If you find one false, say at which input.
  Laid BY PROGRAM, IN A SANDBOX (cutbox-rows.mjs): the forced cells as the released guide's own fill.sh prints them over the translation 1bfd2ed2d7feeaf5… (all of the seat's roots in one cut). By AI agents, Wed Nov 11 2026. No macro, syntax, notation, axiom, sorry.
-/
import Derived.Test.Qxb6603118aChecked
import GoSem.Claim
import GoSem.ClaimJoined
import GoSem.ClaimMapViews
import Derived.JoinedTies
import Derived.KernelRfl
namespace Go.Proofs.Qxb6603118a
/- THE CELL 'sum', in the pinned program and in every row, IS THE sha256 OF THE DUMP (.gsa) THAT Qxb6603118aProg.lean LOADS. Nothing in Lean hashes anything: it is a label: what it is worth is what the hold of that sum in a sandbox is worth. -/
noncomputable def Try.pinned : Pinned := { name := "qxb6603118a", sum := "1bfd2ed2d7feeaf519b483c4135b57964f3581550ed56691d5d21b6dc2944756", checked := Try.checked }
namespace Rows
def none {H : Type} : Left H := { results := [], args := [] }

/-- 'zzlaws_root_b1.FnUngroupedAlternationQuotedPieces': WHATEVER THE INPUT: true; the input reads as it did. -/
def fnUngroupedAlternationQuotedPiecesSpec : ChangeSpec := { name := "fnUngroupedAlternationQuotedPieces", fn := fun _ => fun
  | [d1, d2] => { results := [.lit (.bool true)], args := [d1, d2] }
  | _ => none }
def fnUngroupedAlternationQuotedPiecesRow : OpenClaim := { program := "qxb6603118a", sum := "1bfd2ed2d7feeaf519b483c4135b57964f3581550ed56691d5d21b6dc2944756", func := "example.com/rolewarden/rolewarden/zzlaws_root_b1.FnUngroupedAlternationQuotedPieces", spec := "fnUngroupedAlternationQuotedPieces", inPlace := ["internal/bytealg.IndexByteString", "internal/bytealg.IndexString"], named := ["internal/bytealg.MaxLen"], apart := false }
def FnUngroupedAlternationQuotedPiecesSaid : Prop := fnUngroupedAlternationQuotedPiecesRow.holds Try.pinned (OpenSpec.ofChange fnUngroupedAlternationQuotedPiecesSpec)

/-- ITS FALSE NEIGHBOUR: 'it returns false'. Refute it at one input. -/
def fnUngroupedAlternationQuotedPiecesWrong : ChangeSpec := { name := "fnUngroupedAlternationQuotedPieces", fn := fun _ => fun
  | [d1, d2] => { results := [.lit (.bool false)], args := [d1, d2] }
  | _ => none }
def FnUngroupedAlternationQuotedPiecesWrongFalsely : Prop := fnUngroupedAlternationQuotedPiecesRow.holds Try.pinned (OpenSpec.ofChange fnUngroupedAlternationQuotedPiecesWrong)

/-- 'zzlaws_root_b1.FnClassEndLandsOnItsBracket': WHATEVER THE INPUT: true; the input reads as it did. -/
def fnClassEndLandsOnItsBracketSpec : ChangeSpec := { name := "fnClassEndLandsOnItsBracket", fn := fun _ => fun
  | [d1, d2] => { results := [.lit (.bool true)], args := [d1, d2] }
  | _ => none }
def fnClassEndLandsOnItsBracketRow : OpenClaim := { program := "qxb6603118a", sum := "1bfd2ed2d7feeaf519b483c4135b57964f3581550ed56691d5d21b6dc2944756", func := "example.com/rolewarden/rolewarden/zzlaws_root_b1.FnClassEndLandsOnItsBracket", spec := "fnClassEndLandsOnItsBracket", inPlace := ["internal/bytealg.IndexByteString", "internal/bytealg.IndexString"], named := ["internal/bytealg.MaxLen"], apart := false }
def FnClassEndLandsOnItsBracketSaid : Prop := fnClassEndLandsOnItsBracketRow.holds Try.pinned (OpenSpec.ofChange fnClassEndLandsOnItsBracketSpec)

/-- ITS FALSE NEIGHBOUR: 'it returns false'. Refute it at one input. -/
def fnClassEndLandsOnItsBracketWrong : ChangeSpec := { name := "fnClassEndLandsOnItsBracket", fn := fun _ => fun
  | [d1, d2] => { results := [.lit (.bool false)], args := [d1, d2] }
  | _ => none }
def FnClassEndLandsOnItsBracketWrongFalsely : Prop := fnClassEndLandsOnItsBracketRow.holds Try.pinned (OpenSpec.ofChange fnClassEndLandsOnItsBracketWrong)

/-- 'zzlaws_root_b1.FnClassEndReadsOnlyWhatFollows': WHATEVER THE INPUT: true; the input reads as it did. -/
def fnClassEndReadsOnlyWhatFollowsSpec : ChangeSpec := { name := "fnClassEndReadsOnlyWhatFollows", fn := fun _ => fun
  | [d1, d2, d3, d4] => { results := [.lit (.bool true)], args := [d1, d2, d3, d4] }
  | _ => none }
def fnClassEndReadsOnlyWhatFollowsRow : OpenClaim := { program := "qxb6603118a", sum := "1bfd2ed2d7feeaf519b483c4135b57964f3581550ed56691d5d21b6dc2944756", func := "example.com/rolewarden/rolewarden/zzlaws_root_b1.FnClassEndReadsOnlyWhatFollows", spec := "fnClassEndReadsOnlyWhatFollows", inPlace := ["internal/bytealg.IndexByteString", "internal/bytealg.IndexString"], named := ["internal/bytealg.MaxLen"], apart := false }
def FnClassEndReadsOnlyWhatFollowsSaid : Prop := fnClassEndReadsOnlyWhatFollowsRow.holds Try.pinned (OpenSpec.ofChange fnClassEndReadsOnlyWhatFollowsSpec)

/-- ITS FALSE NEIGHBOUR: 'it returns false'. Refute it at one input. -/
def fnClassEndReadsOnlyWhatFollowsWrong : ChangeSpec := { name := "fnClassEndReadsOnlyWhatFollows", fn := fun _ => fun
  | [d1, d2, d3, d4] => { results := [.lit (.bool false)], args := [d1, d2, d3, d4] }
  | _ => none }
def FnClassEndReadsOnlyWhatFollowsWrongFalsely : Prop := fnClassEndReadsOnlyWhatFollowsRow.holds Try.pinned (OpenSpec.ofChange fnClassEndReadsOnlyWhatFollowsWrong)

/-- 'zzlaws_root_b1.FnClassEndStopsAtItsBracket': WHATEVER THE INPUT: true; the input reads as it did. -/
def fnClassEndStopsAtItsBracketSpec : ChangeSpec := { name := "fnClassEndStopsAtItsBracket", fn := fun _ => fun
  | [d1, d2] => { results := [.lit (.bool true)], args := [d1, d2] }
  | _ => none }
def fnClassEndStopsAtItsBracketRow : OpenClaim := { program := "qxb6603118a", sum := "1bfd2ed2d7feeaf519b483c4135b57964f3581550ed56691d5d21b6dc2944756", func := "example.com/rolewarden/rolewarden/zzlaws_root_b1.FnClassEndStopsAtItsBracket", spec := "fnClassEndStopsAtItsBracket", inPlace := ["internal/bytealg.IndexByteString", "internal/bytealg.IndexString"], named := ["internal/bytealg.MaxLen"], apart := false }
def FnClassEndStopsAtItsBracketSaid : Prop := fnClassEndStopsAtItsBracketRow.holds Try.pinned (OpenSpec.ofChange fnClassEndStopsAtItsBracketSpec)

/-- ITS FALSE NEIGHBOUR: 'it returns false'. Refute it at one input. -/
def fnClassEndStopsAtItsBracketWrong : ChangeSpec := { name := "fnClassEndStopsAtItsBracket", fn := fun _ => fun
  | [d1, d2] => { results := [.lit (.bool false)], args := [d1, d2] }
  | _ => none }
def FnClassEndStopsAtItsBracketWrongFalsely : Prop := fnClassEndStopsAtItsBracketRow.holds Try.pinned (OpenSpec.ofChange fnClassEndStopsAtItsBracketWrong)

/-- 'zzlaws_root_b1.FnEditDistanceMatchesSuffixModel': WHATEVER THE INPUT: true; the input reads as it did. -/
def fnEditDistanceMatchesSuffixModelSpec : ChangeSpec := { name := "fnEditDistanceMatchesSuffixModel", fn := fun _ => fun
  | [d1, d2] => { results := [.lit (.bool true)], args := [d1, d2] }
  | _ => none }
def fnEditDistanceMatchesSuffixModelRow : OpenClaim := { program := "qxb6603118a", sum := "1bfd2ed2d7feeaf519b483c4135b57964f3581550ed56691d5d21b6dc2944756", func := "example.com/rolewarden/rolewarden/zzlaws_root_b1.FnEditDistanceMatchesSuffixModel", spec := "fnEditDistanceMatchesSuffixModel", apart := false }
def FnEditDistanceMatchesSuffixModelSaid : Prop := fnEditDistanceMatchesSuffixModelRow.holds Try.pinned (OpenSpec.ofChange fnEditDistanceMatchesSuffixModelSpec)

/-- ITS FALSE NEIGHBOUR: 'it returns false'. Refute it at one input. -/
def fnEditDistanceMatchesSuffixModelWrong : ChangeSpec := { name := "fnEditDistanceMatchesSuffixModel", fn := fun _ => fun
  | [d1, d2] => { results := [.lit (.bool false)], args := [d1, d2] }
  | _ => none }
def FnEditDistanceMatchesSuffixModelWrongFalsely : Prop := fnEditDistanceMatchesSuffixModelRow.holds Try.pinned (OpenSpec.ofChange fnEditDistanceMatchesSuffixModelWrong)

/-- 'zzlaws_root_b1.FnEditDistanceIsAMetricWithinBounds': WHATEVER THE INPUT: true; the input reads as it did. -/
def fnEditDistanceIsAMetricWithinBoundsSpec : ChangeSpec := { name := "fnEditDistanceIsAMetricWithinBounds", fn := fun _ => fun
  | [d1, d2] => { results := [.lit (.bool true)], args := [d1, d2] }
  | _ => none }
def fnEditDistanceIsAMetricWithinBoundsRow : OpenClaim := { program := "qxb6603118a", sum := "1bfd2ed2d7feeaf519b483c4135b57964f3581550ed56691d5d21b6dc2944756", func := "example.com/rolewarden/rolewarden/zzlaws_root_b1.FnEditDistanceIsAMetricWithinBounds", spec := "fnEditDistanceIsAMetricWithinBounds", apart := false }
def FnEditDistanceIsAMetricWithinBoundsSaid : Prop := fnEditDistanceIsAMetricWithinBoundsRow.holds Try.pinned (OpenSpec.ofChange fnEditDistanceIsAMetricWithinBoundsSpec)

/-- ITS FALSE NEIGHBOUR: 'it returns false'. Refute it at one input. -/
def fnEditDistanceIsAMetricWithinBoundsWrong : ChangeSpec := { name := "fnEditDistanceIsAMetricWithinBounds", fn := fun _ => fun
  | [d1, d2] => { results := [.lit (.bool false)], args := [d1, d2] }
  | _ => none }
def FnEditDistanceIsAMetricWithinBoundsWrongFalsely : Prop := fnEditDistanceIsAMetricWithinBoundsRow.holds Try.pinned (OpenSpec.ofChange fnEditDistanceIsAMetricWithinBoundsWrong)

/-- 'zzlaws_root_b1.FnEditDistanceTriangleAndCommonAffix': WHATEVER THE INPUT: true; the input reads as it did. -/
def fnEditDistanceTriangleAndCommonAffixSpec : ChangeSpec := { name := "fnEditDistanceTriangleAndCommonAffix", fn := fun _ => fun
  | [d1, d2, d3] => { results := [.lit (.bool true)], args := [d1, d2, d3] }
  | _ => none }
def fnEditDistanceTriangleAndCommonAffixRow : OpenClaim := { program := "qxb6603118a", sum := "1bfd2ed2d7feeaf519b483c4135b57964f3581550ed56691d5d21b6dc2944756", func := "example.com/rolewarden/rolewarden/zzlaws_root_b1.FnEditDistanceTriangleAndCommonAffix", spec := "fnEditDistanceTriangleAndCommonAffix", apart := false }
def FnEditDistanceTriangleAndCommonAffixSaid : Prop := fnEditDistanceTriangleAndCommonAffixRow.holds Try.pinned (OpenSpec.ofChange fnEditDistanceTriangleAndCommonAffixSpec)

/-- ITS FALSE NEIGHBOUR: 'it returns false'. Refute it at one input. -/
def fnEditDistanceTriangleAndCommonAffixWrong : ChangeSpec := { name := "fnEditDistanceTriangleAndCommonAffix", fn := fun _ => fun
  | [d1, d2, d3] => { results := [.lit (.bool false)], args := [d1, d2, d3] }
  | _ => none }
def FnEditDistanceTriangleAndCommonAffixWrongFalsely : Prop := fnEditDistanceTriangleAndCommonAffixRow.holds Try.pinned (OpenSpec.ofChange fnEditDistanceTriangleAndCommonAffixWrong)

end Rows
end Go.Proofs.Qxb6603118a
