/-
  No cell of these rows narrows 'for every input' (looked for: loops, veiled, ifaces, maps, wideKeys, modest, calm, conditions, laid).
  DERIVED. THE GIVEN ROWS OF THIS SEAT. 7 by the template 'for every input the law returns true; each argument reads behind the call as it read before'; 0 by the template 'total and deterministic' (their statements: Qxb6600858aTotals.lean).
  GIVEN WITH THE SEED: the statements are not yours to turn. If you find one false, say at which input.
  Laid BY PROGRAM, IN A SANDBOX (cutbox-rows.mjs): the forced cells as the released guide's own fill.sh prints them over the translation 318f731519e9b439… (all of the seat's roots in one cut). By AI agents, Wed Nov 11 2026. No macro, syntax, notation, axiom, sorry.
-/
import Derived.Test.Qxb6600858aChecked
import GoSem.Claim
import GoSem.ClaimJoined
import GoSem.ClaimMapViews
import Derived.JoinedTies
import Derived.KernelRfl
namespace Go.Proofs.Qxb6600858a
/- THE CELL 'sum', in the pinned program and in every row, IS THE sha256 OF THE DUMP (.gsa) THAT Qxb6600858aProg.lean LOADS. Nothing in Lean hashes anything: it is a label: what it is worth is what the hold of that sum in a sandbox is worth. -/
noncomputable def Try.pinned : Pinned := { name := "qxb6600858a", sum := "318f731519e9b439ff1e7cbad86a70ddeb458ef96bdcdfa3d5c9b3c552fafe3b", checked := Try.checked }
namespace Rows
def none {H : Type} : Left H := { results := [], args := [] }

/-- 'zzlaws_internal_engine_b1.FnCommonTypeMatchesSetModel': WHATEVER THE INPUT: true; the input reads as it did. -/
def fnCommonTypeMatchesSetModelSpec : ChangeSpec := { name := "fnCommonTypeMatchesSetModel", fn := fun _ => fun
  | [d] => { results := [.lit (.bool true)], args := [d] }
  | _ => none }
def fnCommonTypeMatchesSetModelRow : OpenClaim := { program := "qxb6600858a", sum := "318f731519e9b439ff1e7cbad86a70ddeb458ef96bdcdfa3d5c9b3c552fafe3b", func := "example.com/savepoint-stack/savepoint-stack/zzlaws_internal_engine_b1.FnCommonTypeMatchesSetModel", spec := "fnCommonTypeMatchesSetModel", apart := false }
def FnCommonTypeMatchesSetModelSaid : Prop := fnCommonTypeMatchesSetModelRow.holds Try.pinned (OpenSpec.ofChange fnCommonTypeMatchesSetModelSpec)

/-- ITS FALSE NEIGHBOUR: 'it returns false'. Refute it at one input. -/
def fnCommonTypeMatchesSetModelWrong : ChangeSpec := { name := "fnCommonTypeMatchesSetModel", fn := fun _ => fun
  | [d] => { results := [.lit (.bool false)], args := [d] }
  | _ => none }
def FnCommonTypeMatchesSetModelWrongFalsely : Prop := fnCommonTypeMatchesSetModelRow.holds Try.pinned (OpenSpec.ofChange fnCommonTypeMatchesSetModelWrong)

/-- 'zzlaws_internal_engine_b1.FnCommonTypeOrderFree': WHATEVER THE INPUT: true; the input reads as it did. -/
def fnCommonTypeOrderFreeSpec : ChangeSpec := { name := "fnCommonTypeOrderFree", fn := fun _ => fun
  | [d] => { results := [.lit (.bool true)], args := [d] }
  | _ => none }
def fnCommonTypeOrderFreeRow : OpenClaim := { program := "qxb6600858a", sum := "318f731519e9b439ff1e7cbad86a70ddeb458ef96bdcdfa3d5c9b3c552fafe3b", func := "example.com/savepoint-stack/savepoint-stack/zzlaws_internal_engine_b1.FnCommonTypeOrderFree", spec := "fnCommonTypeOrderFree", apart := false }
def FnCommonTypeOrderFreeSaid : Prop := fnCommonTypeOrderFreeRow.holds Try.pinned (OpenSpec.ofChange fnCommonTypeOrderFreeSpec)

/-- ITS FALSE NEIGHBOUR: 'it returns false'. Refute it at one input. -/
def fnCommonTypeOrderFreeWrong : ChangeSpec := { name := "fnCommonTypeOrderFree", fn := fun _ => fun
  | [d] => { results := [.lit (.bool false)], args := [d] }
  | _ => none }
def FnCommonTypeOrderFreeWrongFalsely : Prop := fnCommonTypeOrderFreeRow.holds Try.pinned (OpenSpec.ofChange fnCommonTypeOrderFreeWrong)

/-- 'zzlaws_internal_engine_b1.FnCommonTypeFailurePrefix': WHATEVER THE INPUT: true; the input reads as it did. -/
def fnCommonTypeFailurePrefixSpec : ChangeSpec := { name := "fnCommonTypeFailurePrefix", fn := fun _ => fun
  | [d] => { results := [.lit (.bool true)], args := [d] }
  | _ => none }
def fnCommonTypeFailurePrefixRow : OpenClaim := { program := "qxb6600858a", sum := "318f731519e9b439ff1e7cbad86a70ddeb458ef96bdcdfa3d5c9b3c552fafe3b", func := "example.com/savepoint-stack/savepoint-stack/zzlaws_internal_engine_b1.FnCommonTypeFailurePrefix", spec := "fnCommonTypeFailurePrefix", apart := false }
def FnCommonTypeFailurePrefixSaid : Prop := fnCommonTypeFailurePrefixRow.holds Try.pinned (OpenSpec.ofChange fnCommonTypeFailurePrefixSpec)

/-- ITS FALSE NEIGHBOUR: 'it returns false'. Refute it at one input. -/
def fnCommonTypeFailurePrefixWrong : ChangeSpec := { name := "fnCommonTypeFailurePrefix", fn := fun _ => fun
  | [d] => { results := [.lit (.bool false)], args := [d] }
  | _ => none }
def FnCommonTypeFailurePrefixWrongFalsely : Prop := fnCommonTypeFailurePrefixRow.holds Try.pinned (OpenSpec.ofChange fnCommonTypeFailurePrefixWrong)

/-- 'zzlaws_internal_engine_b1.FnPackLevelLeavesExact': WHATEVER THE INPUT: true; the input reads as it did. -/
def fnPackLevelLeavesExactSpec : ChangeSpec := { name := "fnPackLevelLeavesExact", fn := fun _ => fun
  | [d] => { results := [.lit (.bool true)], args := [d] }
  | _ => none }
def fnPackLevelLeavesExactRow : OpenClaim := { program := "qxb6600858a", sum := "318f731519e9b439ff1e7cbad86a70ddeb458ef96bdcdfa3d5c9b3c552fafe3b", func := "example.com/savepoint-stack/savepoint-stack/zzlaws_internal_engine_b1.FnPackLevelLeavesExact", spec := "fnPackLevelLeavesExact", apart := false }
def FnPackLevelLeavesExactSaid : Prop := fnPackLevelLeavesExactRow.holds Try.pinned (OpenSpec.ofChange fnPackLevelLeavesExactSpec)

/-- ITS FALSE NEIGHBOUR: 'it returns false'. Refute it at one input. -/
def fnPackLevelLeavesExactWrong : ChangeSpec := { name := "fnPackLevelLeavesExact", fn := fun _ => fun
  | [d] => { results := [.lit (.bool false)], args := [d] }
  | _ => none }
def FnPackLevelLeavesExactWrongFalsely : Prop := fnPackLevelLeavesExactRow.holds Try.pinned (OpenSpec.ofChange fnPackLevelLeavesExactWrong)

/-- 'zzlaws_internal_engine_b1.FnPackLevelUpperLinks': WHATEVER THE INPUT: true; the input reads as it did. -/
def fnPackLevelUpperLinksSpec : ChangeSpec := { name := "fnPackLevelUpperLinks", fn := fun _ => fun
  | [d] => { results := [.lit (.bool true)], args := [d] }
  | _ => none }
def fnPackLevelUpperLinksRow : OpenClaim := { program := "qxb6600858a", sum := "318f731519e9b439ff1e7cbad86a70ddeb458ef96bdcdfa3d5c9b3c552fafe3b", func := "example.com/savepoint-stack/savepoint-stack/zzlaws_internal_engine_b1.FnPackLevelUpperLinks", spec := "fnPackLevelUpperLinks", apart := false }
def FnPackLevelUpperLinksSaid : Prop := fnPackLevelUpperLinksRow.holds Try.pinned (OpenSpec.ofChange fnPackLevelUpperLinksSpec)

/-- ITS FALSE NEIGHBOUR: 'it returns false'. Refute it at one input. -/
def fnPackLevelUpperLinksWrong : ChangeSpec := { name := "fnPackLevelUpperLinks", fn := fun _ => fun
  | [d] => { results := [.lit (.bool false)], args := [d] }
  | _ => none }
def FnPackLevelUpperLinksWrongFalsely : Prop := fnPackLevelUpperLinksRow.holds Try.pinned (OpenSpec.ofChange fnPackLevelUpperLinksWrong)

/-- 'zzlaws_internal_engine_b1.FnOrderedFromLevelCounts': WHATEVER THE INPUT: true; the input reads as it did. -/
def fnOrderedFromLevelCountsSpec : ChangeSpec := { name := "fnOrderedFromLevelCounts", fn := fun _ => fun
  | [d1, d2] => { results := [.lit (.bool true)], args := [d1, d2] }
  | _ => none }
def fnOrderedFromLevelCountsRow : OpenClaim := { program := "qxb6600858a", sum := "318f731519e9b439ff1e7cbad86a70ddeb458ef96bdcdfa3d5c9b3c552fafe3b", func := "example.com/savepoint-stack/savepoint-stack/zzlaws_internal_engine_b1.FnOrderedFromLevelCounts", spec := "fnOrderedFromLevelCounts", recurses := true, apart := false }
def FnOrderedFromLevelCountsSaid : Prop := fnOrderedFromLevelCountsRow.holds Try.pinned (OpenSpec.ofChange fnOrderedFromLevelCountsSpec)

/-- ITS FALSE NEIGHBOUR: 'it returns false'. Refute it at one input. -/
def fnOrderedFromLevelCountsWrong : ChangeSpec := { name := "fnOrderedFromLevelCounts", fn := fun _ => fun
  | [d1, d2] => { results := [.lit (.bool false)], args := [d1, d2] }
  | _ => none }
def FnOrderedFromLevelCountsWrongFalsely : Prop := fnOrderedFromLevelCountsRow.holds Try.pinned (OpenSpec.ofChange fnOrderedFromLevelCountsWrong)

/-- 'zzlaws_internal_engine_b1.FnOrderedFromBTree': WHATEVER THE INPUT: true; the input reads as it did. -/
def fnOrderedFromBTreeSpec : ChangeSpec := { name := "fnOrderedFromBTree", fn := fun _ => fun
  | [d] => { results := [.lit (.bool true)], args := [d] }
  | _ => none }
def fnOrderedFromBTreeRow : OpenClaim := { program := "qxb6600858a", sum := "318f731519e9b439ff1e7cbad86a70ddeb458ef96bdcdfa3d5c9b3c552fafe3b", func := "example.com/savepoint-stack/savepoint-stack/zzlaws_internal_engine_b1.FnOrderedFromBTree", spec := "fnOrderedFromBTree", recurses := true, apart := false }
def FnOrderedFromBTreeSaid : Prop := fnOrderedFromBTreeRow.holds Try.pinned (OpenSpec.ofChange fnOrderedFromBTreeSpec)

/-- ITS FALSE NEIGHBOUR: 'it returns false'. Refute it at one input. -/
def fnOrderedFromBTreeWrong : ChangeSpec := { name := "fnOrderedFromBTree", fn := fun _ => fun
  | [d] => { results := [.lit (.bool false)], args := [d] }
  | _ => none }
def FnOrderedFromBTreeWrongFalsely : Prop := fnOrderedFromBTreeRow.holds Try.pinned (OpenSpec.ofChange fnOrderedFromBTreeWrong)

end Rows
end Go.Proofs.Qxb6600858a
