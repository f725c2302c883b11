/-
  No cell of these rows narrows 'for every input' (looked for: loops, veiled, ifaces, maps, wideKeys, modest, calm, conditions, laid).
  DERIVED. THE GIVEN ROWS OF THIS SEAT. 6 by the template 'for every input the law returns true; each argument reads behind the call as it read before'; 0 by the template 'total and deterministic' (their statements: Qxb6605448aTotals.lean).
  GIVEN WITH THE SEED: the statements are not yours to turn. If you find one false, say at which input.
  Laid BY PROGRAM, IN A SANDBOX (cutbox-rows.mjs): the forced cells as the released guide's own fill.sh prints them over the translation f2b34b35b74e2ff2… (all of the seat's roots in one cut). By AI agents, Wed Nov 11 2026. No macro, syntax, notation, axiom, sorry.
-/
import Derived.Test.Qxb6605448aChecked
import GoSem.Claim
import GoSem.ClaimJoined
import GoSem.ClaimMapViews
import Derived.JoinedTies
import Derived.KernelRfl
namespace Go.Proofs.Qxb6605448a
/- THE CELL 'sum', in the pinned program and in every row, IS THE sha256 OF THE DUMP (.gsa) THAT Qxb6605448aProg.lean LOADS. Nothing in Lean hashes anything: it is a label: what it is worth is what the hold of that sum in a sandbox is worth. -/
noncomputable def Try.pinned : Pinned := { name := "qxb6605448a", sum := "f2b34b35b74e2ff28cee382bde60d603ddcc7e3c63f406caa0874c4b99c8e59a", checked := Try.checked }
namespace Rows
def none {H : Type} : Left H := { results := [], args := [] }

/-- 'zzlaws_root_b1.FnAppendJSONStringMatchesByteTable': WHATEVER THE INPUT: true; the input reads as it did. -/
def fnAppendJSONStringMatchesByteTableSpec : ChangeSpec := { name := "fnAppendJSONStringMatchesByteTable", fn := fun _ => fun
  | [d1, d2] => { results := [.lit (.bool true)], args := [d1, d2] }
  | _ => none }
def fnAppendJSONStringMatchesByteTableRow : OpenClaim := { program := "qxb6605448a", sum := "f2b34b35b74e2ff28cee382bde60d603ddcc7e3c63f406caa0874c4b99c8e59a", func := "example.com/tessera/tessera/zzlaws_root_b1.FnAppendJSONStringMatchesByteTable", spec := "fnAppendJSONStringMatchesByteTable", apart := false }
def FnAppendJSONStringMatchesByteTableSaid : Prop := fnAppendJSONStringMatchesByteTableRow.holds Try.pinned (OpenSpec.ofChange fnAppendJSONStringMatchesByteTableSpec)

/-- ITS FALSE NEIGHBOUR: 'it returns false'. Refute it at one input. -/
def fnAppendJSONStringMatchesByteTableWrong : ChangeSpec := { name := "fnAppendJSONStringMatchesByteTable", fn := fun _ => fun
  | [d1, d2] => { results := [.lit (.bool false)], args := [d1, d2] }
  | _ => none }
def FnAppendJSONStringMatchesByteTableWrongFalsely : Prop := fnAppendJSONStringMatchesByteTableRow.holds Try.pinned (OpenSpec.ofChange fnAppendJSONStringMatchesByteTableWrong)

/-- 'zzlaws_root_b1.FnAppendJSONStringReadsBack': WHATEVER THE INPUT: true; the input reads as it did. -/
def fnAppendJSONStringReadsBackSpec : ChangeSpec := { name := "fnAppendJSONStringReadsBack", fn := fun _ => fun
  | [d1, d2] => { results := [.lit (.bool true)], args := [d1, d2] }
  | _ => none }
def fnAppendJSONStringReadsBackRow : OpenClaim := { program := "qxb6605448a", sum := "f2b34b35b74e2ff28cee382bde60d603ddcc7e3c63f406caa0874c4b99c8e59a", func := "example.com/tessera/tessera/zzlaws_root_b1.FnAppendJSONStringReadsBack", spec := "fnAppendJSONStringReadsBack", apart := false }
def FnAppendJSONStringReadsBackSaid : Prop := fnAppendJSONStringReadsBackRow.holds Try.pinned (OpenSpec.ofChange fnAppendJSONStringReadsBackSpec)

/-- ITS FALSE NEIGHBOUR: 'it returns false'. Refute it at one input. -/
def fnAppendJSONStringReadsBackWrong : ChangeSpec := { name := "fnAppendJSONStringReadsBack", fn := fun _ => fun
  | [d1, d2] => { results := [.lit (.bool false)], args := [d1, d2] }
  | _ => none }
def FnAppendJSONStringReadsBackWrongFalsely : Prop := fnAppendJSONStringReadsBackRow.holds Try.pinned (OpenSpec.ofChange fnAppendJSONStringReadsBackWrong)

/-- 'zzlaws_root_b1.FnHoldBlockedByMatchesConflictRule': WHATEVER THE INPUT: true; the input reads as it did. -/
def fnHoldBlockedByMatchesConflictRuleSpec : ChangeSpec := { name := "fnHoldBlockedByMatchesConflictRule", fn := fun _ => fun
  | [d] => { results := [.lit (.bool true)], args := [d] }
  | _ => none }
def fnHoldBlockedByMatchesConflictRuleRow : OpenClaim := { program := "qxb6605448a", sum := "f2b34b35b74e2ff28cee382bde60d603ddcc7e3c63f406caa0874c4b99c8e59a", func := "example.com/tessera/tessera/zzlaws_root_b1.FnHoldBlockedByMatchesConflictRule", spec := "fnHoldBlockedByMatchesConflictRule", apart := false }
def FnHoldBlockedByMatchesConflictRuleSaid : Prop := fnHoldBlockedByMatchesConflictRuleRow.holds Try.pinned (OpenSpec.ofChange fnHoldBlockedByMatchesConflictRuleSpec)

/-- ITS FALSE NEIGHBOUR: 'it returns false'. Refute it at one input. -/
def fnHoldBlockedByMatchesConflictRuleWrong : ChangeSpec := { name := "fnHoldBlockedByMatchesConflictRule", fn := fun _ => fun
  | [d] => { results := [.lit (.bool false)], args := [d] }
  | _ => none }
def FnHoldBlockedByMatchesConflictRuleWrongFalsely : Prop := fnHoldBlockedByMatchesConflictRuleRow.holds Try.pinned (OpenSpec.ofChange fnHoldBlockedByMatchesConflictRuleWrong)

/-- 'zzlaws_root_b1.FnHoldBlockedBySymmetricBoundedNonEmpty': WHATEVER THE INPUT: true; the input reads as it did. -/
def fnHoldBlockedBySymmetricBoundedNonEmptySpec : ChangeSpec := { name := "fnHoldBlockedBySymmetricBoundedNonEmpty", fn := fun _ => fun
  | [d1, d2] => { results := [.lit (.bool true)], args := [d1, d2] }
  | _ => none }
def fnHoldBlockedBySymmetricBoundedNonEmptyRow : OpenClaim := { program := "qxb6605448a", sum := "f2b34b35b74e2ff28cee382bde60d603ddcc7e3c63f406caa0874c4b99c8e59a", func := "example.com/tessera/tessera/zzlaws_root_b1.FnHoldBlockedBySymmetricBoundedNonEmpty", spec := "fnHoldBlockedBySymmetricBoundedNonEmpty", apart := false }
def FnHoldBlockedBySymmetricBoundedNonEmptySaid : Prop := fnHoldBlockedBySymmetricBoundedNonEmptyRow.holds Try.pinned (OpenSpec.ofChange fnHoldBlockedBySymmetricBoundedNonEmptySpec)

/-- ITS FALSE NEIGHBOUR: 'it returns false'. Refute it at one input. -/
def fnHoldBlockedBySymmetricBoundedNonEmptyWrong : ChangeSpec := { name := "fnHoldBlockedBySymmetricBoundedNonEmpty", fn := fun _ => fun
  | [d1, d2] => { results := [.lit (.bool false)], args := [d1, d2] }
  | _ => none }
def FnHoldBlockedBySymmetricBoundedNonEmptyWrongFalsely : Prop := fnHoldBlockedBySymmetricBoundedNonEmptyRow.holds Try.pinned (OpenSpec.ofChange fnHoldBlockedBySymmetricBoundedNonEmptyWrong)

/-- 'zzlaws_root_b1.FnNumberTallyDropEmptiedKeepsHeldInOrder': WHATEVER THE INPUT: true; the input reads as it did. -/
def fnNumberTallyDropEmptiedKeepsHeldInOrderSpec : ChangeSpec := { name := "fnNumberTallyDropEmptiedKeepsHeldInOrder", fn := fun _ => fun
  | [d1, d2, d3, d4, d5, d6, d7] => { results := [.lit (.bool true)], args := [d1, d2, d3, d4, d5, d6, d7] }
  | _ => none }
def fnNumberTallyDropEmptiedKeepsHeldInOrderRow : OpenClaim := { program := "qxb6605448a", sum := "f2b34b35b74e2ff28cee382bde60d603ddcc7e3c63f406caa0874c4b99c8e59a", func := "example.com/tessera/tessera/zzlaws_root_b1.FnNumberTallyDropEmptiedKeepsHeldInOrder", spec := "fnNumberTallyDropEmptiedKeepsHeldInOrder", apart := false }
def FnNumberTallyDropEmptiedKeepsHeldInOrderSaid : Prop := fnNumberTallyDropEmptiedKeepsHeldInOrderRow.holds Try.pinned (OpenSpec.ofChange fnNumberTallyDropEmptiedKeepsHeldInOrderSpec)

/-- ITS FALSE NEIGHBOUR: 'it returns false'. Refute it at one input. -/
def fnNumberTallyDropEmptiedKeepsHeldInOrderWrong : ChangeSpec := { name := "fnNumberTallyDropEmptiedKeepsHeldInOrder", fn := fun _ => fun
  | [d1, d2, d3, d4, d5, d6, d7] => { results := [.lit (.bool false)], args := [d1, d2, d3, d4, d5, d6, d7] }
  | _ => none }
def FnNumberTallyDropEmptiedKeepsHeldInOrderWrongFalsely : Prop := fnNumberTallyDropEmptiedKeepsHeldInOrderRow.holds Try.pinned (OpenSpec.ofChange fnNumberTallyDropEmptiedKeepsHeldInOrderWrong)

/-- 'zzlaws_root_b1.FnNumberTallyDropEmptiedIdempotentKeepsTotal': WHATEVER THE INPUT: true; the input reads as it did. -/
def fnNumberTallyDropEmptiedIdempotentKeepsTotalSpec : ChangeSpec := { name := "fnNumberTallyDropEmptiedIdempotentKeepsTotal", fn := fun _ => fun
  | [d1, d2, d3, d4, d5, d6, d7] => { results := [.lit (.bool true)], args := [d1, d2, d3, d4, d5, d6, d7] }
  | _ => none }
def fnNumberTallyDropEmptiedIdempotentKeepsTotalRow : OpenClaim := { program := "qxb6605448a", sum := "f2b34b35b74e2ff28cee382bde60d603ddcc7e3c63f406caa0874c4b99c8e59a", func := "example.com/tessera/tessera/zzlaws_root_b1.FnNumberTallyDropEmptiedIdempotentKeepsTotal", spec := "fnNumberTallyDropEmptiedIdempotentKeepsTotal", apart := false }
def FnNumberTallyDropEmptiedIdempotentKeepsTotalSaid : Prop := fnNumberTallyDropEmptiedIdempotentKeepsTotalRow.holds Try.pinned (OpenSpec.ofChange fnNumberTallyDropEmptiedIdempotentKeepsTotalSpec)

/-- ITS FALSE NEIGHBOUR: 'it returns false'. Refute it at one input. -/
def fnNumberTallyDropEmptiedIdempotentKeepsTotalWrong : ChangeSpec := { name := "fnNumberTallyDropEmptiedIdempotentKeepsTotal", fn := fun _ => fun
  | [d1, d2, d3, d4, d5, d6, d7] => { results := [.lit (.bool false)], args := [d1, d2, d3, d4, d5, d6, d7] }
  | _ => none }
def FnNumberTallyDropEmptiedIdempotentKeepsTotalWrongFalsely : Prop := fnNumberTallyDropEmptiedIdempotentKeepsTotalRow.holds Try.pinned (OpenSpec.ofChange fnNumberTallyDropEmptiedIdempotentKeepsTotalWrong)

end Rows
end Go.Proofs.Qxb6605448a
