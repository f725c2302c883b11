/-
  No cell of these rows narrows 'for every input' (looked for: loops, veiled, ifaces, maps, wideKeys, modest, calm, conditions, laid).
  DERIVED. THE GIVEN ROWS OF THIS SEAT. 5 by the template 'for every input the law returns true; each argument reads behind the call as it read before'; 0 by the template 'total and deterministic' (their statements: Qxb6600543aTotals.lean).
  GIVEN WITH THE SEED: the statements are not yours to turn. If you find one false, say at which input.
  Laid BY PROGRAM, IN A SANDBOX (cutbox-rows.mjs): the forced cells as the released guide's own fill.sh prints them over the translation c09e6133b991e1cc… (all of the seat's roots in one cut). By AI agents, Wed Nov 11 2026. No macro, syntax, notation, axiom, sorry.
-/
import Derived.Test.Qxb6600543aChecked
import GoSem.Claim
import GoSem.ClaimJoined
import GoSem.ClaimMapViews
import Derived.JoinedTies
import Derived.KernelRfl
namespace Go.Proofs.Qxb6600543a
/- THE CELL 'sum', in the pinned program and in every row, IS THE sha256 OF THE DUMP (.gsa) THAT Qxb6600543aProg.lean LOADS. Nothing in Lean hashes anything: it is a label: what it is worth is what the hold of that sum in a sandbox is worth. -/
noncomputable def Try.pinned : Pinned := { name := "qxb6600543a", sum := "c09e6133b991e1cc2806ab7fed2e96f76ac2fa2ad523872f3e5e8ba388167764", checked := Try.checked }
namespace Rows
def none {H : Type} : Left H := { results := [], args := [] }

/-- 'zzlaws_store_b1.FnParseExponentModel': WHATEVER THE INPUT: true; the input reads as it did. -/
def fnParseExponentModelSpec : ChangeSpec := { name := "fnParseExponentModel", fn := fun _ => fun
  | [d1, d2] => { results := [.lit (.bool true)], args := [d1, d2] }
  | _ => none }
def fnParseExponentModelRow : OpenClaim := { program := "qxb6600543a", sum := "c09e6133b991e1cc2806ab7fed2e96f76ac2fa2ad523872f3e5e8ba388167764", func := "example.com/cardume/cardume/zzlaws_store_b1.FnParseExponentModel", spec := "fnParseExponentModel", inPlace := ["internal/bytealg.IndexByteString"], apart := false }
def FnParseExponentModelSaid : Prop := fnParseExponentModelRow.holds Try.pinned (OpenSpec.ofChange fnParseExponentModelSpec)

/-- ITS FALSE NEIGHBOUR: 'it returns false'. Refute it at one input. -/
def fnParseExponentModelWrong : ChangeSpec := { name := "fnParseExponentModel", fn := fun _ => fun
  | [d1, d2] => { results := [.lit (.bool false)], args := [d1, d2] }
  | _ => none }
def FnParseExponentModelWrongFalsely : Prop := fnParseExponentModelRow.holds Try.pinned (OpenSpec.ofChange fnParseExponentModelWrong)

/-- 'zzlaws_store_b1.FnParseExponentRoundTrip': WHATEVER THE INPUT: true; the input reads as it did. -/
def fnParseExponentRoundTripSpec : ChangeSpec := { name := "fnParseExponentRoundTrip", fn := fun _ => fun
  | [d1, d2, d3, d4, d5] => { results := [.lit (.bool true)], args := [d1, d2, d3, d4, d5] }
  | _ => none }
def fnParseExponentRoundTripRow : OpenClaim := { program := "qxb6600543a", sum := "c09e6133b991e1cc2806ab7fed2e96f76ac2fa2ad523872f3e5e8ba388167764", func := "example.com/cardume/cardume/zzlaws_store_b1.FnParseExponentRoundTrip", spec := "fnParseExponentRoundTrip", inPlace := ["internal/bytealg.IndexByteString"], apart := false }
def FnParseExponentRoundTripSaid : Prop := fnParseExponentRoundTripRow.holds Try.pinned (OpenSpec.ofChange fnParseExponentRoundTripSpec)

/-- ITS FALSE NEIGHBOUR: 'it returns false'. Refute it at one input. -/
def fnParseExponentRoundTripWrong : ChangeSpec := { name := "fnParseExponentRoundTrip", fn := fun _ => fun
  | [d1, d2, d3, d4, d5] => { results := [.lit (.bool false)], args := [d1, d2, d3, d4, d5] }
  | _ => none }
def FnParseExponentRoundTripWrongFalsely : Prop := fnParseExponentRoundTripRow.holds Try.pinned (OpenSpec.ofChange fnParseExponentRoundTripWrong)

/-- 'zzlaws_store_b1.FnMatchModel': WHATEVER THE INPUT: true; the input reads as it did. -/
def fnMatchModelSpec : ChangeSpec := { name := "fnMatchModel", fn := fun _ => fun
  | [d1, d2] => { results := [.lit (.bool true)], args := [d1, d2] }
  | _ => none }
def fnMatchModelRow : OpenClaim := { program := "qxb6600543a", sum := "c09e6133b991e1cc2806ab7fed2e96f76ac2fa2ad523872f3e5e8ba388167764", func := "example.com/cardume/cardume/zzlaws_store_b1.FnMatchModel", spec := "fnMatchModel", apart := false }
def FnMatchModelSaid : Prop := fnMatchModelRow.holds Try.pinned (OpenSpec.ofChange fnMatchModelSpec)

/-- ITS FALSE NEIGHBOUR: 'it returns false'. Refute it at one input. -/
def fnMatchModelWrong : ChangeSpec := { name := "fnMatchModel", fn := fun _ => fun
  | [d1, d2] => { results := [.lit (.bool false)], args := [d1, d2] }
  | _ => none }
def FnMatchModelWrongFalsely : Prop := fnMatchModelRow.holds Try.pinned (OpenSpec.ofChange fnMatchModelWrong)

/-- 'zzlaws_store_b1.FnMatchEscapedLiteral': WHATEVER THE INPUT: true; the input reads as it did. -/
def fnMatchEscapedLiteralSpec : ChangeSpec := { name := "fnMatchEscapedLiteral", fn := fun _ => fun
  | [d1, d2] => { results := [.lit (.bool true)], args := [d1, d2] }
  | _ => none }
def fnMatchEscapedLiteralRow : OpenClaim := { program := "qxb6600543a", sum := "c09e6133b991e1cc2806ab7fed2e96f76ac2fa2ad523872f3e5e8ba388167764", func := "example.com/cardume/cardume/zzlaws_store_b1.FnMatchEscapedLiteral", spec := "fnMatchEscapedLiteral", apart := false }
def FnMatchEscapedLiteralSaid : Prop := fnMatchEscapedLiteralRow.holds Try.pinned (OpenSpec.ofChange fnMatchEscapedLiteralSpec)

/-- ITS FALSE NEIGHBOUR: 'it returns false'. Refute it at one input. -/
def fnMatchEscapedLiteralWrong : ChangeSpec := { name := "fnMatchEscapedLiteral", fn := fun _ => fun
  | [d1, d2] => { results := [.lit (.bool false)], args := [d1, d2] }
  | _ => none }
def FnMatchEscapedLiteralWrongFalsely : Prop := fnMatchEscapedLiteralRow.holds Try.pinned (OpenSpec.ofChange fnMatchEscapedLiteralWrong)

/-- 'zzlaws_store_b1.FnMatchStarPrefix': WHATEVER THE INPUT: true; the input reads as it did. -/
def fnMatchStarPrefixSpec : ChangeSpec := { name := "fnMatchStarPrefix", fn := fun _ => fun
  | [d1, d2, d3] => { results := [.lit (.bool true)], args := [d1, d2, d3] }
  | _ => none }
def fnMatchStarPrefixRow : OpenClaim := { program := "qxb6600543a", sum := "c09e6133b991e1cc2806ab7fed2e96f76ac2fa2ad523872f3e5e8ba388167764", func := "example.com/cardume/cardume/zzlaws_store_b1.FnMatchStarPrefix", spec := "fnMatchStarPrefix", apart := false }
def FnMatchStarPrefixSaid : Prop := fnMatchStarPrefixRow.holds Try.pinned (OpenSpec.ofChange fnMatchStarPrefixSpec)

/-- ITS FALSE NEIGHBOUR: 'it returns false'. Refute it at one input. -/
def fnMatchStarPrefixWrong : ChangeSpec := { name := "fnMatchStarPrefix", fn := fun _ => fun
  | [d1, d2, d3] => { results := [.lit (.bool false)], args := [d1, d2, d3] }
  | _ => none }
def FnMatchStarPrefixWrongFalsely : Prop := fnMatchStarPrefixRow.holds Try.pinned (OpenSpec.ofChange fnMatchStarPrefixWrong)

end Rows
end Go.Proofs.Qxb6600543a
