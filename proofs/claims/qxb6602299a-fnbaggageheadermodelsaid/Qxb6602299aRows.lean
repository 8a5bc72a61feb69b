/-
  No cell of these rows narrows 'for every input' (looked for: loops, veiled, ifaces, maps, wideKeys, modest, calm, conditions, laid).
  DERIVED. THE GIVEN ROWS OF THIS SEAT. 5 by the template 'for every input the law returns true; each argument reads behind the call as it read before'; 0 by the template 'total and deterministic' (their statements: Qxb6602299aTotals.lean).
  GIVEN WITH THE SEED: the statements are not yours to turn. If you find one false, say at which input.
  Laid BY PROGRAM, IN A SANDBOX (cutbox-rows.mjs): the forced cells as the released guide's own fill.sh prints them over the translation ed156e6786451b6b… (all of the seat's roots in one cut). By AI agents, Wed Nov 11 2026. No macro, syntax, notation, axiom, sorry.
-/
import Derived.Test.Qxb6602299aChecked
import GoSem.Claim
import GoSem.ClaimJoined
import GoSem.ClaimMapViews
import Derived.JoinedTies
import Derived.KernelRfl
namespace Go.Proofs.Qxb6602299a
/- THE CELL 'sum', in the pinned program and in every row, IS THE sha256 OF THE DUMP (.gsa) THAT Qxb6602299aProg.lean LOADS. Nothing in Lean hashes anything: it is a label: what it is worth is what the hold of that sum in a sandbox is worth. -/
noncomputable def Try.pinned : Pinned := { name := "qxb6602299a", sum := "ed156e6786451b6b32473a588cfec0cdb2701872eb47ef213e88e960194c2ebb", checked := Try.checked }
namespace Rows
def none {H : Type} : Left H := { results := [], args := [] }

/-- 'zzlaws_root_b1.FnBaggageHeaderModel': WHATEVER THE INPUT: true; the input reads as it did. -/
def fnBaggageHeaderModelSpec : ChangeSpec := { name := "fnBaggageHeaderModel", fn := fun _ => fun
  | [d] => { results := [.lit (.bool true)], args := [d] }
  | _ => none }
def fnBaggageHeaderModelRow : OpenClaim := { program := "qxb6602299a", sum := "ed156e6786451b6b32473a588cfec0cdb2701872eb47ef213e88e960194c2ebb", func := "example.com/spanweave/spanweave/zzlaws_root_b1.FnBaggageHeaderModel", spec := "fnBaggageHeaderModel", inPlace := ["internal/bytealg.IndexByteString"], apart := false }
def FnBaggageHeaderModelSaid : Prop := fnBaggageHeaderModelRow.holds Try.pinned (OpenSpec.ofChange fnBaggageHeaderModelSpec)

/-- ITS FALSE NEIGHBOUR: 'it returns false'. Refute it at one input. -/
def fnBaggageHeaderModelWrong : ChangeSpec := { name := "fnBaggageHeaderModel", fn := fun _ => fun
  | [d] => { results := [.lit (.bool false)], args := [d] }
  | _ => none }
def FnBaggageHeaderModelWrongFalsely : Prop := fnBaggageHeaderModelRow.holds Try.pinned (OpenSpec.ofChange fnBaggageHeaderModelWrong)

/-- 'zzlaws_root_b1.FnBaggageHeaderDecodesToKeptItems': WHATEVER THE INPUT: true; the input reads as it did. -/
def fnBaggageHeaderDecodesToKeptItemsSpec : ChangeSpec := { name := "fnBaggageHeaderDecodesToKeptItems", fn := fun _ => fun
  | [d] => { results := [.lit (.bool true)], args := [d] }
  | _ => none }
def fnBaggageHeaderDecodesToKeptItemsRow : OpenClaim := { program := "qxb6602299a", sum := "ed156e6786451b6b32473a588cfec0cdb2701872eb47ef213e88e960194c2ebb", func := "example.com/spanweave/spanweave/zzlaws_root_b1.FnBaggageHeaderDecodesToKeptItems", spec := "fnBaggageHeaderDecodesToKeptItems", inPlace := ["internal/bytealg.IndexByteString"], apart := false }
def FnBaggageHeaderDecodesToKeptItemsSaid : Prop := fnBaggageHeaderDecodesToKeptItemsRow.holds Try.pinned (OpenSpec.ofChange fnBaggageHeaderDecodesToKeptItemsSpec)

/-- ITS FALSE NEIGHBOUR: 'it returns false'. Refute it at one input. -/
def fnBaggageHeaderDecodesToKeptItemsWrong : ChangeSpec := { name := "fnBaggageHeaderDecodesToKeptItems", fn := fun _ => fun
  | [d] => { results := [.lit (.bool false)], args := [d] }
  | _ => none }
def FnBaggageHeaderDecodesToKeptItemsWrongFalsely : Prop := fnBaggageHeaderDecodesToKeptItemsRow.holds Try.pinned (OpenSpec.ofChange fnBaggageHeaderDecodesToKeptItemsWrong)

/-- 'zzlaws_root_b1.FnBaggageHeaderPrefixOfLonger': WHATEVER THE INPUT: true; the input reads as it did. -/
def fnBaggageHeaderPrefixOfLongerSpec : ChangeSpec := { name := "fnBaggageHeaderPrefixOfLonger", fn := fun _ => fun
  | [d1, d2] => { results := [.lit (.bool true)], args := [d1, d2] }
  | _ => none }
def fnBaggageHeaderPrefixOfLongerRow : OpenClaim := { program := "qxb6602299a", sum := "ed156e6786451b6b32473a588cfec0cdb2701872eb47ef213e88e960194c2ebb", func := "example.com/spanweave/spanweave/zzlaws_root_b1.FnBaggageHeaderPrefixOfLonger", spec := "fnBaggageHeaderPrefixOfLonger", inPlace := ["internal/bytealg.IndexByteString"], apart := false }
def FnBaggageHeaderPrefixOfLongerSaid : Prop := fnBaggageHeaderPrefixOfLongerRow.holds Try.pinned (OpenSpec.ofChange fnBaggageHeaderPrefixOfLongerSpec)

/-- ITS FALSE NEIGHBOUR: 'it returns false'. Refute it at one input. -/
def fnBaggageHeaderPrefixOfLongerWrong : ChangeSpec := { name := "fnBaggageHeaderPrefixOfLonger", fn := fun _ => fun
  | [d1, d2] => { results := [.lit (.bool false)], args := [d1, d2] }
  | _ => none }
def FnBaggageHeaderPrefixOfLongerWrongFalsely : Prop := fnBaggageHeaderPrefixOfLongerRow.holds Try.pinned (OpenSpec.ofChange fnBaggageHeaderPrefixOfLongerWrong)

/-- 'zzlaws_root_b1.FnTracestateKeyPartLengthAndDigitFirst': WHATEVER THE INPUT: true; the input reads as it did. -/
def fnTracestateKeyPartLengthAndDigitFirstSpec : ChangeSpec := { name := "fnTracestateKeyPartLengthAndDigitFirst", fn := fun _ => fun
  | [d1, d2, d3] => { results := [.lit (.bool true)], args := [d1, d2, d3] }
  | _ => none }
def fnTracestateKeyPartLengthAndDigitFirstRow : OpenClaim := { program := "qxb6602299a", sum := "ed156e6786451b6b32473a588cfec0cdb2701872eb47ef213e88e960194c2ebb", func := "example.com/spanweave/spanweave/zzlaws_root_b1.FnTracestateKeyPartLengthAndDigitFirst", spec := "fnTracestateKeyPartLengthAndDigitFirst", apart := false }
def FnTracestateKeyPartLengthAndDigitFirstSaid : Prop := fnTracestateKeyPartLengthAndDigitFirstRow.holds Try.pinned (OpenSpec.ofChange fnTracestateKeyPartLengthAndDigitFirstSpec)

/-- ITS FALSE NEIGHBOUR: 'it returns false'. Refute it at one input. -/
def fnTracestateKeyPartLengthAndDigitFirstWrong : ChangeSpec := { name := "fnTracestateKeyPartLengthAndDigitFirst", fn := fun _ => fun
  | [d1, d2, d3] => { results := [.lit (.bool false)], args := [d1, d2, d3] }
  | _ => none }
def FnTracestateKeyPartLengthAndDigitFirstWrongFalsely : Prop := fnTracestateKeyPartLengthAndDigitFirstRow.holds Try.pinned (OpenSpec.ofChange fnTracestateKeyPartLengthAndDigitFirstWrong)

/-- 'zzlaws_root_b1.FnTracestateKeyPartPrefixClosed': WHATEVER THE INPUT: true; the input reads as it did. -/
def fnTracestateKeyPartPrefixClosedSpec : ChangeSpec := { name := "fnTracestateKeyPartPrefixClosed", fn := fun _ => fun
  | [d1, d2, d3, d4] => { results := [.lit (.bool true)], args := [d1, d2, d3, d4] }
  | _ => none }
def fnTracestateKeyPartPrefixClosedRow : OpenClaim := { program := "qxb6602299a", sum := "ed156e6786451b6b32473a588cfec0cdb2701872eb47ef213e88e960194c2ebb", func := "example.com/spanweave/spanweave/zzlaws_root_b1.FnTracestateKeyPartPrefixClosed", spec := "fnTracestateKeyPartPrefixClosed", apart := false }
def FnTracestateKeyPartPrefixClosedSaid : Prop := fnTracestateKeyPartPrefixClosedRow.holds Try.pinned (OpenSpec.ofChange fnTracestateKeyPartPrefixClosedSpec)

/-- ITS FALSE NEIGHBOUR: 'it returns false'. Refute it at one input. -/
def fnTracestateKeyPartPrefixClosedWrong : ChangeSpec := { name := "fnTracestateKeyPartPrefixClosed", fn := fun _ => fun
  | [d1, d2, d3, d4] => { results := [.lit (.bool false)], args := [d1, d2, d3, d4] }
  | _ => none }
def FnTracestateKeyPartPrefixClosedWrongFalsely : Prop := fnTracestateKeyPartPrefixClosedRow.holds Try.pinned (OpenSpec.ofChange fnTracestateKeyPartPrefixClosedWrong)

end Rows
end Go.Proofs.Qxb6602299a
