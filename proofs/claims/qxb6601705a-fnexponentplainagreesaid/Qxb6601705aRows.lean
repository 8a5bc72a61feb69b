/-
  No cell of these rows narrows 'for every input' (looked for: loops, veiled, ifaces, maps, wideKeys, modest, calm, conditions, laid).
  DERIVED. THE GIVEN ROWS OF THIS SEAT. 8 by the template 'for every input the law returns true; each argument reads behind the call as it read before'; 0 by the template 'total and deterministic' (their statements: Qxb6601705aTotals.lean).
  GIVEN WITH THE SEED: the statements are not yours to turn. If you find one false, say at which input.
  Laid BY PROGRAM, IN A SANDBOX (cutbox-rows.mjs): the forced cells as the released guide's own fill.sh prints them over the translation d3aaabee39c38ea3… (all of the seat's roots in one cut). By AI agents, Wed Nov 11 2026. No macro, syntax, notation, axiom, sorry.
-/
import Derived.Test.Qxb6601705aChecked
import GoSem.Claim
import GoSem.ClaimJoined
import GoSem.ClaimMapViews
import Derived.JoinedTies
import Derived.KernelRfl
namespace Go.Proofs.Qxb6601705a
/- THE CELL 'sum', in the pinned program and in every row, IS THE sha256 OF THE DUMP (.gsa) THAT Qxb6601705aProg.lean LOADS. Nothing in Lean hashes anything: it is a label: what it is worth is what the hold of that sum in a sandbox is worth. -/
noncomputable def Try.pinned : Pinned := { name := "qxb6601705a", sum := "d3aaabee39c38ea3eea410c245d75e57f7681813f4ac3242d1289385d7a6b72f", checked := Try.checked }
namespace Rows
def none {H : Type} : Left H := { results := [], args := [] }

/-- 'zzlaws_figure_b1.FnAbsExact': WHATEVER THE INPUT: true; the input reads as it did. -/
def fnAbsExactSpec : ChangeSpec := { name := "fnAbsExact", fn := fun _ => fun
  | [d] => { results := [.lit (.bool true)], args := [d] }
  | _ => none }
def fnAbsExactRow : OpenClaim := { program := "qxb6601705a", sum := "d3aaabee39c38ea3eea410c245d75e57f7681813f4ac3242d1289385d7a6b72f", func := "example.com/tuoguan/tuoguan/zzlaws_figure_b1.FnAbsExact", spec := "fnAbsExact", apart := false }
def FnAbsExactSaid : Prop := fnAbsExactRow.holds Try.pinned (OpenSpec.ofChange fnAbsExactSpec)

/-- ITS FALSE NEIGHBOUR: 'it returns false'. Refute it at one input. -/
def fnAbsExactWrong : ChangeSpec := { name := "fnAbsExact", fn := fun _ => fun
  | [d] => { results := [.lit (.bool false)], args := [d] }
  | _ => none }
def FnAbsExactWrongFalsely : Prop := fnAbsExactRow.holds Try.pinned (OpenSpec.ofChange fnAbsExactWrong)

/-- 'zzlaws_figure_b1.FnAbsEvenIdempotent': WHATEVER THE INPUT: true; the input reads as it did. -/
def fnAbsEvenIdempotentSpec : ChangeSpec := { name := "fnAbsEvenIdempotent", fn := fun _ => fun
  | [d] => { results := [.lit (.bool true)], args := [d] }
  | _ => none }
def fnAbsEvenIdempotentRow : OpenClaim := { program := "qxb6601705a", sum := "d3aaabee39c38ea3eea410c245d75e57f7681813f4ac3242d1289385d7a6b72f", func := "example.com/tuoguan/tuoguan/zzlaws_figure_b1.FnAbsEvenIdempotent", spec := "fnAbsEvenIdempotent", apart := false }
def FnAbsEvenIdempotentSaid : Prop := fnAbsEvenIdempotentRow.holds Try.pinned (OpenSpec.ofChange fnAbsEvenIdempotentSpec)

/-- ITS FALSE NEIGHBOUR: 'it returns false'. Refute it at one input. -/
def fnAbsEvenIdempotentWrong : ChangeSpec := { name := "fnAbsEvenIdempotent", fn := fun _ => fun
  | [d] => { results := [.lit (.bool false)], args := [d] }
  | _ => none }
def FnAbsEvenIdempotentWrongFalsely : Prop := fnAbsEvenIdempotentRow.holds Try.pinned (OpenSpec.ofChange fnAbsEvenIdempotentWrong)

/-- 'zzlaws_figure_b1.FnAbsTriangle': WHATEVER THE INPUT: true; the input reads as it did. -/
def fnAbsTriangleSpec : ChangeSpec := { name := "fnAbsTriangle", fn := fun _ => fun
  | [d1, d2] => { results := [.lit (.bool true)], args := [d1, d2] }
  | _ => none }
def fnAbsTriangleRow : OpenClaim := { program := "qxb6601705a", sum := "d3aaabee39c38ea3eea410c245d75e57f7681813f4ac3242d1289385d7a6b72f", func := "example.com/tuoguan/tuoguan/zzlaws_figure_b1.FnAbsTriangle", spec := "fnAbsTriangle", apart := false }
def FnAbsTriangleSaid : Prop := fnAbsTriangleRow.holds Try.pinned (OpenSpec.ofChange fnAbsTriangleSpec)

/-- ITS FALSE NEIGHBOUR: 'it returns false'. Refute it at one input. -/
def fnAbsTriangleWrong : ChangeSpec := { name := "fnAbsTriangle", fn := fun _ => fun
  | [d1, d2] => { results := [.lit (.bool false)], args := [d1, d2] }
  | _ => none }
def FnAbsTriangleWrongFalsely : Prop := fnAbsTriangleRow.holds Try.pinned (OpenSpec.ofChange fnAbsTriangleWrong)

/-- 'zzlaws_figure_b1.FnExponentExact': WHATEVER THE INPUT: true; the input reads as it did. -/
def fnExponentExactSpec : ChangeSpec := { name := "fnExponentExact", fn := fun _ => fun
  | [d] => { results := [.lit (.bool true)], args := [d] }
  | _ => none }
def fnExponentExactRow : OpenClaim := { program := "qxb6601705a", sum := "d3aaabee39c38ea3eea410c245d75e57f7681813f4ac3242d1289385d7a6b72f", func := "example.com/tuoguan/tuoguan/zzlaws_figure_b1.FnExponentExact", spec := "fnExponentExact", apart := false }
def FnExponentExactSaid : Prop := fnExponentExactRow.holds Try.pinned (OpenSpec.ofChange fnExponentExactSpec)

/-- ITS FALSE NEIGHBOUR: 'it returns false'. Refute it at one input. -/
def fnExponentExactWrong : ChangeSpec := { name := "fnExponentExact", fn := fun _ => fun
  | [d] => { results := [.lit (.bool false)], args := [d] }
  | _ => none }
def FnExponentExactWrongFalsely : Prop := fnExponentExactRow.holds Try.pinned (OpenSpec.ofChange fnExponentExactWrong)

/-- 'zzlaws_figure_b1.FnExponentSignFree': WHATEVER THE INPUT: true; the input reads as it did. -/
def fnExponentSignFreeSpec : ChangeSpec := { name := "fnExponentSignFree", fn := fun _ => fun
  | [d] => { results := [.lit (.bool true)], args := [d] }
  | _ => none }
def fnExponentSignFreeRow : OpenClaim := { program := "qxb6601705a", sum := "d3aaabee39c38ea3eea410c245d75e57f7681813f4ac3242d1289385d7a6b72f", func := "example.com/tuoguan/tuoguan/zzlaws_figure_b1.FnExponentSignFree", spec := "fnExponentSignFree", apart := false }
def FnExponentSignFreeSaid : Prop := fnExponentSignFreeRow.holds Try.pinned (OpenSpec.ofChange fnExponentSignFreeSpec)

/-- ITS FALSE NEIGHBOUR: 'it returns false'. Refute it at one input. -/
def fnExponentSignFreeWrong : ChangeSpec := { name := "fnExponentSignFree", fn := fun _ => fun
  | [d] => { results := [.lit (.bool false)], args := [d] }
  | _ => none }
def FnExponentSignFreeWrongFalsely : Prop := fnExponentSignFreeRow.holds Try.pinned (OpenSpec.ofChange fnExponentSignFreeWrong)

/-- 'zzlaws_figure_b1.FnPlainExact': WHATEVER THE INPUT: true; the input reads as it did. -/
def fnPlainExactSpec : ChangeSpec := { name := "fnPlainExact", fn := fun _ => fun
  | [d] => { results := [.lit (.bool true)], args := [d] }
  | _ => none }
def fnPlainExactRow : OpenClaim := { program := "qxb6601705a", sum := "d3aaabee39c38ea3eea410c245d75e57f7681813f4ac3242d1289385d7a6b72f", func := "example.com/tuoguan/tuoguan/zzlaws_figure_b1.FnPlainExact", spec := "fnPlainExact", inPlace := ["internal/bytealg.IndexByteString"], apart := false }
def FnPlainExactSaid : Prop := fnPlainExactRow.holds Try.pinned (OpenSpec.ofChange fnPlainExactSpec)

/-- ITS FALSE NEIGHBOUR: 'it returns false'. Refute it at one input. -/
def fnPlainExactWrong : ChangeSpec := { name := "fnPlainExact", fn := fun _ => fun
  | [d] => { results := [.lit (.bool false)], args := [d] }
  | _ => none }
def FnPlainExactWrongFalsely : Prop := fnPlainExactRow.holds Try.pinned (OpenSpec.ofChange fnPlainExactWrong)

/-- 'zzlaws_figure_b1.FnPlainMinusSign': WHATEVER THE INPUT: true; the input reads as it did. -/
def fnPlainMinusSignSpec : ChangeSpec := { name := "fnPlainMinusSign", fn := fun _ => fun
  | [d] => { results := [.lit (.bool true)], args := [d] }
  | _ => none }
def fnPlainMinusSignRow : OpenClaim := { program := "qxb6601705a", sum := "d3aaabee39c38ea3eea410c245d75e57f7681813f4ac3242d1289385d7a6b72f", func := "example.com/tuoguan/tuoguan/zzlaws_figure_b1.FnPlainMinusSign", spec := "fnPlainMinusSign", inPlace := ["internal/bytealg.IndexByteString"], apart := false }
def FnPlainMinusSignSaid : Prop := fnPlainMinusSignRow.holds Try.pinned (OpenSpec.ofChange fnPlainMinusSignSpec)

/-- ITS FALSE NEIGHBOUR: 'it returns false'. Refute it at one input. -/
def fnPlainMinusSignWrong : ChangeSpec := { name := "fnPlainMinusSign", fn := fun _ => fun
  | [d] => { results := [.lit (.bool false)], args := [d] }
  | _ => none }
def FnPlainMinusSignWrongFalsely : Prop := fnPlainMinusSignRow.holds Try.pinned (OpenSpec.ofChange fnPlainMinusSignWrong)

/-- 'zzlaws_figure_b1.FnExponentPlainAgree': WHATEVER THE INPUT: true; the input reads as it did. -/
def fnExponentPlainAgreeSpec : ChangeSpec := { name := "fnExponentPlainAgree", fn := fun _ => fun
  | [d] => { results := [.lit (.bool true)], args := [d] }
  | _ => none }
def fnExponentPlainAgreeRow : OpenClaim := { program := "qxb6601705a", sum := "d3aaabee39c38ea3eea410c245d75e57f7681813f4ac3242d1289385d7a6b72f", func := "example.com/tuoguan/tuoguan/zzlaws_figure_b1.FnExponentPlainAgree", spec := "fnExponentPlainAgree", inPlace := ["internal/bytealg.IndexByteString"], apart := false }
def FnExponentPlainAgreeSaid : Prop := fnExponentPlainAgreeRow.holds Try.pinned (OpenSpec.ofChange fnExponentPlainAgreeSpec)

/-- ITS FALSE NEIGHBOUR: 'it returns false'. Refute it at one input. -/
def fnExponentPlainAgreeWrong : ChangeSpec := { name := "fnExponentPlainAgree", fn := fun _ => fun
  | [d] => { results := [.lit (.bool false)], args := [d] }
  | _ => none }
def FnExponentPlainAgreeWrongFalsely : Prop := fnExponentPlainAgreeRow.holds Try.pinned (OpenSpec.ofChange fnExponentPlainAgreeWrong)

end Rows
end Go.Proofs.Qxb6601705a
