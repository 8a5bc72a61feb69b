/-
  No cell of these rows narrows 'for every input' (looked for: loops, veiled, ifaces, maps, wideKeys, modest, calm, conditions, laid).
  DERIVED. THE GIVEN ROWS OF THIS SEAT. 6 by the template 'for every input the law returns true; each argument reads behind the call as it read before'; 0 by the template 'total and deterministic' (their statements: Qxb6602430aTotals.lean).
  GIVEN WITH THE SEED: the statements are not yours to turn. If you find one false, say at which input.
  Laid BY PROGRAM, IN A SANDBOX (cutbox-rows.mjs): the forced cells as the released guide's own fill.sh prints them over the translation 08e16068d33d9686… (all of the seat's roots in one cut). By AI agents, Wed Nov 11 2026. No macro, syntax, notation, axiom, sorry.
-/
import Derived.Test.Qxb6602430aChecked
import GoSem.Claim
import GoSem.ClaimJoined
import GoSem.ClaimMapViews
import Derived.JoinedTies
import Derived.KernelRfl
namespace Go.Proofs.Qxb6602430a
/- THE CELL 'sum', in the pinned program and in every row, IS THE sha256 OF THE DUMP (.gsa) THAT Qxb6602430aProg.lean LOADS. Nothing in Lean hashes anything: it is a label: what it is worth is what the hold of that sum in a sandbox is worth. -/
noncomputable def Try.pinned : Pinned := { name := "qxb6602430a", sum := "08e16068d33d9686c033181379bb9f026285d974e2c6cbfdb875abbc9d7a481c", checked := Try.checked }
namespace Rows
def none {H : Type} : Left H := { results := [], args := [] }

/-- 'zzlaws_pkg_httpmsg_b1.FnSplitTargetMatchesGrammar': WHATEVER THE INPUT: true; the input reads as it did. -/
def fnSplitTargetMatchesGrammarSpec : ChangeSpec := { name := "fnSplitTargetMatchesGrammar", fn := fun _ => fun
  | [d] => { results := [.lit (.bool true)], args := [d] }
  | _ => none }
def fnSplitTargetMatchesGrammarRow : OpenClaim := { program := "qxb6602430a", sum := "08e16068d33d9686c033181379bb9f026285d974e2c6cbfdb875abbc9d7a481c", func := "example.com/vouchsafe/vouchsafe/zzlaws_pkg_httpmsg_b1.FnSplitTargetMatchesGrammar", spec := "fnSplitTargetMatchesGrammar", inPlace := ["internal/bytealg.IndexByteString", "internal/bytealg.IndexString"], named := ["internal/bytealg.MaxLen"], apart := false }
def FnSplitTargetMatchesGrammarSaid : Prop := fnSplitTargetMatchesGrammarRow.holds Try.pinned (OpenSpec.ofChange fnSplitTargetMatchesGrammarSpec)

/-- ITS FALSE NEIGHBOUR: 'it returns false'. Refute it at one input. -/
def fnSplitTargetMatchesGrammarWrong : ChangeSpec := { name := "fnSplitTargetMatchesGrammar", fn := fun _ => fun
  | [d] => { results := [.lit (.bool false)], args := [d] }
  | _ => none }
def FnSplitTargetMatchesGrammarWrongFalsely : Prop := fnSplitTargetMatchesGrammarRow.holds Try.pinned (OpenSpec.ofChange fnSplitTargetMatchesGrammarWrong)

/-- 'zzlaws_pkg_httpmsg_b1.FnSplitTargetInvertsJoin': WHATEVER THE INPUT: true; the input reads as it did. -/
def fnSplitTargetInvertsJoinSpec : ChangeSpec := { name := "fnSplitTargetInvertsJoin", fn := fun _ => fun
  | [d1, d2, d3, d4] => { results := [.lit (.bool true)], args := [d1, d2, d3, d4] }
  | _ => none }
def fnSplitTargetInvertsJoinRow : OpenClaim := { program := "qxb6602430a", sum := "08e16068d33d9686c033181379bb9f026285d974e2c6cbfdb875abbc9d7a481c", func := "example.com/vouchsafe/vouchsafe/zzlaws_pkg_httpmsg_b1.FnSplitTargetInvertsJoin", spec := "fnSplitTargetInvertsJoin", inPlace := ["internal/bytealg.IndexByteString", "internal/bytealg.IndexString"], named := ["internal/bytealg.MaxLen"], apart := false }
def FnSplitTargetInvertsJoinSaid : Prop := fnSplitTargetInvertsJoinRow.holds Try.pinned (OpenSpec.ofChange fnSplitTargetInvertsJoinSpec)

/-- ITS FALSE NEIGHBOUR: 'it returns false'. Refute it at one input. -/
def fnSplitTargetInvertsJoinWrong : ChangeSpec := { name := "fnSplitTargetInvertsJoin", fn := fun _ => fun
  | [d1, d2, d3, d4] => { results := [.lit (.bool false)], args := [d1, d2, d3, d4] }
  | _ => none }
def FnSplitTargetInvertsJoinWrongFalsely : Prop := fnSplitTargetInvertsJoinRow.holds Try.pinned (OpenSpec.ofChange fnSplitTargetInvertsJoinWrong)

/-- 'zzlaws_pkg_httpmsg_b1.FnMayHoldControlExactlyWhenControlByte': WHATEVER THE INPUT: true; the input reads as it did. -/
def fnMayHoldControlExactlyWhenControlByteSpec : ChangeSpec := { name := "fnMayHoldControlExactlyWhenControlByte", fn := fun _ => fun
  | [d] => { results := [.lit (.bool true)], args := [d] }
  | _ => none }
def fnMayHoldControlExactlyWhenControlByteRow : OpenClaim := { program := "qxb6602430a", sum := "08e16068d33d9686c033181379bb9f026285d974e2c6cbfdb875abbc9d7a481c", func := "example.com/vouchsafe/vouchsafe/zzlaws_pkg_httpmsg_b1.FnMayHoldControlExactlyWhenControlByte", spec := "fnMayHoldControlExactlyWhenControlByte", apart := false }
def FnMayHoldControlExactlyWhenControlByteSaid : Prop := fnMayHoldControlExactlyWhenControlByteRow.holds Try.pinned (OpenSpec.ofChange fnMayHoldControlExactlyWhenControlByteSpec)

/-- ITS FALSE NEIGHBOUR: 'it returns false'. Refute it at one input. -/
def fnMayHoldControlExactlyWhenControlByteWrong : ChangeSpec := { name := "fnMayHoldControlExactlyWhenControlByte", fn := fun _ => fun
  | [d] => { results := [.lit (.bool false)], args := [d] }
  | _ => none }
def FnMayHoldControlExactlyWhenControlByteWrongFalsely : Prop := fnMayHoldControlExactlyWhenControlByteRow.holds Try.pinned (OpenSpec.ofChange fnMayHoldControlExactlyWhenControlByteWrong)

/-- 'zzlaws_pkg_httpmsg_b1.FnMayHoldControlOfConcatenation': WHATEVER THE INPUT: true; the input reads as it did. -/
def fnMayHoldControlOfConcatenationSpec : ChangeSpec := { name := "fnMayHoldControlOfConcatenation", fn := fun _ => fun
  | [d1, d2] => { results := [.lit (.bool true)], args := [d1, d2] }
  | _ => none }
def fnMayHoldControlOfConcatenationRow : OpenClaim := { program := "qxb6602430a", sum := "08e16068d33d9686c033181379bb9f026285d974e2c6cbfdb875abbc9d7a481c", func := "example.com/vouchsafe/vouchsafe/zzlaws_pkg_httpmsg_b1.FnMayHoldControlOfConcatenation", spec := "fnMayHoldControlOfConcatenation", apart := false }
def FnMayHoldControlOfConcatenationSaid : Prop := fnMayHoldControlOfConcatenationRow.holds Try.pinned (OpenSpec.ofChange fnMayHoldControlOfConcatenationSpec)

/-- ITS FALSE NEIGHBOUR: 'it returns false'. Refute it at one input. -/
def fnMayHoldControlOfConcatenationWrong : ChangeSpec := { name := "fnMayHoldControlOfConcatenation", fn := fun _ => fun
  | [d1, d2] => { results := [.lit (.bool false)], args := [d1, d2] }
  | _ => none }
def FnMayHoldControlOfConcatenationWrongFalsely : Prop := fnMayHoldControlOfConcatenationRow.holds Try.pinned (OpenSpec.ofChange fnMayHoldControlOfConcatenationWrong)

/-- 'zzlaws_pkg_httpmsg_b1.FnHeadEndMatchesLineScan': WHATEVER THE INPUT: true; the input reads as it did. -/
def fnHeadEndMatchesLineScanSpec : ChangeSpec := { name := "fnHeadEndMatchesLineScan", fn := fun _ => fun
  | [d1, d2] => { results := [.lit (.bool true)], args := [d1, d2] }
  | _ => none }
def fnHeadEndMatchesLineScanRow : OpenClaim := { program := "qxb6602430a", sum := "08e16068d33d9686c033181379bb9f026285d974e2c6cbfdb875abbc9d7a481c", func := "example.com/vouchsafe/vouchsafe/zzlaws_pkg_httpmsg_b1.FnHeadEndMatchesLineScan", spec := "fnHeadEndMatchesLineScan", inPlace := ["internal/bytealg.IndexByte"], apart := false }
def FnHeadEndMatchesLineScanSaid : Prop := fnHeadEndMatchesLineScanRow.holds Try.pinned (OpenSpec.ofChange fnHeadEndMatchesLineScanSpec)

/-- ITS FALSE NEIGHBOUR: 'it returns false'. Refute it at one input. -/
def fnHeadEndMatchesLineScanWrong : ChangeSpec := { name := "fnHeadEndMatchesLineScan", fn := fun _ => fun
  | [d1, d2] => { results := [.lit (.bool false)], args := [d1, d2] }
  | _ => none }
def FnHeadEndMatchesLineScanWrongFalsely : Prop := fnHeadEndMatchesLineScanRow.holds Try.pinned (OpenSpec.ofChange fnHeadEndMatchesLineScanWrong)

/-- 'zzlaws_pkg_httpmsg_b1.FnHeadEndIgnoresWhatFollows': WHATEVER THE INPUT: true; the input reads as it did. -/
def fnHeadEndIgnoresWhatFollowsSpec : ChangeSpec := { name := "fnHeadEndIgnoresWhatFollows", fn := fun _ => fun
  | [d1, d2, d3] => { results := [.lit (.bool true)], args := [d1, d2, d3] }
  | _ => none }
def fnHeadEndIgnoresWhatFollowsRow : OpenClaim := { program := "qxb6602430a", sum := "08e16068d33d9686c033181379bb9f026285d974e2c6cbfdb875abbc9d7a481c", func := "example.com/vouchsafe/vouchsafe/zzlaws_pkg_httpmsg_b1.FnHeadEndIgnoresWhatFollows", spec := "fnHeadEndIgnoresWhatFollows", inPlace := ["internal/bytealg.IndexByte"], apart := false }
def FnHeadEndIgnoresWhatFollowsSaid : Prop := fnHeadEndIgnoresWhatFollowsRow.holds Try.pinned (OpenSpec.ofChange fnHeadEndIgnoresWhatFollowsSpec)

/-- ITS FALSE NEIGHBOUR: 'it returns false'. Refute it at one input. -/
def fnHeadEndIgnoresWhatFollowsWrong : ChangeSpec := { name := "fnHeadEndIgnoresWhatFollows", fn := fun _ => fun
  | [d1, d2, d3] => { results := [.lit (.bool false)], args := [d1, d2, d3] }
  | _ => none }
def FnHeadEndIgnoresWhatFollowsWrongFalsely : Prop := fnHeadEndIgnoresWhatFollowsRow.holds Try.pinned (OpenSpec.ofChange fnHeadEndIgnoresWhatFollowsWrong)

end Rows
end Go.Proofs.Qxb6602430a
