/-
  No cell of these rows narrows 'for every input' (looked for: loops, veiled, ifaces, maps, wideKeys, modest, calm, conditions, laid).
  DERIVED. THE GIVEN ROWS OF THIS SEAT. 5 by the template 'for every input the law returns true; each argument reads behind the call as it read before'; 0 by the template 'total and deterministic' (their statements: Qxb6616330aTotals.lean).
  GIVEN WITH THE SEED: the statements are not yours to turn. If you find one false, say at which input.
  Laid BY PROGRAM, IN A SANDBOX (cutbox-rows.mjs): the forced cells as the released guide's own fill.sh prints them over the translation 96b787c558d991ea… (all of the seat's roots in one cut). By AI agents, Wed Nov 11 2026. No macro, syntax, notation, axiom, sorry.
-/
import Derived.Test.Qxb6616330aChecked
import GoSem.Claim
import GoSem.ClaimJoined
import GoSem.ClaimMapViews
import Derived.JoinedTies
import Derived.KernelRfl
namespace Go.Proofs.Qxb6616330a
/- THE CELL 'sum', in the pinned program and in every row, IS THE sha256 OF THE DUMP (.gsa) THAT Qxb6616330aProg.lean LOADS. Nothing in Lean hashes anything: it is a label: what it is worth is what the hold of that sum in a sandbox is worth. -/
noncomputable def Try.pinned : Pinned := { name := "qxb6616330a", sum := "96b787c558d991eace940b18ab8a74151e3e5a8741a2ec08cf9b316c5be66941", checked := Try.checked }
namespace Rows
def none {H : Type} : Left H := { results := [], args := [] }

/-- 'zzlaws_httpguard_b1.FnSpanWhitespaceAtAnyCut': WHATEVER THE INPUT: true; the input reads as it did. -/
def fnSpanWhitespaceAtAnyCutSpec : ChangeSpec := { name := "fnSpanWhitespaceAtAnyCut", fn := fun _ => fun
  | [d1, d2, d3] => { results := [.lit (.bool true)], args := [d1, d2, d3] }
  | _ => none }
def fnSpanWhitespaceAtAnyCutRow : OpenClaim := { program := "qxb6616330a", sum := "96b787c558d991eace940b18ab8a74151e3e5a8741a2ec08cf9b316c5be66941", func := "example.com/scope64/scope64/zzlaws_httpguard_b1.FnSpanWhitespaceAtAnyCut", spec := "fnSpanWhitespaceAtAnyCut", unfollowed := true, recurses := true, apart := false }
def FnSpanWhitespaceAtAnyCutSaid : Prop := fnSpanWhitespaceAtAnyCutRow.holds Try.pinned (OpenSpec.ofChange fnSpanWhitespaceAtAnyCutSpec)

/-- ITS FALSE NEIGHBOUR: 'it returns false'. Refute it at one input. -/
def fnSpanWhitespaceAtAnyCutWrong : ChangeSpec := { name := "fnSpanWhitespaceAtAnyCut", fn := fun _ => fun
  | [d1, d2, d3] => { results := [.lit (.bool false)], args := [d1, d2, d3] }
  | _ => none }
def FnSpanWhitespaceAtAnyCutWrongFalsely : Prop := fnSpanWhitespaceAtAnyCutRow.holds Try.pinned (OpenSpec.ofChange fnSpanWhitespaceAtAnyCutWrong)

/-- 'zzlaws_httpguard_b1.FnSpanRestartInsideRun': WHATEVER THE INPUT: true; the input reads as it did. -/
def fnSpanRestartInsideRunSpec : ChangeSpec := { name := "fnSpanRestartInsideRun", fn := fun _ => fun
  | [d1, d2, d3] => { results := [.lit (.bool true)], args := [d1, d2, d3] }
  | _ => none }
def fnSpanRestartInsideRunRow : OpenClaim := { program := "qxb6616330a", sum := "96b787c558d991eace940b18ab8a74151e3e5a8741a2ec08cf9b316c5be66941", func := "example.com/scope64/scope64/zzlaws_httpguard_b1.FnSpanRestartInsideRun", spec := "fnSpanRestartInsideRun", unfollowed := true, recurses := true, apart := false }
def FnSpanRestartInsideRunSaid : Prop := fnSpanRestartInsideRunRow.holds Try.pinned (OpenSpec.ofChange fnSpanRestartInsideRunSpec)

/-- ITS FALSE NEIGHBOUR: 'it returns false'. Refute it at one input. -/
def fnSpanRestartInsideRunWrong : ChangeSpec := { name := "fnSpanRestartInsideRun", fn := fun _ => fun
  | [d1, d2, d3] => { results := [.lit (.bool false)], args := [d1, d2, d3] }
  | _ => none }
def FnSpanRestartInsideRunWrongFalsely : Prop := fnSpanRestartInsideRunRow.holds Try.pinned (OpenSpec.ofChange fnSpanRestartInsideRunWrong)

/-- 'zzlaws_httpguard_b1.FnIsWhitespaceDecidesRunStep': WHATEVER THE INPUT: true; the input reads as it did. -/
def fnIsWhitespaceDecidesRunStepSpec : ChangeSpec := { name := "fnIsWhitespaceDecidesRunStep", fn := fun _ => fun
  | [d1, d2, d3] => { results := [.lit (.bool true)], args := [d1, d2, d3] }
  | _ => none }
def fnIsWhitespaceDecidesRunStepRow : OpenClaim := { program := "qxb6616330a", sum := "96b787c558d991eace940b18ab8a74151e3e5a8741a2ec08cf9b316c5be66941", func := "example.com/scope64/scope64/zzlaws_httpguard_b1.FnIsWhitespaceDecidesRunStep", spec := "fnIsWhitespaceDecidesRunStep", unfollowed := true, recurses := true, apart := false }
def FnIsWhitespaceDecidesRunStepSaid : Prop := fnIsWhitespaceDecidesRunStepRow.holds Try.pinned (OpenSpec.ofChange fnIsWhitespaceDecidesRunStepSpec)

/-- ITS FALSE NEIGHBOUR: 'it returns false'. Refute it at one input. -/
def fnIsWhitespaceDecidesRunStepWrong : ChangeSpec := { name := "fnIsWhitespaceDecidesRunStep", fn := fun _ => fun
  | [d1, d2, d3] => { results := [.lit (.bool false)], args := [d1, d2, d3] }
  | _ => none }
def FnIsWhitespaceDecidesRunStepWrongFalsely : Prop := fnIsWhitespaceDecidesRunStepRow.holds Try.pinned (OpenSpec.ofChange fnIsWhitespaceDecidesRunStepWrong)

/-- 'zzlaws_httpguard_b1.FnApplyPublicRecordsEveryPatternInOrder': WHATEVER THE INPUT: true; the input reads as it did. -/
def fnApplyPublicRecordsEveryPatternInOrderSpec : ChangeSpec := { name := "fnApplyPublicRecordsEveryPatternInOrder", fn := fun _ => fun
  | [d] => { results := [.lit (.bool true)], args := [d] }
  | _ => none }
def fnApplyPublicRecordsEveryPatternInOrderRow : OpenClaim := { program := "qxb6616330a", sum := "96b787c558d991eace940b18ab8a74151e3e5a8741a2ec08cf9b316c5be66941", func := "example.com/scope64/scope64/zzlaws_httpguard_b1.FnApplyPublicRecordsEveryPatternInOrder", spec := "fnApplyPublicRecordsEveryPatternInOrder", apart := false }
def FnApplyPublicRecordsEveryPatternInOrderSaid : Prop := fnApplyPublicRecordsEveryPatternInOrderRow.holds Try.pinned (OpenSpec.ofChange fnApplyPublicRecordsEveryPatternInOrderSpec)

/-- ITS FALSE NEIGHBOUR: 'it returns false'. Refute it at one input. -/
def fnApplyPublicRecordsEveryPatternInOrderWrong : ChangeSpec := { name := "fnApplyPublicRecordsEveryPatternInOrder", fn := fun _ => fun
  | [d] => { results := [.lit (.bool false)], args := [d] }
  | _ => none }
def FnApplyPublicRecordsEveryPatternInOrderWrongFalsely : Prop := fnApplyPublicRecordsEveryPatternInOrderRow.holds Try.pinned (OpenSpec.ofChange fnApplyPublicRecordsEveryPatternInOrderWrong)

/-- 'zzlaws_httpguard_b1.FnApplyKeepsConfigsApart': WHATEVER THE INPUT: true; the input reads as it did. -/
def fnApplyKeepsConfigsApartSpec : ChangeSpec := { name := "fnApplyKeepsConfigsApart", fn := fun _ => fun
  | [d1, d2] => { results := [.lit (.bool true)], args := [d1, d2] }
  | _ => none }
def fnApplyKeepsConfigsApartRow : OpenClaim := { program := "qxb6616330a", sum := "96b787c558d991eace940b18ab8a74151e3e5a8741a2ec08cf9b316c5be66941", func := "example.com/scope64/scope64/zzlaws_httpguard_b1.FnApplyKeepsConfigsApart", spec := "fnApplyKeepsConfigsApart", apart := false }
def FnApplyKeepsConfigsApartSaid : Prop := fnApplyKeepsConfigsApartRow.holds Try.pinned (OpenSpec.ofChange fnApplyKeepsConfigsApartSpec)

/-- ITS FALSE NEIGHBOUR: 'it returns false'. Refute it at one input. -/
def fnApplyKeepsConfigsApartWrong : ChangeSpec := { name := "fnApplyKeepsConfigsApart", fn := fun _ => fun
  | [d1, d2] => { results := [.lit (.bool false)], args := [d1, d2] }
  | _ => none }
def FnApplyKeepsConfigsApartWrongFalsely : Prop := fnApplyKeepsConfigsApartRow.holds Try.pinned (OpenSpec.ofChange fnApplyKeepsConfigsApartWrong)

end Rows
end Go.Proofs.Qxb6616330a
