/-
  NARROWER THAN 'FOR EVERY INPUT', by the rows' own cells (each row's printed sentence says how): FnArgWalkNumbersHeldInOrder: laid · FnArgWalkSplitStepAlike: laid.
  DERIVED. THE GIVEN ROWS OF THIS SEAT. 2 by the template 'for every input the law returns true; each argument reads behind the call as it read before'; 0 by the template 'total and deterministic' (their statements: Qxb6615160aDoorTotals.lean).
  GIVEN WITH THE SEED: the statements are not yours to turn. If you find one false, say at which input.
  Laid BY PROGRAM, IN A SANDBOX (cutbox-rows.mjs): the forced cells as the released guide's own fill.sh prints them over the translation f110a5bf1550264c… (all of the seat's roots in one cut). By AI agents, Wed Nov 11 2026. No macro, syntax, notation, axiom, sorry.
-/
import Derived.Test.Qxb6615160aDoorChecked
import GoSem.Claim
import GoSem.ClaimJoined
import GoSem.ClaimMapViews
import Derived.JoinedTies
import Derived.KernelRfl
namespace Go.Proofs.Qxb6615160aDoor
/- THE CELL 'sum', in the pinned program and in every row, IS THE sha256 OF THE DUMP (.gsa) THAT Qxb6615160aDoorProg.lean LOADS. Nothing in Lean hashes anything: it is a label: what it is worth is what the hold of that sum in a sandbox is worth. -/
noncomputable def Tryd.pinned : Pinned := { name := "qxb6615160adoor", sum := "f110a5bf1550264c46740ab461b3faea26891744c2d6593f76c0e148426234bf", checked := Tryd.checked }
namespace Rows
def none {H : Type} : Left H := { results := [], args := [] }

/- WHAT THE LISTED PACKAGE-LEVEL VARIABLES READ AS WHEN THE CALL BEGINS. Each datum BY PROGRAM (the guide's laid-datum.mjs) off the statement by which the dump's own 'gosem.cut.vars' lays the variable. In a bare row this is a premise. The card (Qxb6615160aDoorCards.lean) ties it to the program's text. -/
def laid_example_com_penelope_penelope_argChangeRules {H : Type} : DataW H := .agg [.agg [.lit (.int .i64 0), .lit (.int .i64 1), .lit (.int .i64 1)], .agg [.lit (.int .i64 5), .lit (.int .i64 1), .lit (.int .i64 1)], .agg [.lit (.int .i64 6), .lit (.int .i64 1), .lit (.int .i64 1)], .agg [.lit (.int .i64 4), .lit (.int .i64 1), .lit (.int .i64 0)], .agg [.lit (.int .i64 4), .lit (.int .i64 0), .lit (.int .i64 1)]]

/-- 'zzlaws_root_b1.FnArgWalkNumbersHeldInOrder': WHATEVER THE INPUT: true; the input reads as it did. -/
def fnArgWalkNumbersHeldInOrderSpec : ChangeSpec := { name := "fnArgWalkNumbersHeldInOrder", vars := ["example.com/penelope/penelope.argChangeRules"], fn := fun _ => fun
  | [d1, d2, g1] => { results := [.lit (.bool true)], args := [d1, d2], vars := [g1] }
  | _ => none }
def fnArgWalkNumbersHeldInOrderRow : OpenClaim := { program := "qxb6615160adoor", sum := "f110a5bf1550264c46740ab461b3faea26891744c2d6593f76c0e148426234bf", func := "example.com/penelope/penelope/zzlaws_root_b1.FnArgWalkNumbersHeldInOrder", spec := "fnArgWalkNumbersHeldInOrder", named := ["example.com/penelope/penelope.argChangeRules"], apart := false, laid := [("example.com/penelope/penelope.argChangeRules", laid_example_com_penelope_penelope_argChangeRules)] }
def FnArgWalkNumbersHeldInOrderSaid : Prop := fnArgWalkNumbersHeldInOrderRow.holds Tryd.pinned (OpenSpec.ofChange fnArgWalkNumbersHeldInOrderSpec)

/-- ITS FALSE NEIGHBOUR: 'it returns false'. Refute it at one input. -/
def fnArgWalkNumbersHeldInOrderWrong : ChangeSpec := { name := "fnArgWalkNumbersHeldInOrder", vars := ["example.com/penelope/penelope.argChangeRules"], fn := fun _ => fun
  | [d1, d2, g1] => { results := [.lit (.bool false)], args := [d1, d2], vars := [g1] }
  | _ => none }
def FnArgWalkNumbersHeldInOrderWrongFalsely : Prop := fnArgWalkNumbersHeldInOrderRow.holds Tryd.pinned (OpenSpec.ofChange fnArgWalkNumbersHeldInOrderWrong)

/-- 'zzlaws_root_b1.FnArgWalkSplitStepAlike': WHATEVER THE INPUT: true; the input reads as it did. -/
def fnArgWalkSplitStepAlikeSpec : ChangeSpec := { name := "fnArgWalkSplitStepAlike", vars := ["example.com/penelope/penelope.argChangeRules"], fn := fun _ => fun
  | [d1, d2, d3, d4, g1] => { results := [.lit (.bool true)], args := [d1, d2, d3, d4], vars := [g1] }
  | _ => none }
def fnArgWalkSplitStepAlikeRow : OpenClaim := { program := "qxb6615160adoor", sum := "f110a5bf1550264c46740ab461b3faea26891744c2d6593f76c0e148426234bf", func := "example.com/penelope/penelope/zzlaws_root_b1.FnArgWalkSplitStepAlike", spec := "fnArgWalkSplitStepAlike", named := ["example.com/penelope/penelope.argChangeRules"], apart := false, laid := [("example.com/penelope/penelope.argChangeRules", laid_example_com_penelope_penelope_argChangeRules)] }
def FnArgWalkSplitStepAlikeSaid : Prop := fnArgWalkSplitStepAlikeRow.holds Tryd.pinned (OpenSpec.ofChange fnArgWalkSplitStepAlikeSpec)

/-- ITS FALSE NEIGHBOUR: 'it returns false'. Refute it at one input. -/
def fnArgWalkSplitStepAlikeWrong : ChangeSpec := { name := "fnArgWalkSplitStepAlike", vars := ["example.com/penelope/penelope.argChangeRules"], fn := fun _ => fun
  | [d1, d2, d3, d4, g1] => { results := [.lit (.bool false)], args := [d1, d2, d3, d4], vars := [g1] }
  | _ => none }
def FnArgWalkSplitStepAlikeWrongFalsely : Prop := fnArgWalkSplitStepAlikeRow.holds Tryd.pinned (OpenSpec.ofChange fnArgWalkSplitStepAlikeWrong)

end Rows
end Go.Proofs.Qxb6615160aDoor
