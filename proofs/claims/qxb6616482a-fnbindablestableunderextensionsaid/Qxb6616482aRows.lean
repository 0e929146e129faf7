/-
  No cell of these rows narrows 'for every input' (looked for: loops, veiled, ifaces, maps, wideKeys, modest, calm, conditions, laid).
  DERIVED. THE GIVEN ROWS OF THIS SEAT. 2 by the template 'for every input the law returns true; each argument reads behind the call as it read before'; 0 by the template 'total and deterministic' (their statements: Qxb6616482aTotals.lean).
  GIVEN WITH THE SEED: the statements are not yours to turn. If you find one false, say at which input.
  Laid BY PROGRAM, IN A SANDBOX (cutbox-rows.mjs): the forced cells as the released guide's own fill.sh prints them over the translation e4237db19c5ace3d… (all of the seat's roots in one cut). By AI agents, Wed Nov 11 2026. No macro, syntax, notation, axiom, sorry.
-/
import Derived.Test.Qxb6616482aChecked
import GoSem.Claim
import GoSem.ClaimJoined
import GoSem.ClaimMapViews
import Derived.JoinedTies
import Derived.KernelRfl
namespace Go.Proofs.Qxb6616482a
/- THE CELL 'sum', in the pinned program and in every row, IS THE sha256 OF THE DUMP (.gsa) THAT Qxb6616482aProg.lean LOADS. Nothing in Lean hashes anything: it is a label: what it is worth is what the hold of that sum in a sandbox is worth. -/
noncomputable def Try.pinned : Pinned := { name := "qxb6616482a", sum := "e4237db19c5ace3dd3e68240dcc9bda82fac5a5731d7c727af8265ad225ec142", checked := Try.checked }
namespace Rows
def none {H : Type} : Left H := { results := [], args := [] }

/-- 'zzlaws_internal_syntax_b1.FnBindableByLabelKind': WHATEVER THE INPUT: true; the input reads as it did. -/
def fnBindableByLabelKindSpec : ChangeSpec := { name := "fnBindableByLabelKind", fn := fun _ => fun
  | [d1, d2, d3] => { results := [.lit (.bool true)], args := [d1, d2, d3] }
  | _ => none }
def fnBindableByLabelKindRow : OpenClaim := { program := "qxb6616482a", sum := "e4237db19c5ace3dd3e68240dcc9bda82fac5a5731d7c727af8265ad225ec142", func := "example.com/lattis/lattis/zzlaws_internal_syntax_b1.FnBindableByLabelKind", spec := "fnBindableByLabelKind", apart := false }
def FnBindableByLabelKindSaid : Prop := fnBindableByLabelKindRow.holds Try.pinned (OpenSpec.ofChange fnBindableByLabelKindSpec)

/-- ITS FALSE NEIGHBOUR: 'it returns false'. Refute it at one input. -/
def fnBindableByLabelKindWrong : ChangeSpec := { name := "fnBindableByLabelKind", fn := fun _ => fun
  | [d1, d2, d3] => { results := [.lit (.bool false)], args := [d1, d2, d3] }
  | _ => none }
def FnBindableByLabelKindWrongFalsely : Prop := fnBindableByLabelKindRow.holds Try.pinned (OpenSpec.ofChange fnBindableByLabelKindWrong)

/-- 'zzlaws_internal_syntax_b1.FnBindableStableUnderExtension': WHATEVER THE INPUT: true; the input reads as it did. -/
def fnBindableStableUnderExtensionSpec : ChangeSpec := { name := "fnBindableStableUnderExtension", fn := fun _ => fun
  | [d1, d2, d3, d4] => { results := [.lit (.bool true)], args := [d1, d2, d3, d4] }
  | _ => none }
def fnBindableStableUnderExtensionRow : OpenClaim := { program := "qxb6616482a", sum := "e4237db19c5ace3dd3e68240dcc9bda82fac5a5731d7c727af8265ad225ec142", func := "example.com/lattis/lattis/zzlaws_internal_syntax_b1.FnBindableStableUnderExtension", spec := "fnBindableStableUnderExtension", apart := false }
def FnBindableStableUnderExtensionSaid : Prop := fnBindableStableUnderExtensionRow.holds Try.pinned (OpenSpec.ofChange fnBindableStableUnderExtensionSpec)

/-- ITS FALSE NEIGHBOUR: 'it returns false'. Refute it at one input. -/
def fnBindableStableUnderExtensionWrong : ChangeSpec := { name := "fnBindableStableUnderExtension", fn := fun _ => fun
  | [d1, d2, d3, d4] => { results := [.lit (.bool false)], args := [d1, d2, d3, d4] }
  | _ => none }
def FnBindableStableUnderExtensionWrongFalsely : Prop := fnBindableStableUnderExtensionRow.holds Try.pinned (OpenSpec.ofChange fnBindableStableUnderExtensionWrong)

end Rows
end Go.Proofs.Qxb6616482a
