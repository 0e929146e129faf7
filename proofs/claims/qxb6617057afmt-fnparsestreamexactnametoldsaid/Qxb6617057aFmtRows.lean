/-
  No cell of these rows narrows 'for every input' (looked for: loops, veiled, ifaces, maps, wideKeys, modest, calm, conditions, laid).
  DERIVED. THE GIVEN ROWS OF THIS SEAT. 2 by the template 'for every input the law returns true; each argument reads behind the call as it read before'; 0 by the template 'total and deterministic' (their statements: Qxb6617057aFmtTotals.lean).
  GIVEN WITH THE SEED: the statements are not yours to turn. If you find one false, say at which input.
  Laid BY PROGRAM, IN A SANDBOX (cutbox-rows.mjs): the forced cells as the released guide's own fill.sh prints them over the translation ce075d2138f547b5… (all of the seat's roots in one cut). By AI agents, Wed Nov 11 2026. No macro, syntax, notation, axiom, sorry.
-/
import Derived.Test.Qxb6617057aFmtChecked
import GoSem.Claim
import GoSem.ClaimJoined
import GoSem.ClaimMapViews
import Derived.JoinedTies
import Derived.KernelRfl
namespace Go.Proofs.Qxb6617057aFmt
/- THE CELL 'sum', in the pinned program and in every row, IS THE sha256 OF THE DUMP (.gsa) THAT Qxb6617057aFmtProg.lean LOADS. Nothing in Lean hashes anything: it is a label: what it is worth is what the hold of that sum in a sandbox is worth. -/
noncomputable def Tryf.pinned : Pinned := { name := "qxb6617057afmt", sum := "ce075d2138f547b5f649dd17530fb27944b13a248e5f2012447c164219186789", checked := Tryf.checked }
namespace Rows
def none {H : Type} : Left H := { results := [], args := [] }

/-- 'zzlaws_root_e1.FnParseStreamDistinctNames': WHATEVER THE INPUT: true; the input reads as it did. -/
def fnParseStreamDistinctNamesSpec : ChangeSpec := { name := "fnParseStreamDistinctNames", fn := fun _ => fun
  | [d1, d2] => { results := [.lit (.bool true)], args := [d1, d2] }
  | _ => none }
def fnParseStreamDistinctNamesRow : OpenClaim := { program := "qxb6617057afmt", sum := "ce075d2138f547b5f649dd17530fb27944b13a248e5f2012447c164219186789", func := "example.com/chokewire/chokewire/zzlaws_root_e1.FnParseStreamDistinctNames", spec := "fnParseStreamDistinctNames", stops := ["fmt.errorf"], inPlace := ["fmt.errorf"], apart := false }
/-- NO THEOREM (fmt's text is open here; it may be false): for the released tool's asking of the row's closed facts alone. THE STATEMENT IS 'FnParseStreamDistinctNamesToldSaid' (Qxb6617057aFmtCards.lean). -/
def FnParseStreamDistinctNamesFormAsk : Prop := fnParseStreamDistinctNamesRow.holds Tryf.pinned (OpenSpec.ofChange fnParseStreamDistinctNamesSpec)

/-- ITS FALSE NEIGHBOUR: 'it returns false'. Refute it at one input. -/
def fnParseStreamDistinctNamesWrong : ChangeSpec := { name := "fnParseStreamDistinctNames", fn := fun _ => fun
  | [d1, d2] => { results := [.lit (.bool false)], args := [d1, d2] }
  | _ => none }
def FnParseStreamDistinctNamesWrongFormAsk : Prop := fnParseStreamDistinctNamesRow.holds Tryf.pinned (OpenSpec.ofChange fnParseStreamDistinctNamesWrong)

/-- 'zzlaws_root_e1.FnParseStreamExactName': WHATEVER THE INPUT: true; the input reads as it did. -/
def fnParseStreamExactNameSpec : ChangeSpec := { name := "fnParseStreamExactName", fn := fun _ => fun
  | [d1, d2] => { results := [.lit (.bool true)], args := [d1, d2] }
  | _ => none }
def fnParseStreamExactNameRow : OpenClaim := { program := "qxb6617057afmt", sum := "ce075d2138f547b5f649dd17530fb27944b13a248e5f2012447c164219186789", func := "example.com/chokewire/chokewire/zzlaws_root_e1.FnParseStreamExactName", spec := "fnParseStreamExactName", stops := ["fmt.errorf"], inPlace := ["fmt.errorf"], apart := false }
/-- NO THEOREM (fmt's text is open here; it may be false): for the released tool's asking of the row's closed facts alone. THE STATEMENT IS 'FnParseStreamExactNameToldSaid' (Qxb6617057aFmtCards.lean). -/
def FnParseStreamExactNameFormAsk : Prop := fnParseStreamExactNameRow.holds Tryf.pinned (OpenSpec.ofChange fnParseStreamExactNameSpec)

/-- ITS FALSE NEIGHBOUR: 'it returns false'. Refute it at one input. -/
def fnParseStreamExactNameWrong : ChangeSpec := { name := "fnParseStreamExactName", fn := fun _ => fun
  | [d1, d2] => { results := [.lit (.bool false)], args := [d1, d2] }
  | _ => none }
def FnParseStreamExactNameWrongFormAsk : Prop := fnParseStreamExactNameRow.holds Tryf.pinned (OpenSpec.ofChange fnParseStreamExactNameWrong)

end Rows
end Go.Proofs.Qxb6617057aFmt
