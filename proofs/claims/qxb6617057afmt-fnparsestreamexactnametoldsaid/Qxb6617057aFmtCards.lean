/-
  DERIVED. GIVEN WITH THE SEED: THE CARDS: each row of Qxb6617057aFmtRows.lean that lists a variable, with what it lists TIED to the program's text (the seventh form; the later family's looks); each row that meets fmt, with fmt's text TOLD by the authors' own Lean function (tested against real Go, not proved from fmt's source: count such statements apart). THE CARD IS WHAT COUNTS. Prove the row's statement (the work); the ties are given (Qxb6617057aFmtTie.lean); close each card by the builder's one call (the guide's Derived/Test/ToyasCard.lean, 'card_holds'). Laid BY PROGRAM, IN A SANDBOX (cutbox-door.mjs). By AI agents, Wed Nov 11 2026. No macro, syntax, notation, axiom, sorry.
-/
import Derived.Test.Qxb6617057aFmtRows
import GoSem.ClaimSeven
namespace Go.Proofs.Qxb6617057aFmt
namespace Rows

/-- THE TOLD CARD OF 'zzlaws_root_e1.FnParseStreamDistinctNames'. -/
def fnParseStreamDistinctNamesCard : Claim7 := { stood := { row := fnParseStreamDistinctNamesRow, standIns := [], harness := (true, "1bb865bd343a843d9f0066ceb8b771dfb6a779ae1b37028f10d6ebe391dfb04b"), looks := false }, told := true, goes := false }
def FnParseStreamDistinctNamesToldSaid : Prop := Claim7.holds Tryf.pinned (.plain (OpenSpec.ofChange fnParseStreamDistinctNamesSpec)) fnParseStreamDistinctNamesCard
/-- ITS FALSE NEIGHBOUR. Refute it at one input. -/
def FnParseStreamDistinctNamesToldWrongFalsely : Prop := Claim7.holds Tryf.pinned (.plain (OpenSpec.ofChange fnParseStreamDistinctNamesWrong)) fnParseStreamDistinctNamesCard

/-- THE TOLD CARD OF 'zzlaws_root_e1.FnParseStreamExactName'. -/
def fnParseStreamExactNameCard : Claim7 := { stood := { row := fnParseStreamExactNameRow, standIns := [], harness := (true, "1bb865bd343a843d9f0066ceb8b771dfb6a779ae1b37028f10d6ebe391dfb04b"), looks := false }, told := true, goes := false }
def FnParseStreamExactNameToldSaid : Prop := Claim7.holds Tryf.pinned (.plain (OpenSpec.ofChange fnParseStreamExactNameSpec)) fnParseStreamExactNameCard
/-- ITS FALSE NEIGHBOUR. Refute it at one input. -/
def FnParseStreamExactNameToldWrongFalsely : Prop := Claim7.holds Tryf.pinned (.plain (OpenSpec.ofChange fnParseStreamExactNameWrong)) fnParseStreamExactNameCard
end Rows
end Go.Proofs.Qxb6617057aFmt
