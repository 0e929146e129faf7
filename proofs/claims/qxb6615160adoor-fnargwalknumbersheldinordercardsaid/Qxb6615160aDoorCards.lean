/-
  DERIVED. GIVEN WITH THE SEED: THE CARDS: each row of Qxb6615160aDoorRows.lean that lists a variable, with what it lists TIED to the program's text (the seventh form; the later family's looks); each row that meets fmt, with fmt's text TOLD by the authors' own Lean function (tested against real Go, not proved from fmt's source: count such statements apart). THE CARD IS WHAT COUNTS. Prove the row's statement (the work); the ties are given (Qxb6615160aDoorTie.lean); close each card by the builder's one call (the guide's Derived/Test/ToyasCard.lean, 'card_holds'). Laid BY PROGRAM, IN A SANDBOX (cutbox-door.mjs). By AI agents, Wed Nov 11 2026. No macro, syntax, notation, axiom, sorry.
-/
import Derived.Test.Qxb6615160aDoorRows
import GoSem.ClaimSeven
namespace Go.Proofs.Qxb6615160aDoor
namespace Rows

/-- THE TIED CARD OF 'zzlaws_root_b1.FnArgWalkNumbersHeldInOrder'. -/
def fnArgWalkNumbersHeldInOrderCard : Claim7 := { stood := { row := fnArgWalkNumbersHeldInOrderRow, standIns := [], harness := (true, "6081248bb6d4de58762830ce8877a1b6817444367db5af35230d38660f1d291d"), looks := false }, kinds := [], alts := [], laidByText := true, laidKinds := [.data], laidTests := true, laidLooks := .later }
def FnArgWalkNumbersHeldInOrderCardSaid : Prop := Claim7.holds Tryd.pinned (.plain (OpenSpec.ofChange fnArgWalkNumbersHeldInOrderSpec)) fnArgWalkNumbersHeldInOrderCard

/-- THE TIED CARD OF 'zzlaws_root_b1.FnArgWalkSplitStepAlike'. -/
def fnArgWalkSplitStepAlikeCard : Claim7 := { stood := { row := fnArgWalkSplitStepAlikeRow, standIns := [], harness := (true, "6081248bb6d4de58762830ce8877a1b6817444367db5af35230d38660f1d291d"), looks := false }, kinds := [], alts := [], laidByText := true, laidKinds := [.data], laidTests := true, laidLooks := .later }
def FnArgWalkSplitStepAlikeCardSaid : Prop := Claim7.holds Tryd.pinned (.plain (OpenSpec.ofChange fnArgWalkSplitStepAlikeSpec)) fnArgWalkSplitStepAlikeCard
end Rows
end Go.Proofs.Qxb6615160aDoor
