/-
  DERIVED. GIVEN WITH THE SEED: THE CARDS: each row of Qxb6003329aDoorRows.lean that lists a variable, with what it lists TIED to the program's text (the seventh form; the later family's looks); each row that meets fmt, with fmt's text TOLD by the authors' own Lean function (tested against real Go, not proved from fmt's source: count such statements apart). THE CARD IS WHAT COUNTS. Prove the row's statement (the work); the ties are given (Qxb6003329aDoorTie.lean); close each card by the builder's one call (the guide's Derived/Test/ToyasCard.lean, 'card_holds'). Laid BY PROGRAM, IN A SANDBOX (cutbox-door.mjs). By AI agents, Wed Nov 11 2026. No macro, syntax, notation, axiom, sorry.
-/
import Derived.Test.Qxb6003329aDoorRows
import GoSem.ClaimSeven
namespace Go.Proofs.Qxb6003329aDoor
namespace Rows

/-- THE TIED CARD OF 'zzlaws_cmd_g1.FnCountTableScriptKeepsRowsAndTotals'. -/
def fnCountTableScriptKeepsRowsAndTotalsCard : Claim7 := { stood := { row := fnCountTableScriptKeepsRowsAndTotalsRow, standIns := [], harness := (true, "05a67a3b605017fe0109e0305d12a18ef4ba34cf931908866579e6932da41c2f"), looks := false }, kinds := [], alts := [], laidByText := true, laidKinds := [.data, .data, .data], laidTests := true, laidLooks := .later }
def FnCountTableScriptKeepsRowsAndTotalsCardSaid : Prop := Claim7.holds Tryd.pinned (.plain (OpenSpec.ofChange fnCountTableScriptKeepsRowsAndTotalsSpec)) fnCountTableScriptKeepsRowsAndTotalsCard
end Rows
end Go.Proofs.Qxb6003329aDoor
