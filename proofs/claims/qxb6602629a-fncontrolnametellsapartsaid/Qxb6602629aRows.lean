/-
  No cell of these rows narrows 'for every input' (looked for: loops, veiled, ifaces, maps, wideKeys, modest, calm, conditions, laid).
  DERIVED. THE GIVEN ROWS OF THIS SEAT. 1 by the template 'for every input the law returns true; each argument reads behind the call as it read before'; 0 by the template 'total and deterministic' (their statements: Qxb6602629aTotals.lean).
  GIVEN WITH THE SEED: the statements are not yours to turn. If you find one false, say at which input.
  Laid BY PROGRAM, IN A SANDBOX (cutbox-rows.mjs): the forced cells as the released guide's own fill.sh prints them over the translation 02b97b3233a18db3… (all of the seat's roots in one cut). By AI agents, Wed Nov 11 2026. No macro, syntax, notation, axiom, sorry.
-/
import Derived.Test.Qxb6602629aChecked
import GoSem.Claim
import GoSem.ClaimJoined
import GoSem.ClaimMapViews
import Derived.JoinedTies
import Derived.KernelRfl
namespace Go.Proofs.Qxb6602629a
/- THE CELL 'sum', in the pinned program and in every row, IS THE sha256 OF THE DUMP (.gsa) THAT Qxb6602629aProg.lean LOADS. Nothing in Lean hashes anything: it is a label: what it is worth is what the hold of that sum in a sandbox is worth. -/
noncomputable def Try.pinned : Pinned := { name := "qxb6602629a", sum := "02b97b3233a18db331695ce45c6974ec1d3c75cdab51066a1a0e28875a2e7f4f", checked := Try.checked }
namespace Rows
def none {H : Type} : Left H := { results := [], args := [] }

/-- 'zzlaws_plan_b1.FnControlNameTellsApart': WHATEVER THE INPUT: true; the input reads as it did. -/
def fnControlNameTellsApartSpec : ChangeSpec := { name := "fnControlNameTellsApart", fn := fun _ => fun
  | [d1, d2] => { results := [.lit (.bool true)], args := [d1, d2] }
  | _ => none }
def fnControlNameTellsApartRow : OpenClaim := { program := "qxb6602629a", sum := "02b97b3233a18db331695ce45c6974ec1d3c75cdab51066a1a0e28875a2e7f4f", func := "example.com/vestline/vestline/zzlaws_plan_b1.FnControlNameTellsApart", spec := "fnControlNameTellsApart", apart := false }
def FnControlNameTellsApartSaid : Prop := fnControlNameTellsApartRow.holds Try.pinned (OpenSpec.ofChange fnControlNameTellsApartSpec)

/-- ITS FALSE NEIGHBOUR: 'it returns false'. Refute it at one input. -/
def fnControlNameTellsApartWrong : ChangeSpec := { name := "fnControlNameTellsApart", fn := fun _ => fun
  | [d1, d2] => { results := [.lit (.bool false)], args := [d1, d2] }
  | _ => none }
def FnControlNameTellsApartWrongFalsely : Prop := fnControlNameTellsApartRow.holds Try.pinned (OpenSpec.ofChange fnControlNameTellsApartWrong)

end Rows
end Go.Proofs.Qxb6602629a
