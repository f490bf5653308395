/-
  No cell of these rows narrows 'for every input' (looked for: loops, veiled, ifaces, maps, wideKeys, modest, calm, conditions, laid).
  DERIVED. THE GIVEN ROWS OF THIS SEAT. 1 by the template 'for every input the law returns true; each argument reads behind the call as it read before'; 0 by the template 'total and deterministic' (their statements: Qxb6617262aTotals.lean).
  GIVEN WITH THE SEED: the statements are not yours to turn. If you find one false, say at which input.
  Laid BY PROGRAM, IN A SANDBOX (cutbox-rows.mjs): the forced cells as the released guide's own fill.sh prints them over the translation 396a80b42831cebc… (all of the seat's roots in one cut). By AI agents, Wed Nov 11 2026. No macro, syntax, notation, axiom, sorry.
-/
import Derived.Test.Qxb6617262aChecked
import GoSem.Claim
import GoSem.ClaimJoined
import GoSem.ClaimMapViews
import Derived.JoinedTies
import Derived.KernelRfl
namespace Go.Proofs.Qxb6617262a
/- THE CELL 'sum', in the pinned program and in every row, IS THE sha256 OF THE DUMP (.gsa) THAT Qxb6617262aProg.lean LOADS. Nothing in Lean hashes anything: it is a label: what it is worth is what the hold of that sum in a sandbox is worth. -/
noncomputable def Try.pinned : Pinned := { name := "qxb6617262a", sum := "396a80b42831cebc45cda6855415feb235d76f9348b82766bc63c26a9e25d956", checked := Try.checked }
namespace Rows
def none {H : Type} : Left H := { results := [], args := [] }

/-- 'zzlaws_root_b1.FnInTellsTheName': WHATEVER THE INPUT: true; the input reads as it did. -/
def fnInTellsTheNameSpec : ChangeSpec := { name := "fnInTellsTheName", fn := fun _ => fun
  | [d1, d2, d3, d4, d5] => { results := [.lit (.bool true)], args := [d1, d2, d3, d4, d5] }
  | _ => none }
def fnInTellsTheNameRow : OpenClaim := { program := "qxb6617262a", sum := "396a80b42831cebc45cda6855415feb235d76f9348b82766bc63c26a9e25d956", func := "example.com/tael/tael/zzlaws_root_b1.FnInTellsTheName", spec := "fnInTellsTheName", apart := false }
def FnInTellsTheNameSaid : Prop := fnInTellsTheNameRow.holds Try.pinned (OpenSpec.ofChange fnInTellsTheNameSpec)

/-- ITS FALSE NEIGHBOUR: 'it returns false'. Refute it at one input. -/
def fnInTellsTheNameWrong : ChangeSpec := { name := "fnInTellsTheName", fn := fun _ => fun
  | [d1, d2, d3, d4, d5] => { results := [.lit (.bool false)], args := [d1, d2, d3, d4, d5] }
  | _ => none }
def FnInTellsTheNameWrongFalsely : Prop := fnInTellsTheNameRow.holds Try.pinned (OpenSpec.ofChange fnInTellsTheNameWrong)

end Rows
end Go.Proofs.Qxb6617262a
