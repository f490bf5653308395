/-
  No cell of these rows narrows 'for every input' (looked for: loops, veiled, ifaces, maps, wideKeys, modest, calm, conditions, laid).
  DERIVED. THE GIVEN ROWS OF THIS SEAT. 2 by the template 'for every input the law returns true; each argument reads behind the call as it read before'; 0 by the template 'total and deterministic' (their statements: Qxb6621615aTotals.lean).
  GIVEN WITH THE SEED: the statements are not yours to turn. If you find one false, say at which input.
  Laid BY PROGRAM, IN A SANDBOX (cutbox-rows.mjs): the forced cells as the released guide's own fill.sh prints them over the translation 2fe6ad8b91c4fa43… (all of the seat's roots in one cut). By AI agents, Wed Nov 11 2026. No macro, syntax, notation, axiom, sorry.
-/
import Derived.Test.Qxb6621615aChecked
import GoSem.Claim
import GoSem.ClaimJoined
import GoSem.ClaimMapViews
import Derived.JoinedTies
import Derived.KernelRfl
namespace Go.Proofs.Qxb6621615a
/- THE CELL 'sum', in the pinned program and in every row, IS THE sha256 OF THE DUMP (.gsa) THAT Qxb6621615aProg.lean LOADS. Nothing in Lean hashes anything: it is a label: what it is worth is what the hold of that sum in a sandbox is worth. -/
noncomputable def Try.pinned : Pinned := { name := "qxb6621615a", sum := "2fe6ad8b91c4fa43dc4bdab3edd98fc4f6af0f89ebf18a7acf8d64ddbe0e1ad1", checked := Try.checked }
namespace Rows
def none {H : Type} : Left H := { results := [], args := [] }

/-- 'zzlaws_cli_e1.FnCheckJoinRefusedExactlyWhenShortestTrustIsEmpty': WHATEVER THE INPUT: true; the input reads as it did. -/
def fnCheckJoinRefusedExactlyWhenShortestTrustIsEmptySpec : ChangeSpec := { name := "fnCheckJoinRefusedExactlyWhenShortestTrustIsEmpty", fn := fun _ => fun
  | [d1, d2, d3] => { results := [.lit (.bool true)], args := [d1, d2, d3] }
  | _ => none }
def fnCheckJoinRefusedExactlyWhenShortestTrustIsEmptyRow : OpenClaim := { program := "qxb6621615a", sum := "2fe6ad8b91c4fa43dc4bdab3edd98fc4f6af0f89ebf18a7acf8d64ddbe0e1ad1", func := "example.com/exculpa/exculpa/zzlaws_cli_e1.FnCheckJoinRefusedExactlyWhenShortestTrustIsEmpty", spec := "fnCheckJoinRefusedExactlyWhenShortestTrustIsEmpty", apart := false }
def FnCheckJoinRefusedExactlyWhenShortestTrustIsEmptySaid : Prop := fnCheckJoinRefusedExactlyWhenShortestTrustIsEmptyRow.holds Try.pinned (OpenSpec.ofChange fnCheckJoinRefusedExactlyWhenShortestTrustIsEmptySpec)

/-- ITS FALSE NEIGHBOUR: 'it returns false'. Refute it at one input. -/
def fnCheckJoinRefusedExactlyWhenShortestTrustIsEmptyWrong : ChangeSpec := { name := "fnCheckJoinRefusedExactlyWhenShortestTrustIsEmpty", fn := fun _ => fun
  | [d1, d2, d3] => { results := [.lit (.bool false)], args := [d1, d2, d3] }
  | _ => none }
def FnCheckJoinRefusedExactlyWhenShortestTrustIsEmptyWrongFalsely : Prop := fnCheckJoinRefusedExactlyWhenShortestTrustIsEmptyRow.holds Try.pinned (OpenSpec.ofChange fnCheckJoinRefusedExactlyWhenShortestTrustIsEmptyWrong)

/-- 'zzlaws_cli_e1.FnCheckInsertOneAuthorAnywhere': WHATEVER THE INPUT: true; the input reads as it did. -/
def fnCheckInsertOneAuthorAnywhereSpec : ChangeSpec := { name := "fnCheckInsertOneAuthorAnywhere", fn := fun _ => fun
  | [d1, d2, d3, d4] => { results := [.lit (.bool true)], args := [d1, d2, d3, d4] }
  | _ => none }
def fnCheckInsertOneAuthorAnywhereRow : OpenClaim := { program := "qxb6621615a", sum := "2fe6ad8b91c4fa43dc4bdab3edd98fc4f6af0f89ebf18a7acf8d64ddbe0e1ad1", func := "example.com/exculpa/exculpa/zzlaws_cli_e1.FnCheckInsertOneAuthorAnywhere", spec := "fnCheckInsertOneAuthorAnywhere", apart := false }
def FnCheckInsertOneAuthorAnywhereSaid : Prop := fnCheckInsertOneAuthorAnywhereRow.holds Try.pinned (OpenSpec.ofChange fnCheckInsertOneAuthorAnywhereSpec)

/-- ITS FALSE NEIGHBOUR: 'it returns false'. Refute it at one input. -/
def fnCheckInsertOneAuthorAnywhereWrong : ChangeSpec := { name := "fnCheckInsertOneAuthorAnywhere", fn := fun _ => fun
  | [d1, d2, d3, d4] => { results := [.lit (.bool false)], args := [d1, d2, d3, d4] }
  | _ => none }
def FnCheckInsertOneAuthorAnywhereWrongFalsely : Prop := fnCheckInsertOneAuthorAnywhereRow.holds Try.pinned (OpenSpec.ofChange fnCheckInsertOneAuthorAnywhereWrong)

end Rows
end Go.Proofs.Qxb6621615a
