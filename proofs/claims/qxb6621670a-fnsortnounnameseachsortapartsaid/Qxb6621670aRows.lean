/-
  No cell of these rows narrows 'for every input' (looked for: loops, veiled, ifaces, maps, wideKeys, modest, calm, conditions, laid).
  DERIVED. THE GIVEN ROWS OF THIS SEAT. 4 by the template 'for every input the law returns true; each argument reads behind the call as it read before'; 0 by the template 'total and deterministic' (their statements: Qxb6621670aTotals.lean).
  GIVEN WITH THE SEED: the statements are not yours to turn. If you find one false, say at which input.
  Laid BY PROGRAM, IN A SANDBOX (cutbox-rows.mjs): the forced cells as the released guide's own fill.sh prints them over the translation 1a1750b8e0455761… (all of the seat's roots in one cut). By AI agents, Wed Nov 11 2026. No macro, syntax, notation, axiom, sorry.
-/
import Derived.Test.Qxb6621670aChecked
import GoSem.Claim
import GoSem.ClaimJoined
import GoSem.ClaimMapViews
import Derived.JoinedTies
import Derived.KernelRfl
namespace Go.Proofs.Qxb6621670a
/- THE CELL 'sum', in the pinned program and in every row, IS THE sha256 OF THE DUMP (.gsa) THAT Qxb6621670aProg.lean LOADS. Nothing in Lean hashes anything: it is a label: what it is worth is what the hold of that sum in a sandbox is worth. -/
noncomputable def Try.pinned : Pinned := { name := "qxb6621670a", sum := "1a1750b8e04557616d480b17a671ce27ad420e65e69aa7a0d55529a0cf84fb9d", checked := Try.checked }
namespace Rows
def none {H : Type} : Left H := { results := [], args := [] }

/-- 'zzlaws_internal_syntax_b1.FnBinaryStrengthsFollowTheDocumentedOrder': WHATEVER THE INPUT: true; the input reads as it did. -/
def fnBinaryStrengthsFollowTheDocumentedOrderSpec : ChangeSpec := { name := "fnBinaryStrengthsFollowTheDocumentedOrder", fn := fun _ => fun
  | [d1, d2] => { results := [.lit (.bool true)], args := [d1, d2] }
  | _ => none }
def fnBinaryStrengthsFollowTheDocumentedOrderRow : OpenClaim := { program := "qxb6621670a", sum := "1a1750b8e04557616d480b17a671ce27ad420e65e69aa7a0d55529a0cf84fb9d", func := "example.com/policy-prover/policy-prover/zzlaws_internal_syntax_b1.FnBinaryStrengthsFollowTheDocumentedOrder", spec := "fnBinaryStrengthsFollowTheDocumentedOrder", apart := false }
def FnBinaryStrengthsFollowTheDocumentedOrderSaid : Prop := fnBinaryStrengthsFollowTheDocumentedOrderRow.holds Try.pinned (OpenSpec.ofChange fnBinaryStrengthsFollowTheDocumentedOrderSpec)

/-- ITS FALSE NEIGHBOUR: 'it returns false'. Refute it at one input. -/
def fnBinaryStrengthsFollowTheDocumentedOrderWrong : ChangeSpec := { name := "fnBinaryStrengthsFollowTheDocumentedOrder", fn := fun _ => fun
  | [d1, d2] => { results := [.lit (.bool false)], args := [d1, d2] }
  | _ => none }
def FnBinaryStrengthsFollowTheDocumentedOrderWrongFalsely : Prop := fnBinaryStrengthsFollowTheDocumentedOrderRow.holds Try.pinned (OpenSpec.ofChange fnBinaryStrengthsFollowTheDocumentedOrderWrong)

/-- 'zzlaws_internal_syntax_b1.FnSortNounNamesEachSortApart': WHATEVER THE INPUT: true; the input reads as it did. -/
def fnSortNounNamesEachSortApartSpec : ChangeSpec := { name := "fnSortNounNamesEachSortApart", fn := fun _ => fun
  | [d1, d2] => { results := [.lit (.bool true)], args := [d1, d2] }
  | _ => none }
def fnSortNounNamesEachSortApartRow : OpenClaim := { program := "qxb6621670a", sum := "1a1750b8e04557616d480b17a671ce27ad420e65e69aa7a0d55529a0cf84fb9d", func := "example.com/policy-prover/policy-prover/zzlaws_internal_syntax_b1.FnSortNounNamesEachSortApart", spec := "fnSortNounNamesEachSortApart", apart := false }
def FnSortNounNamesEachSortApartSaid : Prop := fnSortNounNamesEachSortApartRow.holds Try.pinned (OpenSpec.ofChange fnSortNounNamesEachSortApartSpec)

/-- ITS FALSE NEIGHBOUR: 'it returns false'. Refute it at one input. -/
def fnSortNounNamesEachSortApartWrong : ChangeSpec := { name := "fnSortNounNamesEachSortApart", fn := fun _ => fun
  | [d1, d2] => { results := [.lit (.bool false)], args := [d1, d2] }
  | _ => none }
def FnSortNounNamesEachSortApartWrongFalsely : Prop := fnSortNounNamesEachSortApartRow.holds Try.pinned (OpenSpec.ofChange fnSortNounNamesEachSortApartWrong)

/-- 'zzlaws_internal_syntax_b1.FnSortNounAppendsAJoinedSort': WHATEVER THE INPUT: true; the input reads as it did. -/
def fnSortNounAppendsAJoinedSortSpec : ChangeSpec := { name := "fnSortNounAppendsAJoinedSort", fn := fun _ => fun
  | [d1, d2] => { results := [.lit (.bool true)], args := [d1, d2] }
  | _ => none }
def fnSortNounAppendsAJoinedSortRow : OpenClaim := { program := "qxb6621670a", sum := "1a1750b8e04557616d480b17a671ce27ad420e65e69aa7a0d55529a0cf84fb9d", func := "example.com/policy-prover/policy-prover/zzlaws_internal_syntax_b1.FnSortNounAppendsAJoinedSort", spec := "fnSortNounAppendsAJoinedSort", apart := false }
def FnSortNounAppendsAJoinedSortSaid : Prop := fnSortNounAppendsAJoinedSortRow.holds Try.pinned (OpenSpec.ofChange fnSortNounAppendsAJoinedSortSpec)

/-- ITS FALSE NEIGHBOUR: 'it returns false'. Refute it at one input. -/
def fnSortNounAppendsAJoinedSortWrong : ChangeSpec := { name := "fnSortNounAppendsAJoinedSort", fn := fun _ => fun
  | [d1, d2] => { results := [.lit (.bool false)], args := [d1, d2] }
  | _ => none }
def FnSortNounAppendsAJoinedSortWrongFalsely : Prop := fnSortNounAppendsAJoinedSortRow.holds Try.pinned (OpenSpec.ofChange fnSortNounAppendsAJoinedSortWrong)

/-- 'zzlaws_internal_syntax_b1.FnSpelledNameQuotedIsBare': WHATEVER THE INPUT: true; the input reads as it did. -/
def fnSpelledNameQuotedIsBareSpec : ChangeSpec := { name := "fnSpelledNameQuotedIsBare", fn := fun _ => fun
  | [d1, d2, d3] => { results := [.lit (.bool true)], args := [d1, d2, d3] }
  | _ => none }
def fnSpelledNameQuotedIsBareRow : OpenClaim := { program := "qxb6621670a", sum := "1a1750b8e04557616d480b17a671ce27ad420e65e69aa7a0d55529a0cf84fb9d", func := "example.com/policy-prover/policy-prover/zzlaws_internal_syntax_b1.FnSpelledNameQuotedIsBare", spec := "fnSpelledNameQuotedIsBare", apart := false }
def FnSpelledNameQuotedIsBareSaid : Prop := fnSpelledNameQuotedIsBareRow.holds Try.pinned (OpenSpec.ofChange fnSpelledNameQuotedIsBareSpec)

/-- ITS FALSE NEIGHBOUR: 'it returns false'. Refute it at one input. -/
def fnSpelledNameQuotedIsBareWrong : ChangeSpec := { name := "fnSpelledNameQuotedIsBare", fn := fun _ => fun
  | [d1, d2, d3] => { results := [.lit (.bool false)], args := [d1, d2, d3] }
  | _ => none }
def FnSpelledNameQuotedIsBareWrongFalsely : Prop := fnSpelledNameQuotedIsBareRow.holds Try.pinned (OpenSpec.ofChange fnSpelledNameQuotedIsBareWrong)

end Rows
end Go.Proofs.Qxb6621670a
