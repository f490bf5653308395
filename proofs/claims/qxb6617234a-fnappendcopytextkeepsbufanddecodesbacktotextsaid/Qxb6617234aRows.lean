/-
  No cell of these rows narrows 'for every input' (looked for: loops, veiled, ifaces, maps, wideKeys, modest, calm, conditions, laid).
  DERIVED. THE GIVEN ROWS OF THIS SEAT. 2 by the template 'for every input the law returns true; each argument reads behind the call as it read before'; 0 by the template 'total and deterministic' (their statements: Qxb6617234aTotals.lean).
  GIVEN WITH THE SEED: the statements are not yours to turn. If you find one false, say at which input.
  Laid BY PROGRAM, IN A SANDBOX (cutbox-rows.mjs): the forced cells as the released guide's own fill.sh prints them over the translation 42dcdbce485da664… (all of the seat's roots in one cut). By AI agents, Wed Nov 11 2026. No macro, syntax, notation, axiom, sorry.
-/
import Derived.Test.Qxb6617234aChecked
import GoSem.Claim
import GoSem.ClaimJoined
import GoSem.ClaimMapViews
import Derived.JoinedTies
import Derived.KernelRfl
namespace Go.Proofs.Qxb6617234a
/- THE CELL 'sum', in the pinned program and in every row, IS THE sha256 OF THE DUMP (.gsa) THAT Qxb6617234aProg.lean LOADS. Nothing in Lean hashes anything: it is a label: what it is worth is what the hold of that sum in a sandbox is worth. -/
noncomputable def Try.pinned : Pinned := { name := "qxb6617234a", sum := "42dcdbce485da6647e6182b41ac80afeb40f35f99cbe33f72e1bd68f9ebcefdb", checked := Try.checked }
namespace Rows
def none {H : Type} : Left H := { results := [], args := [] }

/-- 'zzlaws_internal_pgsink_b1.FnAppendCopyTextSplitsAtAnyCutAndGrowsByItsSpecials': WHATEVER THE INPUT: true; the input reads as it did. -/
def fnAppendCopyTextSplitsAtAnyCutAndGrowsByItsSpecialsSpec : ChangeSpec := { name := "fnAppendCopyTextSplitsAtAnyCutAndGrowsByItsSpecials", fn := fun _ => fun
  | [d1, d2, d3] => { results := [.lit (.bool true)], args := [d1, d2, d3] }
  | _ => none }
def fnAppendCopyTextSplitsAtAnyCutAndGrowsByItsSpecialsRow : OpenClaim := { program := "qxb6617234a", sum := "42dcdbce485da6647e6182b41ac80afeb40f35f99cbe33f72e1bd68f9ebcefdb", func := "example.com/sinkwright/sinkwright/zzlaws_internal_pgsink_b1.FnAppendCopyTextSplitsAtAnyCutAndGrowsByItsSpecials", spec := "fnAppendCopyTextSplitsAtAnyCutAndGrowsByItsSpecials", apart := false }
def FnAppendCopyTextSplitsAtAnyCutAndGrowsByItsSpecialsSaid : Prop := fnAppendCopyTextSplitsAtAnyCutAndGrowsByItsSpecialsRow.holds Try.pinned (OpenSpec.ofChange fnAppendCopyTextSplitsAtAnyCutAndGrowsByItsSpecialsSpec)

/-- ITS FALSE NEIGHBOUR: 'it returns false'. Refute it at one input. -/
def fnAppendCopyTextSplitsAtAnyCutAndGrowsByItsSpecialsWrong : ChangeSpec := { name := "fnAppendCopyTextSplitsAtAnyCutAndGrowsByItsSpecials", fn := fun _ => fun
  | [d1, d2, d3] => { results := [.lit (.bool false)], args := [d1, d2, d3] }
  | _ => none }
def FnAppendCopyTextSplitsAtAnyCutAndGrowsByItsSpecialsWrongFalsely : Prop := fnAppendCopyTextSplitsAtAnyCutAndGrowsByItsSpecialsRow.holds Try.pinned (OpenSpec.ofChange fnAppendCopyTextSplitsAtAnyCutAndGrowsByItsSpecialsWrong)

/-- 'zzlaws_internal_pgsink_b1.FnAppendCopyTextKeepsBufAndDecodesBackToText': WHATEVER THE INPUT: true; the input reads as it did. -/
def fnAppendCopyTextKeepsBufAndDecodesBackToTextSpec : ChangeSpec := { name := "fnAppendCopyTextKeepsBufAndDecodesBackToText", fn := fun _ => fun
  | [d1, d2] => { results := [.lit (.bool true)], args := [d1, d2] }
  | _ => none }
def fnAppendCopyTextKeepsBufAndDecodesBackToTextRow : OpenClaim := { program := "qxb6617234a", sum := "42dcdbce485da6647e6182b41ac80afeb40f35f99cbe33f72e1bd68f9ebcefdb", func := "example.com/sinkwright/sinkwright/zzlaws_internal_pgsink_b1.FnAppendCopyTextKeepsBufAndDecodesBackToText", spec := "fnAppendCopyTextKeepsBufAndDecodesBackToText", apart := false }
def FnAppendCopyTextKeepsBufAndDecodesBackToTextSaid : Prop := fnAppendCopyTextKeepsBufAndDecodesBackToTextRow.holds Try.pinned (OpenSpec.ofChange fnAppendCopyTextKeepsBufAndDecodesBackToTextSpec)

/-- ITS FALSE NEIGHBOUR: 'it returns false'. Refute it at one input. -/
def fnAppendCopyTextKeepsBufAndDecodesBackToTextWrong : ChangeSpec := { name := "fnAppendCopyTextKeepsBufAndDecodesBackToText", fn := fun _ => fun
  | [d1, d2] => { results := [.lit (.bool false)], args := [d1, d2] }
  | _ => none }
def FnAppendCopyTextKeepsBufAndDecodesBackToTextWrongFalsely : Prop := fnAppendCopyTextKeepsBufAndDecodesBackToTextRow.holds Try.pinned (OpenSpec.ofChange fnAppendCopyTextKeepsBufAndDecodesBackToTextWrong)

end Rows
end Go.Proofs.Qxb6617234a
