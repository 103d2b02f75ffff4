/-
  No cell of these rows narrows 'for every input' (looked for: loops, veiled, ifaces, maps, wideKeys, modest, calm, conditions, laid).
  DERIVED. THE GIVEN ROWS OF THIS SEAT. 2 by the template 'for every input the law returns true; each argument reads behind the call as it read before'; 0 by the template 'total and deterministic' (their statements: Qxb6628837aTotals.lean).
  GIVEN WITH THE SEED: the statements are not yours to turn. If you find one false, say at which input.
  Laid BY PROGRAM, IN A SANDBOX (cutbox-rows.mjs): the forced cells as the released guide's own fill.sh prints them over the translation 7d657107b200b869… (all of the seat's roots in one cut). By AI agents, Wed Nov 11 2026. No macro, syntax, notation, axiom, sorry.
-/
import Derived.Test.Qxb6628837aChecked
import GoSem.Claim
import GoSem.ClaimJoined
import GoSem.ClaimMapViews
import Derived.JoinedTies
import Derived.KernelRfl
namespace Go.Proofs.Qxb6628837a
/- THE CELL 'sum', in the pinned program and in every row, IS THE sha256 OF THE DUMP (.gsa) THAT Qxb6628837aProg.lean LOADS. Nothing in Lean hashes anything: it is a label: what it is worth is what the hold of that sum in a sandbox is worth. -/
noncomputable def Try.pinned : Pinned := { name := "qxb6628837a", sum := "7d657107b200b8692215f43d87232adeac070bf768ff91b1eb0a59fa75c0fae7", checked := Try.checked }
namespace Rows
def none {H : Type} : Left H := { results := [], args := [] }

/-- 'zzlaws_internal_jsontext_b1.FnPeekNamesTheFirstNonSpaceByte': WHATEVER THE INPUT: true; the input reads as it did. -/
def fnPeekNamesTheFirstNonSpaceByteSpec : ChangeSpec := { name := "fnPeekNamesTheFirstNonSpaceByte", fn := fun _ => fun
  | [d1, d2, d3, d4] => { results := [.lit (.bool true)], args := [d1, d2, d3, d4] }
  | _ => none }
def fnPeekNamesTheFirstNonSpaceByteRow : OpenClaim := { program := "qxb6628837a", sum := "7d657107b200b8692215f43d87232adeac070bf768ff91b1eb0a59fa75c0fae7", func := "example.com/typewright/typewright/zzlaws_internal_jsontext_b1.FnPeekNamesTheFirstNonSpaceByte", spec := "fnPeekNamesTheFirstNonSpaceByte", apart := false }
def FnPeekNamesTheFirstNonSpaceByteSaid : Prop := fnPeekNamesTheFirstNonSpaceByteRow.holds Try.pinned (OpenSpec.ofChange fnPeekNamesTheFirstNonSpaceByteSpec)

/-- ITS FALSE NEIGHBOUR: 'it returns false'. Refute it at one input. -/
def fnPeekNamesTheFirstNonSpaceByteWrong : ChangeSpec := { name := "fnPeekNamesTheFirstNonSpaceByte", fn := fun _ => fun
  | [d1, d2, d3, d4] => { results := [.lit (.bool false)], args := [d1, d2, d3, d4] }
  | _ => none }
def FnPeekNamesTheFirstNonSpaceByteWrongFalsely : Prop := fnPeekNamesTheFirstNonSpaceByteRow.holds Try.pinned (OpenSpec.ofChange fnPeekNamesTheFirstNonSpaceByteWrong)

/-- 'zzlaws_internal_jsontext_b1.FnPeekSeesOnlyTheFirstNonSpaceByte': WHATEVER THE INPUT: true; the input reads as it did. -/
def fnPeekSeesOnlyTheFirstNonSpaceByteSpec : ChangeSpec := { name := "fnPeekSeesOnlyTheFirstNonSpaceByte", fn := fun _ => fun
  | [d1, d2, d3, d4] => { results := [.lit (.bool true)], args := [d1, d2, d3, d4] }
  | _ => none }
def fnPeekSeesOnlyTheFirstNonSpaceByteRow : OpenClaim := { program := "qxb6628837a", sum := "7d657107b200b8692215f43d87232adeac070bf768ff91b1eb0a59fa75c0fae7", func := "example.com/typewright/typewright/zzlaws_internal_jsontext_b1.FnPeekSeesOnlyTheFirstNonSpaceByte", spec := "fnPeekSeesOnlyTheFirstNonSpaceByte", apart := false }
def FnPeekSeesOnlyTheFirstNonSpaceByteSaid : Prop := fnPeekSeesOnlyTheFirstNonSpaceByteRow.holds Try.pinned (OpenSpec.ofChange fnPeekSeesOnlyTheFirstNonSpaceByteSpec)

/-- ITS FALSE NEIGHBOUR: 'it returns false'. Refute it at one input. -/
def fnPeekSeesOnlyTheFirstNonSpaceByteWrong : ChangeSpec := { name := "fnPeekSeesOnlyTheFirstNonSpaceByte", fn := fun _ => fun
  | [d1, d2, d3, d4] => { results := [.lit (.bool false)], args := [d1, d2, d3, d4] }
  | _ => none }
def FnPeekSeesOnlyTheFirstNonSpaceByteWrongFalsely : Prop := fnPeekSeesOnlyTheFirstNonSpaceByteRow.holds Try.pinned (OpenSpec.ofChange fnPeekSeesOnlyTheFirstNonSpaceByteWrong)

end Rows
end Go.Proofs.Qxb6628837a
