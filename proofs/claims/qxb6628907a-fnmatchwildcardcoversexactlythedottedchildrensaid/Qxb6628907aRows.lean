/-
  No cell of these rows narrows 'for every input' (looked for: loops, veiled, ifaces, maps, wideKeys, modest, calm, conditions, laid).
  DERIVED. THE GIVEN ROWS OF THIS SEAT. 2 by the template 'for every input the law returns true; each argument reads behind the call as it read before'; 0 by the template 'total and deterministic' (their statements: Qxb6628907aTotals.lean).
  GIVEN WITH THE SEED: the statements are not yours to turn. If you find one false, say at which input.
  Laid BY PROGRAM, IN A SANDBOX (cutbox-rows.mjs): the forced cells as the released guide's own fill.sh prints them over the translation ebdaf6b30a77e397… (all of the seat's roots in one cut). By AI agents, Wed Nov 11 2026. No macro, syntax, notation, axiom, sorry.
-/
import Derived.Test.Qxb6628907aChecked
import GoSem.Claim
import GoSem.ClaimJoined
import GoSem.ClaimMapViews
import Derived.JoinedTies
import Derived.KernelRfl
namespace Go.Proofs.Qxb6628907a
/- THE CELL 'sum', in the pinned program and in every row, IS THE sha256 OF THE DUMP (.gsa) THAT Qxb6628907aProg.lean LOADS. Nothing in Lean hashes anything: it is a label: what it is worth is what the hold of that sum in a sandbox is worth. -/
noncomputable def Try.pinned : Pinned := { name := "qxb6628907a", sum := "ebdaf6b30a77e397bd1c507c0e1230205c590ef004f733b84773697dd403d9c4", checked := Try.checked }
namespace Rows
def none {H : Type} : Left H := { results := [], args := [] }

/-- 'zzlaws_eventtype_b1.FnMatchIsPartialOrderWithAnyOnTop': WHATEVER THE INPUT: true; the input reads as it did. -/
def fnMatchIsPartialOrderWithAnyOnTopSpec : ChangeSpec := { name := "fnMatchIsPartialOrderWithAnyOnTop", fn := fun _ => fun
  | [d1, d2, d3] => { results := [.lit (.bool true)], args := [d1, d2, d3] }
  | _ => none }
def fnMatchIsPartialOrderWithAnyOnTopRow : OpenClaim := { program := "qxb6628907a", sum := "ebdaf6b30a77e397bd1c507c0e1230205c590ef004f733b84773697dd403d9c4", func := "example.com/hookwright/hookwright/zzlaws_eventtype_b1.FnMatchIsPartialOrderWithAnyOnTop", spec := "fnMatchIsPartialOrderWithAnyOnTop", apart := false }
def FnMatchIsPartialOrderWithAnyOnTopSaid : Prop := fnMatchIsPartialOrderWithAnyOnTopRow.holds Try.pinned (OpenSpec.ofChange fnMatchIsPartialOrderWithAnyOnTopSpec)

/-- ITS FALSE NEIGHBOUR: 'it returns false'. Refute it at one input. -/
def fnMatchIsPartialOrderWithAnyOnTopWrong : ChangeSpec := { name := "fnMatchIsPartialOrderWithAnyOnTop", fn := fun _ => fun
  | [d1, d2, d3] => { results := [.lit (.bool false)], args := [d1, d2, d3] }
  | _ => none }
def FnMatchIsPartialOrderWithAnyOnTopWrongFalsely : Prop := fnMatchIsPartialOrderWithAnyOnTopRow.holds Try.pinned (OpenSpec.ofChange fnMatchIsPartialOrderWithAnyOnTopWrong)

/-- 'zzlaws_eventtype_b1.FnMatchWildcardCoversExactlyTheDottedChildren': WHATEVER THE INPUT: true; the input reads as it did. -/
def fnMatchWildcardCoversExactlyTheDottedChildrenSpec : ChangeSpec := { name := "fnMatchWildcardCoversExactlyTheDottedChildren", fn := fun _ => fun
  | [d1, d2, d3] => { results := [.lit (.bool true)], args := [d1, d2, d3] }
  | _ => none }
def fnMatchWildcardCoversExactlyTheDottedChildrenRow : OpenClaim := { program := "qxb6628907a", sum := "ebdaf6b30a77e397bd1c507c0e1230205c590ef004f733b84773697dd403d9c4", func := "example.com/hookwright/hookwright/zzlaws_eventtype_b1.FnMatchWildcardCoversExactlyTheDottedChildren", spec := "fnMatchWildcardCoversExactlyTheDottedChildren", apart := false }
def FnMatchWildcardCoversExactlyTheDottedChildrenSaid : Prop := fnMatchWildcardCoversExactlyTheDottedChildrenRow.holds Try.pinned (OpenSpec.ofChange fnMatchWildcardCoversExactlyTheDottedChildrenSpec)

/-- ITS FALSE NEIGHBOUR: 'it returns false'. Refute it at one input. -/
def fnMatchWildcardCoversExactlyTheDottedChildrenWrong : ChangeSpec := { name := "fnMatchWildcardCoversExactlyTheDottedChildren", fn := fun _ => fun
  | [d1, d2, d3] => { results := [.lit (.bool false)], args := [d1, d2, d3] }
  | _ => none }
def FnMatchWildcardCoversExactlyTheDottedChildrenWrongFalsely : Prop := fnMatchWildcardCoversExactlyTheDottedChildrenRow.holds Try.pinned (OpenSpec.ofChange fnMatchWildcardCoversExactlyTheDottedChildrenWrong)

end Rows
end Go.Proofs.Qxb6628907a
