/-
  No cell of these rows narrows 'for every input' (looked for: loops, veiled, ifaces, maps, wideKeys, modest, calm, conditions, laid).
  DERIVED. THE GIVEN ROWS OF THIS SEAT. 2 by the template 'for every input the law returns true; each argument reads behind the call as it read before'; 0 by the template 'total and deterministic' (their statements: Qxb6628779aTotals.lean).
  GIVEN WITH THE SEED: the statements are not yours to turn. If you find one false, say at which input.
  Laid BY PROGRAM, IN A SANDBOX (cutbox-rows.mjs): the forced cells as the released guide's own fill.sh prints them over the translation b3bebc52bbf6b071… (all of the seat's roots in one cut). By AI agents, Wed Nov 11 2026. No macro, syntax, notation, axiom, sorry.
-/
import Derived.Test.Qxb6628779aChecked
import GoSem.Claim
import GoSem.ClaimJoined
import GoSem.ClaimMapViews
import Derived.JoinedTies
import Derived.KernelRfl
namespace Go.Proofs.Qxb6628779a
/- THE CELL 'sum', in the pinned program and in every row, IS THE sha256 OF THE DUMP (.gsa) THAT Qxb6628779aProg.lean LOADS. Nothing in Lean hashes anything: it is a label: what it is worth is what the hold of that sum in a sandbox is worth. -/
noncomputable def Try.pinned : Pinned := { name := "qxb6628779a", sum := "b3bebc52bbf6b071e18fbafb3a03c79f5b29b5e8e56e8b69cb20ec136db9161a", checked := Try.checked }
namespace Rows
def none {H : Type} : Left H := { results := [], args := [] }

/-- 'zzlaws_isup_b1.FnNewACMSameMessageExactlyWhenSameIndicators': WHATEVER THE INPUT: true; the input reads as it did. -/
def fnNewACMSameMessageExactlyWhenSameIndicatorsSpec : ChangeSpec := { name := "fnNewACMSameMessageExactlyWhenSameIndicators", fn := fun _ => fun
  | [d1, d2, d3, d4, d5] => { results := [.lit (.bool true)], args := [d1, d2, d3, d4, d5] }
  | _ => none }
def fnNewACMSameMessageExactlyWhenSameIndicatorsRow : OpenClaim := { program := "qxb6628779a", sum := "b3bebc52bbf6b071e18fbafb3a03c79f5b29b5e8e56e8b69cb20ec136db9161a", func := "example.com/kakehashi/kakehashi/zzlaws_isup_b1.FnNewACMSameMessageExactlyWhenSameIndicators", spec := "fnNewACMSameMessageExactlyWhenSameIndicators", apart := false }
def FnNewACMSameMessageExactlyWhenSameIndicatorsSaid : Prop := fnNewACMSameMessageExactlyWhenSameIndicatorsRow.holds Try.pinned (OpenSpec.ofChange fnNewACMSameMessageExactlyWhenSameIndicatorsSpec)

/-- ITS FALSE NEIGHBOUR: 'it returns false'. Refute it at one input. -/
def fnNewACMSameMessageExactlyWhenSameIndicatorsWrong : ChangeSpec := { name := "fnNewACMSameMessageExactlyWhenSameIndicators", fn := fun _ => fun
  | [d1, d2, d3, d4, d5] => { results := [.lit (.bool false)], args := [d1, d2, d3, d4, d5] }
  | _ => none }
def FnNewACMSameMessageExactlyWhenSameIndicatorsWrongFalsely : Prop := fnNewACMSameMessageExactlyWhenSameIndicatorsRow.holds Try.pinned (OpenSpec.ofChange fnNewACMSameMessageExactlyWhenSameIndicatorsWrong)

/-- 'zzlaws_isup_b1.FnNewACMEachIndicatorOwnsOneBit': WHATEVER THE INPUT: true; the input reads as it did. -/
def fnNewACMEachIndicatorOwnsOneBitSpec : ChangeSpec := { name := "fnNewACMEachIndicatorOwnsOneBit", fn := fun _ => fun
  | [d1, d2, d3] => { results := [.lit (.bool true)], args := [d1, d2, d3] }
  | _ => none }
def fnNewACMEachIndicatorOwnsOneBitRow : OpenClaim := { program := "qxb6628779a", sum := "b3bebc52bbf6b071e18fbafb3a03c79f5b29b5e8e56e8b69cb20ec136db9161a", func := "example.com/kakehashi/kakehashi/zzlaws_isup_b1.FnNewACMEachIndicatorOwnsOneBit", spec := "fnNewACMEachIndicatorOwnsOneBit", apart := false }
def FnNewACMEachIndicatorOwnsOneBitSaid : Prop := fnNewACMEachIndicatorOwnsOneBitRow.holds Try.pinned (OpenSpec.ofChange fnNewACMEachIndicatorOwnsOneBitSpec)

/-- ITS FALSE NEIGHBOUR: 'it returns false'. Refute it at one input. -/
def fnNewACMEachIndicatorOwnsOneBitWrong : ChangeSpec := { name := "fnNewACMEachIndicatorOwnsOneBit", fn := fun _ => fun
  | [d1, d2, d3] => { results := [.lit (.bool false)], args := [d1, d2, d3] }
  | _ => none }
def FnNewACMEachIndicatorOwnsOneBitWrongFalsely : Prop := fnNewACMEachIndicatorOwnsOneBitRow.holds Try.pinned (OpenSpec.ofChange fnNewACMEachIndicatorOwnsOneBitWrong)

end Rows
end Go.Proofs.Qxb6628779a
