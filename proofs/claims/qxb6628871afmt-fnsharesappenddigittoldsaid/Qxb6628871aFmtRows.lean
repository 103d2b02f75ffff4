/-
  No cell of these rows narrows 'for every input' (looked for: loops, veiled, ifaces, maps, wideKeys, modest, calm, conditions, laid).
  DERIVED. THE GIVEN ROWS OF THIS SEAT. 2 by the template 'for every input the law returns true; each argument reads behind the call as it read before'; 0 by the template 'total and deterministic' (their statements: Qxb6628871aFmtTotals.lean).
  GIVEN WITH THE SEED: the statements are not yours to turn. If you find one false, say at which input.
  Laid BY PROGRAM, IN A SANDBOX (cutbox-rows.mjs): the forced cells as the released guide's own fill.sh prints them over the translation 33c0b0f9fcf142e5… (all of the seat's roots in one cut). By AI agents, Wed Nov 11 2026. No macro, syntax, notation, axiom, sorry.
-/
import Derived.Test.Qxb6628871aFmtChecked
import GoSem.Claim
import GoSem.ClaimJoined
import GoSem.ClaimMapViews
import Derived.JoinedTies
import Derived.KernelRfl
namespace Go.Proofs.Qxb6628871aFmt
/- THE CELL 'sum', in the pinned program and in every row, IS THE sha256 OF THE DUMP (.gsa) THAT Qxb6628871aFmtProg.lean LOADS. Nothing in Lean hashes anything: it is a label: what it is worth is what the hold of that sum in a sandbox is worth. -/
noncomputable def Tryf.pinned : Pinned := { name := "qxb6628871afmt", sum := "33c0b0f9fcf142e5984400b2bd2070eab2fff01e578d79fd812643b764155415", checked := Tryf.checked }
namespace Rows
def none {H : Type} : Left H := { results := [], args := [] }

/-- 'zzlaws_internal_field_b1.FnSharesExactSpec': WHATEVER THE INPUT: true; the input reads as it did. -/
def fnSharesExactSpecSpec : ChangeSpec := { name := "fnSharesExactSpec", fn := fun _ => fun
  | [d] => { results := [.lit (.bool true)], args := [d] }
  | _ => none }
def fnSharesExactSpecRow : OpenClaim := { program := "qxb6628871afmt", sum := "33c0b0f9fcf142e5984400b2bd2070eab2fff01e578d79fd812643b764155415", func := "example.com/wardbook/wardbook/zzlaws_internal_field_b1.FnSharesExactSpec", spec := "fnSharesExactSpec", stops := ["fmt.errorf"], inPlace := ["fmt.errorf"], apart := false }
/-- NO THEOREM (fmt's text is open here; it may be false): for the released tool's asking of the row's closed facts alone. THE STATEMENT IS 'FnSharesExactSpecToldSaid' (Qxb6628871aFmtCards.lean). -/
def FnSharesExactSpecFormAsk : Prop := fnSharesExactSpecRow.holds Tryf.pinned (OpenSpec.ofChange fnSharesExactSpecSpec)

/-- ITS FALSE NEIGHBOUR: 'it returns false'. Refute it at one input. -/
def fnSharesExactSpecWrong : ChangeSpec := { name := "fnSharesExactSpec", fn := fun _ => fun
  | [d] => { results := [.lit (.bool false)], args := [d] }
  | _ => none }
def FnSharesExactSpecWrongFormAsk : Prop := fnSharesExactSpecRow.holds Tryf.pinned (OpenSpec.ofChange fnSharesExactSpecWrong)

/-- 'zzlaws_internal_field_b1.FnSharesAppendDigit': WHATEVER THE INPUT: true; the input reads as it did. -/
def fnSharesAppendDigitSpec : ChangeSpec := { name := "fnSharesAppendDigit", fn := fun _ => fun
  | [d1, d2] => { results := [.lit (.bool true)], args := [d1, d2] }
  | _ => none }
def fnSharesAppendDigitRow : OpenClaim := { program := "qxb6628871afmt", sum := "33c0b0f9fcf142e5984400b2bd2070eab2fff01e578d79fd812643b764155415", func := "example.com/wardbook/wardbook/zzlaws_internal_field_b1.FnSharesAppendDigit", spec := "fnSharesAppendDigit", stops := ["fmt.errorf"], inPlace := ["fmt.errorf"], apart := false }
/-- NO THEOREM (fmt's text is open here; it may be false): for the released tool's asking of the row's closed facts alone. THE STATEMENT IS 'FnSharesAppendDigitToldSaid' (Qxb6628871aFmtCards.lean). -/
def FnSharesAppendDigitFormAsk : Prop := fnSharesAppendDigitRow.holds Tryf.pinned (OpenSpec.ofChange fnSharesAppendDigitSpec)

/-- ITS FALSE NEIGHBOUR: 'it returns false'. Refute it at one input. -/
def fnSharesAppendDigitWrong : ChangeSpec := { name := "fnSharesAppendDigit", fn := fun _ => fun
  | [d1, d2] => { results := [.lit (.bool false)], args := [d1, d2] }
  | _ => none }
def FnSharesAppendDigitWrongFormAsk : Prop := fnSharesAppendDigitRow.holds Tryf.pinned (OpenSpec.ofChange fnSharesAppendDigitWrong)

end Rows
end Go.Proofs.Qxb6628871aFmt
