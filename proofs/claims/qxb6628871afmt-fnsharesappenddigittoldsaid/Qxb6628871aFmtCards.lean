/-
  DERIVED. GIVEN WITH THE SEED: THE CARDS: each row of Qxb6628871aFmtRows.lean that lists a variable, with what it lists TIED to the program's text (the seventh form; the later family's looks); each row that meets fmt, with fmt's text TOLD by the authors' own Lean function (tested against real Go, not proved from fmt's source: count such statements apart). THE CARD IS WHAT COUNTS. Prove the row's statement (the work); the ties are given (Qxb6628871aFmtTie.lean); close each card by the builder's one call (the guide's Derived/Test/ToyasCard.lean, 'card_holds'). Laid BY PROGRAM, IN A SANDBOX (cutbox-door.mjs). By AI agents, Wed Nov 11 2026. No macro, syntax, notation, axiom, sorry.
-/
import Derived.Test.Qxb6628871aFmtRows
import GoSem.ClaimSeven
namespace Go.Proofs.Qxb6628871aFmt
namespace Rows

/-- THE TOLD CARD OF 'zzlaws_internal_field_b1.FnSharesExactSpec'. -/
def fnSharesExactSpecCard : Claim7 := { stood := { row := fnSharesExactSpecRow, standIns := [], harness := (true, "3e363857c0702c856028e0ff1fe62ae43b9cd01450fa5505b9a7882814cd2bcd"), looks := false }, told := true, goes := false }
def FnSharesExactSpecToldSaid : Prop := Claim7.holds Tryf.pinned (.plain (OpenSpec.ofChange fnSharesExactSpecSpec)) fnSharesExactSpecCard
/-- ITS FALSE NEIGHBOUR. Refute it at one input. -/
def FnSharesExactSpecToldWrongFalsely : Prop := Claim7.holds Tryf.pinned (.plain (OpenSpec.ofChange fnSharesExactSpecWrong)) fnSharesExactSpecCard

/-- THE TOLD CARD OF 'zzlaws_internal_field_b1.FnSharesAppendDigit'. -/
def fnSharesAppendDigitCard : Claim7 := { stood := { row := fnSharesAppendDigitRow, standIns := [], harness := (true, "3e363857c0702c856028e0ff1fe62ae43b9cd01450fa5505b9a7882814cd2bcd"), looks := false }, told := true, goes := false }
def FnSharesAppendDigitToldSaid : Prop := Claim7.holds Tryf.pinned (.plain (OpenSpec.ofChange fnSharesAppendDigitSpec)) fnSharesAppendDigitCard
/-- ITS FALSE NEIGHBOUR. Refute it at one input. -/
def FnSharesAppendDigitToldWrongFalsely : Prop := Claim7.holds Tryf.pinned (.plain (OpenSpec.ofChange fnSharesAppendDigitWrong)) fnSharesAppendDigitCard
end Rows
end Go.Proofs.Qxb6628871aFmt
