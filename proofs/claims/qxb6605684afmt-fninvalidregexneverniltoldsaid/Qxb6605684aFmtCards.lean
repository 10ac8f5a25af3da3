/-
  DERIVED. GIVEN WITH THE SEED: THE CARDS: each row of Qxb6605684aFmtRows.lean that lists a variable, with what it lists TIED to the program's text (the seventh form; the later family's looks); each row that meets fmt, with fmt's text TOLD by the authors' own Lean function (tested against real Go, not proved from fmt's source: count such statements apart). THE CARD IS WHAT COUNTS. Prove the row's statement (the work); the ties are given (Qxb6605684aFmtTie.lean); close each card by the builder's one call (the guide's Derived/Test/ToyasCard.lean, 'card_holds'). Laid BY PROGRAM, IN A SANDBOX (cutbox-door.mjs). By AI agents, Wed Nov 11 2026. No macro, syntax, notation, axiom, sorry.
-/
import Derived.Test.Qxb6605684aFmtRows
import GoSem.ClaimSeven
namespace Go.Proofs.Qxb6605684aFmt
namespace Rows

/-- THE TOLD CARD OF 'zzlaws_internal_query_b1.FnInvalidRegexNeverNil'. -/
def fnInvalidRegexNeverNilCard : Claim7 := { stood := { row := fnInvalidRegexNeverNilRow, standIns := [], harness := (true, "e764455665068c2610788292a7310cde452dd1f33f1d4e0b8aba6de48355bcd5"), looks := false }, told := true, goes := false }
def FnInvalidRegexNeverNilToldSaid : Prop := Claim7.holds Tryf.pinned (.plain (OpenSpec.ofChange fnInvalidRegexNeverNilSpec)) fnInvalidRegexNeverNilCard
/-- ITS FALSE NEIGHBOUR. Refute it at one input. -/
def FnInvalidRegexNeverNilToldWrongFalsely : Prop := Claim7.holds Tryf.pinned (.plain (OpenSpec.ofChange fnInvalidRegexNeverNilWrong)) fnInvalidRegexNeverNilCard
end Rows
end Go.Proofs.Qxb6605684aFmt
