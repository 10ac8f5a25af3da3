/-
  DERIVED. GIVEN WITH THE SEED: THE CARDS: each row of Qxb6614358aDoorRows.lean that lists a variable, with what it lists TIED to the program's text (the seventh form; the later family's looks); each row that meets fmt, with fmt's text TOLD by the authors' own Lean function (tested against real Go, not proved from fmt's source: count such statements apart). THE CARD IS WHAT COUNTS. Prove the row's statement (the work); the ties are given (Qxb6614358aDoorTie.lean); close each card by the builder's one call (the guide's Derived/Test/ToyasCard.lean, 'card_holds'). Laid BY PROGRAM, IN A SANDBOX (cutbox-door.mjs). By AI agents, Wed Nov 11 2026. No macro, syntax, notation, axiom, sorry.
-/
import Derived.Test.Qxb6614358aDoorRows
import GoSem.ClaimSeven
namespace Go.Proofs.Qxb6614358aDoor
namespace Rows

/-- THE TIED CARD OF 'zzlaws_root_b1.FnPerShareTextReadsBackAndNegates'. -/
def fnPerShareTextReadsBackAndNegatesCard : Claim7 := { stood := { row := fnPerShareTextReadsBackAndNegatesRow, standIns := [], harness := (true, "5fb7a2c1249082a2889a9879c244c3844f6f8890a8cc596866cb2962a0c66a8c"), looks := false }, kinds := [], alts := [], laidByText := true, laidKinds := [.data, .data, .data], laidTests := true, laidLooks := .later }
def FnPerShareTextReadsBackAndNegatesCardSaid : Prop := Claim7.holds Tryd.pinned (.plain (OpenSpec.ofChange fnPerShareTextReadsBackAndNegatesSpec)) fnPerShareTextReadsBackAndNegatesCard

/-- THE TIED CARD OF 'zzlaws_root_b1.FnPerShareTextOrder'. -/
def fnPerShareTextOrderCard : Claim7 := { stood := { row := fnPerShareTextOrderRow, standIns := [], harness := (true, "5fb7a2c1249082a2889a9879c244c3844f6f8890a8cc596866cb2962a0c66a8c"), looks := false }, kinds := [], alts := [], laidByText := true, laidKinds := [.data, .data, .data], laidTests := true, laidLooks := .later }
def FnPerShareTextOrderCardSaid : Prop := Claim7.holds Tryd.pinned (.plain (OpenSpec.ofChange fnPerShareTextOrderSpec)) fnPerShareTextOrderCard
end Rows
end Go.Proofs.Qxb6614358aDoor
