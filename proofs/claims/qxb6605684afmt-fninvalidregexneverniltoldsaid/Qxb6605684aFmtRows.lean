/-
  No cell of these rows narrows 'for every input' (looked for: loops, veiled, ifaces, maps, wideKeys, modest, calm, conditions, laid).
  DERIVED. THE GIVEN ROWS OF THIS SEAT. 1 by the template 'for every input the law returns true; each argument reads behind the call as it read before'; 0 by the template 'total and deterministic' (their statements: Qxb6605684aFmtTotals.lean).
  GIVEN WITH THE SEED: the statements are not yours to turn. If you find one false, say at which input.
  Laid BY PROGRAM, IN A SANDBOX (cutbox-rows.mjs): the forced cells as the released guide's own fill.sh prints them over the translation 47b9621f442f86f3… (all of the seat's roots in one cut). By AI agents, Wed Nov 11 2026. No macro, syntax, notation, axiom, sorry.
-/
import Derived.Test.Qxb6605684aFmtChecked
import GoSem.Claim
import GoSem.ClaimJoined
import GoSem.ClaimMapViews
import Derived.JoinedTies
import Derived.KernelRfl
namespace Go.Proofs.Qxb6605684aFmt
/- THE CELL 'sum', in the pinned program and in every row, IS THE sha256 OF THE DUMP (.gsa) THAT Qxb6605684aFmtProg.lean LOADS. Nothing in Lean hashes anything: it is a label: what it is worth is what the hold of that sum in a sandbox is worth. -/
noncomputable def Tryf.pinned : Pinned := { name := "qxb6605684afmt", sum := "47b9621f442f86f3a5e22b09bdf61cd0a10b364999ec72190796c83915940d4b", checked := Tryf.checked }
namespace Rows
def none {H : Type} : Left H := { results := [], args := [] }

/-- 'zzlaws_internal_query_b1.FnInvalidRegexNeverNil': WHATEVER THE INPUT: true; the input reads as it did. -/
def fnInvalidRegexNeverNilSpec : ChangeSpec := { name := "fnInvalidRegexNeverNil", fn := fun _ => fun
  | [d1, d2] => { results := [.lit (.bool true)], args := [d1, d2] }
  | _ => none }
def fnInvalidRegexNeverNilRow : OpenClaim := { program := "qxb6605684afmt", sum := "47b9621f442f86f3a5e22b09bdf61cd0a10b364999ec72190796c83915940d4b", func := "example.com/heliograph/heliograph/zzlaws_internal_query_b1.FnInvalidRegexNeverNil", spec := "fnInvalidRegexNeverNil", stops := ["fmt.errorf"], inPlace := ["fmt.errorf"], apart := false }
/-- NO THEOREM (fmt's text is open here; it may be false): for the released tool's asking of the row's closed facts alone. THE STATEMENT IS 'FnInvalidRegexNeverNilToldSaid' (Qxb6605684aFmtCards.lean). -/
def FnInvalidRegexNeverNilFormAsk : Prop := fnInvalidRegexNeverNilRow.holds Tryf.pinned (OpenSpec.ofChange fnInvalidRegexNeverNilSpec)

/-- ITS FALSE NEIGHBOUR: 'it returns false'. Refute it at one input. -/
def fnInvalidRegexNeverNilWrong : ChangeSpec := { name := "fnInvalidRegexNeverNil", fn := fun _ => fun
  | [d1, d2] => { results := [.lit (.bool false)], args := [d1, d2] }
  | _ => none }
def FnInvalidRegexNeverNilWrongFormAsk : Prop := fnInvalidRegexNeverNilRow.holds Tryf.pinned (OpenSpec.ofChange fnInvalidRegexNeverNilWrong)

end Rows
end Go.Proofs.Qxb6605684aFmt
