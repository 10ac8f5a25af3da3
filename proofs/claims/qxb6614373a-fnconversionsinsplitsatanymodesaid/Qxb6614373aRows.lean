/-
  No cell of these rows narrows 'for every input' (looked for: loops, veiled, ifaces, maps, wideKeys, modest, calm, conditions, laid).
  DERIVED. THE GIVEN ROWS OF THIS SEAT. 3 by the template 'for every input the law returns true; each argument reads behind the call as it read before'; 0 by the template 'total and deterministic' (their statements: Qxb6614373aTotals.lean).
  GIVEN WITH THE SEED: the statements are not yours to turn. If you find one false, say at which input.
  Laid BY PROGRAM, IN A SANDBOX (cutbox-rows.mjs): the forced cells as the released guide's own fill.sh prints them over the translation b39110932ca024aa… (all of the seat's roots in one cut). By AI agents, Wed Nov 11 2026. No macro, syntax, notation, axiom, sorry.
-/
import Derived.Test.Qxb6614373aChecked
import GoSem.Claim
import GoSem.ClaimJoined
import GoSem.ClaimMapViews
import Derived.JoinedTies
import Derived.KernelRfl
namespace Go.Proofs.Qxb6614373a
/- THE CELL 'sum', in the pinned program and in every row, IS THE sha256 OF THE DUMP (.gsa) THAT Qxb6614373aProg.lean LOADS. Nothing in Lean hashes anything: it is a label: what it is worth is what the hold of that sum in a sandbox is worth. -/
noncomputable def Try.pinned : Pinned := { name := "qxb6614373a", sum := "b39110932ca024aa41af75940d09866cff226fa0caa2b0eac0d821323e932707", checked := Try.checked }
namespace Rows
def none {H : Type} : Left H := { results := [], args := [] }

/-- 'zzlaws_root_b1.FnCompareSpansAntisymmetricLexicographic': WHATEVER THE INPUT: true; the input reads as it did. -/
def fnCompareSpansAntisymmetricLexicographicSpec : ChangeSpec := { name := "fnCompareSpansAntisymmetricLexicographic", fn := fun _ => fun
  | [d1, d2, d3, d4] => { results := [.lit (.bool true)], args := [d1, d2, d3, d4] }
  | _ => none }
def fnCompareSpansAntisymmetricLexicographicRow : OpenClaim := { program := "qxb6614373a", sum := "b39110932ca024aa41af75940d09866cff226fa0caa2b0eac0d821323e932707", func := "example.com/pawl/pawl/zzlaws_root_b1.FnCompareSpansAntisymmetricLexicographic", spec := "fnCompareSpansAntisymmetricLexicographic", apart := false }
def FnCompareSpansAntisymmetricLexicographicSaid : Prop := fnCompareSpansAntisymmetricLexicographicRow.holds Try.pinned (OpenSpec.ofChange fnCompareSpansAntisymmetricLexicographicSpec)

/-- ITS FALSE NEIGHBOUR: 'it returns false'. Refute it at one input. -/
def fnCompareSpansAntisymmetricLexicographicWrong : ChangeSpec := { name := "fnCompareSpansAntisymmetricLexicographic", fn := fun _ => fun
  | [d1, d2, d3, d4] => { results := [.lit (.bool false)], args := [d1, d2, d3, d4] }
  | _ => none }
def FnCompareSpansAntisymmetricLexicographicWrongFalsely : Prop := fnCompareSpansAntisymmetricLexicographicRow.holds Try.pinned (OpenSpec.ofChange fnCompareSpansAntisymmetricLexicographicWrong)

/-- 'zzlaws_root_b1.FnCompareSpansFirstKeysDecideLastKeysBreakTies': WHATEVER THE INPUT: true; the input reads as it did. -/
def fnCompareSpansFirstKeysDecideLastKeysBreakTiesSpec : ChangeSpec := { name := "fnCompareSpansFirstKeysDecideLastKeysBreakTies", fn := fun _ => fun
  | [d1, d2, d3, d4, d5, d6] => { results := [.lit (.bool true)], args := [d1, d2, d3, d4, d5, d6] }
  | _ => none }
def fnCompareSpansFirstKeysDecideLastKeysBreakTiesRow : OpenClaim := { program := "qxb6614373a", sum := "b39110932ca024aa41af75940d09866cff226fa0caa2b0eac0d821323e932707", func := "example.com/pawl/pawl/zzlaws_root_b1.FnCompareSpansFirstKeysDecideLastKeysBreakTies", spec := "fnCompareSpansFirstKeysDecideLastKeysBreakTies", apart := false }
def FnCompareSpansFirstKeysDecideLastKeysBreakTiesSaid : Prop := fnCompareSpansFirstKeysDecideLastKeysBreakTiesRow.holds Try.pinned (OpenSpec.ofChange fnCompareSpansFirstKeysDecideLastKeysBreakTiesSpec)

/-- ITS FALSE NEIGHBOUR: 'it returns false'. Refute it at one input. -/
def fnCompareSpansFirstKeysDecideLastKeysBreakTiesWrong : ChangeSpec := { name := "fnCompareSpansFirstKeysDecideLastKeysBreakTies", fn := fun _ => fun
  | [d1, d2, d3, d4, d5, d6] => { results := [.lit (.bool false)], args := [d1, d2, d3, d4, d5, d6] }
  | _ => none }
def FnCompareSpansFirstKeysDecideLastKeysBreakTiesWrongFalsely : Prop := fnCompareSpansFirstKeysDecideLastKeysBreakTiesRow.holds Try.pinned (OpenSpec.ofChange fnCompareSpansFirstKeysDecideLastKeysBreakTiesWrong)

/-- 'zzlaws_root_b1.FnConversionsInSplitsAtAnyMode': WHATEVER THE INPUT: true; the input reads as it did. -/
def fnConversionsInSplitsAtAnyModeSpec : ChangeSpec := { name := "fnConversionsInSplitsAtAnyMode", fn := fun _ => fun
  | [d1, d2, d3, d4, d5] => { results := [.lit (.bool true)], args := [d1, d2, d3, d4, d5] }
  | _ => none }
def fnConversionsInSplitsAtAnyModeRow : OpenClaim := { program := "qxb6614373a", sum := "b39110932ca024aa41af75940d09866cff226fa0caa2b0eac0d821323e932707", func := "example.com/pawl/pawl/zzlaws_root_b1.FnConversionsInSplitsAtAnyMode", spec := "fnConversionsInSplitsAtAnyMode", apart := false }
def FnConversionsInSplitsAtAnyModeSaid : Prop := fnConversionsInSplitsAtAnyModeRow.holds Try.pinned (OpenSpec.ofChange fnConversionsInSplitsAtAnyModeSpec)

/-- ITS FALSE NEIGHBOUR: 'it returns false'. Refute it at one input. -/
def fnConversionsInSplitsAtAnyModeWrong : ChangeSpec := { name := "fnConversionsInSplitsAtAnyMode", fn := fun _ => fun
  | [d1, d2, d3, d4, d5] => { results := [.lit (.bool false)], args := [d1, d2, d3, d4, d5] }
  | _ => none }
def FnConversionsInSplitsAtAnyModeWrongFalsely : Prop := fnConversionsInSplitsAtAnyModeRow.holds Try.pinned (OpenSpec.ofChange fnConversionsInSplitsAtAnyModeWrong)

end Rows
end Go.Proofs.Qxb6614373a
