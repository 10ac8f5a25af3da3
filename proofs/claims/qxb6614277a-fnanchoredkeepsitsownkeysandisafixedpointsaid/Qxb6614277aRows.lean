/-
  No cell of these rows narrows 'for every input' (looked for: loops, veiled, ifaces, maps, wideKeys, modest, calm, conditions, laid).
  DERIVED. THE GIVEN ROWS OF THIS SEAT. 4 by the template 'for every input the law returns true; each argument reads behind the call as it read before'; 0 by the template 'total and deterministic' (their statements: Qxb6614277aTotals.lean).
  GIVEN WITH THE SEED: the statements are not yours to turn. If you find one false, say at which input.
  Laid BY PROGRAM, IN A SANDBOX (cutbox-rows.mjs): the forced cells as the released guide's own fill.sh prints them over the translation 6b92e3200b603935… (all of the seat's roots in one cut). By AI agents, Wed Nov 11 2026. No macro, syntax, notation, axiom, sorry.
-/
import Derived.Test.Qxb6614277aChecked
import GoSem.Claim
import GoSem.ClaimJoined
import GoSem.ClaimMapViews
import Derived.JoinedTies
import Derived.KernelRfl
namespace Go.Proofs.Qxb6614277a
/- THE CELL 'sum', in the pinned program and in every row, IS THE sha256 OF THE DUMP (.gsa) THAT Qxb6614277aProg.lean LOADS. Nothing in Lean hashes anything: it is a label: what it is worth is what the hold of that sum in a sandbox is worth. -/
noncomputable def Try.pinned : Pinned := { name := "qxb6614277a", sum := "6b92e3200b60393520616fa11d3218541a65d560b2a3a77d09863453d4debbed", checked := Try.checked }
namespace Rows
def none {H : Type} : Left H := { results := [], args := [] }

/-- 'zzlaws_internal_dnssec_b1.FnSecureEntryPointFollowsTheLowFlagBitAlone': WHATEVER THE INPUT: true; the input reads as it did. -/
def fnSecureEntryPointFollowsTheLowFlagBitAloneSpec : ChangeSpec := { name := "fnSecureEntryPointFollowsTheLowFlagBitAlone", fn := fun _ => fun
  | [d1, d2, d3, d4, d5] => { results := [.lit (.bool true)], args := [d1, d2, d3, d4, d5] }
  | _ => none }
def fnSecureEntryPointFollowsTheLowFlagBitAloneRow : OpenClaim := { program := "qxb6614277a", sum := "6b92e3200b60393520616fa11d3218541a65d560b2a3a77d09863453d4debbed", func := "example.com/anchorwell/anchorwell/zzlaws_internal_dnssec_b1.FnSecureEntryPointFollowsTheLowFlagBitAlone", spec := "fnSecureEntryPointFollowsTheLowFlagBitAlone", apart := false }
def FnSecureEntryPointFollowsTheLowFlagBitAloneSaid : Prop := fnSecureEntryPointFollowsTheLowFlagBitAloneRow.holds Try.pinned (OpenSpec.ofChange fnSecureEntryPointFollowsTheLowFlagBitAloneSpec)

/-- ITS FALSE NEIGHBOUR: 'it returns false'. Refute it at one input. -/
def fnSecureEntryPointFollowsTheLowFlagBitAloneWrong : ChangeSpec := { name := "fnSecureEntryPointFollowsTheLowFlagBitAlone", fn := fun _ => fun
  | [d1, d2, d3, d4, d5] => { results := [.lit (.bool false)], args := [d1, d2, d3, d4, d5] }
  | _ => none }
def FnSecureEntryPointFollowsTheLowFlagBitAloneWrongFalsely : Prop := fnSecureEntryPointFollowsTheLowFlagBitAloneRow.holds Try.pinned (OpenSpec.ofChange fnSecureEntryPointFollowsTheLowFlagBitAloneWrong)

/-- 'zzlaws_internal_dnssec_b1.FnSecureEntryPointAgreesWithTheWireForm': WHATEVER THE INPUT: true; the input reads as it did. -/
def fnSecureEntryPointAgreesWithTheWireFormSpec : ChangeSpec := { name := "fnSecureEntryPointAgreesWithTheWireForm", fn := fun _ => fun
  | [d1, d2, d3, d4] => { results := [.lit (.bool true)], args := [d1, d2, d3, d4] }
  | _ => none }
def fnSecureEntryPointAgreesWithTheWireFormRow : OpenClaim := { program := "qxb6614277a", sum := "6b92e3200b60393520616fa11d3218541a65d560b2a3a77d09863453d4debbed", func := "example.com/anchorwell/anchorwell/zzlaws_internal_dnssec_b1.FnSecureEntryPointAgreesWithTheWireForm", spec := "fnSecureEntryPointAgreesWithTheWireForm", named := ["encoding/binary.BigEndian"], apart := false }
def FnSecureEntryPointAgreesWithTheWireFormSaid : Prop := fnSecureEntryPointAgreesWithTheWireFormRow.holds Try.pinned (OpenSpec.ofChange fnSecureEntryPointAgreesWithTheWireFormSpec)

/-- ITS FALSE NEIGHBOUR: 'it returns false'. Refute it at one input. -/
def fnSecureEntryPointAgreesWithTheWireFormWrong : ChangeSpec := { name := "fnSecureEntryPointAgreesWithTheWireForm", fn := fun _ => fun
  | [d1, d2, d3, d4] => { results := [.lit (.bool false)], args := [d1, d2, d3, d4] }
  | _ => none }
def FnSecureEntryPointAgreesWithTheWireFormWrongFalsely : Prop := fnSecureEntryPointAgreesWithTheWireFormRow.holds Try.pinned (OpenSpec.ofChange fnSecureEntryPointAgreesWithTheWireFormWrong)

/-- 'zzlaws_internal_dnssec_b1.FnAnchoredMergesTheHalvesAtAnyCut': WHATEVER THE INPUT: true; the input reads as it did. -/
def fnAnchoredMergesTheHalvesAtAnyCutSpec : ChangeSpec := { name := "fnAnchoredMergesTheHalvesAtAnyCut", fn := fun _ => fun
  | [d1, d2, d3] => { results := [.lit (.bool true)], args := [d1, d2, d3] }
  | _ => none }
def fnAnchoredMergesTheHalvesAtAnyCutRow : OpenClaim := { program := "qxb6614277a", sum := "6b92e3200b60393520616fa11d3218541a65d560b2a3a77d09863453d4debbed", func := "example.com/anchorwell/anchorwell/zzlaws_internal_dnssec_b1.FnAnchoredMergesTheHalvesAtAnyCut", spec := "fnAnchoredMergesTheHalvesAtAnyCut", unfollowed := true, recurses := true, named := ["encoding/binary.BigEndian"], apart := false }
def FnAnchoredMergesTheHalvesAtAnyCutSaid : Prop := fnAnchoredMergesTheHalvesAtAnyCutRow.holds Try.pinned (OpenSpec.ofChange fnAnchoredMergesTheHalvesAtAnyCutSpec)

/-- ITS FALSE NEIGHBOUR: 'it returns false'. Refute it at one input. -/
def fnAnchoredMergesTheHalvesAtAnyCutWrong : ChangeSpec := { name := "fnAnchoredMergesTheHalvesAtAnyCut", fn := fun _ => fun
  | [d1, d2, d3] => { results := [.lit (.bool false)], args := [d1, d2, d3] }
  | _ => none }
def FnAnchoredMergesTheHalvesAtAnyCutWrongFalsely : Prop := fnAnchoredMergesTheHalvesAtAnyCutRow.holds Try.pinned (OpenSpec.ofChange fnAnchoredMergesTheHalvesAtAnyCutWrong)

/-- 'zzlaws_internal_dnssec_b1.FnAnchoredKeepsItsOwnKeysAndIsAFixedPoint': WHATEVER THE INPUT: true; the input reads as it did. -/
def fnAnchoredKeepsItsOwnKeysAndIsAFixedPointSpec : ChangeSpec := { name := "fnAnchoredKeepsItsOwnKeysAndIsAFixedPoint", fn := fun _ => fun
  | [d1, d2] => { results := [.lit (.bool true)], args := [d1, d2] }
  | _ => none }
def fnAnchoredKeepsItsOwnKeysAndIsAFixedPointRow : OpenClaim := { program := "qxb6614277a", sum := "6b92e3200b60393520616fa11d3218541a65d560b2a3a77d09863453d4debbed", func := "example.com/anchorwell/anchorwell/zzlaws_internal_dnssec_b1.FnAnchoredKeepsItsOwnKeysAndIsAFixedPoint", spec := "fnAnchoredKeepsItsOwnKeysAndIsAFixedPoint", unfollowed := true, recurses := true, named := ["encoding/binary.BigEndian"], apart := false }
def FnAnchoredKeepsItsOwnKeysAndIsAFixedPointSaid : Prop := fnAnchoredKeepsItsOwnKeysAndIsAFixedPointRow.holds Try.pinned (OpenSpec.ofChange fnAnchoredKeepsItsOwnKeysAndIsAFixedPointSpec)

/-- ITS FALSE NEIGHBOUR: 'it returns false'. Refute it at one input. -/
def fnAnchoredKeepsItsOwnKeysAndIsAFixedPointWrong : ChangeSpec := { name := "fnAnchoredKeepsItsOwnKeysAndIsAFixedPoint", fn := fun _ => fun
  | [d1, d2] => { results := [.lit (.bool false)], args := [d1, d2] }
  | _ => none }
def FnAnchoredKeepsItsOwnKeysAndIsAFixedPointWrongFalsely : Prop := fnAnchoredKeepsItsOwnKeysAndIsAFixedPointRow.holds Try.pinned (OpenSpec.ofChange fnAnchoredKeepsItsOwnKeysAndIsAFixedPointWrong)

end Rows
end Go.Proofs.Qxb6614277a
