import Derived.Test.Qxb6614358aDoorCards
import Derived.Test.Qxb6614358aDoorTie
import Derived.Test.Qxb6614358aDoorLawTwo
import Derived.ProofKit
import Derived.LaidMore
import Derived.Stop.Joined
import Derived.Stop.LaidErr
import Derived.Lib.LaidTab
import Derived.SevenTiedAt
namespace Go.Proofs.Qxb6614358aDoor.TextOrder
open Go.ChangeShapes Go.WideShapes Go.ChangeAt Go.RowKit

theorem own : ownKnob Tryd.prog.godebug = none := by kernel_rfl
theorem gPow : Tryd.prog.globalNamed powName = some 0 := by kernel_rfl
theorem tPow : (Tryd.prog.globals[0]?).map (·.type) = some 67 := by kernel_rfl

abbrev theLaid : List (String × DataW Unit) := Rows.fnPerShareTextOrderRow.laid

theorem door_met (os : Os) (args : Array Value) : laidMetH Tryd.prog theLaid ((World.doorLaid Tryd.prog 600 os).forCall (fun _ _ => 0) ⟨#[], args, []⟩).memory :=
  laidMetH_of_parts3 (fuel := 8) (laidMet_of_run' 8 (by kernel_rfl) (by kernel_rfl)) (by kernel_rfl) (by kernel_rfl)

theorem of_laid {W : World} (h : laidMetH Tryd.prog theLaid W) : Lib.TabIs Tryd.prog W powName .u64 Lib.pow10Tab := by
  have h1 : laidMet Tryd.prog theLaid W := h
  have h2 : laidMet Tryd.prog [(powName, Lib.tabData .u64 Lib.pow10Tab)] W := h1.tail.tail
  exact Lib.tabIs_of_head gPow tPow Tryd.underlying67 Tryd.underlying28 (by kernel_rfl) (by kernel_rfl) h2

theorem bounds_i64 {a : Int} (h : (Lit.int .i64 a).wf = true) : -9223372036854775808 ≤ a ∧ a ≤ 9223372036854775807 := by
  simpa [Lit.wf, IntKind.min, IntKind.max, IntKind.bits, IntKind.signed] using h

set_option maxRecDepth 100000 in
theorem lifted (os : Os) (started : os.Started) (H : Type) (enc : TypeId × Value → H) :
    ReturnsInHanded {} Tryd.checked os 4 .any (fun w args => (Rows.fnPerShareTextOrderSpec.pre enc Tryd.prog Tryd.f4 [] false w args ∧ laidMetH Tryd.prog theLaid w) ∧ sizedMet enc Tryd.prog Tryd.f4 (OpenSpec.ofChange Rows.fnPerShareTextOrderSpec) false w args)
      (Rows.fnPerShareTextOrderSpec.post enc Tryd.prog Tryd.f4 false true false false) := by
  refine returnsInHanded_of_change_and (C := Tryd.checked) (X := fun w _ => laidMetH Tryd.prog theLaid w) (fun _ _ _ hh h => h.of_heap hh) own started (by kernel_rfl) Tryd.func4
    (ChangeSpec.witness_shaped (enc := enc) (C := Tryd.checked) (os := os) (X := fun w _ => laidMetH Tryd.prog theLaid w) false (World.doorLaid Tryd.prog 600 os) #[.int .i64 0, .int .i64 0] 8 rfl (World.shaped_of_RefB (by kernel_rfl) (by kernel_rfl)) (by kernel_rfl) (by kernel_rfl) (by kernel_rfl) (door_met os _)) ?_
  intro W base args ds gs before hval0 hW _ _ hL _
  have hval : ∀ (j : Nat) t v, Tryd.f4.params[j]? = some t → args[j]? = some v → Value.okWide Tryd.prog W .any base t v := hval0
  have hW' := hW
  obtain ⟨p, q, hA0, hV, rfl, hfz, hnd⟩ := hW
  have hA : DataW.TrodAll enc Tryd.prog W 0 (fun _ => true) true Tryd.f4.params.toList args.toList ds p := hA0
  rw [Tryd.params4] at hA hval
  obtain ⟨v0, v1, d0, d1, p0, p1, rfl, rfl, rfl, h0, h1⟩ := trodAll_two hA
  obtain ⟨rfl, rfl⟩ := trodVars_none hV
  obtain ⟨x, rfl, rfl, rfl, wx⟩ := open_int Tryd.underlying2 (hval 0 2 v0 rfl rfl) h0
  obtain ⟨y, rfl, rfl, rfl, wy⟩ := open_int Tryd.underlying2 (hval 1 2 v1 rfl rfl) h1
  have hT := of_laid hL
  have hb := bounds_i64 wx
  have hc := bounds_i64 wy
  clear hA0 hval0
  simp only [List.append_nil] at hW'
  refine (law_two x y hb.1 hb.2 hc.1 hc.2 W hT).mono fun e W' ⟨he, hg⟩ => ?_
  subst he
  exact ⟨_, rfl, _, _, _, [], [], [], hW', trodAll_mk1 (shut_bool Tryd.underlying4 _), trodAll_mk2 (shut_int Tryd.underlying2 wx) (shut_int Tryd.underlying2 wy), rfl, hg.frame _, fun h => by cases h⟩

theorem row_holds : Rows.FnPerShareTextOrderSaid :=
  OpenClaim.holds_of_wide 4 Tryd.f4 rfl rfl rfl rfl rfl rfl rfl ⟨rfl, rfl, rfl, rfl, rfl⟩ rfl rfl rfl rfl rfl (by kernel_rfl) Tryd.func4 (by kernel_rfl)
    (of_decide_eq_true (by kernel_rfl)) (by unfold Func.isWrapper; first | (rw [if_pos (by decide +kernel)]; kernel_rfl) | (rw [if_neg (by decide +kernel)]; exact ⟨rfl, rfl⟩))
    (fun os started H enc _ => lifted os started H enc)

/-- THE CARD: the row, its listed tables tied to the program's text. -/
theorem card_holds : Rows.FnPerShareTextOrderCardSaid :=
  Claim7.holds_tied_plain_at .later [] [.data, .data, .data] true Rows.fnPerShareTextOrderCard.stood.harness false
    row_holds (fun _ h => by cases h) (by kernel_rfl) (fun _ h => by cases h) fnPerShareTextOrder_row_tie rfl ⟨rfl, rfl⟩ (by kernel_rfl) rfl
    (fun f fn hf hfn => by
      obtain rfl : f = 4 := Option.some.inj ((show Tryd.prog.funcNamed Rows.fnPerShareTextOrderRow.func = some 4 by kernel_rfl).symm.trans hf) |>.symm
      obtain rfl : fn = Tryd.f4 := (Option.some.inj (Tryd.func4.symm.trans hfn)).symm
      exact ⟨by kernel_rfl, fun j t ht => by
        rw [Tryd.params4] at ht
        have h2 : t = 2 := by
          rcases j with _ | _ | j
          · simpa using ht.symm
          · simpa using ht.symm
          · simp at ht
        subst h2
        exact (show Tryd.prog.wantsStandIn 2 = false by kernel_rfl)⟩)
    (by kernel_rfl)

end Go.Proofs.Qxb6614358aDoor.TextOrder
