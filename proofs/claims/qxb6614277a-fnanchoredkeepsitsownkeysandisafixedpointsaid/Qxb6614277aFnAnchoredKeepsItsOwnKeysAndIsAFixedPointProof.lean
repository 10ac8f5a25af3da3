import Derived.Test.Qxb6614277aOpen
import Derived.Test.Qxb6614277aLawSix
namespace Go.Proofs.Qxb6614277a.fnAnchoredKeepsItsOwnKeysAndIsAFixedPoint
open Go.ChangeShapes Go.WideShapes Go.ChangeAt Go.RowKit Go.Deep
set_option linter.unusedVariables false

theorem own : ownKnob Try.prog.godebug = none := by kernel_rfl
theorem laidOut : laidOutB Try.prog = true := by kernel_rfl

set_option maxRecDepth 100000 in
theorem lifted (os : Os) (started : os.Started) (H : Type) (enc : TypeId × Value → H) :
    ReturnsInHanded {} Try.checked os 6 .any (Rows.fnAnchoredKeepsItsOwnKeysAndIsAFixedPointSpec.pre6 enc Try.prog Try.f6 Rows.fnAnchoredKeepsItsOwnKeysAndIsAFixedPointRow.domain false) (Rows.fnAnchoredKeepsItsOwnKeysAndIsAFixedPointSpec.post enc Try.prog Try.f6 false true false false) := by
  refine returnsInHanded_of_change_sized (C := Try.checked) own started (by kernel_rfl) Try.func6
    (ChangeSpec.witness6 (enc := enc) (C := Try.checked) false ⟨#[], #[.slice none 0 0, .slice none 0 0], []⟩ 8 (by kernel_rfl) (by kernel_rfl) (by kernel_rfl) (by kernel_rfl)) ?_
  intro W base args ds gs before hval0 hW hcnd hsz0 _
  have hval : ∀ (j : Nat) t v, Try.f6.params[j]? = some t → args[j]? = some v → Value.okWide Try.prog W .any base t v := hval0
  have hW' := hW
  obtain ⟨p, q, hA0, hV, rfl, hfz, hnd⟩ := hW
  have hA : DataW.TrodAll enc Try.prog W 0 (fun _ => true) true Try.f6.params.toList args.toList ds p := hA0
  rw [Try.params6] at hA hval
  obtain ⟨v0, vs0, d0, ds0, p0, q0, hargs, rfl, rfl, h0, r0⟩ := trodAll_cons hA
  obtain ⟨v1, vs1, d1, ds1, p1, q1, rfl, rfl, rfl, h1, r1⟩ := trodAll_cons r0
  obtain ⟨rfl, rfl, rfl⟩ := trodAll_nil r1
  obtain rfl : args = #[v0, v1] := by cases args; simp_all
  obtain ⟨rfl, rfl⟩ := trodVars_none hV
  clear hA0 hval0 hsz0
  have k0 := h0
  have lt0 : ∀ x ∈ p0, x.block < W.heap.size := by obtain ⟨m, hm⟩ := k0; exact DataW.trod_lt m _ _ _ hm
  have k1 := h1
  have lt1 : ∀ x ∈ p1, x.block < W.heap.size := by obtain ⟨m, hm⟩ := k1; exact DataW.trod_lt m _ _ _ hm
  obtain ⟨a0, len0, cap0, rfl⟩ := okWide_slice Try.underlying34 (hval 0 34 v0 rfl rfl)
  obtain ⟨a1, len1, cap1, rfl⟩ := okWide_slice Try.underlying34 (hval 1 34 v1 rfl rfl)
  obtain ⟨hL0, ks, hk0, hr0, hz0⟩ : (len0 : Int) ≤ 9223372036854775807 ∧ ∃ ks : List Key, len0 = ks.length ∧ (∀ k ∈ ks, k.raw) ∧ ZAt W a0 ks := by
    obtain ⟨fuel, hf⟩ := h0
    exact open_keys hf
  obtain ⟨hL1, ms, hk1, hr1, hz1⟩ : (len1 : Int) ≤ 9223372036854775807 ∧ ∃ ks : List Key, len1 = ks.length ∧ (∀ k ∈ ks, k.raw) ∧ ZAt W a1 ks := by
    obtain ⟨fuel, hf⟩ := h1
    exact open_keys hf
  refine (lawsix_any a0 cap0 len0 ks a1 cap1 len1 ms W hk0 hk1 hL0 hL1 hr0 hr1 hz0 hz1).mono fun e W' ⟨he, bel⟩ => ?_
  subst he
  exact ⟨_, rfl, _, _, _, [], _, [], hW', trodAll_mk1 (shut_bool Try.underlying4 _),
    (trodAll_cons_mk (Below.trod laidOut (by kernel_rfl) (of_decide_eq_true (by kernel_rfl)) k0 bel lt0) (trodAll_cons_mk (Below.trod laidOut (by kernel_rfl) (of_decide_eq_true (by kernel_rfl)) k1 bel lt1) trodAll_mk0)), rfl, bel.frame _, fun h => by cases h⟩

theorem over : Rows.fnAnchoredKeepsItsOwnKeysAndIsAFixedPointRow.holds Try.pinned (OpenSpec.ofChange Rows.fnAnchoredKeepsItsOwnKeysAndIsAFixedPointSpec) :=
  OpenClaim.holds_of_wide 6 Try.f6 rfl rfl rfl rfl rfl rfl rfl ⟨rfl, rfl, rfl, rfl, rfl⟩ rfl rfl rfl rfl rfl (by kernel_rfl) Try.func6 (by kernel_rfl)
    (of_decide_eq_true (by kernel_rfl)) (by unfold Func.isWrapper; first | (rw [if_pos (by decide +kernel)]; kernel_rfl) | (rw [if_neg (by decide +kernel)]; exact ⟨rfl, rfl⟩))
    (fun os started H enc _ => lifted os started H enc)

/-- THE STATEMENT -/
theorem proved : Rows.FnAnchoredKeepsItsOwnKeysAndIsAFixedPointSaid :=
  over
end Go.Proofs.Qxb6614277a.fnAnchoredKeepsItsOwnKeysAndIsAFixedPoint
