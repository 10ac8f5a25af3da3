/-
  A proof of 'Rows.FnCompareSpansAntisymmetricLexicographicSaid': the frame by the guide's skeleton tool, the walk by hand.
-/
import Derived.Test.Qxb6614373aRows
import Derived.Test.Qxb6614373aKeyNum
import Derived.WalkKit
import Derived.ProofKit
import Derived.OpenShut
import Derived.ShutString
namespace Go.Proofs.Qxb6614373a.fnCompareSpansAntisymmetricLexicographic
open Go.ChangeShapes Go.WideShapes Go.ChangeAt Go.RowKit
open Go.ChangeMaps (open_string shut_string)
set_option linter.unusedVariables false      -- a walk need not use every 'w<i>' (that an integer argument fits its kind)

theorem own : ownKnob Try.prog.godebug = none := by kernel_rfl

def uk (a : Int) : Int := a + 9223372036854775808
theorem bounds_i64 {a : Int} (h : (Lit.int .i64 a).wf = true) : -9223372036854775808 ≤ a ∧ a ≤ 9223372036854775807 := by
  simpa [Lit.wf, IntKind.min, IntKind.max, IntKind.bits, IntKind.signed] using h
theorem key_at (a b : Int) (ha : -9223372036854775808 ≤ a ∧ a ≤ 9223372036854775807) (hb : -9223372036854775808 ≤ b ∧ b ≤ 9223372036854775807) (w : World) :
    Calls Try.prog 8 #[.int .i64 a, .int .i64 b] w fun e w' => e = .returned (.agg (keyCells (uk a) (uk b))) ∧ Grown w w' := by
  have := key_any a b w
  rw [key_num a ha.1 ha.2, key_num b hb.1 hb.2] at this
  exact this
theorem cmp_uk (a b : Int) : cmpI (uk a) (uk b) = cmpI a b := by
  unfold cmpI uk
  rcases Int.lt_trichotomy a b with h | h | h
  · rw [if_pos (by omega), if_pos h]
  · rw [if_neg (by omega), if_neg (by omega), if_neg (by omega), if_neg (by omega)]
  · rw [if_neg (by omega), if_pos (by omega), if_neg (by omega), if_pos (by omega)]
theorem keys_at (r a b c d : Int) (ha : -9223372036854775808 ≤ a ∧ a ≤ 9223372036854775807) (hb : -9223372036854775808 ≤ b ∧ b ≤ 9223372036854775807) (hc : -9223372036854775808 ≤ c ∧ c ≤ 9223372036854775807) (hd : -9223372036854775808 ≤ d ∧ d ≤ 9223372036854775807) (w : World) (h : orI (cmpI a c) (cmpI b d) = r) :
    Calls Try.prog 7 #[.agg (keyCells (uk a) (uk b)), .agg (keyCells (uk c) (uk d))] w fun e w' => e = .returned (.int .i64 r) ∧ Grown w w' := by
  have hk := cmpkeys_any _ _ _ _ (keyCells_get (uk a) (uk b)) (keyCells_get (uk c) (uk d)) w
  rw [key_lex _ _ _ _ (by unfold uk; omega) (by unfold uk; omega) (by unfold uk; omega) (by unfold uk; omega), cmp_uk, cmp_uk, h] at hk
  exact hk
theorem spans_val (r a0 a1 b0 b1 : Int) (w : World) (h : orI (cmpI a0 b0) (cmpI a1 b1) = r) :
    Calls Try.prog 6 #[.int .i64 a0, .int .i64 a1, .int .i64 b0, .int .i64 b1] w fun e w' => e = .returned (.int .i64 r) ∧ Grown w w' := by
  subst h; exact zzspans_any a0 a1 b0 b1 w
theorem three (a b c d : Int) : (Hid (orI (cmpI a c) (cmpI b d) = -1) ∧ Hid (orI (cmpI c a) (cmpI d b) = 1)) ∨ (Hid (orI (cmpI a c) (cmpI b d) = 0) ∧ Hid (orI (cmpI c a) (cmpI d b) = 0)) ∨ (Hid (orI (cmpI a c) (cmpI b d) = 1) ∧ Hid (orI (cmpI c a) (cmpI d b) = -1)) := by
  unfold Hid
  rcases Int.lt_trichotomy a c with h | h | h
  · exact Or.inl ⟨by rw [cmp_lt h]; rfl, by rw [cmp_gt h]; rfl⟩
  · subst h
    rw [cmp_eq, or_zero, or_zero]
    rcases Int.lt_trichotomy b d with h | h | h
    · exact Or.inl ⟨cmp_lt h, cmp_gt h⟩
    · subst h; exact Or.inr (Or.inl ⟨cmp_eq _, cmp_eq _⟩)
    · exact Or.inr (Or.inr ⟨cmp_gt h, cmp_lt h⟩)
  · exact Or.inr (Or.inr ⟨by rw [cmp_gt h]; rfl, by rw [cmp_lt h]; rfl⟩)

/-! ### STEP 1: THE WALK: the Go text returns true. 'Grown w w'': the world has at most new blocks (Derived/RowKit3.lean). Part the cases AHEAD of 'go_enter' where a test parts the walk; take each callee by a contract of your own. -/
set_option maxHeartbeats 400000 in
theorem walk (a0 : Int) (a1 : Int) (a2 : Int) (a3 : Int) (w0 : (Lit.int .i64 a0).wf = true) (w1 : (Lit.int .i64 a1).wf = true) (w2 : (Lit.int .i64 a2).wf = true) (w3 : (Lit.int .i64 a3).wf = true) (w : World) :
    Calls Try.prog 3 #[.int .i64 a0, .int .i64 a1, .int .i64 a2, .int .i64 a3] w fun e w' => e = .returned (.bool true) ∧ Grown w w' := by
  have b0 := bounds_i64 w0
  have b1 := bounds_i64 w1
  have b2 := bounds_i64 w2
  have b3 := bounds_i64 w3
  rcases three a0 a1 a2 a3 with ⟨HR, HS⟩ | ⟨HR, HS⟩ | ⟨HR, HS⟩
  · go_enter Try.func3, Try.ntmps3
    go_wp2_with fail
    refine (spans_val (-1) a0 a1 a2 a3 _ HR.out).mono ?_
    rintro e wa ⟨rfl, ga⟩
    go_wp2_with fail
    refine (spans_val (1) a2 a3 a0 a1 _ HS.out).mono ?_
    rintro e wb ⟨rfl, gb⟩
    go_wp2_with fail
    refine (key_at a0 a1 b0 b1 _).mono ?_
    rintro e wc ⟨rfl, gc⟩
    go_wp2_with fail
    refine (key_at a2 a3 b2 b3 _).mono ?_
    rintro e wd ⟨rfl, gd⟩
    go_wp2_with fail
    refine (keys_at (-1) a0 a1 a2 a3 b0 b1 b2 b3 _ HR.out).mono ?_
    rintro e we ⟨rfl, ge⟩
    go_wp2
    go_ret
    exact ⟨rfl, grown_trans ga (grown_trans gb (grown_trans gc (grown_trans gd ge)))⟩
  · go_enter Try.func3, Try.ntmps3
    go_wp2_with fail
    refine (spans_val (0) a0 a1 a2 a3 _ HR.out).mono ?_
    rintro e wa ⟨rfl, ga⟩
    go_wp2_with fail
    refine (spans_val (0) a2 a3 a0 a1 _ HS.out).mono ?_
    rintro e wb ⟨rfl, gb⟩
    go_wp2_with fail
    refine (key_at a0 a1 b0 b1 _).mono ?_
    rintro e wc ⟨rfl, gc⟩
    go_wp2_with fail
    refine (key_at a2 a3 b2 b3 _).mono ?_
    rintro e wd ⟨rfl, gd⟩
    go_wp2_with fail
    refine (keys_at (0) a0 a1 a2 a3 b0 b1 b2 b3 _ HR.out).mono ?_
    rintro e we ⟨rfl, ge⟩
    go_wp2
    go_ret
    exact ⟨rfl, grown_trans ga (grown_trans gb (grown_trans gc (grown_trans gd ge)))⟩
  · go_enter Try.func3, Try.ntmps3
    go_wp2_with fail
    refine (spans_val (1) a0 a1 a2 a3 _ HR.out).mono ?_
    rintro e wa ⟨rfl, ga⟩
    go_wp2_with fail
    refine (spans_val (-1) a2 a3 a0 a1 _ HS.out).mono ?_
    rintro e wb ⟨rfl, gb⟩
    go_wp2_with fail
    refine (key_at a0 a1 b0 b1 _).mono ?_
    rintro e wc ⟨rfl, gc⟩
    go_wp2_with fail
    refine (key_at a2 a3 b2 b3 _).mono ?_
    rintro e wd ⟨rfl, gd⟩
    go_wp2_with fail
    refine (keys_at (1) a0 a1 a2 a3 b0 b1 b2 b3 _ HR.out).mono ?_
    rintro e we ⟨rfl, ge⟩
    go_wp2
    go_ret
    exact ⟨rfl, grown_trans ga (grown_trans gb (grown_trans gc (grown_trans gd ge)))⟩

/-! ### THE ROW's STEP: WRITTEN OUT: LEAVE IT -/
set_option maxRecDepth 100000 in
theorem lifted (os : Os) (started : os.Started) (H : Type) (enc : TypeId × Value → H) :
    ReturnsInHanded {} Try.checked os 3 .any (Rows.fnCompareSpansAntisymmetricLexicographicSpec.pre6 enc Try.prog Try.f3 Rows.fnCompareSpansAntisymmetricLexicographicRow.domain false) (Rows.fnCompareSpansAntisymmetricLexicographicSpec.post enc Try.prog Try.f3 false true false false) := by
  refine returnsInHanded_of_change (C := Try.checked) own started (by kernel_rfl) Try.func3
    (ChangeSpec.witness6 (enc := enc) (C := Try.checked) false ⟨#[], #[.int .i64 0, .int .i64 0, .int .i64 0, .int .i64 0], []⟩ 8 (by kernel_rfl) (by kernel_rfl) (by kernel_rfl) (by kernel_rfl)) ?_
  intro W base args ds gs before hval0 hW hcnd _
  have hval : ∀ (j : Nat) t v, Try.f3.params[j]? = some t → args[j]? = some v → Value.okWide Try.prog W .any base t v := hval0
  have hW' := hW
  obtain ⟨p, q, hA0, hV, rfl, hfz, hnd⟩ := hW
  have hA : DataW.TrodAll enc Try.prog W 0 (fun _ => true) true Try.f3.params.toList args.toList ds p := hA0
  rw [Try.params3] at hA hval
  obtain ⟨v0, vs0, d0, ds0, p0, q0, hargs, rfl, rfl, h0, r0⟩ := trodAll_cons hA
  obtain ⟨v1, vs1, d1, ds1, p1, q1, rfl, rfl, rfl, h1, r1⟩ := trodAll_cons r0
  obtain ⟨v2, vs2, d2, ds2, p2, q2, rfl, rfl, rfl, h2, r2⟩ := trodAll_cons r1
  obtain ⟨v3, vs3, d3, ds3, p3, q3, rfl, rfl, rfl, h3, r3⟩ := trodAll_cons r2
  obtain ⟨rfl, rfl, rfl⟩ := trodAll_nil r3
  obtain rfl : args = #[v0, v1, v2, v3] := by cases args; simp_all
  obtain ⟨rfl, rfl⟩ := trodVars_none hV
  obtain ⟨a0, rfl, rfl, rfl, w0⟩ := open_int Try.underlying2 (hval 0 2 v0 rfl rfl) h0
  obtain ⟨a1, rfl, rfl, rfl, w1⟩ := open_int Try.underlying2 (hval 1 2 v1 rfl rfl) h1
  obtain ⟨a2, rfl, rfl, rfl, w2⟩ := open_int Try.underlying2 (hval 2 2 v2 rfl rfl) h2
  obtain ⟨a3, rfl, rfl, rfl, w3⟩ := open_int Try.underlying2 (hval 3 2 v3 rfl rfl) h3
  clear hA0 hval0
  simp only [List.append_nil] at hW'
  refine (walk a0 a1 a2 a3 w0 w1 w2 w3 W).mono fun e W' ⟨he, hg⟩ => ?_
  subst he
  exact ⟨_, rfl, post_of_same (pa := []) (pv := []) hW' (fun _ _ _ => (trodAll_cons_mk (shut_bool Try.underlying4 _) trodAll_mk0)) (fun sp _ => (trodAll_cons_mk (shut_int Try.underlying2 w0) (trodAll_cons_mk (shut_int Try.underlying2 w1) (trodAll_cons_mk (shut_int Try.underlying2 w2) (trodAll_cons_mk (shut_int Try.underlying2 w3) trodAll_mk0))))) (fun _ _ => rfl) rfl
    (hg.frame _) hg.2.1 (ok_one (by kernel_rfl) rfl (okWide_bool_mk Try.underlying4 _))⟩

theorem over : Rows.fnCompareSpansAntisymmetricLexicographicRow.holds Try.pinned (OpenSpec.ofChange Rows.fnCompareSpansAntisymmetricLexicographicSpec) :=
  OpenClaim.holds_of_wide 3 Try.f3 rfl rfl rfl rfl rfl rfl rfl ⟨rfl, rfl, rfl, rfl, rfl⟩ rfl rfl rfl rfl rfl (by kernel_rfl) Try.func3 (by kernel_rfl)
    (of_decide_eq_true (by kernel_rfl)) (by unfold Func.isWrapper; first | (rw [if_pos (by decide +kernel)]; kernel_rfl) | (rw [if_neg (by decide +kernel)]; exact ⟨rfl, rfl⟩))
    (fun os started H enc _ => lifted os started H enc)

/-- ████ THE STATEMENT ████ -/
theorem proved : Rows.FnCompareSpansAntisymmetricLexicographicSaid :=
  over
end Go.Proofs.Qxb6614373a.fnCompareSpansAntisymmetricLexicographic
