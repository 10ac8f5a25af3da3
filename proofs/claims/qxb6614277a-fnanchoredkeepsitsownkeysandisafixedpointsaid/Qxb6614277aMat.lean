import Derived.Test.Qxb6614277aEq
namespace Go.Proofs.Qxb6614277a
open Go.RowKit

/-- The anchor a names the key k. -/
def named (k a : Key) : Bool := decide (a.al = k.al) && decide (a.pk = k.pk)

theorem eq_aft {W : World} {B : Nat} {v1 v2 : Value} {l1 l2 : List Nat} (h1 : BytesAt W B v1 l1) (h2 : BytesAt W B v2 l2) (hB : B ≤ W.heap.size) (o1 : ∀ x ∈ l1, x < 256) (o2 : ∀ x ∈ l2, x < 256) (p : Aft) :
    Calls Try.prog 56 #[v1, v2] (aft W p) fun e W' => e = .returned (.bool (decide (l1 = l2))) ∧ ∃ p' : Aft, W' = aft W p' :=
  (equal_any v1 v2 l1 l2 B (aft W p) (h1.below (below_aft W p) hB) (h2.below (below_aft W p) hB) o1 o2).mono fun _ _ ⟨he, hw⟩ => ⟨he, p, hw⟩
theorem low_aft (W : World) (p : Aft) : Calls Try.prog 55 #[.agg #[.string ByteArray.empty]] (aft W p) fun e W' => e = .returned (.agg #[.string ByteArray.empty]) ∧ ∃ p' : Aft, W' = aft W p' :=
  aft_call (lower_any _)

attribute [local irreducible] wpQuiet in
set_option maxHeartbeats 4000000 in
set_option maxRecDepth 100000 in
theorem matches_any (q1 q2 : Nat) (k1 k2 : Key) (W : World) (hk1 : k1.ok) (hk2 : k2.ok) (h1 : KeyAt W W.heap.size q1 k1) (h2 : KeyAt W W.heap.size q2 k2) :
    Calls Try.prog 53 #[.pointer (some ⟨q1, 0, none⟩), .pointer (some ⟨q2, 0, none⟩)] W fun e W' => e = .returned (.bool (named k2 k1)) ∧ Below W.heap.size W W' := by
  obtain ⟨_, a0, _, _, a3, v1, a4, b1⟩ := h1
  obtain ⟨_, d0, _, _, d3, v2, d4, b2⟩ := h2
  have HL := low_aft W
  have HE := eq_aft b1 b2 (Nat.le_refl _) hk1.2.2.2.2 hk2.2.2.2.2
  have r0 := aft_cell a0
  have r3 := aft_cell a3
  have r4 := aft_cell a4
  have s0 := aft_cell d0
  have s3 := aft_cell d3
  have s4 := aft_cell d4
  have HN := Lib.hid (show named k2 k1 = (decide (k1.al = k2.al) && decide (k1.pk = k2.pk)) from rfl)
  obtain ⟨f1, p1, al1, pk1⟩ := k1
  obtain ⟨f2, p2, al2, pk2⟩ := k2
  simp only at *
  clear hk1 hk2 a0 a3 a4 d0 d3 d4 b1 b2
  by_cases ha : al1 = al2
  · subst ha
    generalize decide (pk1 = pk2) = bb at *
    go_enter Try.func53, Try.ntmps53
    go_wp2_with fail
    refine wp_region_aft (by kernel_rfl) (by kernel_rfl) ?_
    repeat (quiet_step (first | (go_at_call 55; exact HL _) | (go_at_call 56; exact HE _)))
    refine wpQuiet_nil ?_
    intro _ hw'
    obtain ⟨pq, hw''⟩ := hw'
    subst hw''
    go_wp2
    go_ret
    refine ⟨?_, below_aft _ _⟩
    rw [HN.out]
    simp
  · have a1 : ((al1 : Int) == (al2 : Int)) = false := by simp; omega
    have a2 : ¬ (al1 : Int) = (al2 : Int) := by omega
    go_enter Try.func53, Try.ntmps53
    go_wp2_with fail
    refine wp_region_aft (by kernel_rfl) (by kernel_rfl) ?_
    repeat (quiet_step (first | (go_at_call 55; exact HL _) | (go_at_call 56; exact HE _)))
    refine wpQuiet_nil ?_
    intro _ hw'
    obtain ⟨pq, hw''⟩ := hw'
    subst hw''
    go_wp2
    go_ret
    refine ⟨?_, below_aft _ _⟩
    rw [HN.out]
    simp [ha]
end Go.Proofs.Qxb6614277a
