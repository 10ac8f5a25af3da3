import Derived.Test.Qxb6614277aSame
namespace Go.Proofs.Qxb6614277a
open Go.RowKit

/-- A drawn key by value. -/
def ZVal (k : Key) (v : Value) : Value := .agg #[.int .u16 k.fl, .int .u8 k.pr, .int .u8 k.al, v]

set_option maxHeartbeats 1000000 in
set_option maxRecDepth 100000 in
theorem znamed_any (k1 k2 : Key) (v1 v2 : Value) (W : World) (hl : k1.pk.length ≤ 1048576) (h1 : BytesAt W W.heap.size v1 k1.pk) (h2 : BytesAt W W.heap.size v2 k2.pk) :
    Calls Try.prog 23 #[ZVal k1 v1, ZVal k2 v2] W fun e W' => e = .returned (.bool (decide (k1.al = k2.al) && decide (k1.pk = k2.pk))) ∧ Below W.heap.size W W' := by
  have HS : ∀ w, Below W.heap.size W w → Calls Try.prog 30 #[v1, v2] w fun e W' => e = .returned (.bool (decide (k1.pk = k2.pk))) ∧ ∃ nq, W' = w.drewN nq :=
    fun w hb => same_any v1 v2 k1.pk k2.pk W.heap.size w hl (h1.below hb (Nat.le_refl _)) (h2.below hb (Nat.le_refl _))
  obtain ⟨f1, p1, al1, pk1⟩ := k1
  obtain ⟨f2, p2, al2, pk2⟩ := k2
  simp only [ZVal] at *
  have HS' := Lib.hid HS
  clear HS h1 h2
  by_cases ha : al1 = al2
  · subst ha
    go_enter Try.func23, Try.ntmps23
    go_wp2_with fail
    refine (HS'.out _ ?_).mono ?_
    · exact ((Below.refl _ _).alloc (Nat.le_refl _) _).alloc (by simp) _
    rintro e w' ⟨rfl, nq, rfl⟩
    go_wp2
    go_ret
    refine ⟨ret_bool (by simp), ?_⟩
    exact below_drewN (((Below.refl _ _).alloc (Nat.le_refl _) _).alloc (by simp) _) _
  · have a1 : ((al1 : Int) == (al2 : Int)) = false := by simp; omega
    have a2 : ¬ (al1 : Int) = (al2 : Int) := by omega
    go_enter Try.func23, Try.ntmps23
    go_wp2
    go_ret
    refine ⟨ret_bool (by simp [ha]), ?_⟩
    exact ((Below.refl _ _).alloc (Nat.le_refl _) _).alloc (by simp) _
end Go.Proofs.Qxb6614277a
