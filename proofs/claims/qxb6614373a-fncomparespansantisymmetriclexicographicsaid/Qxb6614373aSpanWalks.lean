import Derived.Test.Qxb6614373aRows
import Derived.WalkKit
import Derived.WalkSpells
import Derived.WalkLawsBesides
import Derived.RegionTactic
import Derived.ChangeAlike
import Derived.Deep.RegionHeld3
namespace Go.Proofs.Qxb6614373a
open Go.RowKit

def cmpI (a b : Int) : Int := if a < b then -1 else if b < a then 1 else 0
def orI (a b : Int) : Int := if a = 0 then b else a

theorem grown_trans {a b c : World} (h : Grown a b) (k : Grown b c) : Grown a c :=
  ⟨World.keptBut_trans h.1 k.1, fun x => (k.2.1 x).trans (h.2.1 x), Nat.le_trans h.2.2 k.2.2⟩

theorem ret_int {k : IntKind} {a b : Int} (h : a = b) : Ending.returned (.int k a) = .returned (.int k b) := by rw [h]

set_option maxHeartbeats 400000 in
theorem compare_any (a b : Int) (w : World) :
    Calls Try.prog 27 #[.int .i64 a, .int .i64 b] w fun e w' => e = .returned (.int .i64 (cmpI a b)) ∧ w' = w := by
  go_enter Try.func27, Try.ntmps27
  go_wp2
  all_goals go_ret
  · exact ⟨ret_int (by unfold cmpI; rw [if_pos (by omega)]), rfl⟩
  · exact ⟨ret_int (by unfold cmpI; rw [if_neg (by omega), if_pos (by omega)]), rfl⟩
  · exact ⟨ret_int (by unfold cmpI; rw [if_neg (by omega), if_neg (by omega)]), rfl⟩

set_option maxHeartbeats 400000 in
theorem sign_any (a b : Int) (w : World) :
    Calls Try.prog 9 #[.int .i64 a, .int .i64 b] w fun e w' => e = .returned (.int .i64 (cmpI a b)) ∧ w' = w := by
  go_enter Try.func9, Try.ntmps9
  go_wp2
  all_goals go_ret
  · exact ⟨ret_int (by unfold cmpI; rw [if_pos (by omega)]), rfl⟩
  · exact ⟨ret_int (by unfold cmpI; rw [if_neg (by omega), if_pos (by omega)]), rfl⟩
  · exact ⟨ret_int (by unfold cmpI; rw [if_neg (by omega), if_neg (by omega)]), rfl⟩

set_option maxHeartbeats 400000 in
theorem or_any (x y : Int) (b : Nat) (w : World) (h0 : w.cell? ⟨b, 0, none⟩ = some (.int .i64 x)) (h1 : w.cell? ⟨b, 1, none⟩ = some (.int .i64 y)) :
    Calls Try.prog 26 #[.slice (some ⟨b, 0, none⟩) 2 2] w fun e w' => e = .returned (.int .i64 (orI x y)) ∧ w' = w := by
  go_enter Try.func26, Try.ntmps26
  go_wp2
  go_loop [8] (fun i => ∃ k : Nat, k ≤ 2 ∧ i = .int .i64 k ∧ (1 ≤ k → x = 0) ∧ (2 ≤ k → y = 0)) (fun i => 2 - (intOf i).toNat)
  case atStart => exact ⟨0, by omega, rfl, by omega, by omega⟩
  case round =>
    obtain ⟨k, hk, rfl, hx, hy⟩ := hrel
    have hk3 : k = 0 ∨ k = 1 ∨ k = 2 := by omega
    rcases hk3 with rfl | rfl | rfl
    · clear hx hy
      by_cases hz : x = 0
      · subst hz
        go_wp2
        go_round
        case rel => exact ⟨1, by omega, rfl, by simp, by omega⟩
        case measure => simp [intOf]
      · have hz' : (x != 0) = true := by simpa using hz
        go_wp2
        go_ret
        exact ⟨ret_int (by unfold orI; rw [if_neg hz]), rfl⟩
    · have hx0 := hx (by omega)
      subst hx0
      clear hx hy
      by_cases hz : y = 0
      · subst hz
        go_wp2
        go_round
        case rel => exact ⟨2, by omega, rfl, by simp, by simp⟩
        case measure => simp [intOf]
      · have hz' : (y != 0) = true := by simpa using hz
        go_wp2
        go_ret
        exact ⟨ret_int (by unfold orI; rw [if_pos rfl]), rfl⟩
    · have hx0 := hx (by omega)
      have hy0 := hy (by omega)
      subst hx0 hy0
      clear hx hy
      go_wp2
      go_ret
      exact ⟨ret_int (by unfold orI; rw [if_pos rfl]), rfl⟩

theorem or_here (x y : Int) (b : Nat) (W : World) (hb : W.heap.size = b) :
    Calls Try.prog 26 #[.slice (some ⟨b, 0, none⟩) 2 2] (W.alloc (.cells #[.int .i64 x, .int .i64 y] 3)).drew fun e w' => e = .returned (.int .i64 (orI x y)) ∧ w' = (W.alloc (.cells #[.int .i64 x, .int .i64 y] 3)).drew := by
  subst hb
  exact or_any x y _ _ (by go_simp) (by go_simp)

set_option maxHeartbeats 400000 in
theorem spans_any (a0 a1 b0 b1 : Int) (w : World) :
    Calls Try.prog 20 #[.agg #[.int .i64 a0, .int .i64 a1], .agg #[.int .i64 b0, .int .i64 b1]] w fun e w' => e = .returned (.int .i64 (orI (cmpI a0 b0) (cmpI a1 b1))) ∧ Grown w w' := by
  go_enter Try.func20, Try.ntmps20
  go_wp2_with fail
  go_region_held3 (fun w' => w'.cell? ⟨w.heap.size, 0, none⟩ = some (.int .i64 a0) ∧ w'.cell? ⟨w.heap.size, 1, none⟩ = some (.int .i64 a1) ∧ w'.cell? ⟨w.heap.size + 1, 0, none⟩ = some (.int .i64 b0) ∧ w'.cell? ⟨w.heap.size + 1, 1, none⟩ = some (.int .i64 b1)) (go_keep)
    (first
    | (go_at_call 27; refine (compare_any _ _ _).mono ?_; rintro e w' ⟨rfl, rfl⟩)
    | (go_at_call 26; refine (or_here _ _ _ _ (by simp)).mono ?_; rintro e w' ⟨rfl, rfl⟩))
  all_goals
    go_wp2
    go_ret
    exact ⟨rfl, by repeat (first | exact Grown.refl _ | apply Grown.drew | apply Grown.alloc)⟩

set_option maxHeartbeats 400000 in
theorem zzspans_any (a0 a1 b0 b1 : Int) (w : World) :
    Calls Try.prog 6 #[.int .i64 a0, .int .i64 a1, .int .i64 b0, .int .i64 b1] w fun e w' => e = .returned (.int .i64 (orI (cmpI a0 b0) (cmpI a1 b1))) ∧ Grown w w' := by
  go_enter Try.func6, Try.ntmps6
  go_wp2_with (go_at_call 20; refine (spans_any _ _ _ _ _).mono ?_; rintro e w' ⟨rfl, hg⟩)
  go_ret
  exact ⟨rfl, hg⟩

end Go.Proofs.Qxb6614373a
