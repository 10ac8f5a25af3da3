import Derived.Test.Qxb6614277aGuards
namespace Go.Proofs.Qxb6614277a
open Go.RowKit

/-- zzKeysOver answered. -/
def Over (n m : Nat) (pl ql : Nat → Nat) (e : Ending) : Prop :=
  ∃ ok : Bool, e = .returned (.bool ok) ∧ (ok = false → n ≤ 4096 ∧ m ≤ 4096 ∧ (∀ i, i < n → pl i ≤ 1048576) ∧ (∀ i, i < m → ql i ≤ 1048576))
theorem over_true (n m : Nat) (pl ql : Nat → Nat) : Over n m pl ql (.returned (.bool true)) := ⟨true, rfl, fun h => by cases h⟩
theorem over_done {n m : Nat} {pl ql : Nat → Nat} (hn : n ≤ 4096) (hm : m ≤ 4096) (h : ∀ i, i < n → pl i ≤ 1048576) (h' : ∀ i, i < m → ql i ≤ 1048576) : Over n m pl ql (.returned (.bool false)) := ⟨false, rfl, fun _ => ⟨hn, hm, h, h'⟩⟩

theorem upto_succ {pl : Nat → Nat} {k : Nat} (h : ∀ i, i < k → pl i ≤ 1048576) (hk : pl k ≤ 1048576) : ∀ i, i < k + 1 → pl i ≤ 1048576 := fun i hi => by
  by_cases e : i = k
  · rw [e]; exact hk
  · exact h i (by omega)

set_option maxHeartbeats 2000000 in
set_option maxRecDepth 100000 in
theorem over_any (la : Option Addr) (n lcap : Nat) (pl : Nat → Nat) (ma : Option Addr) (m mcap : Nat) (ql : Nat → Nat) (w : World) (h : ZLen w la n pl) (h' : ZLen w ma m ql) :
    Calls Try.prog 12 #[.slice la n lcap, .slice ma m mcap] w fun e w' => Over n m pl ql e ∧ w' = w := by
  have HL := Lib.hid h
  have HM := Lib.hid h'
  clear h h'
  by_cases hn : n ≤ 4096
  case neg =>
    have g1 : (4096 : Int) < n := by omega
    go_enter Try.func12, Try.ntmps12
    go_wp2
    go_ret
    exact ⟨over_true _ _ _ _, rfl⟩
  by_cases hm : m ≤ 4096
  case neg =>
    have g1 : ¬ (4096 : Int) < n := by omega
    have g2 : (4096 : Int) < m := by omega
    go_enter Try.func12, Try.ntmps12
    go_wp2
    go_ret
    exact ⟨over_true _ _ _ _, rfl⟩
  have g1 : ¬ (4096 : Int) < n := by omega
  have g2 : ¬ (4096 : Int) < m := by omega
  go_enter Try.func12, Try.ntmps12
  go_wp2
  go_loop [5, 6] (fun z i => ∃ (k x : Nat), k ≤ n ∧ x ≤ 1048576 ∧ i = .int .i64 k ∧ z = .int .i64 x ∧ Hid (∀ i, i < k → pl i ≤ 1048576)) (fun _ i => n - (intOf i).toNat)
  case atStart => exact ⟨0, 8 * n + 8 * m, by omega, by omega, rfl, by go_num, Lib.hid (fun i hi => by omega)⟩
  case round =>
    obtain ⟨k, x, hk, hx, rfl, rfl, HP⟩ := hrel
    by_cases hlt : k < n
    · obtain ⟨lb, lo, a, c, rfl, h2⟩ := HL.out k hlt
      have hm' : (k : Int) < (n : Int) := by omega
      obtain ⟨p, hp⟩ : ∃ p, p = pl k := ⟨_, rfl⟩
      rw [← hp] at h2
      have HPK := Lib.hid hp
      clear hp
      by_cases hov : p ≤ 1048576 - x
      · have hov' : ¬ (1048576 - (x : Int) < (p : Int)) := by omega
        go_wp2
        go_round
        case rel => exact ⟨k + 1, x + p, by omega, by omega, by go_num, by go_num, Lib.hid (upto_succ HP.out (by rw [← HPK.out]; omega))⟩
        case measure => simp [intOf]; omega
      · have hov' : (1048576 - (x : Int) < (p : Int)) := by omega
        go_wp2
        go_ret
        exact ⟨over_true _ _ _ _, rfl⟩
    · obtain rfl : k = n := by omega
      go_wp2
      go_loop [5, 7] (fun z i => ∃ (k x : Nat), k ≤ m ∧ x ≤ 1048576 ∧ i = .int .i64 k ∧ z = .int .i64 x ∧ Hid (∀ i, i < k → ql i ≤ 1048576)) (fun _ i => m - (intOf i).toNat)
      case atStart => exact ⟨0, x, by omega, by omega, rfl, rfl, Lib.hid (fun i hi => by omega)⟩
      case round =>
        obtain ⟨k2, x2, hk2, hx2, rfl, rfl, HP2⟩ := hrel
        by_cases hlt2 : k2 < m
        · obtain ⟨lb, lo, a, c, rfl, h2⟩ := HM.out k2 hlt2
          have hm' : (k2 : Int) < (m : Int) := by omega
          obtain ⟨p, hp⟩ : ∃ p, p = ql k2 := ⟨_, rfl⟩
          rw [← hp] at h2
          have HPK := Lib.hid hp
          clear hp
          by_cases hov : p ≤ 1048576 - x2
          · have hov' : ¬ (1048576 - (x2 : Int) < (p : Int)) := by omega
            go_wp2
            go_round
            case rel => exact ⟨k2 + 1, x2 + p, by omega, by omega, by go_num, by go_num, Lib.hid (upto_succ HP2.out (by rw [← HPK.out]; omega))⟩
            case measure => simp [intOf]; omega
          · have hov' : (1048576 - (x2 : Int) < (p : Int)) := by omega
            go_wp2
            go_ret
            exact ⟨over_true _ _ _ _, rfl⟩
        · obtain rfl : k2 = m := by omega
          go_wp2
          go_ret
          exact ⟨over_done hn hm HP.out HP2.out, rfl⟩
end Go.Proofs.Qxb6614277a
