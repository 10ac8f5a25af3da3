import Derived.Test.Qxb6614373aSpanWalks
import Derived.Handy
import Derived.Deep.QuietTactic
import Derived.BigQuiet
import Derived.WalkSmall
namespace Go.Proofs.Qxb6614373a
open Go.RowKit

/-- The order of two rows of numbers from place k on, n places long. -/
def lexN (x y : Nat → Int) (k : Nat) : Nat → Int
  | 0 => 0
  | n + 1 => if x k < y k then -1 else if y k < x k then 1 else lexN x y (k + 1) n

theorem grown_drewN {a b : World} (h : Grown a b) (n : Nat) : Grown a (b.drewN n) := h

theorem lexN_lt {x y : Nat → Int} {k : Nat} (hk : k < 16) (h : x k < y k) : lexN x y k (16 - k) = -1 := by
  obtain ⟨n, hn⟩ : ∃ n, 16 - k = n + 1 := ⟨15 - k, by omega⟩
  rw [hn, lexN, if_pos h]
theorem lexN_gt {x y : Nat → Int} {k : Nat} (hk : k < 16) (h : y k < x k) : lexN x y k (16 - k) = 1 := by
  obtain ⟨n, hn⟩ : ∃ n, 16 - k = n + 1 := ⟨15 - k, by omega⟩
  rw [hn, lexN, if_neg (by omega), if_pos h]
theorem lexN_eq {x y : Nat → Int} {k : Nat} (hk : k < 16) (h : ¬ x k < y k) (h' : ¬ y k < x k) : lexN x y k (16 - k) = lexN x y (k + 1) (16 - (k + 1)) := by
  have hn : 16 - k = (16 - (k + 1)) + 1 := by omega
  rw [hn, lexN, if_neg h, if_neg h']

set_option maxHeartbeats 400000 in
theorem cmpkeys_any (x y : Nat → Int) (xs ys : Array Value) (hx : ∀ k, k < 16 → xs[k]? = some (.int .u8 (x k))) (hy : ∀ k, k < 16 → ys[k]? = some (.int .u8 (y k))) (w : World) :
    Calls Try.prog 7 #[.agg xs, .agg ys] w fun e w' => e = .returned (.int .i64 (lexN x y 0 16)) ∧ Grown w w' := by
  have hgr : Grown w ((w.alloc (Obj.cells xs 24)).alloc (Obj.cells ys 24)) := ((Grown.refl w).alloc xs 24).alloc ys 24
  have hcx : ∀ k, k < 16 → ((w.alloc (Obj.cells xs 24)).alloc (Obj.cells ys 24)).cell? ⟨w.heap.size, k, none⟩ = some (.int .u8 (x k)) := by
    intro k hk
    rw [World.cell?_alloc_lt (h := by simp), World.cell?_alloc_at (hn := by simp)]
    exact hx k hk
  have hcy : ∀ k, k < 16 → ((w.alloc (Obj.cells xs 24)).alloc (Obj.cells ys 24)).cell? ⟨w.heap.size + 1, k, none⟩ = some (.int .u8 (y k)) := by
    intro k hk
    rw [World.cell?_alloc_at (hn := by simp)]
    exact hy k hk
  go_enter Try.func7, Try.ntmps7
  go_wp2
  go_loopw [5] (fun i wr => ∃ k n : Nat, k ≤ 16 ∧ i = .int .i64 k ∧ wr = ((w.alloc (Obj.cells xs 24)).alloc (Obj.cells ys 24)).drewN n ∧ Hid (lexN x y k (16 - k) = lexN x y 0 16)) (fun i _ => 16 - (intOf i).toNat)
  case atStart => exact ⟨0, 0, by omega, rfl, rfl, rfl⟩
  case round =>
    obtain ⟨k, n, hk, rfl, rfl, HL⟩ := hrel
    by_cases hlt : k < 16
    · have cx := hcx k hlt
      have cy := hcy k hlt
      have hb1 : (0 : Int) ≤ (k : Int) := by omega
      have hb2 : (k : Int) < 16 := by omega
      clear hcx hcy hx hy
      by_cases h1 : x k < y k
      · have HV : Hid (lexN x y 0 16 = -1) := by rw [← HL.out]; exact lexN_lt hlt h1
        go_wp2_with fail
        go_quiet (fail)
        go_wp2
        go_ret
        exact ⟨ret_int HV.out.symm, by repeat (first | exact hgr | apply grown_drewN)⟩
      · by_cases h2 : y k < x k
        · have HV : Hid (lexN x y 0 16 = 1) := by rw [← HL.out]; exact lexN_gt hlt h2
          go_wp2_with fail
          go_quiet (fail)
          go_wp2_with fail
          go_quiet (fail)
          go_wp2
          go_ret
          exact ⟨ret_int HV.out.symm, by repeat (first | exact hgr | apply grown_drewN)⟩
        · have HV : Hid (lexN x y (k + 1) (16 - (k + 1)) = lexN x y 0 16) := by rw [← HL.out]; exact (lexN_eq hlt h1 h2).symm
          go_wp2_with fail
          go_quiet (fail)
          go_wp2_with fail
          go_quiet (fail)
          go_wp2
          go_roundw
          case rel => exact ⟨k + 1, _, by omega, by go_num, rfl, HV⟩
          case measure => simp [intOf]; omega
    · obtain rfl : k = 16 := by omega
      have HV : Hid (lexN x y 0 16 = 0) := by rw [← HL.out]; rfl
      clear HL hlt hk hcx hcy
      go_wp2
      go_ret
      exact ⟨ret_int HV.out.symm, by repeat (first | exact hgr | apply grown_drewN)⟩
end Go.Proofs.Qxb6614373a
