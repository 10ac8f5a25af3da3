import Derived.Test.Qxb6614277aSt
namespace Go.Proofs.Qxb6614277a
open Go.RowKit

set_option maxHeartbeats 1000000 in
set_option maxRecDepth 100000 in
theorem swr_any (Q : Nat → Prop) (w0 : World) (blk n cap : Nat) (f : Nat → Nat) (a b c : Nat) (v : Value) (W : World) (h : St Q w0 blk n f W) (hab : a + c ≤ b) (hbn : b + c ≤ n) (hn : n ≤ 1048576) :
    Calls Try.prog 37 #[.slice (some ⟨blk, 0, none⟩) n cap, .int .i64 a, .int .i64 b, .int .i64 c, v] W fun e W' => e = .returned (.tuple #[]) ∧ St Q w0 blk n (swr f a b c) W' := by
  have HS := Lib.hid h
  clear h
  go_enter Try.func37, Try.ntmps37
  go_wp2
  go_loopw [10] (fun i wr => ∃ k : Nat, k ≤ c ∧ i = .int .i64 k ∧ Hid (St Q w0 blk n (swr f a b k) wr)) (fun i _ => c - (intOf i).toNat)
  case atStart => exact ⟨0, by omega, rfl, by rw [swr_zero]; exact HS⟩
  case round =>
    obtain ⟨k, hk, rfl, HI⟩ := hrel
    by_cases hlt : k < c
    · have h1 : (k : Int) < (c : Int) := by omega
      obtain ⟨c1, f1⟩ := HI.out.row.2 (a + k) (by omega)
      obtain ⟨c2, f2⟩ := HI.out.row.2 (b + k) (by omega)
      generalize hp : swr f a b k = g at *
      have HP := Lib.hid hp
      have i1 : (a : Int) + (k : Int) < (n : Int) := by omega
      have i2 : (b : Int) + (k : Int) < (n : Int) := by omega
      have i3 : (0 : Int) ≤ (a : Int) + (k : Int) := by omega
      have i4 : (0 : Int) ≤ (b : Int) + (k : Int) := by omega
      have i5 : ((a : Int) + (k : Int)).toNat = a + k := by omega
      have i6 : ((b : Int) + (k : Int)).toNat = b + k := by omega
      clear hp
      go_wp2_with fail
      go_region
      go_wp2
      go_roundw
      case rel =>
        refine ⟨k + 1, by omega, by go_num, ?_⟩
        show St _ _ _ _ _ _
        rw [← swr_succ f a b k (by omega), HP.out]
        exact (HI.out.drewN 1).swap (by omega) (by omega)
      case measure => simp [intOf]; omega
    · obtain rfl : k = c := by omega
      go_wp2
      go_end0
      exact ⟨rfl, HI.out⟩
end Go.Proofs.Qxb6614277a
