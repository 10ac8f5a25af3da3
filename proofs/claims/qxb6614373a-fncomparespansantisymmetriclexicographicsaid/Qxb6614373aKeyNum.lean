import Derived.Test.Qxb6614373aKeyLaw
import Derived.Laws.Bits64
namespace Go.Proofs.Qxb6614373a
open Go.RowKit

theorem nat_xor_top (n : Nat) (h : n < 18446744073709551616) : n ^^^ 9223372036854775808 = if n < 9223372036854775808 then n + 9223372036854775808 else n - 9223372036854775808 := by
  have e1 : (n ^^^ 2 ^ 63) / 2 ^ 63 = n / 2 ^ 63 ^^^ 2 ^ 63 / 2 ^ 63 := Nat.xor_div_two_pow
  have e2 : (n ^^^ 2 ^ 63) % 2 ^ 63 = n % 2 ^ 63 ^^^ 2 ^ 63 % 2 ^ 63 := Nat.xor_mod_two_pow
  rw [show (2 ^ 63 : Nat) = 9223372036854775808 by rfl] at e1 e2
  rw [show 9223372036854775808 / 9223372036854775808 = 1 by rfl] at e1
  rw [show 9223372036854775808 % 9223372036854775808 = 0 by rfl, Nat.xor_zero] at e2
  generalize n ^^^ 9223372036854775808 = X at e1 e2 ⊢
  by_cases hn : n < 9223372036854775808
  · rw [if_pos hn]
    rw [show n / 9223372036854775808 = 0 by omega, show (0 ^^^ 1 : Nat) = 1 by rfl] at e1
    omega
  · rw [if_neg hn]
    rw [show n / 9223372036854775808 = 1 by omega, show (1 ^^^ 1 : Nat) = 0 by rfl] at e1
    omega

theorem key_num (a : Int) (h1 : -9223372036854775808 ≤ a) (h2 : a ≤ 9223372036854775807) : bits BinOp.xor IntKind.u64 (IntKind.u64.wrap a) 9223372036854775808 = a + 9223372036854775808 := by
  obtain ⟨n, hn⟩ : ∃ n : Nat, (n : Int) = IntKind.u64.wrap a := ⟨(IntKind.u64.wrap a).toNat, by rw [IntKind.wrap_u64]; omega⟩
  have hlt : n < 18446744073709551616 := by rw [IntKind.wrap_u64] at hn; omega
  rw [← hn]
  have := bits_xor_u64_nat n 9223372036854775808 hlt (by omega)
  rw [show ((9223372036854775808 : Nat) : Int) = 9223372036854775808 by rfl] at this
  rw [this, nat_xor_top n hlt]
  rw [IntKind.wrap_u64] at hn
  split <;> omega

set_option maxHeartbeats 400000 in
theorem key_any (a b : Int) (w : World) :
    Calls Try.prog 8 #[.int .i64 a, .int .i64 b] w fun e w' => e = .returned (.agg (keyCells (bits BinOp.xor IntKind.u64 (IntKind.u64.wrap a) 9223372036854775808) (bits BinOp.xor IntKind.u64 (IntKind.u64.wrap b) 9223372036854775808))) ∧ Grown w w' := by
  go_enter Try.func8, Try.ntmps8
  go_wp2
  go_rounds 9
  refine bodyPost_ret (v := .agg (keyCells (bits BinOp.xor IntKind.u64 (IntKind.u64.wrap a) 9223372036854775808) (bits BinOp.xor IntKind.u64 (IntKind.u64.wrap b) 9223372036854775808))) ?_ rfl ⟨rfl, ?_⟩
  · simp [results, Try.results8, keyCells, go_sem]
  · exact ((Grown.refl w).alloc _ 24).alloc _ 24
end Go.Proofs.Qxb6614373a
