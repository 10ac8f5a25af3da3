import Derived.Test.Qxb6614373aReq
import Derived.Laws.Bits64
namespace Go.Proofs.Qxb6614373a
open Go.RowKit

theorem ofInt16 (a : Nat) (ha : a < 65536) : (BitVec.ofInt 16 (a : Int)).toNat = a := by
  rw [BitVec.ofInt_natCast, BitVec.toNat_ofNat]; exact Nat.mod_eq_of_lt (by omega)

theorem bits_and_u16 (a b : Nat) (ha : a < 65536) (hb : b < 65536) : bits .and .u16 (a : Int) (b : Int) = ((a &&& b : Nat) : Int) := by
  have hx : a &&& b < 2 ^ 16 := Nat.and_lt_two_pow _ (by omega)
  show IntKind.u16.wrap ((BitVec.ofInt 16 (a : Int) &&& BitVec.ofInt 16 (b : Int)).toNat : Int) = _
  rw [BitVec.toNat_and, ofInt16 a ha, ofInt16 b hb, IntKind.wrap_u16]
  omega
theorem bits_or_u16 (a b : Nat) (ha : a < 65536) (hb : b < 65536) : bits .or .u16 (a : Int) (b : Int) = ((a ||| b : Nat) : Int) := by
  have hx : a ||| b < 2 ^ 16 := Nat.or_lt_two_pow (by omega) (by omega)
  show IntKind.u16.wrap ((BitVec.ofInt 16 (a : Int) ||| BitVec.ofInt 16 (b : Int)).toNat : Int) = _
  rw [BitVec.toNat_or, ofInt16 a ha, ofInt16 b hb, IntKind.wrap_u16]
  omega
theorem bits_andNot_u16 (a b : Nat) (ha : a < 65536) (hb : b < 65536) : bits .andNot .u16 (a : Int) (b : Int) = ((a &&& (65535 - b) : Nat) : Int) := by
  have hx : a &&& (65535 - b) < 2 ^ 16 := Nat.and_lt_two_pow _ (by omega)
  show IntKind.u16.wrap ((BitVec.ofInt 16 (a : Int) &&& ~~~ BitVec.ofInt 16 (b : Int)).toNat : Int) = _
  rw [BitVec.toNat_and, BitVec.toNat_not, ofInt16 a ha, ofInt16 b hb, IntKind.wrap_u16]
  rw [show 2 ^ 16 - 1 - b = 65535 - b by omega]
  omega

theorem pow_wrap (m : Nat) (hm : m < 16) : IntKind.u16.wrap (2 ^ m) = ((2 ^ m : Nat) : Int) := by
  have h : 2 ^ m < 2 ^ 16 := Nat.pow_lt_pow_right (by omega) hm
  rw [IntKind.wrap_u16, show ((2 : Int) ^ m) = ((2 ^ m : Nat) : Int) by simp]
  generalize 2 ^ m = z at h
  omega

theorem and_pow (M m : Nat) (hM : M < 65536) (hm : m < 16) : (bits BinOp.and IntKind.u16 (↑M) (IntKind.u16.wrap (2 ^ m)) != 0) = M.testBit m := by
  have h : 2 ^ m < 2 ^ 16 := Nat.pow_lt_pow_right (by omega) hm
  have hp : 0 < 2 ^ m := Nat.pow_pos (by omega)
  rw [pow_wrap m hm, bits_and_u16 M _ hM (by omega)]
  cases ht : M.testBit m
  · have e : M &&& 2 ^ m = 0 := by
      apply Nat.eq_of_testBit_eq
      intro i
      rw [Nat.testBit_and, Nat.testBit_two_pow, Nat.zero_testBit]
      by_cases hi : m = i
      · subst hi; rw [ht]; rfl
      · simp [hi]
    rw [e]; rfl
  · have e : M &&& 2 ^ m ≠ 0 := by
      intro e
      have := congrArg (fun z => z.testBit m) e
      simp only [Nat.testBit_and, Nat.testBit_two_pow_self, ht, Nat.zero_testBit] at this
      simp at this
    generalize M &&& 2 ^ m = z at e
    simp
    omega

theorem ret_bool {a b : Bool} (h : a = b) : Ending.returned (.bool a) = .returned (.bool b) := by rw [h]

set_option maxHeartbeats 400000 in
theorem has_any (M m : Nat) (w : World) (hM : M < 65536) (hm : m < 16) :
    Calls Try.prog 30 #[.int .u16 M, .int .u8 m] w fun e w' => e = .returned (.bool (M.testBit m)) ∧ w' = w := by
  have hm' : (m : Int) < 16 := by omega
  have H : Hid _ := and_pow M m hM hm
  go_enter Try.func30, Try.ntmps30
  go_wp2
  go_ret
  exact ⟨ret_bool H.out, rfl⟩

set_option maxHeartbeats 400000 in
theorem bit_any (M m : Nat) (w : World) (hM : M < 65536) (hm : m < 16) :
    Calls Try.prog 18 #[.int .u16 M, .int .i64 m] w fun e w' => e = .returned (.bool (M.testBit m)) ∧ w' = w := by
  have hm' : (m : Int) < 16 := by omega
  have H : Hid _ := and_pow M m hM hm
  go_enter Try.func18, Try.ntmps18
  go_wp2
  go_ret
  exact ⟨ret_bool H.out, rfl⟩

theorem or_step (k : Nat) (hk : k < 16) : bits BinOp.or IntKind.u16 ((2 ^ k - 1 : Nat) : Int) (IntKind.u16.wrap (2 ^ k)) = ((2 ^ (k + 1) - 1 : Nat) : Int) := by
  have h : 2 ^ k < 2 ^ 16 := Nat.pow_lt_pow_right (by omega) hk
  have hp : 0 < 2 ^ k := Nat.pow_pos (by omega)
  rw [pow_wrap k hk, bits_or_u16 _ _ (by omega) (by omega)]
  have e := Nat.two_pow_add_eq_or_of_lt (b := 2 ^ k - 1) (i := k) (by omega) 1
  rw [Nat.mul_one, Nat.or_comm] at e
  rw [← e, Nat.pow_succ]
  congr 1
  omega

/-- The modes below a cut. -/
def lowMask (c : Nat) : Nat := 2 ^ (min 16 c) - 1
theorem lowMask_lt (c : Nat) : lowMask c < 65536 := by
  unfold lowMask
  have : 2 ^ (min 16 c) ≤ 2 ^ 16 := Nat.pow_le_pow_right (by omega) (Nat.min_le_left _ _)
  omega
theorem lowMask_bit (c m : Nat) (hm : m < 16) : (lowMask c).testBit m = decide (m < c) := by
  unfold lowMask
  rw [Nat.testBit_two_pow_sub_one]
  congr 1
  simp only [eq_iff_iff]
  omega

theorem ret_u16 {a b : Int} (h : a = b) : Ending.returned (.int .u16 a) = .returned (.int .u16 b) := by rw [h]

set_option maxHeartbeats 400000 in
theorem below_any (c : Nat) (w : World) (hm : c < 256) :
    Calls Try.prog 15 #[.int .u8 c] w fun e w' => e = .returned (.int .u16 (lowMask c : Int)) ∧ w' = w := by
  have hm' : (c : Int) < 256 := by omega
  go_enter Try.func15, Try.ntmps15
  go_wp2
  go_loop [3, 4] (fun s i => ∃ k : Nat, k ≤ 16 ∧ k ≤ c ∧ i = .int .i64 k ∧ ∃ X : Int, s = .int .u16 X ∧ Hid (X = ((2 ^ k - 1 : Nat) : Int))) (fun _ i => 16 - (intOf i).toNat)
  case atStart => exact ⟨0, by omega, by omega, rfl, 0, rfl, rfl⟩
  case round =>
    obtain ⟨k, hk, hkc, rfl, X, rfl, HX⟩ := hrel
    by_cases h1 : k < 16
    · have h1' : (k : Int) < 16 := by omega
      by_cases h2 : k < c
      · have h2' : (k : Int) < (c : Int) := by omega
        have H : Hid _ := or_step k h1
        go_wp2
        go_round
        case rel => exact ⟨k + 1, by omega, by omega, by go_num, _, rfl, by show _ = _; rw [HX.out]; exact H.out⟩
        case measure => simp [intOf]; omega
      · have h2' : ¬ (k : Int) < (c : Int) := by omega
        go_wp2
        go_ret
        exact ⟨ret_u16 (by rw [HX.out]; unfold lowMask; rw [show min 16 c = k by omega]), rfl⟩
    · have h1' : ¬ (k : Int) < 16 := by omega
      go_wp2
      go_ret
      exact ⟨ret_u16 (by rw [HX.out]; unfold lowMask; rw [show min 16 c = k by omega]), rfl⟩

set_option maxHeartbeats 400000 in
theorem valid_yes (k : Nat) (w : World) (h0 : 0 < k) (h7 : k < 7) :
    Calls Try.prog 29 #[.int .u8 k] w fun e w' => e = .returned (.bool true) ∧ w' = w := by
  have a0 : (0 : Int) < (k : Int) := by omega
  have a7 : (k : Int) < 7 := by omega
  go_enter Try.func29, Try.ntmps29
  go_wp2
  go_ret
  exact ⟨rfl, rfl⟩
set_option maxHeartbeats 400000 in
theorem valid_no (w : World) :
    Calls Try.prog 29 #[.int .u8 7] w fun e w' => e = .returned (.bool false) ∧ w' = w := by
  go_enter Try.func29, Try.ntmps29
  go_wp2
  go_ret
  exact ⟨rfl, rfl⟩
end Go.Proofs.Qxb6614373a
