import Derived.Test.Qxb6614373aKeyWalks
namespace Go.Proofs.Qxb6614373a
open Go.RowKit

theorem cmp_lt {a b : Int} (h : a < b) : cmpI a b = -1 := by unfold cmpI; rw [if_pos h]
theorem cmp_gt {a b : Int} (h : b < a) : cmpI a b = 1 := by unfold cmpI; rw [if_neg (by omega), if_pos h]
theorem cmp_eq (a : Int) : cmpI a a = 0 := by unfold cmpI; rw [if_neg (by omega), if_neg (by omega)]
theorem or_zero (b : Int) : orI 0 b = b := rfl
theorem or_one (b : Int) : orI 1 b = 1 := rfl
theorem or_neg (b : Int) : orI (-1) b = -1 := rfl

theorem div_lt_of {a b c : Int} (hc : 0 < c) (h : a / c < b / c) : a < b := by
  apply Int.lt_of_not_ge
  intro hge
  have := Int.ediv_le_ediv hc hge
  omega

theorem pow_pos256 (m : Nat) : (0 : Int) < 256 ^ m := Int.pow_pos (by omega)

theorem lex_block (x y : Nat → Int) (U V : Int) (r : Nat) : ∀ (m k : Nat), (∀ j, j < m → x (k + j) = U / 256 ^ (m - 1 - j) % 256) → (∀ j, j < m → y (k + j) = V / 256 ^ (m - 1 - j) % 256) →
    U / 256 ^ m = V / 256 ^ m → lexN x y k (m + r) = orI (cmpI U V) (lexN x y (k + m) r) := by
  intro m
  induction m with
  | zero =>
    intro k _ _ h
    simp at h
    rw [h, cmp_eq, or_zero]
    simp
  | succ m ih =>
    intro k hx hy h
    have x0 := hx 0 (by omega)
    have y0 := hy 0 (by omega)
    simp only [Nat.add_zero, Nat.sub_zero, Nat.add_sub_cancel] at x0 y0
    rw [Int.pow_succ, ← Int.ediv_ediv_of_nonneg (by have := pow_pos256 m; omega), ← Int.ediv_ediv_of_nonneg (by have := pow_pos256 m; omega)] at h
    rw [show m + 1 + r = (m + r) + 1 by omega, lexN]
    by_cases h1 : x k < y k
    · rw [if_pos h1, cmp_lt (div_lt_of (pow_pos256 m) (by omega)), or_neg]
    · by_cases h2 : y k < x k
      · rw [if_neg h1, if_pos h2, cmp_gt (div_lt_of (pow_pos256 m) (by omega)), or_one]
      · rw [if_neg h1, if_neg h2, ih (k + 1) ?_ ?_ (by omega)]
        · rw [show k + 1 + m = k + (m + 1) by omega]
        · intro j hj
          rw [show k + 1 + j = k + (j + 1) by omega, hx (j + 1) (by omega), show m + 1 - 1 - (j + 1) = m - 1 - j by omega]
        · intro j hj
          rw [show k + 1 + j = k + (j + 1) by omega, hy (j + 1) (by omega), show m + 1 - 1 - (j + 1) = m - 1 - j by omega]

def keyF (U V : Int) (k : Nat) : Int := if k < 8 then U / 256 ^ (7 - k) % 256 else V / 256 ^ (15 - k) % 256

theorem key_lex (U V U' V' : Int) (hU : 0 ≤ U ∧ U < 256 ^ 8) (hV : 0 ≤ V ∧ V < 256 ^ 8) (hU' : 0 ≤ U' ∧ U' < 256 ^ 8) (hV' : 0 ≤ V' ∧ V' < 256 ^ 8) :
    lexN (keyF U V) (keyF U' V') 0 16 = orI (cmpI U U') (cmpI V V') := by
  have e1 := lex_block (keyF U V) (keyF U' V') U U' 8 8 0
    (fun j hj => by unfold keyF; rw [if_pos (by omega)]; simp) (fun j hj => by unfold keyF; rw [if_pos (by omega)]; simp)
    (by rw [Int.ediv_eq_zero_of_lt hU.1 hU.2, Int.ediv_eq_zero_of_lt hU'.1 hU'.2])
  have e2 := lex_block (keyF U V) (keyF U' V') V V' 0 8 8
    (fun j hj => by unfold keyF; rw [if_neg (by omega), show 15 - (8 + j) = 8 - 1 - j by omega]) (fun j hj => by unfold keyF; rw [if_neg (by omega), show 15 - (8 + j) = 8 - 1 - j by omega])
    (by rw [Int.ediv_eq_zero_of_lt hV.1 hV.2, Int.ediv_eq_zero_of_lt hV'.1 hV'.2])
  have e3 : lexN (keyF U V) (keyF U' V') (8 + 8) 0 = 0 := rfl
  have e4 : ∀ a b : Int, orI (cmpI a b) 0 = cmpI a b := fun a b => by unfold orI; split <;> simp_all
  rw [e3, e4] at e2
  rw [show (8 + 8 : Nat) = 16 by rfl, show (0 + 8 : Nat) = 8 by rfl] at e1
  rw [e1]
  rw [show (8 + 0 : Nat) = 8 by rfl] at e2
  rw [e2]

def keyCells (U V : Int) : Array Value :=
  #[.int .u8 (U / 72057594037927936 % 256), .int .u8 (U / 281474976710656 % 256), .int .u8 (U / 1099511627776 % 256), .int .u8 (U / 4294967296 % 256),
    .int .u8 (U / 16777216 % 256), .int .u8 (U / 65536 % 256), .int .u8 (U / 256 % 256), .int .u8 (U % 256),
    .int .u8 (V / 72057594037927936 % 256), .int .u8 (V / 281474976710656 % 256), .int .u8 (V / 1099511627776 % 256), .int .u8 (V / 4294967296 % 256),
    .int .u8 (V / 16777216 % 256), .int .u8 (V / 65536 % 256), .int .u8 (V / 256 % 256), .int .u8 (V % 256)]

theorem keyCells_get (U V : Int) : ∀ k, k < 16 → (keyCells U V)[k]? = some (.int .u8 (keyF U V k)) := by
  intro k hk
  have hs : k = 0 ∨ k = 1 ∨ k = 2 ∨ k = 3 ∨ k = 4 ∨ k = 5 ∨ k = 6 ∨ k = 7 ∨ k = 8 ∨ k = 9 ∨ k = 10 ∨ k = 11 ∨ k = 12 ∨ k = 13 ∨ k = 14 ∨ k = 15 := by omega
  rcases hs with rfl | rfl | rfl | rfl | rfl | rfl | rfl | rfl | rfl | rfl | rfl | rfl | rfl | rfl | rfl | rfl <;> simp [keyCells, keyF]

end Go.Proofs.Qxb6614373a
