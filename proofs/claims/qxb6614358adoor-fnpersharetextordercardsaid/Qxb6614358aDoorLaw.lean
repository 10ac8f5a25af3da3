import Derived.Test.Qxb6614358aDoorCmp
namespace Go.Proofs.Qxb6614358aDoor
open Go.RowKit

/-- The four digits of a number below ten thousand. -/
def f4 (t : Nat) : List UInt8 := [UInt8.ofNat (48 + t / 1000 % 10), UInt8.ofNat (48 + t / 100 % 10), UInt8.ofNat (48 + t / 10 % 10), UInt8.ofNat (48 + t % 10)]

theorem dec_step {u : Nat} (h : ¬ u < 10) : Lib.decDigits u = Lib.decDigits (u / 10) ++ [UInt8.ofNat (48 + u % 10)] := by rw [Lib.decDigits, dif_neg h]

theorem padL_eq (u : Nat) : padL u = Lib.decDigits (u / 10000) ++ f4 (u % 10000) := by
  unfold padL
  by_cases h4 : u < 10000
  · have e0 : Lib.decDigits (u / 10000) = [48] := by rw [show u / 10000 = 0 by omega, Lib.decDigits_one (by omega)]; rfl
    rw [e0, Nat.mod_eq_of_lt h4]
    unfold f4
    by_cases h1 : u < 10
    · rw [Lib.decDigits_one h1, show u / 1000 % 10 = 0 by omega, show u / 100 % 10 = 0 by omega, show u / 10 % 10 = 0 by omega, show u % 10 = u by omega]; rfl
    · by_cases h2 : u < 100
      · rw [Lib.decDigits_two h1 h2, show u / 1000 % 10 = 0 by omega, show u / 100 % 10 = 0 by omega, show u / 10 % 10 = u / 10 by omega]; rfl
      · by_cases h3 : u < 1000
        · rw [dec_step h1, Lib.decDigits_two (i := u / 10) (by omega) (by omega), show u / 1000 % 10 = 0 by omega, show u / 10 / 10 = u / 100 % 10 by omega]; rfl
        · rw [dec_step h1, dec_step (u := u / 10) (by omega), Lib.decDigits_two (i := u / 10 / 10) (by omega) (by omega), show u / 10 / 10 / 10 = u / 1000 % 10 by omega, show u / 10 / 10 % 10 = u / 100 % 10 by omega]; rfl
  · have hd : Lib.decDigits u = Lib.decDigits (u / 10000) ++ f4 (u % 10000) := by
      rw [dec_step (u := u) (by omega), dec_step (u := u / 10) (by omega), dec_step (u := u / 10 / 10) (by omega), dec_step (u := u / 10 / 10 / 10) (by omega)]
      unfold f4
      rw [show u / 10 / 10 / 10 / 10 = u / 10000 by omega, show u / 10 / 10 / 10 % 10 = u % 10000 / 1000 % 10 by omega, show u / 10 / 10 % 10 = u % 10000 / 100 % 10 by omega, show u / 10 % 10 = u % 10000 / 10 % 10 by omega, show u % 10 = u % 10000 % 10 by omega]
      simp
    have hl : 5 ≤ (Lib.decDigits u).length := by
      rw [hd, List.length_append, Lib.decDigits_length]
      have := Lib.nDigits_pos (u / 10000)
      simp [f4]
      omega
    rw [show 5 - (Lib.decDigits u).length = 0 by omega, hd]
    rfl

theorem f4_length (t : Nat) : (f4 t).length = 4 := rfl

theorem decL_eq (u : Nat) : decL u = Lib.decDigits (u / 10000) ++ 46 :: f4 (u % 10000) := by
  unfold decL
  rw [padL_eq]
  have hl : (Lib.decDigits (u / 10000) ++ f4 (u % 10000)).length - 4 = (Lib.decDigits (u / 10000)).length := by rw [List.length_append, f4_length]; omega
  rw [hl, List.take_left, List.drop_left]

def dx (u j : Nat) : Int := (((decL u).getD j 0).toNat : Int)

theorem ofNat_dig (d : Nat) (h : d < 10) : ((UInt8.ofNat (48 + d)).toNat : Int) = 48 + (d : Int) := by
  rw [UInt8.toNat_ofNat']
  omega

theorem decL_len (u : Nat) : (decL u).length = Lib.nDigits (u / 10000) + 5 := by
  rw [decL_eq, List.length_append, List.length_cons, f4_length, Lib.decDigits_length]

theorem dx_int (u j : Nat) (h : j < Lib.nDigits (u / 10000)) : dx u j = 48 + ((u / 10000 / 10 ^ (Lib.nDigits (u / 10000) - 1 - j) % 10 : Nat) : Int) := by
  unfold dx
  rw [decL_eq, List.getD_eq_getElem?_getD, List.getElem?_append_left (by rw [Lib.decDigits_length]; exact h), Lib.decDigits_eq, List.getElem?_map, List.getElem?_range h]
  exact ofNat_dig _ (Nat.mod_lt _ (by omega))

theorem dx_pt (u : Nat) : dx u (Lib.nDigits (u / 10000)) = 46 := by
  unfold dx
  rw [decL_eq, List.getD_eq_getElem?_getD, List.getElem?_append_right (by rw [Lib.decDigits_length]; omega), Lib.decDigits_length, Nat.sub_self]
  rfl

theorem dx_fr (u j : Nat) (h : j < 4) : dx u (Lib.nDigits (u / 10000) + 1 + j) = 48 + ((u % 10000 / 10 ^ (3 - j) % 10 : Nat) : Int) := by
  unfold dx
  rw [decL_eq, List.getD_eq_getElem?_getD, List.getElem?_append_right (by rw [Lib.decDigits_length]; omega), Lib.decDigits_length, show Lib.nDigits (u / 10000) + 1 + j - Lib.nDigits (u / 10000) = j + 1 by omega, List.getElem?_cons_succ]
  have hj : j = 0 ∨ j = 1 ∨ j = 2 ∨ j = 3 := by omega
  rcases hj with rfl | rfl | rfl | rfl
  · exact ofNat_dig _ (Nat.mod_lt _ (by omega))
  · exact ofNat_dig _ (Nat.mod_lt _ (by omega))
  · exact ofNat_dig _ (Nat.mod_lt _ (by omega))
  · have := ofNat_dig (u % 10000 % 10) (Nat.mod_lt _ (by omega))
    simpa [f4] using this

theorem pow_le_of_digits : ∀ (u : Nat), 1 < Lib.nDigits u → 10 ^ (Lib.nDigits u - 1) ≤ u := by
  intro u
  induction u using Nat.strongRecOn with
  | _ u ih =>
    intro h
    by_cases h10 : u < 10
    · rw [Lib.nDigits_small h10] at h; omega
    · rw [Lib.nDigits_big h10]
      have hp := Lib.nDigits_pos (u / 10)
      by_cases h1 : 1 < Lib.nDigits (u / 10)
      · have := ih (u / 10) (by omega) h1
        rw [show Lib.nDigits (u / 10) + 1 - 1 = (Lib.nDigits (u / 10) - 1) + 1 by omega, Nat.pow_succ]
        omega
      · rw [show Lib.nDigits (u / 10) + 1 - 1 = 1 by omega]
        omega

/-- The numeral's first digit is no zero, where it has more than one. -/
theorem first_digit (v : Nat) (h : 1 < Lib.nDigits v) : v / 10 ^ (Lib.nDigits v - 1) % 10 ≠ 0 := by
  have h1 := pow_le_of_digits v h
  have h2 := Lib.lt_pow_nDigits v
  have hp : 0 < 10 ^ (Lib.nDigits v - 1) := Nat.pow_pos (by omega)
  have h3 : v / 10 ^ (Lib.nDigits v - 1) < 10 := by
    apply Nat.div_lt_of_lt_mul
    rw [← Nat.pow_succ, show (Lib.nDigits v - 1).succ = Lib.nDigits v by omega]
    exact h2
  have h4 : 1 ≤ v / 10 ^ (Lib.nDigits v - 1) := (Nat.le_div_iff_mul_le hp).2 (by omega)
  omega

theorem digit_step (v k : Nat) : v / 10 ^ k = v / 10 ^ (k + 1) * 10 + v / 10 ^ k % 10 := by
  rw [Nat.pow_succ, ← Nat.div_div_eq_div_mul]
  omega
end Go.Proofs.Qxb6614358aDoor
