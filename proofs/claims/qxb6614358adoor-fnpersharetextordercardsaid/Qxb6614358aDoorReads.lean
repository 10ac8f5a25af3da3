import Derived.Test.Qxb6614358aDoorRead
import Derived.Test.Qxb6614358aDoorLaw
namespace Go.Proofs.Qxb6614358aDoor
open Go.RowKit

theorem bytes_cell {w : World} {b : Nat} {l : List UInt8} (h : BytesAt w b l) (j : Nat) (hj : j < l.length) : w.cell? ⟨b, j, none⟩ = some (.int .u8 (((l.getD j 0).toNat : Nat) : Int)) := by
  rw [h j hj, List.getD_eq_getElem?_getD, List.getElem?_eq_getElem hj]
  rfl

theorem txt_pos {p : Int} (h : ¬ p < 0) : txt p = decL p.natAbs := by unfold txt; rw [if_neg h]
theorem txt_neg {p : Int} (h : p < 0) : txt p = 45 :: decL p.natAbs := by unfold txt; rw [if_pos h]

theorem nd_le (u : Nat) (h : u ≤ 9223372036854775808) : Lib.nDigits (u / 10000) ≤ 20 := Lib.nDigits_le20 _ (by omega)

theorem cast_le {k : Nat} (B : Nat) (h : k ≤ B) : 0 ≤ (k : Int) ∧ (k : Int) ≤ (B : Int) := by omega
theorem cast_step {a b c : Nat} (h : a = b * 10 + c) : (a : Int) = (b : Int) * 10 + (48 + (c : Int) - 48) := by omega
theorem cast_dig {c : Nat} (h : c < 10) : 48 ≤ 48 + (c : Int) ∧ 48 + (c : Int) ≤ 57 := by omega

theorem read_txt_pos (p : Int) (h1 : p ≤ 9223372036854775807) (hn : ¬ p < 0) (b cap : Nat) (w : World) (hB : BytesAt w b (txt p)) :
    Calls Tryd.prog 6 #[.slice (some ⟨b, 0, none⟩) (txt p).length cap] w fun e w' => e = .returned (.tuple #[.bool false, .int .u64 (p.natAbs : Int), .bool true]) ∧ w' = w := by
  have hu : p.natAbs ≤ 9223372036854775808 := by omega
  generalize hup : p.natAbs = u at hu
  have ht : txt p = decL u := by rw [txt_pos hn, hup]
  have hlen := decL_len u
  have hL1 := Lib.nDigits_pos (u / 10000)
  have hL2 := nd_le u hu
  have hfst := first_digit (u / 10000)
  have hlt := Lib.lt_pow_nDigits (u / 10000)
  have hint := dx_int u
  have hfr := dx_fr u
  have hpt := dx_pt u
  rw [ht] at hB ⊢
  rw [hlen]
  generalize hL : Lib.nDigits (u / 10000) = L at *
  have key := read_pos (dx u) (L + 5) L (fun m => ((u / 10000 / 10 ^ (L - m) : Nat) : Int)) (fun r => ((u % 10000 / 10 ^ (L + 5 - r) : Nat) : Int)) b cap w
    (fun j hj => bytes_cell hB j (by omega)) rfl hL1 (by omega)
    (by rw [hint 0 (by omega)]; generalize u / 10000 / 10 ^ (L - 1 - 0) % 10 = z; omega)
    (fun m hm => by rw [hint m hm]; exact cast_dig (Nat.mod_lt _ (by omega)))
    hpt
    (fun m h1 h2 => by
      have := hfr (m - (L + 1)) (by omega)
      rw [show L + 1 + (m - (L + 1)) = m by omega] at this
      rw [this]
      exact cast_dig (Nat.mod_lt _ (by omega)))
    (by simp only [Nat.sub_zero]; rw [Nat.div_eq_of_lt hlt]; rfl)
    (fun m hm => by
      rw [hint m hm, show L - 1 - m = L - (m + 1) by omega]
      have := digit_step (u / 10000) (L - (m + 1))
      rw [show L - (m + 1) + 1 = L - m by omega] at this
      exact cast_step this)
    (fun m _ => by
      exact cast_le 1844674407370954 (Nat.le_trans (Nat.div_le_self _ _) (by omega)))
    (by
      rw [show L + 5 - (L + 1) = 4 by omega, Nat.div_eq_of_lt (show u % 10000 < 10 ^ 4 by omega)]; rfl)
    (fun m h1 h2 => by
      have e := hfr (m - (L + 1)) (by omega)
      rw [show L + 1 + (m - (L + 1)) = m by omega, show 3 - (m - (L + 1)) = L + 5 - (m + 1) by omega] at e
      rw [e]
      have := digit_step (u % 10000) (L + 5 - (m + 1))
      rw [show L + 5 - (m + 1) + 1 = L + 5 - m by omega] at this
      exact cast_step this)
    (fun m _ _ => by
      exact cast_le 9999 (Nat.le_trans (Nat.div_le_self _ _) (by omega)))
    (fun h => by
      rw [hint 0 (by omega)]
      have := hfst h
      rw [Nat.sub_zero]
      generalize u / 10000 / 10 ^ (L - 1) % 10 = z at this
      omega)
  have e : (((u / 10000 / 10 ^ (L - L) : Nat) : Int)) * 10000 + ((u % 10000 / 10 ^ (L + 5 - (L + 5)) : Nat) : Int) = (u : Int) := by
    rw [Nat.sub_self, Nat.sub_self]
    simp only [Nat.pow_zero, Nat.div_one]
    omega
  simp only [e] at key
  exact key

theorem read_txt_neg (p : Int) (h0 : -9223372036854775808 ≤ p) (hn : p < 0) (b cap : Nat) (w : World) (hB : BytesAt w b (txt p)) :
    Calls Tryd.prog 6 #[.slice (some ⟨b, 0, none⟩) (txt p).length cap] w fun e w' => e = .returned (.tuple #[.bool true, .int .u64 (p.natAbs : Int), .bool true]) ∧ w' = w := by
  have hu : p.natAbs ≤ 9223372036854775808 := by omega
  have hu1 : 1 ≤ p.natAbs := by omega
  generalize hup : p.natAbs = u at hu hu1
  have ht : txt p = 45 :: decL u := by rw [txt_neg hn, hup]
  have hlen := decL_len u
  have hL1 := Lib.nDigits_pos (u / 10000)
  have hL2 := nd_le u hu
  have hfst := first_digit (u / 10000)
  have hlt := Lib.lt_pow_nDigits (u / 10000)
  have hint := dx_int u
  have hfr := dx_fr u
  have hpt := dx_pt u
  rw [ht] at hB ⊢
  rw [List.length_cons, hlen]
  generalize hL : Lib.nDigits (u / 10000) = L at *
  have hx : ∀ j, 1 ≤ j → (if j = 0 then (45 : Int) else dx u (j - 1)) = dx u (j - 1) := fun j hj => if_neg (by omega)
  have e : (((u / 10000 / 10 ^ (L + 1 - (L + 1)) : Nat) : Int)) * 10000 + ((u % 10000 / 10 ^ (L + 1 + 5 - (L + 1 + 5)) : Nat) : Int) = (u : Int) := by
    rw [Nat.sub_self, Nat.sub_self]
    simp only [Nat.pow_zero, Nat.div_one]
    omega
  have key := read_neg (fun j => if j = 0 then 45 else dx u (j - 1)) (L + 1 + 5) (L + 1) (fun m => ((u / 10000 / 10 ^ (L + 1 - m) : Nat) : Int)) (fun r => ((u % 10000 / 10 ^ (L + 1 + 5 - r) : Nat) : Int)) b cap w
    (fun j hj => by
      have hc := bytes_cell hB j (by rw [List.length_cons]; omega)
      cases j with
      | zero => exact hc
      | succ i => rw [hx (i + 1) (by omega)]; exact hc)
    rfl (by omega) (by omega) rfl
    (fun m h1 hm => by
      rw [hx m h1, hint (m - 1) (by omega)]; exact cast_dig (Nat.mod_lt _ (by omega)))
    (by rw [hx (L + 1) (by omega)]; exact hpt)
    (fun m h1 h2 => by
      have := hfr (m - (L + 2)) (by omega)
      rw [show L + 1 + (m - (L + 2)) = m - 1 by omega] at this
      rw [hx m (by omega), this]
      exact cast_dig (Nat.mod_lt _ (by omega)))
    (by rw [show L + 1 - 1 = L by omega, Nat.div_eq_of_lt hlt]; rfl)
    (fun m h1 hm => by
      rw [hx m h1, hint (m - 1) (by omega), show L - 1 - (m - 1) = L + 1 - (m + 1) by omega]
      have := digit_step (u / 10000) (L + 1 - (m + 1))
      rw [show L + 1 - (m + 1) + 1 = L + 1 - m by omega] at this
      exact cast_step this)
    (fun m _ _ => by
      exact cast_le 1844674407370954 (Nat.le_trans (Nat.div_le_self _ _) (by omega)))
    (by
      rw [show L + 1 + 5 - (L + 1 + 1) = 4 by omega, Nat.div_eq_of_lt (show u % 10000 < 10 ^ 4 by omega)]; rfl)
    (fun m h1 h2 => by
      have e := hfr (m - (L + 2)) (by omega)
      rw [show L + 1 + (m - (L + 2)) = m - 1 by omega, show 3 - (m - (L + 2)) = L + 1 + 5 - (m + 1) by omega] at e
      rw [hx m (by omega), e]
      have := digit_step (u % 10000) (L + 1 + 5 - (m + 1))
      rw [show L + 1 + 5 - (m + 1) + 1 = L + 1 + 5 - m by omega] at this
      exact cast_step this)
    (fun m _ _ => by
      exact cast_le 9999 (Nat.le_trans (Nat.div_le_self _ _) (by omega)))
    (fun h => by
      rw [hx 1 (by omega), hint 0 (by omega)]
      have := hfst (by omega)
      rw [Nat.sub_zero]
      generalize u / 10000 / 10 ^ (L - 1) % 10 = z at this
      omega)
    (by simp only [e]; omega)
  simp only [e] at key
  exact key
end Go.Proofs.Qxb6614358aDoor
