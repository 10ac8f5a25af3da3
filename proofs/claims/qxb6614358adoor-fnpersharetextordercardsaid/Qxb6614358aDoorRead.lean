import Derived.Test.Qxb6614358aDoorFormat
namespace Go.Proofs.Qxb6614358aDoor
open Go.RowKit

set_option maxHeartbeats 1000000 in
theorem read_pos (x : Nat → Int) (n q : Nat) (V G : Nat → Int) (b cap : Nat) (w : World)
    (hc : ∀ j, j < n → w.cell? ⟨b, j, none⟩ = some (.int .u8 (x j)))
    (hn : n = q + 5) (hq : 1 ≤ q) (hq20 : q ≤ 30) (h0 : x 0 ≠ 45)
    (hdig : ∀ m, m < q → 48 ≤ x m ∧ x m ≤ 57) (hpt : x q = 46)
    (hfr : ∀ m, q + 1 ≤ m → m < q + 5 → 48 ≤ x m ∧ x m ≤ 57)
    (V0 : V 0 = 0) (VS : ∀ m, m < q → V (m + 1) = V m * 10 + (x m - 48)) (Vb : ∀ m, m ≤ q → 0 ≤ V m ∧ V m ≤ 1844674407370954)
    (G0 : G (q + 1) = 0) (GS : ∀ m, q + 1 ≤ m → m < q + 5 → G (m + 1) = G m * 10 + (x m - 48)) (Gb : ∀ m, q + 1 ≤ m → m ≤ q + 5 → 0 ≤ G m ∧ G m ≤ 9999)
    (hz : 1 < q → x 0 ≠ 48) :
    Calls Tryd.prog 6 #[.slice (some ⟨b, 0, none⟩) n cap] w fun e w' => e = .returned (.tuple #[.bool false, .int .u64 (V q * 10000 + G (q + 5)), .bool true]) ∧ w' = w := by
  have c0 := hc 0 (by omega)
  have t0 : (x 0 == 45) = false := by simpa using h0
  skip
  have n0 : (0 : Int) < (n : Int) := by omega
  have n1 : (1 : Int) < (n : Int) := by omega
  have HC := Lib.hid hc
  have HD := Lib.hid hdig
  have HF := Lib.hid hfr
  have HV := Lib.hid VS
  have HVb := Lib.hid Vb
  have HG := Lib.hid GS
  have HGb := Lib.hid Gb
  have HV0 := Lib.hid V0
  have HG0 := Lib.hid G0
  have HP := Lib.hid hpt
  have HN := Lib.hid hn
  have HZ := Lib.hid hz
  skip
  clear hc hdig hfr VS Vb GS Gb V0 G0 hpt h0 hz hn
  go_enter Tryd.func6, Tryd.ntmps6
  go_wp2
  go_loop [6, 8] (fun i a => ∃ m : Nat, 0 ≤ m ∧ m ≤ q ∧ i = .int .i64 m ∧ a = .int .u64 (V m)) (fun i _ => q - (intOf i).toNat)
  case atStart => exact ⟨0, by omega, by omega, rfl, by rw [HV0.out]⟩
  case round =>
    obtain ⟨m, hlo, hm, rfl, rfl⟩ := hrel
    have hnn := HN.out
    have cm := HC.out m (by omega)
    have vb := HVb.out m hm
    have hmn : (m : Int) < (n : Int) := by omega
    clear hnn
    by_cases hlt : m < q
    · have db := HD.out m hlt
      have HS := Lib.hid (HV.out m hlt)
      obtain ⟨db1, db2⟩ := db
      obtain ⟨vb1, vb2⟩ := vb
      go_wp2
      go_round
      case rel => exact ⟨m + 1, by omega, by omega, by go_num, by rw [HS.out]⟩
      case measure => simp [intOf]; omega
    · obtain rfl : m = q := by omega
      have xp := HP.out
      clear hlt hm
      have cp : w.cell? ⟨b, m, none⟩ = some (.int .u8 46) := by rw [cm, xp]
      have t1 : ((m : Int) == 0) = false := by simp; omega
      have t2 : (m : Int) ≤ 1 ∨ (1 < (m : Int) ∧ (x 0 == 48) = false) := by
        by_cases h : 1 < m
        · exact Or.inr ⟨by omega, by simpa using HZ.out h⟩
        · exact Or.inl (by omega)
      have hn2 : (n : Int) - ((m : Int) + 1) = 4 := by have := HN.out; omega
      have gb := HGb.out (m + 5) (by omega) (by omega)
      clear xp cm
      rcases t2 with t2 | ⟨t2, t3⟩
      all_goals
        go_wp2
        go_loop [6, 10] (fun i g => ∃ r : Nat, m + 1 ≤ r ∧ r ≤ m + 5 ∧ i = .int .i64 r ∧ g = .int .u64 (G r)) (fun i _ => m + 5 - (intOf i).toNat)
        case atStart => exact ⟨m + 1, by omega, by omega, by go_num, by rw [HG0.out]⟩
        case round =>
          obtain ⟨r, hr1, hr2, rfl, rfl⟩ := hrel
          have hnn := HN.out
          by_cases hlt : r < m + 5
          · have cr := HC.out r (by omega)
            have hrn : (r : Int) < (n : Int) := by omega
            obtain ⟨fb1, fb2⟩ := HF.out r hr1 hlt
            obtain ⟨rb1, rb2⟩ := HGb.out r hr1 hr2
            have HS := Lib.hid (HG.out r hr1 hlt)
            clear hnn t1 hn2 cp
            go_wp2
            go_round
            case rel => exact ⟨r + 1, by omega, by omega, by go_num, by rw [HS.out]⟩
            case measure => simp [intOf]; omega
          · obtain rfl : r = m + 5 := by omega
            have hrn : ¬ (((m + 5 : Nat) : Int)) < (n : Int) := by omega
            have hrn' : ¬ ((m : Int) + 5) < (n : Int) := by omega
            obtain ⟨vb1, vb2⟩ := vb
            obtain ⟨gb1, gb2⟩ := gb
            skip
            clear hnn t1 hn2 cp hlt hr1 hr2
            go_wp2
            go_ret3
            exact ⟨rfl, rfl⟩

set_option maxHeartbeats 1000000 in
theorem read_neg (x : Nat → Int) (n q : Nat) (V G : Nat → Int) (b cap : Nat) (w : World)
    (hc : ∀ j, j < n → w.cell? ⟨b, j, none⟩ = some (.int .u8 (x j)))
    (hn : n = q + 5) (hq : 2 ≤ q) (hq20 : q ≤ 30) (h0 : x 0 = 45)
    (hdig : ∀ m, 1 ≤ m → m < q → 48 ≤ x m ∧ x m ≤ 57) (hpt : x q = 46)
    (hfr : ∀ m, q + 1 ≤ m → m < q + 5 → 48 ≤ x m ∧ x m ≤ 57)
    (V0 : V 1 = 0) (VS : ∀ m, 1 ≤ m → m < q → V (m + 1) = V m * 10 + (x m - 48)) (Vb : ∀ m, 1 ≤ m → m ≤ q → 0 ≤ V m ∧ V m ≤ 1844674407370954)
    (G0 : G (q + 1) = 0) (GS : ∀ m, q + 1 ≤ m → m < q + 5 → G (m + 1) = G m * 10 + (x m - 48)) (Gb : ∀ m, q + 1 ≤ m → m ≤ q + 5 → 0 ≤ G m ∧ G m ≤ 9999)
    (hz : 2 < q → x 1 ≠ 48)
    (hnz : V q * 10000 + G (q + 5) ≠ 0) :
    Calls Tryd.prog 6 #[.slice (some ⟨b, 0, none⟩) n cap] w fun e w' => e = .returned (.tuple #[.bool true, .int .u64 (V q * 10000 + G (q + 5)), .bool true]) ∧ w' = w := by
  have t0 : w.cell? ⟨b, 0, none⟩ = some (.int .u8 45) := by rw [hc 0 (by omega), h0]
  have c1 := hc 1 (by omega)
  have n0 : (0 : Int) < (n : Int) := by omega
  have n1 : (1 : Int) < (n : Int) := by omega
  have HC := Lib.hid hc
  have HD := Lib.hid hdig
  have HF := Lib.hid hfr
  have HV := Lib.hid VS
  have HVb := Lib.hid Vb
  have HG := Lib.hid GS
  have HGb := Lib.hid Gb
  have HV0 := Lib.hid V0
  have HG0 := Lib.hid G0
  have HP := Lib.hid hpt
  have HN := Lib.hid hn
  have HZ := Lib.hid hz
  have HNZ := Lib.hid hnz
  clear hc hdig hfr VS Vb GS Gb V0 G0 hpt h0 hz hn hnz
  go_enter Tryd.func6, Tryd.ntmps6
  go_wp2
  go_loop [6, 8] (fun i a => ∃ m : Nat, 1 ≤ m ∧ m ≤ q ∧ i = .int .i64 m ∧ a = .int .u64 (V m)) (fun i _ => q - (intOf i).toNat)
  case atStart => exact ⟨1, by omega, by omega, rfl, by rw [HV0.out]⟩
  case round =>
    obtain ⟨m, hlo, hm, rfl, rfl⟩ := hrel
    have hnn := HN.out
    have cm := HC.out m (by omega)
    have vb := HVb.out m (by omega) hm
    have hmn : (m : Int) < (n : Int) := by omega
    clear hnn
    by_cases hlt : m < q
    · have db := HD.out m (by omega) hlt
      have HS := Lib.hid (HV.out m (by omega) hlt)
      obtain ⟨db1, db2⟩ := db
      obtain ⟨vb1, vb2⟩ := vb
      go_wp2
      go_round
      case rel => exact ⟨m + 1, by omega, by omega, by go_num, by rw [HS.out]⟩
      case measure => simp [intOf]; omega
    · obtain rfl : m = q := by omega
      have xp := HP.out
      clear hlt hm
      have cp : w.cell? ⟨b, m, none⟩ = some (.int .u8 46) := by rw [cm, xp]
      have t1 : (((m : Int) - 1) == 0) = false := by simp; omega
      have t2 : ((m : Int) - 1) ≤ 1 ∨ (1 < ((m : Int) - 1) ∧ (x 1 == 48) = false) := by
        by_cases h : 2 < m
        · exact Or.inr ⟨by omega, by simpa using HZ.out h⟩
        · exact Or.inl (by omega)
      have hn2 : (n : Int) - ((m : Int) + 1) = 4 := by have := HN.out; omega
      have gb := HGb.out (m + 5) (by omega) (by omega)
      clear xp cm
      rcases t2 with t2 | ⟨t2, t3⟩
      all_goals
        go_wp2
        go_loop [6, 10] (fun i g => ∃ r : Nat, m + 1 ≤ r ∧ r ≤ m + 5 ∧ i = .int .i64 r ∧ g = .int .u64 (G r)) (fun i _ => m + 5 - (intOf i).toNat)
        case atStart => exact ⟨m + 1, by omega, by omega, by go_num, by rw [HG0.out]⟩
        case round =>
          obtain ⟨r, hr1, hr2, rfl, rfl⟩ := hrel
          have hnn := HN.out
          by_cases hlt : r < m + 5
          · have cr := HC.out r (by omega)
            have hrn : (r : Int) < (n : Int) := by omega
            obtain ⟨fb1, fb2⟩ := HF.out r hr1 hlt
            obtain ⟨rb1, rb2⟩ := HGb.out r hr1 hr2
            have HS := Lib.hid (HG.out r hr1 hlt)
            clear hnn t1 hn2 cp
            go_wp2
            go_round
            case rel => exact ⟨r + 1, by omega, by omega, by go_num, by rw [HS.out]⟩
            case measure => simp [intOf]; omega
          · obtain rfl : r = m + 5 := by omega
            have hrn : ¬ (((m + 5 : Nat) : Int)) < (n : Int) := by omega
            have hrn' : ¬ ((m : Int) + 5) < (n : Int) := by omega
            obtain ⟨vb1, vb2⟩ := vb
            obtain ⟨gb1, gb2⟩ := gb
            have t9 : (V m * 10000 + G (m + 5) == 0) = false := by simpa using HNZ.out
            clear hnn t1 hn2 cp hlt hr1 hr2
            go_wp2
            go_ret3
            exact ⟨rfl, rfl⟩

end Go.Proofs.Qxb6614358aDoor
