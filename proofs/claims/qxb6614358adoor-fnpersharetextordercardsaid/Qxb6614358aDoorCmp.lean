import Derived.Test.Qxb6614358aDoorFormat
namespace Go.Proofs.Qxb6614358aDoor
open Go.RowKit

set_option maxHeartbeats 400000 in
theorem minus_any (y : Nat → Int) (n b b' cap cap' : Nat) (w : World) (hx0 : w.cell? ⟨b, 0, none⟩ = some (.int .u8 45)) (hx : ∀ j, j < n → w.cell? ⟨b, j + 1, none⟩ = some (.int .u8 (y j)))
    (hy : ∀ j, j < n → w.cell? ⟨b', j, none⟩ = some (.int .u8 (y j))) (hn : n ≤ 100) :
    Calls Tryd.prog 8 #[.slice (some ⟨b, 0, none⟩) (n + 1) cap, .slice (some ⟨b', 0, none⟩) n cap'] w fun e w' => e = .returned (.bool true) ∧ ∃ k, w' = w.drewN k := by
  have HX := Lib.hid hx
  have HY := Lib.hid hy
  clear hx hy
  go_enter Tryd.func8, Tryd.ntmps8
  go_wp2
  go_loopw [5] (fun i wr => ∃ m k : Nat, m ≤ n ∧ i = .int .i64 m ∧ wr = w.drewN k) (fun i _ => n - (intOf i).toNat)
  case atStart => exact ⟨0, 0, by omega, rfl, rfl⟩
  case round =>
    obtain ⟨m, k, hm, rfl, rfl⟩ := hrel
    by_cases hlt : m < n
    · have cx := HX.out m hlt
      have cy := HY.out m hlt
      have h1 : (m : Int) < (n : Int) := by omega
      have h2 : (m : Int) + 1 < (n : Int) + 1 := by omega
      go_wp2_with fail
      go_quiet (fail)
      go_wp2
      go_roundw
      case rel => exact ⟨m + 1, _, by omega, by go_num, rfl⟩
      case measure => simp [intOf]; omega
    · go_wp2
      go_ret
      exact ⟨rfl, _, rfl⟩

/-- The order of two rows from place k on, n places long. -/
def lexN (x y : Nat → Int) (k : Nat) : Nat → Int
  | 0 => 0
  | n + 1 => if x k < y k then -1 else if y k < x k then 1 else lexN x y (k + 1) n

theorem lexN_lt {x y : Nat → Int} {k n : Nat} (hk : k < n) (h : x k < y k) : lexN x y k (n - k) = -1 := by
  obtain ⟨r, hr⟩ : ∃ r, n - k = r + 1 := ⟨n - k - 1, by omega⟩
  rw [hr, lexN, if_pos h]
theorem lexN_gt {x y : Nat → Int} {k n : Nat} (hk : k < n) (h : y k < x k) : lexN x y k (n - k) = 1 := by
  obtain ⟨r, hr⟩ : ∃ r, n - k = r + 1 := ⟨n - k - 1, by omega⟩
  rw [hr, lexN, if_neg (by omega), if_pos h]
theorem lexN_eq {x y : Nat → Int} {k n : Nat} (hk : k < n) (h : ¬ x k < y k) (h' : ¬ y k < x k) : lexN x y k (n - k) = lexN x y (k + 1) (n - (k + 1)) := by
  have hn : n - k = (n - (k + 1)) + 1 := by omega
  rw [hn, lexN, if_neg h, if_neg h']

set_option maxHeartbeats 400000 in
theorem mag_len_lt (b o b' o' n n' cap cap' : Nat) (w : World) (h : n < n') :
    Calls Tryd.prog 11 #[.slice (some ⟨b, o, none⟩) n cap, .slice (some ⟨b', o', none⟩) n' cap'] w fun e w' => e = .returned (.int .i64 (-1)) ∧ ∃ k, w' = w.drewN k := by
  have h' : (n : Int) < (n' : Int) := by omega
  go_enter Tryd.func11, Tryd.ntmps11
  go_wp2
  go_ret
  exact ⟨rfl, 0, rfl⟩
set_option maxHeartbeats 400000 in
theorem mag_len_gt (b o b' o' n n' cap cap' : Nat) (w : World) (h : n' < n) :
    Calls Tryd.prog 11 #[.slice (some ⟨b, o, none⟩) n cap, .slice (some ⟨b', o', none⟩) n' cap'] w fun e w' => e = .returned (.int .i64 1) ∧ ∃ k, w' = w.drewN k := by
  have h' : (n' : Int) < (n : Int) := by omega
  go_enter Tryd.func11, Tryd.ntmps11
  go_wp2
  go_ret
  exact ⟨rfl, 0, rfl⟩

set_option maxHeartbeats 400000 in
theorem mag_same (x y : Nat → Int) (n b o b' o' cap cap' : Nat) (w : World) (hx : ∀ j, j < n → w.cell? ⟨b, o + j, none⟩ = some (.int .u8 (x j)))
    (hy : ∀ j, j < n → w.cell? ⟨b', o' + j, none⟩ = some (.int .u8 (y j))) (hn : n ≤ 100) :
    Calls Tryd.prog 11 #[.slice (some ⟨b, o, none⟩) n cap, .slice (some ⟨b', o', none⟩) n cap'] w fun e w' => e = .returned (.int .i64 (lexN x y 0 n)) ∧ ∃ k, w' = w.drewN k := by
  have HX := Lib.hid hx
  have HY := Lib.hid hy
  clear hx hy
  go_enter Tryd.func11, Tryd.ntmps11
  go_wp2
  go_loopw [5] (fun i wr => ∃ m k : Nat, m ≤ n ∧ i = .int .i64 m ∧ wr = w.drewN k ∧ Hid (lexN x y m (n - m) = lexN x y 0 n)) (fun i _ => n - (intOf i).toNat)
  case atStart => exact ⟨0, 0, by omega, rfl, rfl, rfl⟩
  case round =>
    obtain ⟨m, k, hm, rfl, rfl, HL⟩ := hrel
    by_cases hlt : m < n
    · have cx := HX.out m hlt
      have cy := HY.out m hlt
      have b1 : (m : Int) < (n : Int) := by omega
      by_cases h1 : x m < y m
      · have HV := Lib.hid (HL.out.symm.trans (lexN_lt hlt h1))
        go_wp2_with fail
        go_quiet (fail)
        go_wp2
        go_ret
        exact ⟨ret_int HV.out.symm, _, by rw [World.drewN_drewN]⟩
      · by_cases h2 : y m < x m
        · have HV := Lib.hid (HL.out.symm.trans (lexN_gt hlt h2))
          go_wp2_with fail
          go_quiet (fail)
          go_wp2_with fail
          go_quiet (fail)
          go_wp2
          go_ret
          exact ⟨ret_int HV.out.symm, _, by rw [World.drewN_drewN, World.drewN_drewN]⟩
        · have HV := Lib.hid ((lexN_eq hlt h1 h2).symm.trans HL.out)
          go_wp2_with fail
          go_quiet (fail)
          go_wp2_with fail
          go_quiet (fail)
          go_wp2
          go_roundw
          case rel => exact ⟨m + 1, _, by omega, by go_num, rfl, HV⟩
          case measure => simp [intOf]; omega
    · obtain rfl : m = n := by omega
      have HV : Hid (lexN x y 0 m = 0) := by rw [← HL.out, Nat.sub_self]; rfl
      clear HL hlt hm
      go_wp2
      go_ret
      exact ⟨ret_int HV.out.symm, _, rfl⟩

/-- What is asked of a comparison of the two magnitudes' texts from place o on: whatever capacities, in every world that reads as w. -/
def MagGives (w : World) (b b' o n n' : Nat) (r : Int) : Prop :=
  ∀ W : World, (∀ a, W.cell? a = w.cell? a) → ∀ cap cap', Calls Tryd.prog 11 #[.slice (some ⟨b, o, none⟩) n cap, .slice (some ⟨b', o, none⟩) n' cap'] W fun e w' => e = .returned (.int .i64 r) ∧ ∃ k, w' = W.drewN k

/-- Both texts begin with a minus: the rest is compared, the answer turned round. -/
theorem yuan_neg (r : Int) (n n' b b' cap cap' : Nat) (w : World) (h0 : w.cell? ⟨b, 0, none⟩ = some (.int .u8 45)) (h0' : w.cell? ⟨b', 0, none⟩ = some (.int .u8 45))
    (hn : 2 ≤ n) (hn' : 2 ≤ n') (hc : n ≤ cap) (hc' : n' ≤ cap') (hr : -1 ≤ r) (hr' : r ≤ 1) (hm : MagGives w b b' 1 (n - 1) (n' - 1) r) :
    Calls Tryd.prog 9 #[.slice (some ⟨b, 0, none⟩) n cap, .slice (some ⟨b', 0, none⟩) n' cap'] w fun e w' => e = .returned (.int .i64 (-r)) ∧ ∃ k, w' = w.drewN k := by
  have a1 : (0 : Int) < (n : Int) := by omega
  have a2 : (0 : Int) < (n' : Int) := by omega
  have a3 : (1 : Int) ≤ (n : Int) := by omega
  have a4 : (1 : Int) ≤ (n' : Int) := by omega
  have a5 : ¬ cap = 1 := by omega
  have a6 : ¬ cap' = 1 := by omega
  go_enter Tryd.func9, Tryd.ntmps9
  go_wp2_with fail
  go_quiet ((go_at_call 11; exact Calls.quiet_of (hm _ (by intro a; exact World.cell?_drewN _ _ _) _ _)))
  go_wp2
  go_ret
  exact ⟨rfl, _, rfl⟩

/-- Neither begins with a minus. -/
theorem yuan_pos (r : Int) (x y : Int) (n n' b b' cap cap' : Nat) (w : World) (h0 : w.cell? ⟨b, 0, none⟩ = some (.int .u8 x)) (h0' : w.cell? ⟨b', 0, none⟩ = some (.int .u8 y))
    (hx : x ≠ 45) (hy : y ≠ 45) (hn : 1 ≤ n) (hn' : 1 ≤ n') (hm : MagGives w b b' 0 n n' r) :
    Calls Tryd.prog 9 #[.slice (some ⟨b, 0, none⟩) n cap, .slice (some ⟨b', 0, none⟩) n' cap'] w fun e w' => e = .returned (.int .i64 r) ∧ ∃ k, w' = w.drewN k := by
  have a1 : (0 : Int) < (n : Int) := by omega
  have a2 : (0 : Int) < (n' : Int) := by omega
  have tx : (x == 45) = false := by simpa using hx
  have ty : (y == 45) = false := by simpa using hy
  clear hx hy
  go_enter Tryd.func9, Tryd.ntmps9
  go_wp2_with (go_at_call 11; refine (hm _ (fun _ => rfl) _ _).mono ?_; rintro e w' ⟨rfl, k, rfl⟩)
  go_ret
  exact ⟨rfl, _, rfl⟩

theorem yuan_np (y : Int) (n n' b b' cap cap' : Nat) (w : World) (h0 : w.cell? ⟨b, 0, none⟩ = some (.int .u8 45)) (h0' : w.cell? ⟨b', 0, none⟩ = some (.int .u8 y))
    (hy : y ≠ 45) (hn : 1 ≤ n) (hn' : 1 ≤ n') :
    Calls Tryd.prog 9 #[.slice (some ⟨b, 0, none⟩) n cap, .slice (some ⟨b', 0, none⟩) n' cap'] w fun e w' => e = .returned (.int .i64 (-1)) ∧ ∃ k, w' = w.drewN k := by
  have a1 : (0 : Int) < (n : Int) := by omega
  have a2 : (0 : Int) < (n' : Int) := by omega
  have ty : (y == 45) = false := by simpa using hy
  clear hy
  go_enter Tryd.func9, Tryd.ntmps9
  go_wp2
  go_ret
  exact ⟨rfl, 0, rfl⟩

theorem yuan_pn (x : Int) (n n' b b' cap cap' : Nat) (w : World) (h0 : w.cell? ⟨b, 0, none⟩ = some (.int .u8 x)) (h0' : w.cell? ⟨b', 0, none⟩ = some (.int .u8 45))
    (hx : x ≠ 45) (hn : 1 ≤ n) (hn' : 1 ≤ n') :
    Calls Tryd.prog 9 #[.slice (some ⟨b, 0, none⟩) n cap, .slice (some ⟨b', 0, none⟩) n' cap'] w fun e w' => e = .returned (.int .i64 1) ∧ ∃ k, w' = w.drewN k := by
  have a1 : (0 : Int) < (n : Int) := by omega
  have a2 : (0 : Int) < (n' : Int) := by omega
  have tx : (x == 45) = false := by simpa using hx
  clear hx
  go_enter Tryd.func9, Tryd.ntmps9
  go_wp2
  go_ret
  exact ⟨rfl, 0, rfl⟩
end Go.Proofs.Qxb6614358aDoor
