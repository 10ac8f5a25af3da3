import Derived.Test.Qxb6614373aByMode
import Derived.Test.Qxb6614373aHas
namespace Go.Proofs.Qxb6614373a
open Go.RowKit

/-- The header of a row that came in. -/
theorem RowAt.form {w : World} {v : Value} {n : Nat} {s : Nat → Int} (h : RowAt w v n s) : ∃ a c, v = .slice a n c := by
  rcases h with (⟨rfl, rfl⟩ | ⟨a, cap, rfl, rfl⟩) | ⟨b, off, cap, rfl, _⟩
  · exact ⟨none, 0, rfl⟩
  · exact ⟨_, _, rfl⟩
  · exact ⟨_, _, rfl⟩

def lnOf (L : Nat) (ln : Nat → Nat) (m : Nat) : Nat := if m < L then ln m else 0
theorem lnOf_lt {L : Nat} {ln : Nat → Nat} {m : Nat} (h : m < L) : lnOf L ln m = ln m := if_pos h
theorem lnOf_ge {L : Nat} {ln : Nat → Nat} {m : Nat} (h : ¬ m < L) : lnOf L ln m = 0 := if_neg h

theorem ret_i64 {a b : Int} (h : a = b) : Ending.returned (.int .i64 a) = .returned (.int .i64 b) := by rw [h]

set_option maxHeartbeats 400000 in
theorem rowlen_any (la : Option Addr) (L lcap : Nat) (R : Nat → Value) (ln : Nat → Nat) (S : Nat → Nat → Int) (m : Nat) (w : World) (h : IsLists w la L R ln S) :
    Calls Try.prog 21 #[.slice la L lcap, .int .i64 m] w fun e w' => e = .returned (.int .i64 (lnOf L ln m : Int)) ∧ w' = w := by
  by_cases hm : m < L
  · obtain ⟨lb, lo, rfl, h1, h2, h3⟩ := h m hm
    obtain ⟨a, c, hv⟩ := h3.form
    rw [hv] at h2
    have hm' : (m : Int) < (L : Int) := by omega
    have H := Lib.hid (lnOf_lt (ln := ln) hm)
    clear h h3 hv hm
    go_enter Try.func21, Try.ntmps21
    go_wp2
    go_ret
    exact ⟨ret_i64 (by rw [H.out]), rfl⟩
  · have hm' : ¬ (m : Int) < (L : Int) := by omega
    have H := Lib.hid (lnOf_ge (ln := ln) hm)
    clear h hm
    go_enter Try.func21, Try.ntmps21
    go_wp2
    go_ret
    exact ⟨ret_i64 (by rw [H.out]; rfl), rfl⟩

set_option maxHeartbeats 400000 in
theorem conv_any (ca : Option Addr) (N ccap : Nat) (C : Nat → Int) (m : Nat) (w : World) (h : IsCounts w ca N C) (hC : ∀ i, i < N → -2147483648 ≤ C i ∧ C i ≤ 2147483647) :
    Calls Try.prog 19 #[.slice ca N ccap, .int .i64 m] w fun e w' => e = .returned (.int .i64 (cvOf N C m)) ∧ w' = w := by
  by_cases hm : m < N
  · obtain ⟨cb, co, rfl, h1, h2⟩ := h m hm
    obtain ⟨c1, c2⟩ := hC m hm
    have hm' : (m : Int) < (N : Int) := by omega
    have H := Lib.hid (cvOf_lt (C := C) hm)
    clear h hm hC
    go_enter Try.func19, Try.ntmps19
    go_wp2
    go_ret
    exact ⟨ret_i64 (by rw [H.out]), rfl⟩
  · have hm' : ¬ (m : Int) < (N : Int) := by omega
    have H := Lib.hid (cvOf_ge (C := C) hm)
    clear h hm hC
    go_enter Try.func19, Try.ntmps19
    go_wp2
    go_ret
    exact ⟨ret_i64 (by rw [H.out]), rfl⟩

set_option maxHeartbeats 400000 in
theorem nummodes (w : World) : Calls Try.prog 12 #[] w fun e w' => e = .returned (.int .i64 7) ∧ w' = w := by
  go_enter Try.func12, Try.ntmps12
  go_wp2
  go_ret
  exact ⟨rfl, rfl⟩

/-- A bool comes back, whichever. -/
def IsBool (e : Ending) : Prop := ∃ ok : Bool, e = .returned (.bool ok)
theorem isBool (b : Bool) : IsBool (.returned (.bool b)) := ⟨b, rfl⟩

set_option maxHeartbeats 800000 in
theorem bytes_any (ms ci cut : Int) (la : Option Addr) (L lcap : Nat) (R : Nat → Value) (ln : Nat → Nat) (S : Nat → Nat → Int) (ca : Option Addr) (N ccap : Nat) (w : World) (h : IsLists w la L R ln S) (hL : (L : Int) ≤ 9223372036854775807) :
    Calls Try.prog 10 #[.int .u16 ms, .slice la L lcap, .slice ca N ccap, .int .u16 ci, .int .u8 cut] w fun e w' => IsBool e ∧ w' = w := by
  have HL := Lib.hid h
  clear h
  go_enter Try.func10, Try.ntmps10
  go_wp2
  all_goals first
    | (go_ret; exact ⟨isBool _, rfl⟩)
    | skip
  go_loop [11, 12] (fun z i => ∃ (k : Nat) (x : Int), k ≤ L ∧ i = .int .i64 k ∧ z = .int .i64 x) (fun _ i => L - (intOf i).toNat)
  case atStart => exact ⟨0, _, by omega, rfl, rfl⟩
  case round =>
    obtain ⟨k, x, hk, rfl, rfl⟩ := hrel
    by_cases hlt : k < L
    · obtain ⟨lb, lo, rfl, h1, h2, h3⟩ := HL.out k hlt
      obtain ⟨a, c, hv⟩ := h3.form
      rw [hv] at h2
      have hm' : (k : Int) < (L : Int) := by omega
      clear h3 hv
      go_wp2
      all_goals first
        | (go_ret; exact ⟨isBool _, rfl⟩)
        | (go_round
           case rel => exact ⟨k + 1, _, by omega, by go_num, rfl⟩
           case measure => simp [intOf]; omega)
    · have hm' : ¬ (k : Int) < (L : Int) := by omega
      go_wp2
      all_goals (go_ret; exact ⟨isBool _, rfl⟩)

set_option maxHeartbeats 800000 in
theorem fit_any (la : Option Addr) (L lcap : Nat) (R : Nat → Value) (ln : Nat → Nat) (S : Nat → Nat → Int) (w : World) (h : IsLists w la L R ln S) (hL : (L : Int) ≤ 9223372036854775807) :
    Calls Try.prog 11 #[.slice la L lcap, .slice none 0 0] w fun e w' => IsBool e ∧ w' = w := by
  have HL := Lib.hid h
  clear h
  go_enter Try.func11, Try.ntmps11
  go_wp2
  all_goals first
    | (go_ret; exact ⟨isBool _, rfl⟩)
    | skip
  go_loop [5, 6] (fun z i => ∃ (k : Nat) (x : Int), k ≤ L ∧ i = .int .i64 k ∧ z = .int .i64 x) (fun _ i => L - (intOf i).toNat)
  case atStart => exact ⟨0, _, by omega, rfl, rfl⟩
  case round =>
    obtain ⟨k, x, hk, rfl, rfl⟩ := hrel
    by_cases hlt : k < L
    · obtain ⟨lb, lo, rfl, h1, h2, h3⟩ := HL.out k hlt
      obtain ⟨a, c, hv⟩ := h3.form
      rw [hv] at h2
      have hm' : (k : Int) < (L : Int) := by omega
      clear h3 hv
      go_wp2
      all_goals first
        | (go_ret; exact ⟨isBool _, rfl⟩)
        | (go_round
           case rel => exact ⟨k + 1, _, by omega, by go_num, rfl⟩
           case measure => simp [intOf]; omega)
    · have hm' : ¬ (k : Int) < (L : Int) := by omega
      go_wp2
      go_loop [7] (fun i => i = .int .i64 0) (fun _ => 0)
      case atStart => rfl
      case round =>
        subst hrel
        go_wp2
        all_goals (go_ret; exact ⟨isBool _, rfl⟩)

set_option maxHeartbeats 800000 in
theorem queued_any (M : Nat) (la : Option Addr) (L lcap : Nat) (R : Nat → Value) (ln : Nat → Nat) (S : Nat → Nat → Int) (w : World) (h : IsLists w la L R ln S) (hM : M < 65536) :
    Calls Try.prog 13 #[.int .u16 M, .slice la L lcap, .slice none 0 0, .int .i64 7] w fun e w' => IsBool e ∧ w' = w := by
  have h0 : ∀ w, IsLists w none 0 (fun _ => .slice none 0 0) (fun _ => 0) (fun _ _ => 0) := fun w i hi => absurd hi (Nat.not_lt_zero _)
  have HL := Lib.hid h
  have H0 := Lib.hid h0
  clear h h0
  go_enter Try.func13, Try.ntmps13
  go_wp2
  go_loop [9] (fun i => ∃ k : Nat, k ≤ 16 ∧ i = .int .i64 k) (fun i => 16 - (intOf i).toNat)
  case atStart => exact ⟨0, by omega, rfl⟩
  case round =>
    obtain ⟨k, hk, rfl⟩ := hrel
    by_cases hlt : k < 16
    · have hm' : (k : Int) < 16 := by omega
      go_wp2_with fail
      refine (bit_any M k _ hM hlt).mono ?_
      rintro e w' ⟨rfl, rfl⟩
      cases hb : M.testBit k
      · go_wp2
        go_round
        case rel => exact ⟨k + 1, by omega, by go_num⟩
        case measure => simp [intOf]; omega
      · by_cases k1 : (k : Int) < 1
        · go_wp2
          go_ret
          exact ⟨isBool _, rfl⟩
        · by_cases k7 : (7 : Int) ≤ k
          · go_wp2
            go_ret
            exact ⟨isBool _, rfl⟩
          · go_wp2_with fail
            refine (rowlen_any la L lcap R ln S k _ HL.out).mono ?_
            rintro e w' ⟨rfl, rfl⟩
            go_wp2_with fail
            refine (rowlen_any none 0 0 _ _ _ k _ (H0.out _)).mono ?_
            rintro e w' ⟨rfl, rfl⟩
            go_wp2
            all_goals first
              | (go_ret; exact ⟨isBool _, rfl⟩)
              | (go_round
                 case rel => exact ⟨k + 1, by omega, by go_num⟩
                 case measure => simp [intOf]; omega)
    · have hm' : ¬ (k : Int) < 16 := by omega
      go_wp2
      go_ret
      exact ⟨isBool _, rfl⟩
end Go.Proofs.Qxb6614373a
