import Derived.Test.Qxb6614373aSeqs
namespace Go.Proofs.Qxb6614373a
open Go.RowKit

set_option maxHeartbeats 400000 in
theorem equal_any (t : Nat → Int) (n b b' : Nat) (w : World) (hx : ∀ j, j < n → w.cell? ⟨b, j, none⟩ = some (.int .u64 (t j))) (hy : ∀ j, j < n → w.cell? ⟨b', j, none⟩ = some (.int .u64 (t j))) (hn : (n : Int) ≤ 17592186044416) :
    Calls Try.prog 25 #[.slice (some ⟨b, 0, none⟩) n n, .slice (some ⟨b', 0, none⟩) n n] w fun e w' => e = .returned (.bool true) ∧ ∃ d, w' = w.drewN d := by
  have HX := Lib.hid hx
  have HY := Lib.hid hy
  clear hx hy
  go_enter Try.func25, Try.ntmps25
  go_wp2
  go_loopw [5] (fun i wr => ∃ k d : Nat, k ≤ n ∧ i = .int .i64 k ∧ wr = w.drewN d) (fun i _ => n - (intOf i).toNat)
  case atStart => exact ⟨0, 0, by omega, rfl, rfl⟩
  case round =>
    obtain ⟨k, d, hk, rfl, rfl⟩ := hrel
    by_cases hlt : k < n
    · have c1 := HX.out k hlt
      have c2 := HY.out k hlt
      have h1 : (k : Int) < (n : Int) := by omega
      go_wp2_with fail
      go_quiet (fail)
      go_wp2
      go_roundw
      case rel => exact ⟨k + 1, _, by omega, by go_num, rfl⟩
      case measure => simp [intOf]; omega
    · go_wp2
      go_ret
      exact ⟨rfl, _, rfl⟩

theorem quiet_add {P : Program} {f : FuncId} {args : Array Value} {w : World} {d x : Nat} {v : Value}
    (h : Calls P f args (w.drewN (d + x)) fun e w' => e = .returned v ∧ ∃ m, w' = (w.drewN (d + x)).drewN m) : Calls P f args (w.drewN (d + x)) fun e w'' => e = .returned v ∧ ∃ n, w'' = w.drewN (d + n) :=
  h.mono fun _ _ ⟨he, m, hm⟩ => ⟨he, x + m, by rw [hm, World.drewN_drewN, Nat.add_assoc]⟩

theorem SeqRows.below {W W' : World} {lo hi b n B : Nat} {pl : Nat → Nat} {T : Nat → Nat → Int} (h : SeqRows W lo hi b n pl T) (hb : Below B W W') (h1 : b < B) (h2 : hi ≤ B) : SeqRows W' lo hi b n pl T := by
  intro i hi'
  obtain ⟨ob, o1, o2, o3, o4⟩ := h i hi'
  exact ⟨ob, o1, o2, (hb.cell (p := ⟨b, i, none⟩) h1).trans o3, fun j hj => (hb.cell (p := ⟨ob, j, none⟩) (by show ob < B; omega)).trans (o4 j hj)⟩

theorem SeqRows.drewN {W : World} {lo hi b n : Nat} {pl : Nat → Nat} {T : Nat → Nat → Int} (h : SeqRows W lo hi b n pl T) (d : Nat) : SeqRows (W.drewN d) lo hi b n pl T := h

theorem ret_match {a b : Int} (h : a = b) : Ending.returned (.tuple #[.int .i64 a, .bool true]) = .returned (.tuple #[.int .i64 b, .bool true]) := by rw [h]

set_option maxHeartbeats 800000 in
theorem match_any (b b' cw n j0 lo hi lo' hi' : Nat) (pl pl' : Nat → Nat) (T T' : Nat → Nat → Int) (w : World) (hW : SeqRows w lo hi b cw pl T) (hS : SeqRows w lo' hi' b' n pl' T')
    (hcw : cw ≤ 12) (hn : n ≤ 12) (hj : j0 + n ≤ cw) (hpl : ∀ i, i < n → pl (j0 + i) = pl' i) (hT : ∀ i, i < n → T (j0 + i) = T' i) (hb : ∀ i, i < n → (pl' i : Int) ≤ 17592186044416) :
    Calls Try.prog 17 #[.slice (some ⟨b, 0, none⟩) 12 12, .int .i64 cw, .int .i64 j0, .slice (some ⟨b', 0, none⟩) 12 12, .int .i64 0, .int .i64 n] w fun e w' => e = .returned (.tuple #[.int .i64 ((j0 + n : Nat) : Int), .bool true]) ∧ ∃ d, w' = w.drewN d := by
  have HW := Lib.hid hW
  have HS := Lib.hid hS
  have HP := Lib.hid hpl
  have HT := Lib.hid hT
  have HB := Lib.hid hb
  clear hW hS hpl hT hb
  go_enter Try.func17, Try.ntmps17
  go_wp2
  go_loopw [2, 14] (fun j i wr => ∃ k d : Nat, k ≤ n ∧ i = .int .i64 k ∧ j = .int .i64 ((j0 + k : Nat) : Int) ∧ wr = w.drewN d) (fun _ i _ => n - (intOf i).toNat)
  case atStart => exact ⟨0, 0, by omega, rfl, rfl, rfl⟩
  case round =>
    obtain ⟨k, d, hk, rfl, rfl, rfl⟩ := hrel
    generalize hq : j0 + k = q at *
    by_cases hlt : k < n
    · obtain ⟨ob, o1, o2, o3, o4⟩ := HW.out q (by omega)
      obtain ⟨ob', p1, p2, p3, p4⟩ := HS.out k hlt
      have e1 := HP.out k hlt
      have e2 := HT.out k hlt
      have e3 := HB.out k hlt
      rw [hq] at e1 e2
      rw [e1] at o3 o4
      rw [e2] at o4
      have H4 := Lib.hid o4
      have H5 := Lib.hid p4
      have HQ := Lib.hid hq
      have g1 : ¬ (cw : Int) ≤ (q : Int) := by omega
      have g2 : ¬ (12 : Int) ≤ (q : Int) := by omega
      have g3 : ¬ (12 : Int) ≤ (k : Int) := by omega
      have f1 : decide ((cw : Int) ≤ (q : Int)) = false := decide_eq_false g1
      have f0 : decide (cw ≤ q) = false := decide_eq_false (by omega)
      have f2 : decide ((12 : Int) ≤ (q : Int)) = false := decide_eq_false g2
      have f3 : decide ((12 : Int) ≤ (k : Int)) = false := decide_eq_false g3
      have g4 : (q : Int) < 12 := by omega
      have g5 : (k : Int) < 12 := by omega
      have g6 : (k : Int) < (n : Int) := by omega
      clear o4 p4 hq e1 e2
      go_wp2_with fail
      go_quiet ((go_at_call 25; exact quiet_add (equal_any (T' k) (pl' k) ob ob' _ (by intro j hj; exact H4.out j hj) (by intro j hj; exact H5.out j hj) e3)))
      go_wp2
      go_roundw
      case rel => exact ⟨k + 1, _, by omega, by go_num, by have := HQ.out; rw [show j0 + (k + 1) = q + 1 by omega]; go_num, rfl⟩
      case measure => simp [intOf]; omega
    · have g6 : ¬ (k : Int) < (n : Int) := by omega
      have HQ := Lib.hid hq
      clear hq
      go_wp2
      go_ret2
      exact ⟨ret_match (by have := HQ.out; omega), _, rfl⟩
end Go.Proofs.Qxb6614373a
