import Derived.Test.Qxb6614277aSymUp
namespace Go.Proofs.Qxb6614277a
open Go.RowKit

set_option maxHeartbeats 1000000 in
set_option maxRecDepth 100000 in
theorem sym_down (Q : Nat → Prop) (tg : Nat → Nat) (w0 : World) (blk n cap : Nat) (f : Nat → Nat) (a m b : Nat) (W : World) (hc : CmpOK blk tg Q w0) (h : St Q w0 blk n f W) (ham : a + 1 < m) (hmb : b = m + 1) (hbn : b ≤ n) (hn : n ≤ 1048576)
    (h1 : SortedOn tg f a m) (hx : Across tg f a m b) :
    Calls Try.prog 35 #[.slice (some ⟨blk, 0, none⟩) n cap, .int .i64 a, .int .i64 m, .int .i64 b, .func (.func 28) #[] #[]] W fun e W' => e = .returned (.tuple #[]) ∧ ∃ g, St Q w0 blk n g W' ∧ Sw a b f g ∧ SortedOn tg g a b := by
  have HS := Lib.hid h
  have HC := Lib.hid hc
  have H1 := Lib.hid h1
  have HX := Lib.hid hx
  clear h hc h1 hx
  have e0 : ¬ (m : Int) - (a : Int) = 1 := by omega
  have e0' : ((m : Int) - (a : Int) == 1) = false := by simpa using e0
  have e1 : (b : Int) - (m : Int) = 1 := by omega
  have a1 : (m : Int) < (n : Int) := by omega
  have HM := Lib.hid hmb
  clear hmb
  go_enter Try.func35, Try.ntmps35
  go_wp2
  go_loopw [14, 15] (fun vi vj wr => ∃ (i j : Nat), a ≤ i ∧ i ≤ j ∧ j ≤ m ∧ vi = .int .i64 i ∧ vj = .int .i64 j ∧ Hid (St Q w0 blk n f wr ∧ (i = a ∨ tg (f (i - 1)) ≤ tg (f m)) ∧ (j = m ∨ tg (f m) < tg (f j)))) (fun vi vj _ => (intOf vj).toNat - (intOf vi).toNat)
  case atStart => exact ⟨a, m, Nat.le_refl _, by omega, Nat.le_refl _, rfl, rfl, ⟨HS.out, Or.inl rfl, Or.inl rfl⟩⟩
  case round =>
    obtain ⟨i, j, hmi, hij, hjb, rfl, rfl, HI⟩ := hrel
    by_cases hlt : i < j
    · have h1 : (i : Int) < (j : Int) := by omega
      obtain ⟨c, hcdef⟩ : ∃ c, c = (i + j) / 2 := ⟨_, rfl⟩
      have hM := HM.out
      have k0 : (c : Int) < (n : Int) := by omega
      have k1 : ((i : Int) + (j : Int)) / 2 = (c : Int) := by omega
      obtain ⟨c1, _⟩ := HI.out.1.row.2 c (by omega)
      obtain ⟨c2, _⟩ := HI.out.1.row.2 m (by omega)
      have k2 := aft_cell c1
      have k3 := aft_cell c2
      have hcm := HI.out.1.cmp HC.out (i := m) (j := c) (by omega) (by omega)
      have HD := Lib.hid hcdef
      clear c1 c2 hcdef hM
      by_cases hl : tg (f m) < tg (f c)
      · have hneg : cmp3 (tg (f m)) (tg (f c)) < 0 := cmp3_neg.2 hl
        go_wp2_with fail
        refine wp_region_aft (by kernel_rfl) (by kernel_rfl) ?_
        repeat (quiet_step ((go_at_call 28; exact hcm _)))
        refine wpQuiet_nil ?_
        intro _ hw'
        obtain ⟨pq, hw''⟩ := hw'
        subst hw''
        clear k2 k3 hcm
        have HA := Lib.hid (HI.out.1.aft pq)
        generalize aft wr pq = wa at *
        go_wp2
        go_roundw
        case rel =>
          have q := HD.out
          exact ⟨i, c, hmi, by omega, by omega, rfl, rfl, ⟨HA.out, HI.out.2.1, Or.inr hl⟩⟩
        case measure => have q := HD.out; simp [intOf]; omega
      · have hneg : ¬ cmp3 (tg (f m)) (tg (f c)) < 0 := fun h => hl (cmp3_neg.1 h)
        have hneg' : decide (cmp3 (tg (f m)) (tg (f c)) < 0) = false := decide_eq_false hneg
        go_wp2_with fail
        refine wp_region_aft (by kernel_rfl) (by kernel_rfl) ?_
        repeat (quiet_step ((go_at_call 28; exact hcm _)))
        refine wpQuiet_nil ?_
        intro _ hw'
        obtain ⟨pq, hw''⟩ := hw'
        subst hw''
        clear k2 k3 hcm
        have HA := Lib.hid (HI.out.1.aft pq)
        generalize aft wr pq = wa at *
        go_wp2
        go_roundw
        case rel =>
          have q := HD.out
          exact ⟨c + 1, j, by omega, by omega, hjb, by go_num, rfl, ⟨HA.out, Or.inr (by simp; omega), HI.out.2.2⟩⟩
        case measure => have q := HD.out; simp [intOf]; omega
    · obtain rfl : i = j := by omega
      go_wp2_with fail
      go_loopw [17] (fun vk wr2 => ∃ k : Nat, i ≤ k ∧ k ≤ m ∧ vk = .int .i64 k ∧ Hid (St Q w0 blk n (shd f m k) wr2)) (fun vk _ => (intOf vk).toNat)
      case atStart => exact ⟨m, by omega, Nat.le_refl _, rfl, by show St _ _ _ _ _ _; rw [shd_zero]; exact HI.out.1⟩
      case round =>
        obtain ⟨k, hik, hkm, rfl, HK⟩ := hrel
        by_cases hlt2 : i < k
        · obtain ⟨kp, rfl⟩ : ∃ kp, k = kp + 1 := ⟨k - 1, by omega⟩
          have q := HM.out
          obtain ⟨c1, f1⟩ := HK.out.row.2 (kp + 1) (by omega)
          obtain ⟨c2, f2⟩ := HK.out.row.2 kp (by omega)
          generalize hp : shd f m (kp + 1) = g at *
          have HP := Lib.hid hp
          obtain ⟨k', hk'⟩ : ∃ k', k' = kp + 1 := ⟨_, rfl⟩
          rw [← hk'] at c1 f1
          have hwp : IntKind.i64.wrap (kp : Int) = (kp : Int) := by rw [IntKind.wrap_i64]; omega
          have i0 : (i : Int) < (kp : Int) + 1 := by omega
          have i1 : (kp : Int) < (n : Int) := by omega
          have i2 : (kp : Int) + 1 < (n : Int) := by omega
          have i3 : (0 : Int) ≤ (kp : Int) + 1 := by omega
          have i4 : ((kp : Int) + 1).toNat = k' := by omega
          have HK' := Lib.hid hk'
          clear hp hk' q
          go_wp2_with fail
          go_region
          go_wp2
          go_roundw
          case rel =>
            refine ⟨kp, by omega, by omega, by first | rfl | go_num, ?_⟩
            show St _ _ _ _ _ _
            have q' := HK'.out
            subst q'
            have := shd_succ f m (kp + 1) hkm (by omega)
            simp only [Nat.add_sub_cancel] at this
            rw [← this, HP.out]
            exact (HK.out.drewN 1).swap (by have := HM.out; omega) (by have := HM.out; omega)
          case measure => simp [intOf]
        · obtain rfl : k = i := by omega
          go_wp2
          (try simp only [Exit.inBlock, Exit.then])
          refine bodyPost_ret (results_none rfl _ _ _) rfl ?_
          have q := HM.out
          subst q
          refine ⟨rfl, shd f m k, HK.out, ?_, ?_⟩
          · have := shd_sw f m a (m + 1) (m - k) (by omega) (by omega)
            rwa [show m - (m - k) = k by omega] at this
          · exact merged_down (i := k) H1.out HX.out hmi (by omega) HI.out.2.1 HI.out.2.2
end Go.Proofs.Qxb6614277a
