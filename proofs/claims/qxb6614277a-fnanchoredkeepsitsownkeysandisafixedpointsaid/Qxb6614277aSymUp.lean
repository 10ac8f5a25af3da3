import Derived.Test.Qxb6614277aIns
namespace Go.Proofs.Qxb6614277a
open Go.RowKit

set_option maxHeartbeats 1000000 in
set_option maxRecDepth 100000 in
theorem sym_up (Q : Nat → Prop) (tg : Nat → Nat) (w0 : World) (blk n cap : Nat) (f : Nat → Nat) (a m b : Nat) (W : World) (hc : CmpOK blk tg Q w0) (h : St Q w0 blk n f W) (ham : m = a + 1) (hmb : m < b) (hbn : b ≤ n) (hn : n ≤ 1048576)
    (h2 : SortedOn tg f m b) (hx : Across tg f a m b) :
    Calls Try.prog 35 #[.slice (some ⟨blk, 0, none⟩) n cap, .int .i64 a, .int .i64 m, .int .i64 b, .func (.func 28) #[] #[]] W fun e W' => e = .returned (.tuple #[]) ∧ ∃ g, St Q w0 blk n g W' ∧ Sw a b f g ∧ SortedOn tg g a b := by
  have HS := Lib.hid h
  have HC := Lib.hid hc
  have H2 := Lib.hid h2
  have HX := Lib.hid hx
  clear h hc h2 hx
  have e1 : (m : Int) - (a : Int) = 1 := by omega
  have a1 : (a : Int) < (n : Int) := by omega
  have HM := Lib.hid ham
  clear ham
  go_enter Try.func35, Try.ntmps35
  go_wp2
  go_loopw [10, 11] (fun vi vj wr => ∃ (i j : Nat), m ≤ i ∧ i ≤ j ∧ j ≤ b ∧ vi = .int .i64 i ∧ vj = .int .i64 j ∧ Hid (St Q w0 blk n f wr ∧ (i = m ∨ tg (f (i - 1)) < tg (f a)) ∧ (j = b ∨ tg (f a) ≤ tg (f j)))) (fun vi vj _ => (intOf vj).toNat - (intOf vi).toNat)
  case atStart => exact ⟨m, b, Nat.le_refl _, by omega, Nat.le_refl _, rfl, rfl, ⟨HS.out, Or.inl rfl, Or.inl rfl⟩⟩
  case round =>
    obtain ⟨i, j, hmi, hij, hjb, rfl, rfl, HI⟩ := hrel
    by_cases hlt : i < j
    · have h1 : (i : Int) < (j : Int) := by omega
      obtain ⟨c, hcdef⟩ : ∃ c, c = (i + j) / 2 := ⟨_, rfl⟩
      have k0 : (c : Int) < (n : Int) := by omega
      have k1 : ((i : Int) + (j : Int)) / 2 = (c : Int) := by omega
      obtain ⟨c1, _⟩ := HI.out.1.row.2 c (by omega)
      obtain ⟨c2, _⟩ := HI.out.1.row.2 a (by omega)
      have k2 := aft_cell c1
      have k3 := aft_cell c2
      have hcm := HI.out.1.cmp HC.out (i := c) (j := a) (by omega) (by omega)
      have HD := Lib.hid hcdef
      clear c1 c2 hcdef
      by_cases hl : tg (f c) < tg (f a)
      · have hneg : cmp3 (tg (f c)) (tg (f a)) < 0 := cmp3_neg.2 hl
        go_wp2_with fail
        refine wp_region_aft (by kernel_rfl) (by kernel_rfl) ?_
        repeat (quiet_step ((go_at_call 28; exact hcm _)))
        refine wpQuiet_nil ?_
        intro _ hw'
        obtain ⟨pq, hw''⟩ := hw'
        subst hw''
        clear k2 k3 hcm
        have HA := Lib.hid (HI.out.1.aft pq)
        generalize aft wr pq = wa at *
        go_wp2
        go_roundw
        case rel =>
          have q := HD.out
          exact ⟨c + 1, j, by omega, by omega, hjb, by go_num, rfl, ⟨HA.out, Or.inr (by simpa using hl), HI.out.2.2⟩⟩
        case measure => have q := HD.out; simp [intOf]; omega
      · have hneg : ¬ cmp3 (tg (f c)) (tg (f a)) < 0 := fun h => hl (cmp3_neg.1 h)
        go_wp2_with fail
        refine wp_region_aft (by kernel_rfl) (by kernel_rfl) ?_
        repeat (quiet_step ((go_at_call 28; exact hcm _)))
        refine wpQuiet_nil ?_
        intro _ hw'
        obtain ⟨pq, hw''⟩ := hw'
        subst hw''
        clear k2 k3 hcm
        have HA := Lib.hid (HI.out.1.aft pq)
        generalize aft wr pq = wa at *
        go_wp2
        go_roundw
        case rel =>
          have q := HD.out
          exact ⟨i, c, hmi, by omega, by omega, rfl, rfl, ⟨HA.out, HI.out.2.1, Or.inr (by omega)⟩⟩
        case measure => have q := HD.out; simp [intOf]; omega
    · obtain rfl : i = j := by omega
      have q := HM.out
      obtain ⟨ip, hip⟩ : ∃ ip, i = ip + 1 := ⟨i - 1, by omega⟩
      subst hip
      have p1 : IntKind.i64.wrap (ip : Int) = (ip : Int) := by rw [IntKind.wrap_i64]; omega
      go_wp2_with fail
      go_loopw [13] (fun vk wr2 => ∃ k : Nat, a ≤ k ∧ k ≤ ip ∧ vk = .int .i64 k ∧ Hid (St Q w0 blk n (shu f a k) wr2)) (fun vk _ => ip - (intOf vk).toNat)
      case atStart => exact ⟨a, Nat.le_refl _, by omega, rfl, by show St _ _ _ _ _ _; rw [shu_zero]; exact HI.out.1⟩
      case round =>
        obtain ⟨k, hak, hki, rfl, HK⟩ := hrel
        by_cases hlt2 : k < ip
        · have h1 : (k : Int) < (ip : Int) := by omega
          obtain ⟨c1, f1⟩ := HK.out.row.2 k (by omega)
          obtain ⟨c2, f2⟩ := HK.out.row.2 (k + 1) (by omega)
          generalize hp : shu f a k = g at *
          have HP := Lib.hid hp
          obtain ⟨k', hk'⟩ : ∃ k', k' = k + 1 := ⟨_, rfl⟩
          rw [← hk'] at c2 f2
          have i1 : (k : Int) < (n : Int) := by omega
          have i2 : (k : Int) + 1 < (n : Int) := by omega
          have i3 : (0 : Int) ≤ (k : Int) + 1 := by omega
          have i4 : ((k : Int) + 1).toNat = k' := by omega
          have HK' := Lib.hid hk'
          clear hp hk' q
          go_wp2_with fail
          go_region
          go_wp2
          go_roundw
          case rel =>
            refine ⟨k + 1, by omega, by omega, by go_num, ?_⟩
            show St _ _ _ _ _ _
            rw [← shu_succ f a k hak, HP.out]
            have q' := HK'.out
            subst q'
            exact (HK.out.drewN 1).swap (by omega) (by omega)
          case measure => simp [intOf]; omega
        · obtain rfl : k = ip := by omega
          clear q
          go_wp2
          (try simp only [Exit.inBlock, Exit.then])
          refine bodyPost_ret (results_none rfl _ _ _) rfl ?_
          have q := HM.out
          subst q
          refine ⟨rfl, shu f a k, HK.out, ?_, ?_⟩
          · obtain ⟨d, rfl⟩ : ∃ d, k = a + d := ⟨k - a, by omega⟩
            exact shu_sw f a a b d (Nat.le_refl _) (by omega)
          · have := merged_up (i := k + 1) H2.out HX.out (by omega) (by omega) (by simpa using HI.out.2.1) (by simpa using HI.out.2.2)
            simpa using this
end Go.Proofs.Qxb6614277a
