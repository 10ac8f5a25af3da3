import Derived.Test.Qxb6614277aRot
namespace Go.Proofs.Qxb6614277a
open Go.RowKit

theorem St.cmp {Q : Nat → Prop} {w0 : World} {blk n : Nat} {f tg : Nat → Nat} {W : World} (h : St Q w0 blk n f W) (hc : CmpOK blk tg Q w0) {i j : Nat} (hi : i < n) (hj : j < n) (p : Aft) :
    Calls Try.prog 28 #[.pointer (some ⟨f i, 0, none⟩), .pointer (some ⟨f j, 0, none⟩)] (Go.Proofs.Qxb6614277a.aft W p) fun e W' => e = .returned (.int .i64 (cmp3 (tg (f i)) (tg (f j)))) ∧ ∃ p' : Aft, W' = Go.Proofs.Qxb6614277a.aft W p' :=
  aft_call (hc _ (h.aft p).bel (h.aft p).row.1 _ _ (h.all i hi) (h.all j hj))

set_option maxHeartbeats 1000000 in
set_option maxRecDepth 100000 in
theorem ins_any (Q : Nat → Prop) (tg : Nat → Nat) (w0 : World) (blk n cap : Nat) (f : Nat → Nat) (a b : Nat) (W : World) (hc : CmpOK blk tg Q w0) (h : St Q w0 blk n f W) (hab : a < b) (hbn : b ≤ n) (hn : n ≤ 1048576) (hr : Rising tg f a b) :
    Calls Try.prog 34 #[.slice (some ⟨blk, 0, none⟩) n cap, .int .i64 a, .int .i64 b, .func (.func 28) #[] #[]] W fun e W' => e = .returned (.tuple #[]) ∧ ∃ g, St Q w0 blk n g W' ∧ Sw a b f g ∧ SortedOn tg g a b := by
  have HS := Lib.hid h
  have HC := Lib.hid hc
  have HR := Lib.hid hr
  clear h hc hr
  go_enter Try.func34, Try.ntmps34
  go_wp2
  go_loopw [8] (fun vi wr => ∃ (i : Nat) (g : Nat → Nat), a < i ∧ i ≤ b ∧ vi = .int .i64 i ∧ Hid (St Q w0 blk n g wr ∧ Sw a i f g ∧ SortedOn tg g a i)) (fun vi _ => b - (intOf vi).toNat)
  case atStart => exact ⟨a + 1, f, by omega, by omega, by go_num, ⟨HS.out, .refl, fun i j h1 h2 h3 => by omega⟩⟩
  case round =>
    obtain ⟨i, g, hai, hib, rfl, HI⟩ := hrel
    by_cases hlt : i < b
    · have h1 : (i : Int) < (b : Int) := by omega
      go_wp2
      go_loopw [9] (fun vj wr2 => ∃ (j : Nat) (g2 : Nat → Nat), a ≤ j ∧ j ≤ i ∧ vj = .int .i64 j ∧ Hid (St Q w0 blk n g2 wr2 ∧ Ins tg f g2 a i j)) (fun vj _ => (intOf vj).toNat)
      case atStart => exact ⟨i, g, by omega, Nat.le_refl _, rfl, ⟨HI.out.1, Ins.start HI.out.2.1 HI.out.2.2 (by omega)⟩⟩
      case round =>
        obtain ⟨j, g2, haj, hji, rfl, HJ⟩ := hrel
        by_cases hja : a < j
        · obtain ⟨jp, rfl⟩ : ∃ jp, j = jp + 1 := ⟨j - 1, by omega⟩
          have hjaz : (a : Int) < (jp : Int) + 1 := by omega
          have hwp : IntKind.i64.wrap (jp : Int) = (jp : Int) := by rw [IntKind.wrap_i64]; omega
          have jz : (jp : Int) + 1 < (n : Int) := by omega
          have jz1 : (jp : Int) < (n : Int) := by omega
          have p0 : (0 : Int) ≤ (jp : Int) + 1 := by omega
          have e0 : ((jp : Int) + 1).toNat = jp + 1 := by omega
          obtain ⟨c1, f1⟩ := HJ.out.1.row.2 (jp + 1) (by omega)
          obtain ⟨c2, f2⟩ := HJ.out.1.row.2 jp (by omega)
          have k1 := aft_cell c1
          have k2 := aft_cell c2
          have hcm := HJ.out.1.cmp HC.out (i := jp + 1) (j := jp) (by omega) (by omega)
          clear c1 c2 f1 f2
          by_cases hl : tg (g2 (jp + 1)) < tg (g2 jp)
          · have hneg : cmp3 (tg (g2 (jp + 1))) (tg (g2 jp)) < 0 := cmp3_neg.2 hl
            go_wp2_with fail
            refine wp_region_aft (by kernel_rfl) (by kernel_rfl) ?_
            repeat (quiet_step ((go_at_call 28; exact hcm _)))
            refine wpQuiet_nil ?_
            intro _ hw'
            obtain ⟨pq, hw''⟩ := hw'
            subst hw''
            clear k1 k2 hcm hneg
            have HA := Lib.hid (HJ.out.1.aft pq)
            generalize aft wr pq = wa at *
            obtain ⟨c1, f1⟩ := HA.out.row.2 (jp + 1) (by omega)
            obtain ⟨c2, f2⟩ := HA.out.row.2 jp (by omega)
            obtain ⟨j1, hj1⟩ : ∃ j1, j1 = jp + 1 := ⟨_, rfl⟩
            rw [← hj1] at c1 f1 e0
            have J1 := Lib.hid hj1
            clear hj1
            go_wp2_with fail
            go_region
            go_wp2
            go_roundw
            case rel =>
              have q := J1.out
              subst q
              refine ⟨jp, swp g2 (jp + 1) jp, by omega, by omega, by first | rfl | go_num, ⟨(HA.out.drewN 1).swap (by omega) (by omega), ?_⟩⟩
              have := HJ.out.2.down (by omega) (by simpa using hl)
              simpa using this
            case measure => simp [intOf]
          · have hneg : ¬ cmp3 (tg (g2 (jp + 1))) (tg (g2 jp)) < 0 := fun h => hl (cmp3_neg.1 h)
            go_wp2_with fail
            refine wp_region_aft (by kernel_rfl) (by kernel_rfl) ?_
            repeat (quiet_step ((go_at_call 28; exact hcm _)))
            refine wpQuiet_nil ?_
            intro _ hw'
            obtain ⟨pq, hw''⟩ := hw'
            subst hw''
            clear k1 k2 hcm
            have HA := Lib.hid (HJ.out.1.aft pq)
            generalize aft wr pq = wa at *
            go_wp2
            go_roundw
            case rel => exact ⟨i + 1, g2, by omega, by omega, by go_num, ⟨HA.out, HJ.out.2.sw, HJ.out.2.stop HR.out hlt (Or.inr (by simp; omega))⟩⟩
            case measure => simp [intOf]; omega
        · have hjaz : decide ((j : Int) > (a : Int)) = false := decide_eq_false (by omega)
          have hjaz' : ¬ (a : Int) < (j : Int) := by omega
          go_wp2_with fail
          go_region
          go_wp2
          go_roundw
          case rel => exact ⟨i + 1, g2, by omega, by omega, by go_num, ⟨HJ.out.1.drewN 1, HJ.out.2.sw, HJ.out.2.stop HR.out hlt (Or.inl (by omega))⟩⟩
          case measure => simp [intOf]; omega
    · obtain rfl : i = b := by omega
      go_wp2
      go_end0
      exact ⟨rfl, g, HI.out⟩
end Go.Proofs.Qxb6614277a
