import Derived.Test.Qxb6614373aGuards
import Derived.Test.Qxb6614373aZZConv
namespace Go.Proofs.Qxb6614373a
open Go.RowKit

/-- What zzConvOK finds of the modes below k. -/
def ConvFits (CI L N : Nat) (ln : Nat → Nat) (C : Nat → Int) (k : Nat) : Prop :=
  ∀ m, m < k → m < 7 → 0 ≤ cvOf N C m ∧ cvOf N C m ≤ (lnOf L ln m : Int) ∧ CI.testBit m = (cvOf N C m != 0)

/-- A bool comes back; where it is true, p. -/
def BoolIf (p : Prop) (e : Ending) : Prop := ∃ ok : Bool, e = .returned (.bool ok) ∧ (ok = true → p)
theorem boolIf_false (p : Prop) : BoolIf p (.returned (.bool false)) := ⟨false, rfl, fun h => by cases h⟩
theorem boolIf_true {p : Prop} (h : p) : BoolIf p (.returned (.bool true)) := ⟨true, rfl, fun _ => h⟩

theorem ConvFits.step {CI L N : Nat} {ln : Nat → Nat} {C : Nat → Int} {k : Nat} (h : ConvFits CI L N ln C k) (h1 : k < 7 → 0 ≤ cvOf N C k ∧ cvOf N C k ≤ (lnOf L ln k : Int) ∧ CI.testBit k = (cvOf N C k != 0)) : ConvFits CI L N ln C (k + 1) := by
  intro m hm h7
  by_cases e : m = k
  · subst e; exact h1 h7
  · exact h m (by omega) h7

set_option maxHeartbeats 800000 in
theorem convok_any (CI : Nat) (la : Option Addr) (L lcap : Nat) (R : Nat → Value) (ln : Nat → Nat) (S : Nat → Nat → Int) (ca : Option Addr) (N ccap : Nat) (C : Nat → Int) (w : World) (h : IsLists w la L R ln S) (hc : IsCounts w ca N C)
    (hC : ∀ i, i < N → -2147483648 ≤ C i ∧ C i ≤ 2147483647) (hCI : CI < 65536) :
    Calls Try.prog 14 #[.slice la L lcap, .slice ca N ccap, .int .u16 CI, .int .i64 7] w fun e w' => BoolIf (ConvFits CI L N ln C 16) e ∧ w' = w := by
  have HL := Lib.hid h
  have HC := Lib.hid hc
  have HB := Lib.hid hC
  clear h hc hC
  go_enter Try.func14, Try.ntmps14
  go_wp2
  all_goals first
    | (go_ret; exact ⟨boolIf_false _, rfl⟩)
    | skip
  go_loop [9] (fun i => ∃ k : Nat, k ≤ 16 ∧ i = .int .i64 k ∧ ConvFits CI L N ln C k) (fun i => 16 - (intOf i).toNat)
  case atStart => exact ⟨0, by omega, rfl, fun m hm => by omega⟩
  case round =>
    obtain ⟨k, hk, rfl, hF⟩ := hrel
    by_cases hlt : k < 16
    · have hm' : (k : Int) < 16 := by omega
      by_cases h7 : k < 7
      · have h7' : (k : Int) < 7 := by omega
        generalize hz : cvOf N C k = z
        have HZ := Lib.hid hz
        clear hz
        have hstep : 0 ≤ z → z ≤ (lnOf L ln k : Int) → CI.testBit k = (z != 0) → ConvFits CI L N ln C (k + 1) := fun a b c => hF.step (fun _ => by rw [HZ.out]; exact ⟨a, b, c⟩)
        have HST := Lib.hid hstep
        clear hstep hF
        by_cases bad0 : k = 0 ∧ z ≠ 0
        · obtain ⟨rfl, hz0⟩ := bad0
          have t0 : (z != 0) = true := by simpa using hz0
          clear hz0
          go_wp2_with fail
          refine (conv_any ca N ccap C 0 _ HC.out HB.out).mono ?_
          rw [HZ.out]
          rintro e w' ⟨rfl, rfl⟩
          go_wp2
          go_ret
          exact ⟨boolIf_false _, rfl⟩
        · have t0 : ((k : Int) == 0) = false ∨ z = 0 := by
            by_cases e : k = 0
            · exact Or.inr (by
                apply Classical.byContradiction
                intro hz
                exact bad0 ⟨e, hz⟩)
            · exact Or.inl (by simp; omega)
          clear bad0
          by_cases hneg : z < 0
          · have t1 : ((k : Int) == 0) = false := by
              rcases t0 with t0 | t0
              · exact t0
              · omega
            clear t0
            go_wp2_with fail
            refine (conv_any ca N ccap C k _ HC.out HB.out).mono ?_
            rw [HZ.out]
            rintro e w' ⟨rfl, rfl⟩
            go_wp2
            go_ret
            exact ⟨boolIf_false _, rfl⟩
          · generalize hl : (lnOf L ln k : Int) = l at HST
            have HLn := Lib.hid hl
            clear hl
            by_cases hk0 : k = 0
            · subst hk0
              have hz : z = 0 := by
                rcases t0 with t0 | t0
                · simp at t0
                · exact t0
              clear t0
              subst hz
              go_wp2_with fail
              refine (conv_any ca N ccap C 0 _ HC.out HB.out).mono ?_
              rw [HZ.out]
              rintro e w' ⟨rfl, rfl⟩
              go_wp2_with fail
              refine (rowlen_any la L lcap R ln S 0 _ HL.out).mono ?_
              rw [HLn.out]
              rintro e w' ⟨rfl, rfl⟩
              by_cases hgt : l < 0
              · go_wp2
                go_ret
                exact ⟨boolIf_false _, rfl⟩
              · go_wp2_with fail
                refine (bit_any CI 0 _ hCI (by omega)).mono ?_
                rintro e w' ⟨rfl, rfl⟩
                cases hb : CI.testBit 0
                · go_wp2
                  go_round
                  case rel => exact ⟨0 + 1, by omega, by go_num, HST.out (by omega) (by omega) (by rw [hb]; rfl)⟩
                  case measure => simp [intOf]
                · go_wp2
                  go_ret
                  exact ⟨boolIf_false _, rfl⟩
            · have t1 : ((k : Int) == 0) = false := by simp; omega
              clear t0
              go_wp2_with fail
              refine (conv_any ca N ccap C k _ HC.out HB.out).mono ?_
              rw [HZ.out]
              rintro e w' ⟨rfl, rfl⟩
              go_wp2_with fail
              refine (rowlen_any la L lcap R ln S k _ HL.out).mono ?_
              rw [HLn.out]
              rintro e w' ⟨rfl, rfl⟩
              by_cases hgt : l < z
              · go_wp2
                go_ret
                exact ⟨boolIf_false _, rfl⟩
              · go_wp2_with fail
                refine (bit_any CI k _ hCI (by omega)).mono ?_
                rintro e w' ⟨rfl, rfl⟩
                cases hb : CI.testBit k
                · by_cases hz0 : z = 0
                  · subst hz0
                    go_wp2
                    go_round
                    case rel => exact ⟨k + 1, by omega, by go_num, HST.out (by omega) (by omega) (by rw [hb]; rfl)⟩
                    case measure => simp [intOf]; omega
                  · have t2 : (z != 0) = true := by simpa using hz0
                    clear hz0
                    go_wp2
                    go_ret
                    exact ⟨boolIf_false _, rfl⟩
                · by_cases hz0 : z = 0
                  · subst hz0
                    go_wp2
                    go_ret
                    exact ⟨boolIf_false _, rfl⟩
                  · have t2 : (z != 0) = true := by simpa using hz0
                    clear hz0
                    go_wp2
                    go_round
                    case rel => exact ⟨k + 1, by omega, by go_num, HST.out (by omega) (by omega) (by rw [hb, t2])⟩
                    case measure => simp [intOf]; omega
      · have h7' : ¬ (k : Int) < 7 := by omega
        have hF' : ConvFits CI L N ln C (k + 1) := hF.step (fun h => absurd h h7)
        have t1 : ((k : Int) == 0) = false := by simp; omega
        clear hF
        go_wp2_with fail
        refine (rowlen_any la L lcap R ln S k _ HL.out).mono ?_
        rintro e w' ⟨rfl, rfl⟩
        go_wp2_with fail
        refine (bit_any CI k _ hCI (by omega)).mono ?_
        rintro e w' ⟨rfl, rfl⟩
        cases hb : CI.testBit k
        · go_wp2
          go_round
          case rel => exact ⟨k + 1, by omega, by go_num, hF'⟩
          case measure => simp [intOf]; omega
        · go_wp2
          go_ret
          exact ⟨boolIf_false _, rfl⟩
    · obtain rfl : k = 16 := by omega
      have HF := Lib.hid hF
      clear hF
      go_wp2
      go_ret
      exact ⟨boolIf_true HF.out, rfl⟩
end Go.Proofs.Qxb6614373a
