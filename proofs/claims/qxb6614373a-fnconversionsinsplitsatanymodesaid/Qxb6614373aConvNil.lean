import Derived.Test.Qxb6614373aConvLaw
namespace Go.Proofs.Qxb6614373a
open Go.RowKit

theorem neq_nil31 (W : World) : (binOp .neq 31 (.slice none 0 0) (.slice none 0 0)).run Try.prog W = .ok (.bool false) W := run_neq_slice_nil W 31 21 _ _ _ Try.underlying31

set_option maxRecDepth 100000 in
set_option maxHeartbeats 1000000 in
theorem law_nil (M CI c : Nat) (la : Option Addr) (L lcap : Nat) (R : Nat → Value) (ln : Nat → Nat) (S : Nat → Nat → Int) (w : World)
    (hM : M < 65536) (hCI : CI < 65536) (hc : c < 256) (hla : IsLists w la L R ln S) (hL : (L : Int) ≤ 9223372036854775807) :
    Calls Try.prog 5 #[.int .u16 M, .slice la L lcap, .slice none 0 0, .int .u16 CI, .int .u8 c] w fun e w' => e = .returned (.bool true) ∧ Below w.heap.size w w' := by
  obtain ⟨C, hC0⟩ : ∃ C : Nat → Int, C = fun _ => 0 := ⟨_, rfl⟩
  have HL := Lib.hid hla
  have HC : Hid (IsCounts w none 0 C) := by intro i hi; omega
  have HCb : Hid (∀ i, i < 0 → -2147483648 ≤ C i ∧ C i ≤ 2147483647) := by intro i hi; omega
  clear hla hC0
  have hneq := neq_nil31
  go_enter Try.func5, Try.ntmps5
  go_wp2_with fail
  refine (bytes_any _ _ _ la L lcap R ln S _ 0 0 _ HL.out hL).mono ?_
  rintro e w' ⟨⟨ok, rfl⟩, hw⟩
  subst w'
  cases ok
  · go_wp2
    go_ret
    exact ⟨rfl, Below.refl _ _⟩
  go_wp2_with fail
  refine (fit_any la L lcap R ln S _ HL.out hL).mono ?_
  rintro e w' ⟨⟨ok, rfl⟩, hw⟩
  subst w'
  cases ok
  · go_wp2
    go_ret
    exact ⟨rfl, Below.refl _ _⟩
  go_wp2_with fail
  have HC1 := HC
  have HL1 := HL
  -- THE REST
  refine (nummodes _).mono ?_
  rintro e w' ⟨rfl, hw⟩
  subst w'
  go_wp2_with fail
  refine (queued_any M la L lcap R ln S _ HL1.out hM).mono ?_
  rintro e w' ⟨⟨ok, rfl⟩, hw⟩
  subst w'
  cases ok
  · go_wp2
    go_ret
    exact ⟨rfl, Below.refl _ _⟩
  go_wp2_with fail
  refine (convok_any CI la L lcap R ln S none 0 0 C _ HL1.out HC1.out HCb.out hCI).mono ?_
  rintro e w' ⟨⟨ok, rfl, hok⟩, hw⟩
  subst w'
  cases ok
  · clear hok
    go_wp2
    go_ret
    exact ⟨rfl, Below.refl _ _⟩
  have HF := Lib.hid (hok rfl)
  clear hok
  obtain ⟨lo, hlo⟩ : ∃ lo, lo = M &&& lowMask c := ⟨_, rfl⟩
  obtain ⟨hi, hhi⟩ : ∃ hi, hi = M &&& (65535 - lowMask c) := ⟨_, rfl⟩
  have hloB : lo < 65536 := by rw [hlo]; exact Nat.and_lt_two_pow (n := 16) _ (lowMask_lt c)
  have hhiB : hi < 65536 := by rw [hhi]; exact Nat.and_lt_two_pow (n := 16) _ (by omega)
  have hand : bits BinOp.and IntKind.u16 (M : Int) (lowMask c : Int) = (lo : Int) := by rw [hlo]; exact bits_and_u16 M _ hM (lowMask_lt c)
  have hnot : bits BinOp.andNot IntKind.u16 (M : Int) (lowMask c : Int) = (hi : Int) := by rw [hhi]; exact bits_andNot_u16 M _ hM (lowMask_lt c)
  have HLO := Lib.hid hlo
  have HHI := Lib.hid hhi
  clear hlo hhi
  go_wp2_with fail
  refine (below_any c _ hc).mono ?_
  rintro e w' ⟨rfl, hw⟩
  subst w'
  go_wp2_with fail
  refine (below_any c _ hc).mono ?_
  rintro e w' ⟨rfl, hw⟩
  subst w'
  go_wp2_with fail
  clear hand hnot
  have hlnb : ∀ m, m < L → (ln m : Int) ≤ 17592186044416 := fun m hm => by obtain ⟨_, _, _, _, _, h⟩ := HL1.out m hm; exact h.len_le
  have HLN := Lib.hid hlnb
  clear hlnb
  refine (zzconv_any la L lcap R ln S none 0 0 C (cvn 0 C) CI M _ hM hCI HL1.out HC1.out HLN.out (sel_facts HF.out)).mono ?_
  rintro e w2 ⟨b2, rfl, hb2, x2, y2, hr2⟩
  have HL2 := Lib.hid (HL1.out.below hb2)
  have HC2 := Lib.hid (HC1.out.below hb2)
  have HR2 := Lib.hid hr2
  clear hr2
  go_wp2_with fail
  refine (zzconv_any la L lcap R ln S none 0 0 C (cvn 0 C) CI lo _ hloB hCI HL2.out HC2.out HLN.out (sel_facts HF.out)).mono ?_
  rintro e w3 ⟨b3, rfl, hb3, x3, y3, hr3⟩
  have HL3 := Lib.hid (HL2.out.below hb3)
  have HC3 := Lib.hid (HC2.out.below hb3)
  have HR3 := Lib.hid hr3
  clear hr3
  go_wp2_with fail
  refine (zzconv_any la L lcap R ln S none 0 0 C (cvn 0 C) CI hi _ hhiB hCI HL3.out HC3.out HLN.out (sel_facts HF.out)).mono ?_
  rintro e w4 ⟨b4, rfl, hb4, x4, y4, hr4⟩
  have HC4 := Lib.hid (HC3.out.below hb4)
  have HR4 := Lib.hid hr4
  clear hr4
  have z2 := hb2.size
  have z3 := hb3.size
  have z4 := hb4.size
  have HS2 := Lib.hid ((HR2.out.below hb3 y2 (Nat.le_refl _)).below hb4 (by omega) (by omega))
  have HS3 := Lib.hid (HR3.out.below hb4 y3 (Nat.le_refl _))
  have hBB := ((Below.refl _ _).trans (hb2.mono (Nat.le_refl _))).trans ((hb3.mono hb2.size).trans (hb4.mono (Nat.le_trans hb2.size hb3.size)))
  have HBB := Lib.hid hBB
  clear hBB
  have hs1 : (sels M CI 7).length ≤ 6 := sels_len M CI 6
  have hs2 : (sels lo CI 7).length ≤ 6 := sels_len lo CI 6
  have hs3 : (sels hi CI 7).length ≤ 6 := sels_len hi CI 6
  have hsum : (sels M CI 7).length = (sels lo CI 7).length + (sels hi CI 7).length := by
    rw [HLO.out, HHI.out, ← List.length_append, ← sels_split]
  have hq1 : ∀ i, i < (sels lo CI 7).length → smode M CI (0 + i) = smode lo CI i := fun i hi' => by
    rw [Nat.zero_add]; have := HLO.out; subst this; exact smode_lo M CI c i hi'
  have hq2 : ∀ i, smode M CI ((sels lo CI 7).length + i) = smode hi CI i := fun i => by
    have e1 := HLO.out; have e2 := HHI.out; subst e1; subst e2; exact smode_hi M CI c i
  have hgw : gotN (fun i => cvn 0 C (smode M CI i)) (sels M CI 7).length = wantN M (cvOf 0 C) 7 :=
    got_want M CI (cvOf 0 C) (cvn 0 C) (fun m hm => by have := HF.out m (by omega) hm; unfold cvn; omega) (fun m hm => (HF.out m (by omega) hm).2.2)
  have hcvb : ∀ m, (cvn 0 C m : Int) ≤ 2147483647 := fun m => by have := cvOf_bd HCb.out m; unfold cvn; omega
  have hwb := wantN_bd M (cvOf 0 C) (fun m hm => ⟨(HF.out m (by omega) hm).1, cvOf_bd HCb.out m⟩)
  have hgb := gotN_bd (fun i => cvn 0 C (smode M CI i)) (fun i => hcvb _)
  have HQ1 := Lib.hid hq1
  have HQ2 := Lib.hid hq2
  have HGW := Lib.hid hgw
  have HWB := Lib.hid hwb
  have HGB := Lib.hid hgb
  have HCV := Lib.hid hcvb
  clear hq1 hq2 hgw hwb hgb hcvb
  generalize (sels M CI 7).length = cw at *
  generalize (sels lo CI 7).length = cl at *
  generalize (sels hi CI 7).length = ch at *
  have HSUM := Lib.hid hsum
  have i1 : (cw : Int) ≤ 6 := by omega
  have i2 : (cl : Int) ≤ 6 := by omega
  have i3 : (ch : Int) ≤ 6 := by omega
  have hm1 := match_any b2 b3 cw cl 0 _ _ _ _ _ _ _ _ w4 HS2.out HS3.out (by omega) (by omega) (by omega) (fun i hi' => by show cvn 0 C (smode M CI (0 + i)) = cvn 0 C (smode lo CI i); rw [HQ1.out i hi']) (fun i hi' => by show S (smode M CI (0 + i)) = S (smode lo CI i); rw [HQ1.out i hi']) (fun i _ => by have := HCV.out (smode lo CI i); show (cvn 0 C (smode lo CI i) : Int) ≤ _; omega)
  have hm2 : ∀ d, Calls Try.prog 17 #[.slice (some ⟨b2, 0, none⟩) 12 12, .int .i64 cw, .int .i64 cl, .slice (some ⟨b4, 0, none⟩) 12 12, .int .i64 0, .int .i64 ch] (w4.drewN d) fun e w' => e = .returned (.tuple #[.int .i64 (cw : Int), .bool true]) ∧ ∃ x, w' = (w4.drewN d).drewN x := fun d => by
    have := match_any b2 b4 cw ch cl _ _ _ _ _ _ _ _ (w4.drewN d) (HS2.out.drewN d) (HR4.out.drewN d) (by omega) (by omega) (by omega) (fun i hi' => by show cvn 0 C (smode M CI (cl + i)) = cvn 0 C (smode hi CI i); rw [HQ2.out i]) (fun i hi' => by show S (smode M CI (cl + i)) = S (smode hi CI i); rw [HQ2.out i]) (fun i _ => by have := HCV.out (smode hi CI i); show (cvn 0 C (smode hi CI i) : Int) ≤ _; omega)
    rw [← HSUM.out] at this
    exact this
  rw [Nat.zero_add] at hm1
  have HM1 := Lib.hid hm1
  have HM2 := Lib.hid hm2
  clear hm1 hm2 hsum
  go_wp2_with fail
  refine HM1.out.mono ?_
  rintro e w5 ⟨rfl, d5, rfl⟩
  go_wp2_with fail
  refine (HM2.out d5).mono ?_
  rintro e w6 ⟨rfl, d6, rfl⟩
  go_wp2
  go_loop [23, 24] (fun z i => ∃ k : Nat, 1 ≤ k ∧ k ≤ 7 ∧ i = .int .i64 k ∧ z = .int .i64 (wantN M (cvOf 0 C) k)) (fun _ i => 7 - (intOf i).toNat)
  case atStart => exact ⟨1, by omega, by omega, rfl, rfl⟩
  case round =>
    obtain ⟨k, hk1, hk7, rfl, rfl⟩ := hrel
    obtain ⟨v1, v2⟩ := HWB.out k hk7
    by_cases hlt : k < 7
    · have hk' : (k : Int) < 7 := by omega
      obtain ⟨q1, _, _⟩ := HF.out k (by omega) hlt
      have q2 := cvOf_bd HCb.out k
      go_wp2_with fail
      refine (bit_any M k _ hM (by omega)).mono ?_
      rintro e w' ⟨rfl, hw⟩
      subst w'
      cases hb : M.testBit k
      · have HW := Lib.hid (show wantN M (cvOf 0 C) (k + 1) = wantN M (cvOf 0 C) k by rw [wantN, if_neg (by rw [hb]; simp)])
        go_wp2
        go_round
        case rel => exact ⟨k + 1, by omega, by omega, by go_num, by rw [HW.out]⟩
        case measure => simp [intOf]; omega
      · have HW := Lib.hid (show wantN M (cvOf 0 C) (k + 1) = wantN M (cvOf 0 C) k + cvOf 0 C k by rw [wantN, if_pos (by rw [hb]; simp; omega)])
        go_wp2_with fail
        refine (conv_any none 0 0 C k _ (by exact HC4.out) HCb.out).mono ?_
        rintro e w' ⟨rfl, hw⟩
        subst w'
        go_wp2
        go_round
        case rel => exact ⟨k + 1, by omega, by omega, by go_num, by rw [HW.out]⟩
        case measure => simp [intOf]; omega
    · obtain rfl : k = 7 := by omega
      generalize hV : wantN M (cvOf 0 C) 7 = V at *
      have HV := Lib.hid hV
      clear hV
      go_wp2
      go_loop [25, 26] (fun z i => ∃ k : Nat, k ≤ cw ∧ i = .int .i64 k ∧ z = .int .i64 (gotN (fun i => cvn 0 C (smode M CI i)) k)) (fun _ i => cw - (intOf i).toNat)
      case atStart => exact ⟨0, by omega, rfl, rfl⟩
      case round =>
        obtain ⟨k, hk, rfl, rfl⟩ := hrel
        obtain ⟨u1, u2⟩ := HGB.out k
        by_cases hlt : k < cw
        · have hk' : (k : Int) < (cw : Int) := by omega
          have hk12 : (k : Int) < 12 := by omega
          obtain ⟨ob, o1, o2, o3, o4⟩ := HS2.out k hlt
          have q3 := HCV.out (smode M CI k)
          have HW := Lib.hid (show gotN (fun i => cvn 0 C (smode M CI i)) (k + 1) = gotN (fun i => cvn 0 C (smode M CI i)) k + (cvn 0 C (smode M CI k) : Int) from rfl)
          clear o4
          go_wp2
          go_round
          case rel => exact ⟨k + 1, by omega, by go_num, by rw [HW.out]⟩
          case measure => simp [intOf]; omega
        · obtain rfl : k = cw := by omega
          have HE : Hid ((gotN (fun i => cvn 0 C (smode M CI i)) k == V) = true) := by
            show _ = _
            rw [HGW.out]; simp
          go_wp2
          go_ret
          exact ⟨ret_bool HE.out, below_drewN HBB.out _⟩
end Go.Proofs.Qxb6614373a
