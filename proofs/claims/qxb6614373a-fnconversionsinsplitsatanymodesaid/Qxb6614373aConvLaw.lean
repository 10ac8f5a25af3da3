import Derived.Test.Qxb6614373aPlain
import Derived.Laws.CopyOwn
namespace Go.Proofs.Qxb6614373a
open Go.RowKit

theorem RowAt.len_le {w : World} {v : Value} {n : Nat} {s : Nat → Int} (h : RowAt w v n s) : (n : Int) ≤ 17592186044416 := by
  rcases h with (⟨_, rfl⟩ | ⟨_, _, _, rfl⟩) | ⟨_, _, _, _, _, h, _⟩
  · omega
  · omega
  · exact h

theorem IsLists.below {w w' : World} {la : Option Addr} {L : Nat} {R : Nat → Value} {ln : Nat → Nat} {S : Nat → Nat → Int} (h : IsLists w la L R ln S) (hb : Below w.heap.size w w') : IsLists w' la L R ln S := by
  intro i hi
  obtain ⟨lb, lo, e, h1, h2, h3⟩ := h i hi
  exact ⟨lb, lo, e, Nat.lt_of_lt_of_le h1 hb.size, (hb.cell (p := ⟨lb, lo + i, none⟩) h1).trans h2, h3.below hb (Nat.le_refl _)⟩
theorem IsCounts.below {w w' : World} {ca : Option Addr} {N : Nat} {C : Nat → Int} (h : IsCounts w ca N C) (hb : Below w.heap.size w w') : IsCounts w' ca N C := by
  intro i hi
  obtain ⟨cb, co, e, h1, h2⟩ := h i hi
  exact ⟨cb, co, e, Nat.lt_of_lt_of_le h1 hb.size, (hb.cell (p := ⟨cb, co + i, none⟩) h1).trans h2⟩

theorem cvOf_bd {N : Nat} {C : Nat → Int} (hC : ∀ i, i < N → -2147483648 ≤ C i ∧ C i ≤ 2147483647) (m : Nat) : cvOf N C m ≤ 2147483647 := by
  unfold cvOf
  split
  · exact (hC m ‹_›).2
  · omega

/-- 'make([]int32, n)', as the walk meets it. -/
theorem make_i32s (n : Nat) (hn : n ≤ 35184372088832) (W : World) :
    (Instr.makeSlice 31 (.int .i64 (n : Int)) (.int .i64 (n : Int))).run Try.prog W = .ok (.slice (some ⟨W.heap.size, 0, none⟩) n n) (W.alloc (.cells (cellsOf n (.int .i32 0)) 21)) := by
  have := run_make (P := Try.prog) W 31 21 Try.t21 (.int .i32 0) Try.underlying31 (by kernel_rfl) rfl .i64 .i64 (n : Int) (n : Int) (by omega) (by omega) (by show (4 : Int) * _ ≤ _; omega) (by omega)
  rw [this]
  simp only [Int.toNat_natCast]
  rw [show (Value.int .i32 0).cells = #[Value.int .i32 0] from rfl, show Try.t21.size = 1 from rfl, made_one]

/-- The count of mode m. -/
def cvn (N : Nat) (C : Nat → Int) (m : Nat) : Nat := (cvOf N C m).toNat
theorem sel_facts {M CI L N : Nat} {ln : Nat → Nat} {C : Nat → Int} (hF : ConvFits CI L N ln C 16) : ∀ m, m < 7 → sel M CI m = true → m < L ∧ cvOf N C m = (cvn N C m : Int) ∧ 0 < cvn N C m ∧ cvn N C m ≤ ln m := by
  unfold cvn
  intro m hm hs
  obtain ⟨h1, h2, h3⟩ := hF m (by omega) hm
  have hb : CI.testBit m = true := by unfold sel at hs; simp at hs; exact hs.2.2
  rw [hb] at h3
  have hne : cvOf N C m ≠ 0 := by intro e; rw [e] at h3; cases h3
  have hL : m < L := by
    apply Classical.byContradiction
    intro hL
    rw [lnOf_ge hL] at h2
    omega
  rw [lnOf_lt hL] at h2
  exact ⟨hL, by omega, by omega, by omega⟩

/-- The copied counts. -/
def cntCells (N : Nat) (C : Nat → Int) : List Value := (List.range N).map fun i => Value.int .i32 (C i)
theorem cnt_len (N : Nat) (C : Nat → Int) : (cntCells N C).length = N := by unfold cntCells; simp
theorem cnt_get (N : Nat) (C : Nat → Int) (i : Nat) (h : i < N) : (cntCells N C)[i]? = some (.int .i32 (C i)) := by unfold cntCells; simp [h]
theorem cnt_one (N : Nat) (C : Nat → Int) : ∀ v ∈ cntCells N C, v.oneCell' = true := by
  intro v hv
  unfold cntCells at hv
  obtain ⟨i, _, rfl⟩ := List.mem_map.1 hv
  rfl
def zeroCells (N : Nat) : List Value := List.replicate N (.int .i32 0)
theorem zero_len (N : Nat) : (zeroCells N).length = N := by unfold zeroCells; simp

theorem copied {w w1 : World} {N : Nat} {C : Nat → Int} (hg : w1.heap[w.heap.size]? = some (.cells (splice (zeroCells N) 0 (cntCells N C)).toArray 21 (0, 0))) : IsCounts w1 (some ⟨w.heap.size, 0, none⟩) N C := by
  intro i hi
  have hlt : w.heap.size < w1.heap.size := by
    apply Classical.byContradiction
    intro h
    rw [Array.getElem?_eq_none (by omega)] at hg
    cases hg
  refine ⟨w.heap.size, 0, rfl, hlt, ?_⟩
  have hc : w1.cell? ⟨w.heap.size, 0 + i, none⟩ = (splice (zeroCells N) 0 (cntCells N C)).toArray[0 + i]? := by
    simp [World.cell?, hg]
  rw [hc, Nat.zero_add]
  unfold splice
  simp only [List.take_zero, List.nil_append, List.getElem?_toArray]
  rw [List.getElem?_append_left (by rw [cnt_len]; exact hi)]
  exact cnt_get N C i hi

set_option maxRecDepth 100000 in
set_option maxHeartbeats 1000000 in
theorem law_some (M CI c : Nat) (la : Option Addr) (L lcap : Nat) (R : Nat → Value) (ln : Nat → Nat) (S : Nat → Nat → Int) (cb co N ccap : Nat) (C : Nat → Int) (w : World)
    (hM : M < 65536) (hCI : CI < 65536) (hc : c < 256) (hla : IsLists w la L R ln S) (hca : IsCounts w (some ⟨cb, co, none⟩) N C) (hC : ∀ i, i < N → -2147483648 ≤ C i ∧ C i ≤ 2147483647) (hL : (L : Int) ≤ 9223372036854775807) (hN : (N : Int) ≤ 35184372088832) :
    Calls Try.prog 5 #[.int .u16 M, .slice la L lcap, .slice (some ⟨cb, co, none⟩) N ccap, .int .u16 CI, .int .u8 c] w fun e w' => e = .returned (.bool true) ∧ Below w.heap.size w w' := by
  have hmk := make_i32s N (by omega)
  have HL := Lib.hid hla
  have HC := Lib.hid hca
  have HCb := Lib.hid hC
  clear hla hca hC
  have hneq : ∀ W, (binOp .neq 31 (.slice (some ⟨cb, co, none⟩) N ccap) (.slice none 0 0)).run Try.prog W = .ok (.bool true) W := fun W => run_neq_slice_nil W 31 21 _ _ _ Try.underlying31
  go_enter Try.func5, Try.ntmps5
  go_wp2_with fail
  refine (bytes_any _ _ _ la L lcap R ln S _ N ccap _ HL.out hL).mono ?_
  rintro e w' ⟨⟨ok, rfl⟩, hw⟩
  subst w'
  cases ok
  · go_wp2
    go_ret
    exact ⟨rfl, Below.refl _ _⟩
  go_wp2_with fail
  refine (fit_any la L lcap R ln S _ HL.out hL).mono ?_
  rintro e w' ⟨⟨ok, rfl⟩, hw⟩
  subst w'
  cases ok
  · go_wp2
    go_ret
    exact ⟨rfl, Below.refl _ _⟩
  by_cases h4 : (4096 : Int) < (N : Int)
  · go_wp2
    go_ret
    exact ⟨rfl, Below.refl _ _⟩
  have hhg : (w.alloc (Obj.cells (cellsOf N (.int .i32 0)) 21)).heap[w.heap.size]? = some (.cells (zeroCells N).toArray 21 (0, 0)) := by
    show (w.heap.push _)[w.heap.size]? = _
    rw [Array.getElem?_push_size]
    unfold cellsOf zeroCells
    simp
  have hpos : ∀ j v, (cntCells N C)[j]? = some v → (w.alloc (Obj.cells (cellsOf N (.int .i32 0)) 21)).cell? ((⟨cb, co, none⟩ : Addr).add j) = some v := by
    intro j v hv
    have hj : j < N := by
      have := (List.getElem?_eq_some_iff.1 hv).1
      rw [cnt_len] at this
      exact this
    obtain ⟨cb', co', e, h1, h2⟩ := HC.out j hj
    injection e with e
    injection e with e1 e2
    subst e1 e2
    rw [cnt_get N C j hj] at hv
    rw [show (⟨cb, co, none⟩ : Addr).add j = ⟨cb, co + j, none⟩ from Addr.add_mid cb co j, World.cell?_alloc_past (hn := h1), h2, hv]
  have HG := Lib.hid hhg
  have HP := Lib.hid hpos
  clear hhg hpos
  go_wp2_with (refine wpList_copy_splice rfl (.tmp 47) (.tmp 48) 31 31 (by rfl) 21 Try.underlying31 (by kernel_rfl) (some ⟨w.heap.size, 0, none⟩) (some ⟨cb, co, none⟩) N N N ccap (by rfl) (by rfl) w.heap.size 0 (zeroCells N) 21 HG.out (cntCells N C) (by rw [cnt_len]; exact (Nat.min_self N).symm) (fun _ => ⟨rfl, _, rfl, HP.out⟩) (by rw [cnt_len, zero_len]; omega) (cnt_one N C) w.heap.size w ((Below.refl _ _).alloc (Nat.le_refl _) _) (Nat.le_refl _) ?_; intro w1 HW1 hb1)
  have HC1 := Lib.hid (copied HW1.out)
  have HL1 := Lib.hid (HL.out.below hb1)
  -- THE REST
  refine (nummodes _).mono ?_
  rintro e w' ⟨rfl, hw⟩
  subst w'
  go_wp2_with fail
  refine (queued_any M la L lcap R ln S _ HL1.out hM).mono ?_
  rintro e w' ⟨⟨ok, rfl⟩, hw⟩
  subst w'
  cases ok
  · go_wp2
    go_ret
    exact ⟨rfl, hb1⟩
  go_wp2_with fail
  refine (convok_any CI la L lcap R ln S (some ⟨w.heap.size, 0, none⟩) N N C _ HL1.out HC1.out HCb.out hCI).mono ?_
  rintro e w' ⟨⟨ok, rfl, hok⟩, hw⟩
  subst w'
  cases ok
  · clear hok
    go_wp2
    go_ret
    exact ⟨rfl, hb1⟩
  have HF := Lib.hid (hok rfl)
  clear hok
  obtain ⟨lo, hlo⟩ : ∃ lo, lo = M &&& lowMask c := ⟨_, rfl⟩
  obtain ⟨hi, hhi⟩ : ∃ hi, hi = M &&& (65535 - lowMask c) := ⟨_, rfl⟩
  have hloB : lo < 65536 := by rw [hlo]; exact Nat.and_lt_two_pow (n := 16) _ (lowMask_lt c)
  have hhiB : hi < 65536 := by rw [hhi]; exact Nat.and_lt_two_pow (n := 16) _ (by omega)
  have hand : bits BinOp.and IntKind.u16 (M : Int) (lowMask c : Int) = (lo : Int) := by rw [hlo]; exact bits_and_u16 M _ hM (lowMask_lt c)
  have hnot : bits BinOp.andNot IntKind.u16 (M : Int) (lowMask c : Int) = (hi : Int) := by rw [hhi]; exact bits_andNot_u16 M _ hM (lowMask_lt c)
  have HLO := Lib.hid hlo
  have HHI := Lib.hid hhi
  clear hlo hhi
  go_wp2_with fail
  refine (below_any c _ hc).mono ?_
  rintro e w' ⟨rfl, hw⟩
  subst w'
  go_wp2_with fail
  refine (below_any c _ hc).mono ?_
  rintro e w' ⟨rfl, hw⟩
  subst w'
  go_wp2_with fail
  clear hand hnot
  have hlnb : ∀ m, m < L → (ln m : Int) ≤ 17592186044416 := fun m hm => by obtain ⟨_, _, _, _, _, h⟩ := HL1.out m hm; exact h.len_le
  have HLN := Lib.hid hlnb
  clear hlnb
  refine (zzconv_any la L lcap R ln S (some ⟨w.heap.size, 0, none⟩) N N C (cvn N C) CI M _ hM hCI HL1.out HC1.out HLN.out (sel_facts HF.out)).mono ?_
  rintro e w2 ⟨b2, rfl, hb2, x2, y2, hr2⟩
  have HL2 := Lib.hid (HL1.out.below hb2)
  have HC2 := Lib.hid (HC1.out.below hb2)
  have HR2 := Lib.hid hr2
  clear hr2
  go_wp2_with fail
  refine (zzconv_any la L lcap R ln S (some ⟨w.heap.size, 0, none⟩) N N C (cvn N C) CI lo _ hloB hCI HL2.out HC2.out HLN.out (sel_facts HF.out)).mono ?_
  rintro e w3 ⟨b3, rfl, hb3, x3, y3, hr3⟩
  have HL3 := Lib.hid (HL2.out.below hb3)
  have HC3 := Lib.hid (HC2.out.below hb3)
  have HR3 := Lib.hid hr3
  clear hr3
  go_wp2_with fail
  refine (zzconv_any la L lcap R ln S (some ⟨w.heap.size, 0, none⟩) N N C (cvn N C) CI hi _ hhiB hCI HL3.out HC3.out HLN.out (sel_facts HF.out)).mono ?_
  rintro e w4 ⟨b4, rfl, hb4, x4, y4, hr4⟩
  have HC4 := Lib.hid (HC3.out.below hb4)
  have HR4 := Lib.hid hr4
  clear hr4
  have z2 := hb2.size
  have z3 := hb3.size
  have z4 := hb4.size
  have HS2 := Lib.hid ((HR2.out.below hb3 y2 (Nat.le_refl _)).below hb4 (by omega) (by omega))
  have HS3 := Lib.hid (HR3.out.below hb4 y3 (Nat.le_refl _))
  have hBB := ((hb1).trans (hb2.mono hb1.size)).trans ((hb3.mono (Nat.le_trans hb1.size hb2.size)).trans (hb4.mono (Nat.le_trans hb1.size (Nat.le_trans hb2.size hb3.size))))
  have HBB := Lib.hid hBB
  clear hBB
  have hs1 : (sels M CI 7).length ≤ 6 := sels_len M CI 6
  have hs2 : (sels lo CI 7).length ≤ 6 := sels_len lo CI 6
  have hs3 : (sels hi CI 7).length ≤ 6 := sels_len hi CI 6
  have hsum : (sels M CI 7).length = (sels lo CI 7).length + (sels hi CI 7).length := by
    rw [HLO.out, HHI.out, ← List.length_append, ← sels_split]
  have hq1 : ∀ i, i < (sels lo CI 7).length → smode M CI (0 + i) = smode lo CI i := fun i hi' => by
    rw [Nat.zero_add]; have := HLO.out; subst this; exact smode_lo M CI c i hi'
  have hq2 : ∀ i, smode M CI ((sels lo CI 7).length + i) = smode hi CI i := fun i => by
    have e1 := HLO.out; have e2 := HHI.out; subst e1; subst e2; exact smode_hi M CI c i
  have hgw : gotN (fun i => cvn N C (smode M CI i)) (sels M CI 7).length = wantN M (cvOf N C) 7 :=
    got_want M CI (cvOf N C) (cvn N C) (fun m hm => by have := HF.out m (by omega) hm; unfold cvn; omega) (fun m hm => (HF.out m (by omega) hm).2.2)
  have hcvb : ∀ m, (cvn N C m : Int) ≤ 2147483647 := fun m => by have := cvOf_bd HCb.out m; unfold cvn; omega
  have hwb := wantN_bd M (cvOf N C) (fun m hm => ⟨(HF.out m (by omega) hm).1, cvOf_bd HCb.out m⟩)
  have hgb := gotN_bd (fun i => cvn N C (smode M CI i)) (fun i => hcvb _)
  have HQ1 := Lib.hid hq1
  have HQ2 := Lib.hid hq2
  have HGW := Lib.hid hgw
  have HWB := Lib.hid hwb
  have HGB := Lib.hid hgb
  have HCV := Lib.hid hcvb
  clear hq1 hq2 hgw hwb hgb hcvb
  generalize (sels M CI 7).length = cw at *
  generalize (sels lo CI 7).length = cl at *
  generalize (sels hi CI 7).length = ch at *
  have HSUM := Lib.hid hsum
  have i1 : (cw : Int) ≤ 6 := by omega
  have i2 : (cl : Int) ≤ 6 := by omega
  have i3 : (ch : Int) ≤ 6 := by omega
  have hm1 := match_any b2 b3 cw cl 0 _ _ _ _ _ _ _ _ w4 HS2.out HS3.out (by omega) (by omega) (by omega) (fun i hi' => by show cvn N C (smode M CI (0 + i)) = cvn N C (smode lo CI i); rw [HQ1.out i hi']) (fun i hi' => by show S (smode M CI (0 + i)) = S (smode lo CI i); rw [HQ1.out i hi']) (fun i _ => by have := HCV.out (smode lo CI i); show (cvn N C (smode lo CI i) : Int) ≤ _; omega)
  have hm2 : ∀ d, Calls Try.prog 17 #[.slice (some ⟨b2, 0, none⟩) 12 12, .int .i64 cw, .int .i64 cl, .slice (some ⟨b4, 0, none⟩) 12 12, .int .i64 0, .int .i64 ch] (w4.drewN d) fun e w' => e = .returned (.tuple #[.int .i64 (cw : Int), .bool true]) ∧ ∃ x, w' = (w4.drewN d).drewN x := fun d => by
    have := match_any b2 b4 cw ch cl _ _ _ _ _ _ _ _ (w4.drewN d) (HS2.out.drewN d) (HR4.out.drewN d) (by omega) (by omega) (by omega) (fun i hi' => by show cvn N C (smode M CI (cl + i)) = cvn N C (smode hi CI i); rw [HQ2.out i]) (fun i hi' => by show S (smode M CI (cl + i)) = S (smode hi CI i); rw [HQ2.out i]) (fun i _ => by have := HCV.out (smode hi CI i); show (cvn N C (smode hi CI i) : Int) ≤ _; omega)
    rw [← HSUM.out] at this
    exact this
  rw [Nat.zero_add] at hm1
  have HM1 := Lib.hid hm1
  have HM2 := Lib.hid hm2
  clear hm1 hm2 hsum
  go_wp2_with fail
  refine HM1.out.mono ?_
  rintro e w5 ⟨rfl, d5, rfl⟩
  go_wp2_with fail
  refine (HM2.out d5).mono ?_
  rintro e w6 ⟨rfl, d6, rfl⟩
  go_wp2
  go_loop [23, 24] (fun z i => ∃ k : Nat, 1 ≤ k ∧ k ≤ 7 ∧ i = .int .i64 k ∧ z = .int .i64 (wantN M (cvOf N C) k)) (fun _ i => 7 - (intOf i).toNat)
  case atStart => exact ⟨1, by omega, by omega, rfl, rfl⟩
  case round =>
    obtain ⟨k, hk1, hk7, rfl, rfl⟩ := hrel
    obtain ⟨v1, v2⟩ := HWB.out k hk7
    by_cases hlt : k < 7
    · have hk' : (k : Int) < 7 := by omega
      obtain ⟨q1, _, _⟩ := HF.out k (by omega) hlt
      have q2 := cvOf_bd HCb.out k
      go_wp2_with fail
      refine (bit_any M k _ hM (by omega)).mono ?_
      rintro e w' ⟨rfl, hw⟩
      subst w'
      cases hb : M.testBit k
      · have HW := Lib.hid (show wantN M (cvOf N C) (k + 1) = wantN M (cvOf N C) k by rw [wantN, if_neg (by rw [hb]; simp)])
        go_wp2
        go_round
        case rel => exact ⟨k + 1, by omega, by omega, by go_num, by rw [HW.out]⟩
        case measure => simp [intOf]; omega
      · have HW := Lib.hid (show wantN M (cvOf N C) (k + 1) = wantN M (cvOf N C) k + cvOf N C k by rw [wantN, if_pos (by rw [hb]; simp; omega)])
        go_wp2_with fail
        refine (conv_any (some ⟨w.heap.size, 0, none⟩) N N C k _ (by exact HC4.out) HCb.out).mono ?_
        rintro e w' ⟨rfl, hw⟩
        subst w'
        go_wp2
        go_round
        case rel => exact ⟨k + 1, by omega, by omega, by go_num, by rw [HW.out]⟩
        case measure => simp [intOf]; omega
    · obtain rfl : k = 7 := by omega
      generalize hV : wantN M (cvOf N C) 7 = V at *
      have HV := Lib.hid hV
      clear hV
      go_wp2
      go_loop [25, 26] (fun z i => ∃ k : Nat, k ≤ cw ∧ i = .int .i64 k ∧ z = .int .i64 (gotN (fun i => cvn N C (smode M CI i)) k)) (fun _ i => cw - (intOf i).toNat)
      case atStart => exact ⟨0, by omega, rfl, rfl⟩
      case round =>
        obtain ⟨k, hk, rfl, rfl⟩ := hrel
        obtain ⟨u1, u2⟩ := HGB.out k
        by_cases hlt : k < cw
        · have hk' : (k : Int) < (cw : Int) := by omega
          have hk12 : (k : Int) < 12 := by omega
          obtain ⟨ob, o1, o2, o3, o4⟩ := HS2.out k hlt
          have q3 := HCV.out (smode M CI k)
          have HW := Lib.hid (show gotN (fun i => cvn N C (smode M CI i)) (k + 1) = gotN (fun i => cvn N C (smode M CI i)) k + (cvn N C (smode M CI k) : Int) from rfl)
          clear o4
          go_wp2
          go_round
          case rel => exact ⟨k + 1, by omega, by go_num, by rw [HW.out]⟩
          case measure => simp [intOf]; omega
        · obtain rfl : k = cw := by omega
          have HE : Hid ((gotN (fun i => cvn N C (smode M CI i)) k == V) = true) := by
            show _ = _
            rw [HGW.out]; simp
          go_wp2
          go_ret
          exact ⟨ret_bool HE.out, below_drewN HBB.out _⟩
end Go.Proofs.Qxb6614373a
