import Derived.Test.Qxb6614277aSymBig
namespace Go.Proofs.Qxb6614277a
open Go.RowKit

set_option maxHeartbeats 4000000 in
set_option maxRecDepth 100000 in
theorem sym_small (Q : Nat → Prop) (tg : Nat → Nat) (w0 : World) (blk n cap d : Nat) (f : Nat → Nat) (a m b : Nat) (W : World) (hc : CmpOK blk tg Q w0) (ih : SymOK Q tg w0 blk n cap d) (h : St Q w0 blk n f W) (ham : a + 1 < m) (hmb : m + 1 < b) (hbn : b ≤ n) (hn : n ≤ 1048576) (hd : b - a ≤ d + 1)
    (h1 : SortedOn tg f a m) (h2 : SortedOn tg f m b) (hx : Across tg f a m b) (mid : Nat) (hmid : mid = (a + b) / 2) (hbr : ¬ mid < m) :
    Calls Try.prog 35 #[.slice (some ⟨blk, 0, none⟩) n cap, .int .i64 a, .int .i64 m, .int .i64 b, .func (.func 28) #[] #[]] W fun e W' => e = .returned (.tuple #[]) ∧ ∃ g, St Q w0 blk n g W' ∧ Sw a b f g ∧ SortedOn tg g a b := by
  have HS := Lib.hid h
  have HC := Lib.hid hc
  have H1 := Lib.hid h1
  have H2 := Lib.hid h2
  have HX := Lib.hid hx
  have IH := Lib.hid ih
  clear h hc h1 h2 hx ih
  have e0 : ¬ (m : Int) - (a : Int) = 1 := by omega
  have e0' : ((m : Int) - (a : Int) == 1) = false := by simpa using e0
  have e1 : ¬ (b : Int) - (m : Int) = 1 := by omega
  have e1' : ((b : Int) - (m : Int) == 1) = false := by simpa using e1
  obtain ⟨P, hP⟩ : ∃ P, P + 1 = mid + m := ⟨mid + m - 1, by omega⟩
  obtain ⟨N, hN⟩ : ∃ N, N = mid + m := ⟨_, rfl⟩
  have m1 : ((a : Int) + (b : Int)) / 2 = (mid : Int) := by omega
  have m2 : (mid : Int) + (m : Int) = (N : Int) := by omega
  have m3 : (N : Int) - 1 = (P : Int) := by omega
  have m5 : ¬ (mid : Int) < (m : Int) := by omega
  have m5' : decide ((mid : Int) < (m : Int)) = false := decide_eq_false m5
  have mb : a < mid ∧ mid < b := by omega
  have HN := Lib.hid hN
  have HP := Lib.hid hP
  have HMID := Lib.hid hmid
  clear hN hP hmid
  go_enter Try.func35, Try.ntmps35
  go_wp2
  go_loopw [20, 21] (fun vs vr wr => ∃ (s r : Nat), a ≤ s ∧ s ≤ r ∧ r ≤ m ∧ vs = .int .i64 s ∧ vr = .int .i64 r ∧ Hid (St Q w0 blk n f wr ∧ (s = a ∨ tg (f (s - 1)) ≤ tg (f (P - (s - 1)))) ∧ (r = m ∨ tg (f (P - r)) < tg (f r)))) (fun vs vr _ => (intOf vr).toNat - (intOf vs).toNat)
  case atStart => exact ⟨a, m, Nat.le_refl _, by omega, Nat.le_refl _, rfl, rfl, ⟨HS.out, Or.inl rfl, Or.inl rfl⟩⟩
  case round =>
    obtain ⟨s, r, hs0, hsr, hr0, rfl, rfl, HI⟩ := hrel
    have hP := HP.out
    have hN := HN.out
    by_cases hlt : s < r
    · have h1 : (s : Int) < (r : Int) := by omega
      obtain ⟨c, hcdef⟩ : ∃ c, c = (s + r) / 2 := ⟨_, rfl⟩
      obtain ⟨x, hxdef⟩ : ∃ x, x + c = P := ⟨P - c, by omega⟩
      have k0 : (c : Int) < (n : Int) := by omega
      have k1 : ((s : Int) + (r : Int)) / 2 = (c : Int) := by omega
      have k4 : (P : Int) - (c : Int) = (x : Int) := by omega
      have k5 : (x : Int) < (n : Int) := by omega
      have k6 : IntKind.i64.wrap (x : Int) = (x : Int) := by rw [IntKind.wrap_i64]; omega
      obtain ⟨c1, _⟩ := HI.out.1.row.2 c (by omega)
      obtain ⟨c2, _⟩ := HI.out.1.row.2 x (by omega)
      have k2 := aft_cell c1
      have k3 := aft_cell c2
      have hcm := HI.out.1.cmp HC.out (i := x) (j := c) (by omega) (by omega)
      have HD := Lib.hid hcdef
      have HE := Lib.hid hxdef
      clear c1 c2 hcdef hxdef hP hN
      by_cases hl : tg (f x) < tg (f c)
      · have hneg : cmp3 (tg (f x)) (tg (f c)) < 0 := cmp3_neg.2 hl
        go_wp2_with fail
        refine wp_region_aft (by kernel_rfl) (by kernel_rfl) ?_
        repeat (quiet_step ((go_at_call 28; exact hcm _)))
        refine wpQuiet_nil ?_
        intro _ hw'
        obtain ⟨pq, hw''⟩ := hw'
        subst hw''
        clear k2 k3 hcm
        have HA := Lib.hid (HI.out.1.aft pq)
        generalize aft wr pq = wa at *
        go_wp2
        go_roundw
        case rel =>
          have q := HD.out
          have q2 := HE.out
          exact ⟨s, c, hs0, by omega, by omega, rfl, rfl, ⟨HA.out, HI.out.2.1, Or.inr (by rw [show P - c = x by omega]; exact hl)⟩⟩
        case measure => have q := HD.out; simp [intOf]; omega
      · have hneg : ¬ cmp3 (tg (f x)) (tg (f c)) < 0 := fun h => hl (cmp3_neg.1 h)
        have hneg' : decide (cmp3 (tg (f x)) (tg (f c)) < 0) = false := decide_eq_false hneg
        go_wp2_with fail
        refine wp_region_aft (by kernel_rfl) (by kernel_rfl) ?_
        repeat (quiet_step ((go_at_call 28; exact hcm _)))
        refine wpQuiet_nil ?_
        intro _ hw'
        obtain ⟨pq, hw''⟩ := hw'
        subst hw''
        clear k2 k3 hcm
        have HA := Lib.hid (HI.out.1.aft pq)
        generalize aft wr pq = wa at *
        go_wp2
        go_roundw
        case rel =>
          have q := HD.out
          have q2 := HE.out
          exact ⟨c + 1, r, by omega, by omega, hr0, by go_num, rfl, ⟨HA.out, Or.inr (by rw [show c + 1 - 1 = c by omega, show P - c = x by omega]; omega), HI.out.2.2⟩⟩
        case measure => have q := HD.out; simp [intOf]; omega
    · obtain rfl : s = r := by omega
      obtain ⟨E, hE⟩ : ∃ E, E + s = N := ⟨N - s, by omega⟩
      have cut : Cut tg f a m b mid s E := by
        obtain ⟨_, lo, hi⟩ := HI.out
        refine ⟨by omega, by omega, by omega, by omega, by omega, by omega, ?_, ?_⟩
        · rcases lo with h | h
          · left; exact h
          · by_cases hz : s = a
            · exact Or.inl hz
            · right; right
              rw [show P - (s - 1) = E by omega] at h
              exact h
        · rcases hi with h | h
          · left; exact h
          · right; right
            rw [show P - s = E - 1 by omega] at h
            exact h
      have k4 : (N : Int) - (s : Int) = (E : Int) := by omega
      have CUT := Lib.hid cut
      have es : E + s = mid + m := by omega
      have es1 : s ≤ mid ∧ a ≤ s ∧ s ≤ m ∧ E ≤ b ∧ m ≤ E := ⟨cut.c6, cut.c1, cut.c2, cut.c4, cut.c3⟩
      have ES := Lib.hid es
      have ES1 := Lib.hid es1
      clear cut hE hP hN es es1
      have t1 := Lib.hid (CUT.out.s1 H1.out)
      have t2 := Lib.hid (CUT.out.s2 H2.out)
      have t3 := Lib.hid (CUT.out.s3 H1.out)
      have t4 := Lib.hid (CUT.out.s4 H2.out)
      have x1 := Lib.hid (CUT.out.x1 HX.out)
      have x2 := Lib.hid (CUT.out.x2 HX.out)
      have hh := Lib.hid (CUT.out.halves H1.out H2.out HX.out)
      by_cases cd : s < m
      · by_cases ca : a < s
        · by_cases cb : E < b
          · have g1 : (s : Int) < (m : Int) := by have q := ES.out; have q1 := ES1.out; omega
            have g1n : s < m := by have q := ES.out; have q1 := ES1.out; omega
            have g2 : (m : Int) < (E : Int) := by have q := ES.out; have q1 := ES1.out; omega
            have g2n : m < E := by have q := ES.out; have q1 := ES1.out; omega
            have g3 : (a : Int) < (s : Int) := by have q := ES.out; have q1 := ES1.out; omega
            have g3n : a < s := by have q := ES.out; have q1 := ES1.out; omega
            have g4 : (s : Int) < (mid : Int) := by have q := ES.out; have q1 := ES1.out; omega
            have g4n : s < mid := by have q := ES.out; have q1 := ES1.out; omega
            have g5 : (mid : Int) < (E : Int) := by have q := ES.out; have q1 := ES1.out; omega
            have g5n : mid < E := by have q := ES.out; have q1 := ES1.out; omega
            have g6 : (E : Int) < (b : Int) := by have q := ES.out; have q1 := ES1.out; omega
            have g6n : E < b := by have q := ES.out; have q1 := ES1.out; omega
            go_wp2_with fail
            refine (rot_any Q w0 blk n cap f s m E _ _ (by exact HI.out.1) (by omega) (by omega) (by have q := ES.out; have q1 := ES1.out; omega) hn).mono ?_
            rintro e w1 ⟨rfl, hst, hsw⟩
            have HG := Lib.hid hst
            have HW := Lib.hid (hsw.mono (a' := a) (b' := b) (by have q := ES.out; have q1 := ES1.out; omega) (by have q := ES.out; have q1 := ES1.out; omega))
            clear hst hsw
            generalize hg0 : rot f s m E = g0 at *
            clear hg0
            go_wp2_with fail
            refine (IH.out g0 a s mid _ (by exact HG.out) (by have q := ES.out; have q1 := ES1.out; omega) (by have q := ES.out; have q1 := ES1.out; omega) (by have q := ES.out; have q1 := ES1.out; omega) (by have q := ES.out; have q1 := ES1.out; omega) t1.out t2.out x1.out).mono ?_
            rintro e w2 ⟨rfl, g1, h1st, h1sw, h1so⟩
            have HG1 := Lib.hid h1st
            have HW1 := Lib.hid h1sw
            have HO1 := Lib.hid h1so
            clear h1st h1sw h1so
            go_wp2_with fail
            have HO2 : Hid (SortedOn tg g1 mid E ∧ SortedOn tg g1 E b ∧ Across tg g1 mid E b) := by
              have q := ES.out; have q1 := ES1.out
              refine ⟨fun i j h1 h2 h3 => ?_, fun i j h1 h2 h3 => ?_, fun i j h1 h2 h3 h4 h5 => ?_⟩
              · rw [HW1.out.out (Or.inr h1), HW1.out.out (Or.inr (by omega))]; exact t3.out i j h1 h2 h3
              · rw [HW1.out.out (Or.inr (by omega)), HW1.out.out (Or.inr (by omega))]; exact t4.out i j h1 h2 h3
              · rw [HW1.out.out (Or.inr h1), HW1.out.out (Or.inr (by omega))] at h5 ⊢; exact x2.out i j h1 h2 h3 h4 h5
            refine (IH.out g1 mid E b _ (by exact HG1.out) (by have q := ES.out; have q1 := ES1.out; omega) (by have q := ES.out; have q1 := ES1.out; omega) hbn (by have q := ES.out; have q1 := ES1.out; omega) HO2.out.1 HO2.out.2.1 HO2.out.2.2).mono ?_
            rintro e w3 ⟨rfl, g2, h2st, h2sw, h2so⟩
            have HG2 := Lib.hid h2st
            have HW2 := Lib.hid h2sw
            have HO3 := Lib.hid h2so
            clear h2st h2sw h2so
            go_wp2
            go_end0
            exact ⟨rfl, g2, HG2.out, (HW.out.trans (HW1.out.mono (Nat.le_refl _) (by omega))).trans (HW2.out.mono (by omega) (Nat.le_refl _)), joined hh.out HW1.out HO1.out HW2.out HO3.out⟩
          · have g1 : (s : Int) < (m : Int) := by have q := ES.out; have q1 := ES1.out; omega
            have g1n : s < m := by have q := ES.out; have q1 := ES1.out; omega
            have g2 : (m : Int) < (E : Int) := by have q := ES.out; have q1 := ES1.out; omega
            have g2n : m < E := by have q := ES.out; have q1 := ES1.out; omega
            have g3 : (a : Int) < (s : Int) := by have q := ES.out; have q1 := ES1.out; omega
            have g3n : a < s := by have q := ES.out; have q1 := ES1.out; omega
            have g4 : (s : Int) < (mid : Int) := by have q := ES.out; have q1 := ES1.out; omega
            have g4n : s < mid := by have q := ES.out; have q1 := ES1.out; omega
            have g5 : (mid : Int) < (E : Int) := by have q := ES.out; have q1 := ES1.out; omega
            have g5n : mid < E := by have q := ES.out; have q1 := ES1.out; omega
            have g6 : ¬ (E : Int) < (b : Int) := by have q := ES.out; have q1 := ES1.out; omega
            have g6d : decide ((E : Int) < (b : Int)) = false := by have q := ES.out; have q1 := ES1.out; exact decide_eq_false (by omega)
            have g6n : ¬ E < b := by have q := ES.out; have q1 := ES1.out; omega
            go_wp2_with fail
            refine (rot_any Q w0 blk n cap f s m E _ _ (by exact HI.out.1) (by omega) (by omega) (by have q := ES.out; have q1 := ES1.out; omega) hn).mono ?_
            rintro e w1 ⟨rfl, hst, hsw⟩
            have HG := Lib.hid hst
            have HW := Lib.hid (hsw.mono (a' := a) (b' := b) (by have q := ES.out; have q1 := ES1.out; omega) (by have q := ES.out; have q1 := ES1.out; omega))
            clear hst hsw
            generalize hg0 : rot f s m E = g0 at *
            clear hg0
            go_wp2_with fail
            refine (IH.out g0 a s mid _ (by exact HG.out) (by have q := ES.out; have q1 := ES1.out; omega) (by have q := ES.out; have q1 := ES1.out; omega) (by have q := ES.out; have q1 := ES1.out; omega) (by have q := ES.out; have q1 := ES1.out; omega) t1.out t2.out x1.out).mono ?_
            rintro e w2 ⟨rfl, g1, h1st, h1sw, h1so⟩
            have HG1 := Lib.hid h1st
            have HW1 := Lib.hid h1sw
            have HO1 := Lib.hid h1so
            clear h1st h1sw h1so
            go_wp2_with fail
            have HO3 : Hid (SortedOn tg g1 mid b) := by
              have q := ES.out; have q1 := ES1.out
              obtain hz : E = b := by omega
              intro i j h1 h2 h3
              rw [HW1.out.out (Or.inr h1), HW1.out.out (Or.inr (by omega))]
              have h := t3.out
              rw [hz] at h
              exact h i j h1 h2 h3
            go_wp2
            go_end0
            exact ⟨rfl, g1, HG1.out, HW.out.trans (HW1.out.mono (Nat.le_refl _) (by omega)), joined hh.out HW1.out HO1.out .refl HO3.out⟩
        · by_cases cb : E < b
          · have g1 : (s : Int) < (m : Int) := by have q := ES.out; have q1 := ES1.out; omega
            have g1n : s < m := by have q := ES.out; have q1 := ES1.out; omega
            have g2 : (m : Int) < (E : Int) := by have q := ES.out; have q1 := ES1.out; omega
            have g2n : m < E := by have q := ES.out; have q1 := ES1.out; omega
            have g3 : ¬ (a : Int) < (s : Int) := by have q := ES.out; have q1 := ES1.out; omega
            have g3d : decide ((a : Int) < (s : Int)) = false := by have q := ES.out; have q1 := ES1.out; exact decide_eq_false (by omega)
            have g3n : ¬ a < s := by have q := ES.out; have q1 := ES1.out; omega
            have g5 : (mid : Int) < (E : Int) := by have q := ES.out; have q1 := ES1.out; omega
            have g5n : mid < E := by have q := ES.out; have q1 := ES1.out; omega
            have g6 : (E : Int) < (b : Int) := by have q := ES.out; have q1 := ES1.out; omega
            have g6n : E < b := by have q := ES.out; have q1 := ES1.out; omega
            go_wp2_with fail
            refine (rot_any Q w0 blk n cap f s m E _ _ (by exact HI.out.1) (by omega) (by omega) (by have q := ES.out; have q1 := ES1.out; omega) hn).mono ?_
            rintro e w1 ⟨rfl, hst, hsw⟩
            have HG := Lib.hid hst
            have HW := Lib.hid (hsw.mono (a' := a) (b' := b) (by have q := ES.out; have q1 := ES1.out; omega) (by have q := ES.out; have q1 := ES1.out; omega))
            clear hst hsw
            generalize hg0 : rot f s m E = g0 at *
            clear hg0
            go_wp2_with fail
            obtain ⟨g1, hg1⟩ : ∃ g1, g1 = g0 := ⟨_, rfl⟩
            have HG1 : Hid (St Q w0 blk n g1 w1) := by rw [hg1]; exact HG
            have HW1 : Hid (Sw a mid g0 g1) := by show Sw _ _ _ _; rw [hg1]; exact .refl
            have HO1 : Hid (SortedOn tg g1 a mid) := by
              show SortedOn _ _ _ _
              rw [hg1]
              have q := ES.out; have q1 := ES1.out
              obtain hz : s = a := by omega
              have h := t2.out
              rw [hz] at h
              exact h
            clear hg1
            have HO2 : Hid (SortedOn tg g1 mid E ∧ SortedOn tg g1 E b ∧ Across tg g1 mid E b) := by
              have q := ES.out; have q1 := ES1.out
              refine ⟨fun i j h1 h2 h3 => ?_, fun i j h1 h2 h3 => ?_, fun i j h1 h2 h3 h4 h5 => ?_⟩
              · rw [HW1.out.out (Or.inr h1), HW1.out.out (Or.inr (by omega))]; exact t3.out i j h1 h2 h3
              · rw [HW1.out.out (Or.inr (by omega)), HW1.out.out (Or.inr (by omega))]; exact t4.out i j h1 h2 h3
              · rw [HW1.out.out (Or.inr h1), HW1.out.out (Or.inr (by omega))] at h5 ⊢; exact x2.out i j h1 h2 h3 h4 h5
            refine (IH.out g1 mid E b _ (by exact HG1.out) (by have q := ES.out; have q1 := ES1.out; omega) (by have q := ES.out; have q1 := ES1.out; omega) hbn (by have q := ES.out; have q1 := ES1.out; omega) HO2.out.1 HO2.out.2.1 HO2.out.2.2).mono ?_
            rintro e w3 ⟨rfl, g2, h2st, h2sw, h2so⟩
            have HG2 := Lib.hid h2st
            have HW2 := Lib.hid h2sw
            have HO3 := Lib.hid h2so
            clear h2st h2sw h2so
            go_wp2
            go_end0
            exact ⟨rfl, g2, HG2.out, (HW.out.trans (HW1.out.mono (Nat.le_refl _) (by omega))).trans (HW2.out.mono (by omega) (Nat.le_refl _)), joined hh.out HW1.out HO1.out HW2.out HO3.out⟩
          · have g1 : (s : Int) < (m : Int) := by have q := ES.out; have q1 := ES1.out; omega
            have g1n : s < m := by have q := ES.out; have q1 := ES1.out; omega
            have g2 : (m : Int) < (E : Int) := by have q := ES.out; have q1 := ES1.out; omega
            have g2n : m < E := by have q := ES.out; have q1 := ES1.out; omega
            have g3 : ¬ (a : Int) < (s : Int) := by have q := ES.out; have q1 := ES1.out; omega
            have g3d : decide ((a : Int) < (s : Int)) = false := by have q := ES.out; have q1 := ES1.out; exact decide_eq_false (by omega)
            have g3n : ¬ a < s := by have q := ES.out; have q1 := ES1.out; omega
            have g5 : (mid : Int) < (E : Int) := by have q := ES.out; have q1 := ES1.out; omega
            have g5n : mid < E := by have q := ES.out; have q1 := ES1.out; omega
            have g6 : ¬ (E : Int) < (b : Int) := by have q := ES.out; have q1 := ES1.out; omega
            have g6d : decide ((E : Int) < (b : Int)) = false := by have q := ES.out; have q1 := ES1.out; exact decide_eq_false (by omega)
            have g6n : ¬ E < b := by have q := ES.out; have q1 := ES1.out; omega
            go_wp2_with fail
            refine (rot_any Q w0 blk n cap f s m E _ _ (by exact HI.out.1) (by omega) (by omega) (by have q := ES.out; have q1 := ES1.out; omega) hn).mono ?_
            rintro e w1 ⟨rfl, hst, hsw⟩
            have HG := Lib.hid hst
            have HW := Lib.hid (hsw.mono (a' := a) (b' := b) (by have q := ES.out; have q1 := ES1.out; omega) (by have q := ES.out; have q1 := ES1.out; omega))
            clear hst hsw
            generalize hg0 : rot f s m E = g0 at *
            clear hg0
            go_wp2_with fail
            obtain ⟨g1, hg1⟩ : ∃ g1, g1 = g0 := ⟨_, rfl⟩
            have HG1 : Hid (St Q w0 blk n g1 w1) := by rw [hg1]; exact HG
            have HW1 : Hid (Sw a mid g0 g1) := by show Sw _ _ _ _; rw [hg1]; exact .refl
            have HO1 : Hid (SortedOn tg g1 a mid) := by
              show SortedOn _ _ _ _
              rw [hg1]
              have q := ES.out; have q1 := ES1.out
              obtain hz : s = a := by omega
              have h := t2.out
              rw [hz] at h
              exact h
            clear hg1
            have HO3 : Hid (SortedOn tg g1 mid b) := by
              have q := ES.out; have q1 := ES1.out
              obtain hz : E = b := by omega
              intro i j h1 h2 h3
              rw [HW1.out.out (Or.inr h1), HW1.out.out (Or.inr (by omega))]
              have h := t3.out
              rw [hz] at h
              exact h i j h1 h2 h3
            go_wp2
            go_end0
            exact ⟨rfl, g1, HG1.out, HW.out.trans (HW1.out.mono (Nat.le_refl _) (by omega)), joined hh.out HW1.out HO1.out .refl HO3.out⟩
      · by_cases cc : s < mid
        · have g1 : ¬ (s : Int) < (m : Int) := by have q := ES.out; have q1 := ES1.out; omega
          have g1d : decide ((s : Int) < (m : Int)) = false := by have q := ES.out; have q1 := ES1.out; exact decide_eq_false (by omega)
          have g1n : ¬ s < m := by have q := ES.out; have q1 := ES1.out; omega
          have g3 : (a : Int) < (s : Int) := by have q := ES.out; have q1 := ES1.out; omega
          have g3n : a < s := by have q := ES.out; have q1 := ES1.out; omega
          have g4 : (s : Int) < (mid : Int) := by have q := ES.out; have q1 := ES1.out; omega
          have g4n : s < mid := by have q := ES.out; have q1 := ES1.out; omega
          have g5 : ¬ (mid : Int) < (E : Int) := by have q := ES.out; have q1 := ES1.out; omega
          have g5d : decide ((mid : Int) < (E : Int)) = false := by have q := ES.out; have q1 := ES1.out; exact decide_eq_false (by omega)
          have g5n : ¬ mid < E := by have q := ES.out; have q1 := ES1.out; omega
          go_wp2_with fail
          have hrn : rot f s m E = f := rot_none (by have q := ES.out; have q1 := ES1.out; omega) (by have q := ES.out; have q1 := ES1.out; omega) (by have q := ES.out; have q1 := ES1.out; omega)
          have HG : Hid (St Q w0 blk n (rot f s m E) wr) := by show St _ _ _ _ _ _; rw [hrn]; exact HI.out.1
          have HW : Hid (Sw a b f (rot f s m E)) := by show Sw _ _ _ _; rw [hrn]; exact .refl
          clear hrn
          generalize hg0 : rot f s m E = g0 at *
          clear hg0
          refine (IH.out g0 a s mid _ (by exact HG.out) (by have q := ES.out; have q1 := ES1.out; omega) (by have q := ES.out; have q1 := ES1.out; omega) (by have q := ES.out; have q1 := ES1.out; omega) (by have q := ES.out; have q1 := ES1.out; omega) t1.out t2.out x1.out).mono ?_
          rintro e w2 ⟨rfl, g1, h1st, h1sw, h1so⟩
          have HG1 := Lib.hid h1st
          have HW1 := Lib.hid h1sw
          have HO1 := Lib.hid h1so
          clear h1st h1sw h1so
          go_wp2_with fail
          have HO3 : Hid (SortedOn tg g1 mid b) := by
            have q := ES.out; have q1 := ES1.out
            obtain hz : E = mid := by omega
            intro i j h1 h2 h3
            rw [HW1.out.out (Or.inr h1), HW1.out.out (Or.inr (by omega))]
            have h := t4.out
            rw [hz] at h
            exact h i j h1 h2 h3
          go_wp2
          go_end0
          exact ⟨rfl, g1, HG1.out, HW.out.trans (HW1.out.mono (Nat.le_refl _) (by omega)), joined hh.out HW1.out HO1.out .refl HO3.out⟩
        · have g1 : ¬ (s : Int) < (m : Int) := by have q := ES.out; have q1 := ES1.out; omega
          have g1d : decide ((s : Int) < (m : Int)) = false := by have q := ES.out; have q1 := ES1.out; exact decide_eq_false (by omega)
          have g1n : ¬ s < m := by have q := ES.out; have q1 := ES1.out; omega
          have g3 : (a : Int) < (s : Int) := by have q := ES.out; have q1 := ES1.out; omega
          have g3n : a < s := by have q := ES.out; have q1 := ES1.out; omega
          have g4 : ¬ (s : Int) < (mid : Int) := by have q := ES.out; have q1 := ES1.out; omega
          have g4d : decide ((s : Int) < (mid : Int)) = false := by have q := ES.out; have q1 := ES1.out; exact decide_eq_false (by omega)
          have g4n : ¬ s < mid := by have q := ES.out; have q1 := ES1.out; omega
          have g5 : ¬ (mid : Int) < (E : Int) := by have q := ES.out; have q1 := ES1.out; omega
          have g5d : decide ((mid : Int) < (E : Int)) = false := by have q := ES.out; have q1 := ES1.out; exact decide_eq_false (by omega)
          have g5n : ¬ mid < E := by have q := ES.out; have q1 := ES1.out; omega
          go_wp2_with fail
          have hrn : rot f s m E = f := rot_none (by have q := ES.out; have q1 := ES1.out; omega) (by have q := ES.out; have q1 := ES1.out; omega) (by have q := ES.out; have q1 := ES1.out; omega)
          have HG : Hid (St Q w0 blk n (rot f s m E) wr) := by show St _ _ _ _ _ _; rw [hrn]; exact HI.out.1
          have HW : Hid (Sw a b f (rot f s m E)) := by show Sw _ _ _ _; rw [hrn]; exact .refl
          clear hrn
          generalize hg0 : rot f s m E = g0 at *
          clear hg0
          obtain ⟨g1, hg1⟩ : ∃ g1, g1 = g0 := ⟨_, rfl⟩
          have HG1 : Hid (St Q w0 blk n g1 wr) := by rw [hg1]; exact HG
          have HW1 : Hid (Sw a mid g0 g1) := by show Sw _ _ _ _; rw [hg1]; exact .refl
          have HO1 : Hid (SortedOn tg g1 a mid) := by
            show SortedOn _ _ _ _
            rw [hg1]
            have q := ES.out; have q1 := ES1.out
            obtain hz : s = mid := by omega
            have h := t1.out
            rw [hz] at h
            exact h
          clear hg1
          have HO3 : Hid (SortedOn tg g1 mid b) := by
            have q := ES.out; have q1 := ES1.out
            obtain hz : E = mid := by omega
            intro i j h1 h2 h3
            rw [HW1.out.out (Or.inr h1), HW1.out.out (Or.inr (by omega))]
            have h := t4.out
            rw [hz] at h
            exact h i j h1 h2 h3
          go_wp2
          go_end0
          exact ⟨rfl, g1, HG1.out, HW.out.trans (HW1.out.mono (Nat.le_refl _) (by omega)), joined hh.out HW1.out HO1.out .refl HO3.out⟩
end Go.Proofs.Qxb6614277a
