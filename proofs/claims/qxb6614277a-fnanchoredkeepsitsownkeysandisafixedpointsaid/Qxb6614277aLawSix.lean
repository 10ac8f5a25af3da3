import Derived.Test.Qxb6614277aOcc
namespace Go.Proofs.Qxb6614277a
open Go.RowKit

theorem named_self (k : Key) : named k k = true := by unfold named; simp
theorem self_named {KK : Nat → Key} {Bs : List Nat} {q : Nat} (hq : q ∈ Bs) : named? KK Bs q = true := by
  obtain ⟨i, hi, e⟩ := List.getElem_of_mem hq
  unfold named?
  refine hit_true (j := i) hi ?_
  have : Bs.getD i 0 = q := by rw [List.getD_eq_getElem?_getD, List.getElem?_eq_getElem hi, e]; rfl
  show named (KK q) (KK (Bs.getD i 0)) = true
  rw [this]
  exact named_self _

theorem count_one {q : Nat} : ∀ {Bs : List Nat}, Bs.Pairwise (· < ·) → q ∈ Bs → Bs.count q = 1
  | x :: l, h, hq => by
    rw [List.pairwise_cons] at h
    rw [List.count_cons]
    rcases List.mem_cons.1 hq with e | hl
    · have : l.count q = 0 := List.count_eq_zero.2 (fun hm => by have := h.1 q hm; omega)
      rw [this]; simp [e]
    · have hne : x ≠ q := by have := h.1 q hl; omega
      rw [count_one h.2 hl]; simp [hne]

theorem tags_rise {tg : Nat → Nat} {R : List Nat} (h : R.Pairwise (lt tg)) {j : Nat} (hj : j + 1 < R.length) : tg (R.getD j 0) ≤ tg (R.getD (j + 1) 0) := by
  rw [List.pairwise_iff_getElem] at h
  have := (h j (j + 1) (by omega) hj (by omega)).le
  rw [List.getD_eq_getElem?_getD, List.getD_eq_getElem?_getD, List.getElem?_eq_getElem hj, List.getElem?_eq_getElem (show j < R.length by omega)]
  exact this

theorem lt_ris {KK : Nat → Key} {R : List Nat} (h : R.Pairwise (lt fun q => tagOf (KK q))) : R.Pairwise fun x y => tagOf (KK x) = tagOf (KK y) → x < y :=
  h.imp (by
    intro a b h e
    rcases h with h | ⟨_, h⟩
    · have h' : tagOf (KK a) < tagOf (KK b) := h
      omega
    · exact h)

theorem again_eq {tg : Nat → Nat} {P : Nat → Bool} {Bs R Ra : List Nat} (hp : R.Perm (Bs.filter P)) (hs : R.Pairwise (lt tg)) (ha : Ra.Perm (R.filter P)) (hsa : Ra.Pairwise (lt tg)) : Ra = R := by
  have e : R.filter P = R := List.filter_eq_self.2 (fun q hq => (List.mem_filter.1 (hp.subset hq)).2)
  rw [e] at ha
  exact lt_unique ha hsa hs
theorem via_eq {tg : Nat → Nat} {P : Nat → Bool} {Bs R0 R Rv : List Nat} (h0 : R0.Perm Bs) (hp : R.Perm (Bs.filter P)) (hs : R.Pairwise (lt tg)) (hv : Rv.Perm (R0.filter P)) (hsv : Rv.Pairwise (lt tg)) : Rv = R :=
  lt_unique (hv.trans ((h0.filter P).trans hp.symm)) hsv hs

/-- A list taken as its own anchors comes back whole. -/
theorem zz_self {W : World} {sa sb : Nat} {Bs As : List Nat} {KK : Nat → Key} (E : Env W sa sb Bs As KK) (n c d : Nat) (hn : n = Bs.length) (hl : n ≤ 4096) (hris : Bs.Pairwise (· < ·)) :
    Calls Try.prog 14 #[.slice (some ⟨sa, 0, none⟩) n c, .slice (some ⟨sa, 0, none⟩) n d] W fun e W' => ∃ (a : Option Addr) (c : Nat) (R : List Nat), e = .returned (.slice a n c) ∧ R.Perm Bs ∧ R.Pairwise (lt fun q => tagOf (KK q)) ∧ PtrIn W' a R ∧ Below W.heap.size W W' := by
  subst hn
  refine (zz_any (some ⟨sa, 0, none⟩) c Bs KK (some ⟨sa, 0, none⟩) d Bs (fun q => tagOf (KK q)) W (by omega) (by omega) E.pB E.pB (fun q hq => ⟨(E.kB q hq).1, (E.kB q hq).2, rfl⟩) E.kB (take_rise hris)).mono ?_
  rintro e W' ⟨v, R, rfl, h1, h2, h3, h4⟩
  obtain ⟨a, c, rfl, hp⟩ := h3.lst
  have e1 : (Bs.filter fun q => hit (KK q) (fun j => KK (Bs.getD j 0)) Bs.length) = Bs := List.filter_eq_self.2 (fun q hq => self_named hq)
  rw [e1] at h1
  exact ⟨a, c, R, by rw [h1.length_eq], h1, h2, hp, h4⟩

theorem occ_one (a : Option Addr) (n cap : Nat) (R Bs : List Nat) (q : Nat) (W : World) (hn : n = Bs.length) (hl : n ≤ 4096) (hp : PtrIn W a R) (hb : KeyBlk W Bs) (hr : R.Perm Bs) (hris : Bs.Pairwise (· < ·)) (hq : q ∈ Bs) :
    Calls Try.prog 18 #[.slice a n cap, .pointer (some ⟨q, 0, none⟩)] W fun e W' => e = .returned (.int .i64 1) ∧ W' = W := by
  refine (occ_any a n cap R q W (by rw [hn, hr.length_eq]) hl hp (hb.sub fun x hx => hr.subset hx) (hb q hq)).mono ?_
  rintro e W' ⟨rfl, hw⟩
  refine ⟨?_, hw⟩
  rw [hr.count_eq q, count_one hris hq]; rfl

attribute [local irreducible] wpQuiet in
set_option maxHeartbeats 20000000 in
set_option maxRecDepth 100000 in
theorem lawsix_any (la : Option Addr) (lcap n : Nat) (ks : List Key) (ma : Option Addr) (mcap m : Nat) (ms : List Key) (W : World) (hn : n = ks.length) (hm : m = ms.length) (hn' : (n : Int) ≤ 9223372036854775807) (hm' : (m : Int) ≤ 9223372036854775807)
    (hr : ∀ k ∈ ks, k.raw) (hr' : ∀ k ∈ ms, k.raw) (h : ZAt W la ks) (h' : ZAt W ma ms) :
    Calls Try.prog 6 #[.slice la n lcap, .slice ma m mcap] W fun e W' => e = .returned (.bool true) ∧ Below W.heap.size W W' := by
  have HZ := Lib.hid h
  have HZ' := Lib.hid h'
  have HR := Lib.hid hr
  have HR' := Lib.hid hr'
  have HN := Lib.hid hn
  have HM := Lib.hid hm
  have H1 := Lib.hid (bytes6 la n lcap _ ma m mcap _ W hn' hm' (by rw [hn]; exact h.zlen) (by rw [hm]; exact h'.zlen))
  have H2 := Lib.hid (over_any la n lcap _ ma m mcap _ W (by rw [hn]; exact h.zlen) (by rw [hm]; exact h'.zlen))
  clear h h' hr hr' hn hm
  go_enter Try.func6, Try.ntmps6
  go_wp2_with fail
  refine H1.out.mono ?_
  rintro e w' ⟨⟨ok, rfl⟩, hw⟩
  subst w'
  cases ok
  · go_wp2
    go_ret
    exact ⟨rfl, Below.refl _ _⟩
  go_wp2_with fail
  refine H2.out.mono ?_
  rintro e w' ⟨⟨ov, rfl, hov⟩, hw⟩
  subst w'
  cases ov
  case true =>
    go_wp2
    go_ret
    exact ⟨rfl, Below.refl _ _⟩
  obtain ⟨hn1, hm1, hp1, hq1⟩ := hov rfl
  have OK := Lib.hid (raw_ok HR.out (by rw [← HN.out]; exact hp1))
  have OK' := Lib.hid (raw_ok HR'.out (by rw [← HM.out]; exact hq1))
  clear hov hp1 hq1 H1 H2
  go_wp2_with fail
  refine (build_n la lcap n ks W HN.out hn1 OK.out HZ.out).mono ?_
  rintro e W1 ⟨Bs, hBs, rfl, hI1⟩
  have HBs := Lib.hid hBs
  have I1 := Lib.hid hI1
  clear hBs hI1
  go_wp2_with fail
  refine (build_n ma mcap m ms W1 HM.out hm1 OK'.out (HZ'.out.below I1.out.bel)).mono ?_
  rintro e W2 ⟨As, hAs, rfl, hI2⟩
  have HAs := Lib.hid hAs
  obtain ⟨KK, he1, he2, E⟩ := env_of HBs.out hAs OK.out OK'.out I1.out hI2
  have E1 := Lib.hid he1
  have E2 := Lib.hid he2
  have EV2 := Lib.hid E
  have B2 := Lib.hid (below_chain I1.out.bel hI2.bel)
  have RI := Lib.hid I1.out.rise
  have BK2 := Lib.hid ((show KeyBlk W1 Bs from I1.out.blk).below hI2.bel)
  have HBn := Lib.hid (show n = Bs.length by rw [HN.out, HBs.out])
  have HAm := Lib.hid (show m = As.length by rw [HM.out, HAs.out])
  clear hAs hI2 he1 he2 E I1
  go_wp2_with fail
  refine (zz_self EV2.out n n n HBn.out hn1 RI.out).mono ?_
  rintro e W3 ⟨a0, c0, R0, rfl, p0, s0, l0, b3⟩
  have EV3 := Lib.hid (EV2.out.below b3)
  have B3 := Lib.hid (below_chain B2.out b3)
  have BK3 := Lib.hid (BK2.out.below b3)
  have P0 := Lib.hid p0
  have S0 := Lib.hid s0
  have L0 := Lib.hid l0
  have HR0 := Lib.hid (show n = R0.length by rw [p0.length_eq]; exact HBn.out)
  clear p0 s0 l0 b3 EV2 B2 BK2
  go_wp2
  go_loopw [8] (fun vi wr => ∃ (i : Nat), i ≤ n ∧ vi = .int .i64 i ∧ wr = W3) (fun vi _ => n - (intOf vi).toNat)
  case atStart => exact ⟨0, by omega, rfl, rfl⟩
  case round =>
    obtain ⟨i, hin, rfl, hw⟩ := hrel
    subst wr
    by_cases hlt : i < n
    · have h1 : (i : Int) < (n : Int) := by omega
      have hil : i < Bs.length := by rw [← HBn.out]; exact hlt
      have hcell : W3.cell? ⟨W.heap.size, i, none⟩ = some (.pointer (some ⟨Bs.getD i 0, 0, none⟩)) := by
        obtain ⟨kb, ko, e, _, hc⟩ := EV3.out.pB.getD hil
        injection e with e
        injection e with e1 e2
        subst e1; subst e2
        rw [Nat.zero_add] at hc
        exact hc
      have OC := Lib.hid (occ_one a0 n c0 R0 Bs (Bs.getD i 0) W3 HBn.out hn1 L0.out BK3.out P0.out RI.out (mem_getD hil))
      generalize Bs.getD i 0 = x at *
      clear hil
      go_wp2_with fail
      refine OC.out.mono ?_
      rintro e w' ⟨rfl, hw⟩
      subst w'
      go_wp2
      go_roundw
      case rel => exact ⟨i + 1, by omega, by go_num, trivial⟩
      case measure => simp [intOf]; omega
    · obtain rfl : i = n := by omega
      go_wp2
      go_loopw [9] (fun vj wr => ∃ (j t : Nat), (t ≤ i ∨ t = 1) ∧ vj = .int .i64 t ∧ Hid (t = j + 1) ∧ Hid (Below W3.heap.size W3 wr)) (fun vj _ => i - (intOf vj).toNat)
      case atStart => exact ⟨0, 1, by omega, rfl, Lib.hid rfl, Lib.hid (Below.refl _ _)⟩
      case round =>
        obtain ⟨j, t, htn, rfl, HT, HB⟩ := hrel
        have hT := HT.out
        by_cases hlt2 : t < i
        · have h1 : (t : Int) < (i : Int) := by omega
          have ht1 : 1 ≤ t := by omega
          have hwj : IntKind.i64.wrap (j : Int) = (j : Int) := by rw [IntKind.wrap_i64]; omega
          have hij : (t : Int) - 1 = (j : Int) := by omega
          have h2 : (j : Int) < (i : Int) := by omega
          have hjl : j + 1 < R0.length := by rw [← HR0.out]; omega
          have le0 : tagOf (KK (R0.getD j 0)) ≤ tagOf (KK (R0.getD (j + 1) 0)) := tags_rise S0.out hjl
          obtain ⟨kb, ko, rfl, _, cx0⟩ := (L0.out.below HB.out).getD (i := j) (by omega)
          have cy1 : wr.cell? ⟨kb, ko + t, none⟩ = some (.pointer (some ⟨R0.getD (j + 1) 0, 0, none⟩)) := by
            obtain ⟨kb', ko', e, _, hc⟩ := (L0.out.below HB.out).getD (i := j + 1) hjl
            injection e with e
            injection e with e1 e2
            subst e1; subst e2
            rw [hT]
            exact hc
          have HX := fun p => tag_env (EV3.out.below HB.out) (P0.out.subset (mem_getD (show j < R0.length by omega))) p
          have HY := fun p => tag_env (EV3.out.below HB.out) (P0.out.subset (mem_getD hjl)) p
          have cx := aft_cell cx0
          have cy := aft_cell cy1
          generalize R0.getD j 0 = x at *
          generalize R0.getD (j + 1) 0 = y at *
          generalize tagOf (KK x) = tx at *
          generalize tagOf (KK y) = ty at *
          have le1 : decide ((ty : Int) < (tx : Int)) = false := by rw [decide_eq_false_iff_not]; omega
          have le2 : ¬ (ty : Int) < (tx : Int) := by omega
          clear hT cx0 cy1 le0 hjl
          go_wp2_with fail
          refine wp_region_aft (by kernel_rfl) (by kernel_rfl) ?_
          repeat (quiet_step (first | (go_at_call_of 16 (Value.pointer (some ⟨x, 0, none⟩)); exact HX _) | (go_at_call_of 16 (Value.pointer (some ⟨y, 0, none⟩)); exact HY _)))
          refine wpQuiet_nil ?_
          intro _ hw'
          obtain ⟨pq, hw''⟩ := hw'
          subst hw''
          go_wp2
          go_roundw
          case rel =>
            have := HT.out
            exact ⟨j + 1, t + 1, by omega, by go_num, Lib.hid (by omega), Lib.hid (below_chain HB.out (below_aft _ _))⟩
          case measure => simp [intOf]; omega
        · have h1 : ¬ (t : Int) < (i : Int) := by omega
          clear hT
          have EV4 := Lib.hid (EV3.out.below HB.out)
          have B4 := Lib.hid (below_chain B3.out HB.out)
          have L04 := Lib.hid (L0.out.below HB.out)
          clear EV3 B3 BK3 L0
          go_wp2_with fail
          refine (zz_env EV4.out _ i i Bs m HBn.out (by omega) m HAm.out (by omega) EV4.out.pB (fun q hq => hq) (take_rise RI.out)).mono ?_
          rintro e W5 ⟨ar, cr, R, rfl, pr, sr, lr, b5⟩
          have EV5 := Lib.hid (EV4.out.below b5)
          have B5 := Lib.hid (below_chain B4.out b5)
          have L05 := Lib.hid (L04.out.below b5)
          have PR := Lib.hid pr
          have SR := Lib.hid sr
          have LR5 := Lib.hid lr
          obtain ⟨nr, hnr⟩ : ∃ nr, nr = R.length := ⟨_, rfl⟩
          have hnr4 : nr ≤ 4096 := by
            have := List.length_filter_le (named? KK As) Bs
            rw [← HBn.out, ← pr.length_eq] at this
            omega
          have CN := Lib.hid (count_n la lcap i ks ma mcap m ms W5 HN.out HM.out hn1 hm1 OK.out (HZ.out.below B5.out) (HZ'.out.below B5.out) E1.out E2.out nr (by rw [hnr, PR.out.length_eq]))
          rw [← hnr]
          have HNR := Lib.hid hnr
          clear pr sr lr b5 hnr EV4 B4 L04
          go_wp2_with fail
          refine CN.out.mono ?_
          rintro e W6 ⟨rfl, b6⟩
          have EV6 := Lib.hid (EV5.out.below b6)
          have B6 := Lib.hid (below_chain B5.out b6)
          have L06 := Lib.hid (L05.out.below b6)
          have LR6 := Lib.hid (LR5.out.below b6)
          clear b6 EV5 B5 L05 LR5 CN
          go_wp2_with fail
          refine (zz_env EV6.out ar nr cr R m HNR.out (by omega) m HAm.out (by omega) LR6.out (fun q hq => (List.mem_filter.1 (PR.out.subset hq)).1) (lt_ris SR.out)).mono ?_
          rintro e W7 ⟨aa, ca, Ra, rfl, pa, sa, lA, b7⟩
          have ea := again_eq PR.out SR.out pa sa
          rw [ea] at lA
          rw [ea, ← HNR.out]
          have EV7 := Lib.hid (EV6.out.below b7)
          have B7 := Lib.hid (below_chain B6.out b7)
          have L07 := Lib.hid (L06.out.below b7)
          have LR7 := Lib.hid (LR6.out.below b7)
          have LA7 := Lib.hid lA
          clear ea pa sa lA b7 EV6 B6 L06 LR6
          go_wp2_with fail
          refine (zz_env EV7.out a0 i c0 R0 m HR0.out (by omega) m HAm.out (by omega) L07.out (fun q hq => P0.out.subset hq) (lt_ris S0.out)).mono ?_
          rintro e W8 ⟨av, cv, Rv, rfl, pv, sv, lv, b8⟩
          have ev := via_eq P0.out PR.out SR.out pv sv
          rw [ev] at lv
          rw [ev, ← HNR.out]
          have B8 := Lib.hid (below_chain B7.out b8)
          have LR8 := Lib.hid (LR7.out.below b8)
          have LA8 := Lib.hid (LA7.out.below b8)
          have LV8 := Lib.hid lv
          clear ev pv sv lv b8 EV7 B7 L07 LR7 LA7
          go_wp2_with fail
          refine (sameptr_any aa ar nr ca cr R W8 HNR.out hnr4 LA8.out LR8.out).mono ?_
          rintro e W9 ⟨rfl, b9⟩
          have B9 := Lib.hid (below_chain B8.out b9)
          have LR9 := Lib.hid (LR8.out.below b9)
          have LV9 := Lib.hid (LV8.out.below b9)
          clear b9 B8 LR8 LA8 LV8
          go_wp2_with fail
          refine (sameptr_any av ar nr cv cr R W9 HNR.out hnr4 LV9.out LR9.out).mono ?_
          rintro e W10 ⟨rfl, b10⟩
          have B10 := Lib.hid (below_chain B9.out b10)
          clear b10
          go_wp2
          go_ret
          exact ⟨rfl, B10.out⟩
end Go.Proofs.Qxb6614277a
