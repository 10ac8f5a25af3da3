import Derived.Test.Qxb6614277aEnv
import Derived.Test.Qxb6614277aOver
import Derived.Deep.MidRow
import Derived.Lib.Builder
namespace Go.Proofs.Qxb6614277a
open Go.RowKit

/-- A drawn key ahead of the guards: nothing bounds the number of its bytes. -/
def Key.raw (k : Key) : Prop := k.fl < 65536 ∧ k.pr < 256 ∧ k.al < 256 ∧ ∀ x ∈ k.pk, x < 256

theorem raw_ok {ks : List Key} (hr : ∀ k ∈ ks, k.raw) (hl : ∀ i, i < ks.length → (ks.getD i ⟨0, 0, 0, []⟩).pk.length ≤ 1048576) : ∀ k ∈ ks, k.ok := by
  intro k hk
  obtain ⟨a, b, c, d⟩ := hr k hk
  obtain ⟨i, hi, e⟩ := List.getElem_of_mem hk
  refine ⟨a, b, c, ?_, d⟩
  have := hl i hi
  rw [List.getD_eq_getElem?_getD, List.getElem?_eq_getElem hi, e] at this
  exact this

theorem below_chain {a b c : World} (h : Below a.heap.size a b) (g : Below b.heap.size b c) : Below a.heap.size a c := h.trans (g.mono h.size)

theorem build_n (la : Option Addr) (lcap n : Nat) (ks : List Key) (W : World) (hn : n = ks.length) (hl : n ≤ 4096) (hok : ∀ k ∈ ks, k.ok) (h : ZAt W la ks) :
    Calls Try.prog 13 #[.slice la n lcap] W fun e W' => ∃ Bs : List Nat, Bs.length = ks.length ∧ e = .returned (.slice (some ⟨W.heap.size, 0, none⟩) n n) ∧ BuildInv W W' ks.length ks Bs := by
  subst hn
  exact build_any la lcap ks W (by omega) hok h

theorem count_n (la : Option Addr) (lcap n : Nat) (ks : List Key) (ma : Option Addr) (mcap m : Nat) (ms : List Key) (W : World) (hn : n = ks.length) (hm : m = ms.length) (hl : n ≤ 4096) (hl' : m ≤ 4096) (hok : ∀ k ∈ ks, k.ok) (h : ZAt W la ks) (h' : ZAt W ma ms)
    {Bs As : List Nat} {KK : Nat → Key} (e1 : Bs.map KK = ks) (e2 : As.map KK = ms) (c : Nat) (hc : c = (Bs.filter (named? KK As)).length) :
    Calls Try.prog 15 #[.slice la n lcap, .slice ma m mcap] W fun e W' => e = .returned (.int .i64 (c : Int)) ∧ Below W.heap.size W W' := by
  subst hn hm
  rw [← count_eq e1 e2] at hc
  rw [hc]
  exact count_any la lcap ks ma mcap ms W (by omega) (by omega) hok h h'

/-- ks[cut:]: at the very end the address stays. -/
theorem slice_lo (sa n c : Nat) (h : c ≤ n) : ∃ sx : Option Addr, (sx = some ⟨sa, c, none⟩ ∨ n = c) ∧ ∀ w, (Instr.slice 37 (.slice (some ⟨sa, 0, none⟩) n n) (some (.int .i64 (c : Int))) none none).run Try.prog w = .ok (.slice sx (n - c) (n - c)) w := by
  refine ⟨if n = c then some ⟨sa, 0, none⟩ else some ⟨sa, c, none⟩, ?_, fun w => ?_⟩
  · by_cases e : n = c
    · exact Or.inr e
    · rw [if_neg e]; exact Or.inl rfl
  · rw [run_slice_l w 37 _ n n Try.underlying37 .i64 (c : Int) (by omega) (by omega)]
    have : (sizeOf (Try.prog.elem 37)).run Try.prog w = .ok 1 w := by kernel_rfl
    rw [this]
    simp only [Result.andThen, sliced, Int.toNat_natCast, Nat.mul_one]
    congr 2
    by_cases e : n = c
    · rw [if_pos e, if_pos e]
    · rw [if_neg e, if_neg e]
      show some ((⟨sa, 0, none⟩ : Addr).add c) = _
      rw [Addr.add_mid, Nat.zero_add]

theorem PtrIn.dropAt {W : World} {sa n c : Nat} {Bs : List Nat} {sx : Option Addr} (h : PtrIn W (some ⟨sa, 0, none⟩) Bs) (hn : n = Bs.length) (hsx : sx = some ⟨sa, c, none⟩ ∨ n = c) : PtrIn W sx (Bs.drop c) := by
  rcases hsx with e | e
  · rw [e]; exact h.drop c
  · rw [List.drop_eq_nil_of_le (by omega)]
    intro i q hi
    simp at hi

/-- Both halves, and the whole. -/
structure Halves (tg : Nat → Nat) (Rw Rl Rr : List Nat) : Prop where
  len : Rl.length + Rr.length = Rw.length
  eq : Rw = List.merge Rl Rr (le tg)
  across : ∀ x ∈ Rl, ∀ y ∈ Rr, x < y

theorem halves_of {tg : Nat → Nat} {Bs Rw Rl Rr : List Nat} {c : Nat} {P : Nat → Bool} (ri : Bs.Pairwise (· < ·)) (pw : Rw.Perm (Bs.filter P)) (sw : Rw.Pairwise (lt tg)) (pl : Rl.Perm ((Bs.take c).filter P)) (sl : Rl.Pairwise (lt tg)) (pr : Rr.Perm ((Bs.drop c).filter P)) (sr : Rr.Pairwise (lt tg)) : Halves tg Rw Rl Rr := by
  have hp : Rw.Perm (Rl ++ Rr) := by
    refine pw.trans ?_
    refine List.Perm.trans ?_ (pl.append pr).symm
    rw [← List.filter_append, List.take_append_drop]
  refine ⟨?_, whole_merge hp sw sl sr, fun x hx y hy => ?_⟩
  · rw [hp.length_eq, List.length_append]
  · have h1 := (List.mem_filter.1 (pl.subset hx)).1
    have h2 := (List.mem_filter.1 (pr.subset hy)).1
    have hh := ri
    rw [← List.take_append_drop c Bs, List.pairwise_append] at hh
    exact hh.2.2 x h1 y h2

theorem mem_getD {l : List Nat} {i : Nat} (h : i < l.length) : l.getD i 0 ∈ l := by
  rw [List.getD_eq_getElem?_getD, List.getElem?_eq_getElem h]
  exact List.getElem_mem h

theorem neq_same (w : World) (x : Nat) : (binOp .neq 25 (.pointer (some ⟨x, 0, none⟩)) (.pointer (some ⟨x, 0, none⟩))).run Try.prog w = .ok (.bool false) w :=
  Lib.run_neq_ptr_same w _ Try.underlying25 (show Try.prog.info? 29 = some Try.t29 by kernel_rfl)

theorem take_rise {Bs : List Nat} {f : Nat → Nat} (h : Bs.Pairwise (· < ·)) : Bs.Pairwise fun x y => f x = f y → x < y := h.imp (by intro a b h _; exact h)

attribute [local irreducible] wpQuiet in
set_option maxHeartbeats 20000000 in
set_option maxRecDepth 100000 in
theorem lawfive_any (la : Option Addr) (lcap n : Nat) (ks : List Key) (ma : Option Addr) (mcap m : Nat) (ms : List Key) (cut : Int) (W : World) (hn : n = ks.length) (hm : m = ms.length) (hn' : (n : Int) ≤ 9223372036854775807) (hm' : (m : Int) ≤ 9223372036854775807)
    (hr : ∀ k ∈ ks, k.raw) (hr' : ∀ k ∈ ms, k.raw) (h : ZAt W la ks) (h' : ZAt W ma ms) :
    Calls Try.prog 5 #[.slice la n lcap, .slice ma m mcap, .int .i64 cut] W fun e W' => e = .returned (.bool true) ∧ Below W.heap.size W W' := by
  have hne := neq_same
  have HZ := Lib.hid h
  have HZ' := Lib.hid h'
  have HR := Lib.hid hr
  have HR' := Lib.hid hr'
  have HN := Lib.hid hn
  have HM := Lib.hid hm
  have H1 := Lib.hid (bytes5 la n lcap _ ma m mcap _ cut W hn' hm' (by rw [hn]; exact h.zlen) (by rw [hm]; exact h'.zlen))
  have H2 := Lib.hid (over_any la n lcap _ ma m mcap _ W (by rw [hn]; exact h.zlen) (by rw [hm]; exact h'.zlen))
  clear h h' hr hr' hn hm
  go_enter Try.func5, Try.ntmps5
  go_wp2_with fail
  refine H1.out.mono ?_
  rintro e w' ⟨⟨ok, rfl⟩, hw⟩
  subst w'
  cases ok
  · go_wp2
    go_ret
    exact ⟨rfl, Below.refl _ _⟩
  go_wp2_with fail
  refine H2.out.mono ?_
  rintro e w' ⟨⟨ov, rfl, hov⟩, hw⟩
  subst w'
  cases ov
  case true =>
    go_wp2
    go_ret
    exact ⟨rfl, Below.refl _ _⟩
  obtain ⟨hn1, hm1, hp1, hq1⟩ := hov rfl
  have OK := Lib.hid (raw_ok HR.out (by rw [← HN.out]; exact hp1))
  have OK' := Lib.hid (raw_ok HR'.out (by rw [← HM.out]; exact hq1))
  clear hov hp1 hq1 H1 H2
  by_cases hc0 : cut < 0
  · go_wp2
    go_ret
    exact ⟨rfl, Below.refl _ _⟩
  by_cases hc1 : (n : Int) < cut
  · go_wp2
    go_ret
    exact ⟨rfl, Below.refl _ _⟩
  obtain ⟨c, rfl⟩ : ∃ c : Nat, cut = c := ⟨cut.toNat, by omega⟩
  have hcn : c ≤ n := by omega
  have hcn' : (c : Int) ≤ n := by omega
  go_wp2_with fail
  refine (build_n la lcap n ks W HN.out hn1 OK.out HZ.out).mono ?_
  rintro e W1 ⟨Bs, hBs, rfl, hI1⟩
  have HBs := Lib.hid hBs
  have I1 := Lib.hid hI1
  clear hBs hI1
  go_wp2_with fail
  refine (build_n ma mcap m ms W1 HM.out hm1 OK'.out (HZ'.out.below I1.out.bel)).mono ?_
  rintro e W2 ⟨As, hAs, rfl, hI2⟩
  have HAs := Lib.hid hAs
  obtain ⟨KK, he1, he2, E⟩ := env_of HBs.out hAs OK.out OK'.out I1.out hI2
  have E1 := Lib.hid he1
  have E2 := Lib.hid he2
  have EV2 := Lib.hid E
  have B2 := Lib.hid (below_chain I1.out.bel hI2.bel)
  have RI := Lib.hid I1.out.rise
  have HBn := Lib.hid (show n = Bs.length by rw [HN.out, HBs.out])
  have HAm := Lib.hid (show m = As.length by rw [HM.out, HAs.out])
  clear hAs hI2 he1 he2 E I1
  go_wp2_with fail
  refine (zz_env EV2.out _ n n Bs m HBn.out (by omega) m HAm.out (by omega) EV2.out.pB (fun q hq => hq) (take_rise RI.out)).mono ?_
  rintro e W3 ⟨aw, cw, Rw, rfl, pw, sw, lw, b3⟩
  have EV3 := Lib.hid (EV2.out.below b3)
  have B3 := Lib.hid (below_chain B2.out b3)
  have PW := Lib.hid pw
  have SW := Lib.hid sw
  have LW := Lib.hid lw
  clear pw sw lw b3
  go_wp2_with fail
  refine (zz_env EV3.out _ c n (Bs.take c) m (by rw [List.length_take, ← HBn.out]; omega) (by omega) m HAm.out (by omega) (EV3.out.pB.take c) (fun q hq => List.mem_of_mem_take hq) (take_rise (RI.out.sublist (List.take_sublist _ _)))).mono ?_
  rintro e W4 ⟨al, cl, Rl, rfl, pl, sl, ll, b4⟩
  have EV4 := Lib.hid (EV3.out.below b4)
  have B4 := Lib.hid (below_chain B3.out b4)
  have LW4 := Lib.hid (LW.out.below b4)
  have PL := Lib.hid pl
  have SL := Lib.hid sl
  have LL := Lib.hid ll
  clear pl sl ll b4
  obtain ⟨sx, hsx, HSL⟩ := slice_lo W.heap.size n c hcn
  have HSX := Lib.hid hsx
  clear hsx
  go_wp2_with fail
  refine (zz_env EV4.out sx (n - c) (n - c) (Bs.drop c) m (by rw [List.length_drop, ← HBn.out]) (by omega) m HAm.out (by omega) (EV4.out.pB.dropAt HBn.out HSX.out) (fun q hq => List.mem_of_mem_drop hq) (take_rise (RI.out.sublist (List.drop_sublist _ _)))).mono ?_
  rintro e W5 ⟨ar, cr, Rr, rfl, pr, sr, lr, b5⟩
  have EV5 := Lib.hid (EV4.out.below b5)
  have B5 := Lib.hid (below_chain B4.out b5)
  have LW5 := Lib.hid (LW4.out.below b5)
  have LL5 := Lib.hid (LL.out.below b5)
  have LR5 := Lib.hid lr
  have HV := Lib.hid (halves_of RI.out PW.out SW.out PL.out SL.out pr sr)
  have ML := Lib.hid (show ∀ x ∈ Rl, x ∈ Bs from fun x hx => List.mem_of_mem_take (List.mem_filter.1 (PL.out.subset hx)).1)
  have MR := Lib.hid (show ∀ x ∈ Rr, x ∈ Bs from fun x hx => List.mem_of_mem_drop (List.mem_filter.1 (pr.subset hx)).1)
  have LWn : Rw.length ≤ n := by rw [PW.out.length_eq, HBn.out]; exact List.length_filter_le _ _
  have LEN := HV.out.len
  obtain ⟨nw, hnw⟩ : ∃ nw, nw = Rw.length := ⟨_, rfl⟩
  obtain ⟨nl, hnl⟩ : ∃ nl, nl = Rl.length := ⟨_, rfl⟩
  obtain ⟨nr, hnr⟩ : ∃ nr, nr = Rr.length := ⟨_, rfl⟩
  have hadd : (nl : Int) + (nr : Int) = (nw : Int) := by omega
  have hnwn : nw ≤ 4096 := by omega
  have hnl4 : nl ≤ 4096 := by omega
  have hnr4 : nr ≤ 4096 := by omega
  have Hadd := Lib.hid (show nl + nr = nw by omega)
  have CN := Lib.hid (count_n la lcap n ks ma mcap m ms W5 HN.out HM.out hn1 hm1 OK.out (HZ.out.below B5.out) (HZ'.out.below B5.out) E1.out E2.out nw (by rw [hnw, PW.out.length_eq]))
  rw [← hnw, ← hnl, ← hnr]
  have HNW := Lib.hid hnw
  have HNL := Lib.hid hnl
  have HNR := Lib.hid hnr
  clear pr sr lr b5 hnw hnl hnr LEN LWn EV2 EV3 EV4 LW LW4 LL B2 B3 B4 PW PL SW SL HSX HSL
  go_wp2_with fail
  refine CN.out.mono ?_
  rintro e W6 ⟨rfl, b6⟩
  have EV6 := Lib.hid (EV5.out.below b6)
  have B6 := Lib.hid (below_chain B5.out b6)
  have LW6 := Lib.hid (LW5.out.below b6)
  have LL6 := Lib.hid (LL5.out.below b6)
  have LR6 := Lib.hid (LR5.out.below b6)
  clear b6 EV5 B5 LW5 LL5 LR5 CN
  go_wp2
  go_loopw [12, 13, 14, 15] (fun vi vj vt _ wr => ∃ (i j t : Nat), i ≤ nl ∧ j ≤ nr ∧ t ≤ nw ∧ vi = .int .i64 i ∧ vj = .int .i64 j ∧ vt = .int .i64 t ∧ Hid (t = i + j) ∧ Hid (Merged (fun q => tagOf (KK q)) Rw Rl Rr i j) ∧ Hid (Below W6.heap.size W6 wr)) (fun _ _ vt _ _ => nw - (intOf vt).toNat)
  case atStart => exact ⟨0, 0, 0, by omega, by omega, by omega, rfl, rfl, rfl, Lib.hid rfl, Lib.hid (Merged.start HV.out.eq), Lib.hid (Below.refl _ _)⟩
  case round =>
    obtain ⟨i, j, t, hi, hj, ht, rfl, rfl, rfl, HT, HG, HB⟩ := hrel
    by_cases hlt : t < nw
    · have hlt' : (t : Int) < (nw : Int) := by omega
      obtain ⟨bw, ow, rfl, _, cw0⟩ := (LW6.out.below HB.out).getD (i := t) (by rw [← HNW.out]; exact hlt)
      have hT := HT.out
      have hA := Hadd.out
      by_cases hjr : j = nr
      · subst hjr
        have hil : i < nl := by omega
        have g1 : (j : Int) ≤ (j : Int) := by omega
        have g2 : (i : Int) < (nl : Int) := by omega
        obtain ⟨q1, q2⟩ := HG.out.left (by rw [← HNL.out]; exact hil) (fun h => absurd h (by rw [← HNR.out]; omega))
        obtain ⟨bl, ol, rfl, _, cl0⟩ := (LL6.out.below HB.out).getD (i := i) (by rw [← HNL.out]; exact hil)
        rw [← hT] at q1
        rw [q1] at cw0
        have HG2 := Lib.hid q2
        obtain ⟨x, hx⟩ : ∃ x, x = Rl.getD i 0 := ⟨_, rfl⟩
        rw [← hx] at cw0 cl0
        have cw := aft_cell cw0
        have cl := aft_cell cl0
        clear q1 q2 hx cw0 cl0 hT hA hadd
        go_wp2_with fail
        refine wp_region_aft (by kernel_rfl) (by kernel_rfl) ?_
        repeat (quiet_step (fail))
        refine wpQuiet_nil ?_
        intro _ hw'
        obtain ⟨pq, hw''⟩ := hw'
        subst hw''
        go_wp2
        go_roundw
        case rel =>
          have := HT.out
          have := Hadd.out
          exact ⟨i + 1, j, t + 1, by omega, by omega, by omega, by go_num, rfl, by go_num, Lib.hid (by omega), HG2, Lib.hid (below_chain HB.out (below_aft _ _))⟩
        case measure => simp [intOf]; omega
      by_cases hil : i < nl
      case neg =>
        have hjr2 : j < nr := by omega
        have g1 : decide ((nr : Int) ≤ (j : Int)) = false := by rw [decide_eq_false_iff_not]; omega
        have g2 : decide ((i : Int) < (nl : Int)) = false := by rw [decide_eq_false_iff_not]; omega
        have g3 : (j : Int) < (nr : Int) := by omega
        obtain ⟨q1, q2⟩ := HG.out.right (by rw [← HNR.out]; exact hjr2) (fun h => absurd h (by rw [← HNL.out]; omega))
        obtain ⟨br, or, rfl, _, cr0⟩ := (LR6.out.below HB.out).getD (i := j) (by rw [← HNR.out]; exact hjr2)
        rw [← hT] at q1
        rw [q1] at cw0
        have HG2 := Lib.hid q2
        obtain ⟨y, hy⟩ : ∃ y, y = Rr.getD j 0 := ⟨_, rfl⟩
        rw [← hy] at cw0 cr0
        have cw := aft_cell cw0
        have cr := aft_cell cr0
        clear q1 q2 hy cw0 cr0 hT hA hadd
        go_wp2_with fail
        refine wp_region_aft (by kernel_rfl) (by kernel_rfl) ?_
        repeat (quiet_step (fail))
        refine wpQuiet_nil ?_
        intro _ hw'
        obtain ⟨pq, hw''⟩ := hw'
        subst hw''
        go_wp2
        go_roundw
        case rel =>
          have := HT.out
          have := Hadd.out
          exact ⟨i, j + 1, t + 1, by omega, by omega, by omega, rfl, by go_num, by go_num, Lib.hid (by omega), HG2, Lib.hid (below_chain HB.out (below_aft _ _))⟩
        case measure => simp [intOf]; omega
      have hjr2 : j < nr := by omega
      have g1 : decide ((nr : Int) ≤ (j : Int)) = false := by rw [decide_eq_false_iff_not]; omega
      have g2 : decide ((i : Int) < (nl : Int)) = true := by rw [decide_eq_true_iff]; omega
      have g3 : (j : Int) < (nr : Int) := by omega
      have g4 : (i : Int) < (nl : Int) := by omega
      have hil' : i < Rl.length := by rw [← HNL.out]; exact hil
      have hjr' : j < Rr.length := by rw [← HNR.out]; exact hjr2
      obtain ⟨br, or, rfl, _, cr0⟩ := (LR6.out.below HB.out).getD (i := j) hjr'
      obtain ⟨bl, ol, rfl, _, cl0⟩ := (LL6.out.below HB.out).getD (i := i) hil'
      have HX := fun p => tag_env (EV6.out.below HB.out) (ML.out _ (mem_getD hil')) p
      have HY := fun p => tag_env (EV6.out.below HB.out) (MR.out _ (mem_getD hjr')) p
      have xy := le_of_num (tg := fun q => tagOf (KK q)) (HV.out.across _ (mem_getD hil') _ (mem_getD hjr'))
      have htx : tagOf (KK (Rl.getD i 0)) < 65536 := tagOf_lt (EV6.out.kB _ (ML.out _ (mem_getD hil'))).1
      have hty : tagOf (KK (Rr.getD j 0)) < 65536 := tagOf_lt (EV6.out.kB _ (MR.out _ (mem_getD hjr'))).1
      by_cases hle : tagOf (KK (Rl.getD i 0)) ≤ tagOf (KK (Rr.getD j 0))
      · obtain ⟨q1, q2⟩ := HG.out.left hil' (fun _ => by rw [xy, decide_eq_true_iff]; exact hle)
        rw [← hT] at q1
        rw [q1] at cw0
        have HG2 := Lib.hid q2
        clear q1 q2 xy hil' hjr' hA hadd hT
        generalize Rl.getD i 0 = x at *
        generalize Rr.getD j 0 = y at *
        generalize tagOf (KK x) = tx at *
        generalize tagOf (KK y) = ty at *
        have hle' : (tx : Int) ≤ (ty : Int) := by omega
        have cw := aft_cell cw0
        have cr := aft_cell cr0
        have cl := aft_cell cl0
        clear cw0 cr0 cl0
        go_wp2_with fail
        refine wp_region_aft (by kernel_rfl) (by kernel_rfl) ?_
        repeat (quiet_step (first | (go_at_call_of 16 (Value.pointer (some ⟨x, 0, none⟩)); exact HX _) | (go_at_call_of 16 (Value.pointer (some ⟨y, 0, none⟩)); exact HY _)))
        refine wpQuiet_nil ?_
        intro _ hw'
        obtain ⟨pq, hw''⟩ := hw'
        subst hw''
        go_wp2
        go_roundw
        case rel =>
          have := HT.out
          have := Hadd.out
          exact ⟨i + 1, j, t + 1, by omega, by omega, by omega, by go_num, rfl, by go_num, Lib.hid (by omega), HG2, Lib.hid (below_chain HB.out (below_aft _ _))⟩
        case measure => simp [intOf]; omega
      · obtain ⟨q1, q2⟩ := HG.out.right hjr' (fun _ => by rw [xy, decide_eq_false_iff_not]; exact hle)
        rw [← hT] at q1
        rw [q1] at cw0
        have HG2 := Lib.hid q2
        clear q1 q2 xy hil' hjr' hA hadd hT
        generalize Rl.getD i 0 = x at *
        generalize Rr.getD j 0 = y at *
        generalize tagOf (KK x) = tx at *
        generalize tagOf (KK y) = ty at *
        have hle' : decide ((tx : Int) ≤ (ty : Int)) = false := by rw [decide_eq_false_iff_not]; omega
        have cw := aft_cell cw0
        have cr := aft_cell cr0
        have cl := aft_cell cl0
        clear cw0 cr0 cl0
        go_wp2_with fail
        refine wp_region_aft (by kernel_rfl) (by kernel_rfl) ?_
        repeat (quiet_step (first | (go_at_call_of 16 (Value.pointer (some ⟨x, 0, none⟩)); exact HX _) | (go_at_call_of 16 (Value.pointer (some ⟨y, 0, none⟩)); exact HY _)))
        refine wpQuiet_nil ?_
        intro _ hw'
        obtain ⟨pq, hw''⟩ := hw'
        subst hw''
        go_wp2
        go_roundw
        case rel =>
          have := HT.out
          have := Hadd.out
          exact ⟨i, j + 1, t + 1, by omega, by omega, by omega, rfl, by go_num, by go_num, Lib.hid (by omega), HG2, Lib.hid (below_chain HB.out (below_aft _ _))⟩
        case measure => simp [intOf]; omega
    · obtain rfl : t = nw := by omega
      go_wp2
      go_ret
      exact ⟨rfl, below_chain B6.out HB.out⟩
end Go.Proofs.Qxb6614277a
