import Derived.Test.Qxb6614277aSymSmall
namespace Go.Proofs.Qxb6614277a
open Go.RowKit

theorem sym_all (Q : Nat → Prop) (tg : Nat → Nat) (w0 : World) (blk n cap : Nat) (hc : CmpOK blk tg Q w0) (hn : n ≤ 1048576) : ∀ d, SymOK Q tg w0 blk n cap d := by
  intro d
  induction d with
  | zero => intro f a m b W _ h1 h2 _ h4; omega
  | succ d ih =>
    intro f a m b W hs h1 h2 h3 h4 o1 o2 hx
    by_cases c1 : m = a + 1
    · exact sym_up Q tg w0 blk n cap f a m b W hc hs c1 h2 h3 hn o2 hx
    · by_cases c2 : b = m + 1
      · exact sym_down Q tg w0 blk n cap f a m b W hc hs (by omega) c2 h3 hn o1 hx
      · by_cases c3 : (a + b) / 2 < m
        · exact sym_big Q tg w0 blk n cap d f a m b W hc ih hs (by omega) (by omega) h3 hn (by omega) o1 o2 hx _ rfl c3
        · exact sym_small Q tg w0 blk n cap d f a m b W hc ih hs (by omega) (by omega) h3 hn (by omega) o1 o2 hx _ rfl c3

set_option maxHeartbeats 1000000 in
set_option maxRecDepth 100000 in
/-- An empty run. -/
theorem ins_none (Q : Nat → Prop) (w0 : World) (blk n cap : Nat) (f : Nat → Nat) (a : Nat) (W : World) (h : St Q w0 blk n f W) (han : a ≤ n) (hn : n ≤ 1048576) :
    Calls Try.prog 34 #[.slice (some ⟨blk, 0, none⟩) n cap, .int .i64 a, .int .i64 a, .func (.func 28) #[] #[]] W fun e W' => e = .returned (.tuple #[]) ∧ St Q w0 blk n f W' := by
  have HS := Lib.hid h
  clear h
  go_enter Try.func34, Try.ntmps34
  go_wp2
  go_loopw [8] (fun vi wr => vi = .int .i64 ((a : Int) + 1) ∧ Hid (St Q w0 blk n f wr)) (fun _ _ => 0)
  case atStart => exact ⟨rfl, HS⟩
  case round =>
    obtain ⟨rfl, HI⟩ := hrel
    have h1 : ¬ (a : Int) + 1 < (a : Int) := by omega
    go_wp2
    go_end0
    exact ⟨rfl, HI.out⟩

theorem ins_all (Q : Nat → Prop) (tg : Nat → Nat) (w0 : World) (blk n cap : Nat) (f : Nat → Nat) (a b : Nat) (W : World) (hc : CmpOK blk tg Q w0) (h : St Q w0 blk n f W) (hab : a ≤ b) (hbn : b ≤ n) (hn : n ≤ 1048576) (hr : Rising tg f a b) :
    Calls Try.prog 34 #[.slice (some ⟨blk, 0, none⟩) n cap, .int .i64 a, .int .i64 b, .func (.func 28) #[] #[]] W fun e W' => e = .returned (.tuple #[]) ∧ ∃ g, St Q w0 blk n g W' ∧ Sw a b f g ∧ SortedOn tg g a b := by
  rcases Nat.lt_or_eq_of_le hab with hl | he
  · exact ins_any Q tg w0 blk n cap f a b W hc h hl hbn hn hr
  · subst he
    exact (ins_none Q w0 blk n cap f a W h hbn hn).mono fun e W' ⟨he, hs⟩ => ⟨he, f, hs, .refl, fun i j h1 h2 h3 => by omega⟩

/-- What the sort keeps. -/
structure Sorting (Q : Nat → Prop) (tg : Nat → Nat) (w0 : World) (blk n : Nat) (f g : Nat → Nat) (W : World) : Prop where
  st : St Q w0 blk n g W
  sw : Sw 0 n f g
  ris : Rising tg g 0 n

theorem Sorting.next {Q : Nat → Prop} {tg : Nat → Nat} {w0 : World} {blk n : Nat} {f g g' : Nat → Nat} {W W' : World} {a b : Nat} (h : Sorting Q tg w0 blk n f g W) (hs : St Q w0 blk n g' W') (hsw : Sw a b g g') (ho : SortedOn tg g' a b) (hb : b ≤ n) : Sorting Q tg w0 blk n f g' W' :=
  ⟨hs, h.sw.trans (hsw.mono (Nat.zero_le _) hb), h.ris.sorted hsw ho hb⟩

theorem Rising.part {tg f : Nat → Nat} {n a b : Nat} (h : Rising tg f 0 n) (hb : b ≤ n) : Rising tg f a b := fun i j _ h2 h3 he => h i j (Nat.zero_le _) h2 (by omega) he
theorem Rising.across {tg f : Nat → Nat} {n a m b : Nat} (h : Rising tg f 0 n) (hb : b ≤ n) : Across tg f a m b := fun i j _ h2 h3 h4 he => h i j (Nat.zero_le _) (by omega) (by omega) he

set_option maxHeartbeats 4000000 in
set_option maxRecDepth 100000 in
theorem stable_any (Q : Nat → Prop) (tg : Nat → Nat) (w0 : World) (blk n cap : Nat) (f : Nat → Nat) (W : World) (hc : CmpOK blk tg Q w0) (h : St Q w0 blk n f W) (hn : n ≤ 1048576) (hr : Rising tg f 0 n) :
    Calls Try.prog 32 #[.slice (some ⟨blk, 0, none⟩) n cap, .int .i64 n, .func (.func 28) #[] #[]] W fun e W' => e = .returned (.tuple #[]) ∧ ∃ g, St Q w0 blk n g W' ∧ Sw 0 n f g ∧ SortedOn tg g 0 n := by
  have HS : Hid (Sorting Q tg w0 blk n f f W) := ⟨h, .refl, hr⟩
  have HC := Lib.hid hc
  have HM := Lib.hid (sym_all Q tg w0 blk n cap hc hn n)
  clear h hc hr
  go_enter Try.func32, Try.ntmps32
  go_wp2
  go_loopw [7, 8] (fun va vb wr => ∃ (A B k : Nat) (g : Nat → Nat), B = A + 20 ∧ A ≤ n ∧ va = .int .i64 A ∧ vb = .int .i64 B ∧ Hid (A = 20 * k ∧ Sorting Q tg w0 blk n f g wr ∧ Blk tg g 20 0 A)) (fun va _ _ => n - (intOf va).toNat)
  case atStart => exact ⟨0, 20, 0, f, rfl, by omega, rfl, rfl, ⟨rfl, HS.out, fun i j h1 h2 h3 => by omega⟩⟩
  case round =>
    obtain ⟨A, B, k, g, hB, hA, rfl, rfl, HI⟩ := hrel
    have HB := Lib.hid hB
    by_cases hlt : B ≤ n
    · have h1 : (B : Int) ≤ (n : Int) := by omega
      clear hB
      go_wp2_with fail
      refine (ins_all Q tg w0 blk n cap g A B _ HC.out (by exact HI.out.2.1.st) (by have := HB.out; omega) hlt hn (HI.out.2.1.ris.part hlt)).mono ?_
      rintro e w1 ⟨rfl, g1, s1, s2, s3⟩
      have HN := Lib.hid (HI.out.2.1.next s1 s2 s3 hlt)
      have HK := Lib.hid (show Blk tg g1 20 0 B from by
        have q := HI.out.1
        rw [q] at s2 s3
        have := HI.out.2.2
        rw [q] at this
        exact this.next s2 s3 (by omega))
      clear s1 s2 s3
      go_wp2
      go_roundw
      case rel => exact ⟨B, B + 20, k + 1, g1, rfl, by omega, rfl, by go_num, ⟨by have := HB.out; have := HI.out.1; omega, HN.out, HK.out⟩⟩
      case measure => have := HB.out; simp [intOf]; omega
    · have h1 : ¬ (B : Int) ≤ (n : Int) := by omega
      clear hB
      go_wp2_with fail
      refine (ins_all Q tg w0 blk n cap g A n _ HC.out (by exact HI.out.2.1.st) hA (Nat.le_refl _) hn (HI.out.2.1.ris.part (Nat.le_refl _))).mono ?_
      rintro e w1 ⟨rfl, g1, s1, s2, s3⟩
      have HN := Lib.hid (HI.out.2.1.next s1 s2 s3 (Nat.le_refl _))
      have HK := Lib.hid (show Blk tg g1 20 0 n from by
        have q := HI.out.1
        rw [q] at s2 s3
        have := HI.out.2.2
        rw [q] at this
        exact this.next s2 s3 (by omega))
      clear s1 s2 s3
      go_wp2
      go_loopw [6] (fun vs wr => ∃ (s : Nat) (g : Nat → Nat), 0 < s ∧ s ≤ 2097152 ∧ vs = .int .i64 s ∧ Hid (Sorting Q tg w0 blk n f g wr ∧ Blk tg g s 0 n)) (fun vs _ => n - (intOf vs).toNat)
      case atStart => exact ⟨20, g1, by omega, by omega, rfl, ⟨HN.out, HK.out⟩⟩
      case round =>
        obtain ⟨s, g2, hs0, hs1, rfl, HJ⟩ := hrel
        by_cases hsn : s < n
        · have h2 : (s : Int) < (n : Int) := by omega
          obtain ⟨T, hT⟩ : ∃ T, T = 2 * s := ⟨_, rfl⟩
          have e1 : 2 * (s : Int) = (T : Int) := by omega
          have e2 : (s : Int) * 2 = (T : Int) := by omega
          have t1 : T ≤ 2097152 ∧ 0 < T ∧ s < T := by omega
          have HT := Lib.hid hT
          clear hT
          go_wp2
          go_loopw [7, 8] (fun va vb wr => ∃ (A B k : Nat) (g : Nat → Nat), B = A + T ∧ A ≤ n ∧ va = .int .i64 A ∧ vb = .int .i64 B ∧ Hid (A = T * k ∧ Sorting Q tg w0 blk n f g wr ∧ Blk tg g T 0 A ∧ Blk tg g s A n)) (fun va _ _ => n - (intOf va).toNat)
          case atStart => exact ⟨0, T, 0, g2, by omega, by omega, rfl, rfl, ⟨by omega, HJ.out.1, fun i j h1 h2 h3 => by omega, HJ.out.2⟩⟩
          case round =>
            obtain ⟨A, B, k, g, hB, hA, rfl, rfl, HI⟩ := hrel
            have hk : A = s * (2 * k) ∧ A + s = s * (2 * k + 1) := by
              have q := HI.out.1
              rw [HT.out] at q
              have e : 2 * s * k = s * (2 * k) := by rw [Nat.mul_comm 2 s, Nat.mul_assoc]
              exact ⟨by omega, by rw [Nat.mul_add]; omega⟩
            obtain ⟨M, hM⟩ : ∃ M, M = A + s := ⟨_, rfl⟩
            have e3 : (A : Int) + (s : Int) = (M : Int) := by omega
            have HB := Lib.hid hB
            have HM' := Lib.hid hM
            have HK := Lib.hid hk
            have hTT := HT.out
            by_cases hlt : B ≤ n
            · have h3 : (B : Int) ≤ (n : Int) := by omega
              have o1 : SortedOn tg g A M := by
                have := Blk.one (k := 2 * k) (b := M) HI.out.2.2.2 (by omega) (by omega) (by omega)
                rwa [← hk.1] at this
              have o2 : SortedOn tg g M B := by
                have := Blk.one (k := 2 * k + 1) (b := B) HI.out.2.2.2 (by omega) (by omega) (by omega)
                rwa [← hk.2, ← hM] at this
              have O1 := Lib.hid o1
              have O2 := Lib.hid o2
              clear hB hM hk hTT o1 o2
              go_wp2_with fail
              refine (HM.out g A M B _ (by exact HI.out.2.1.st) (by have := HM'.out; omega) (by have := HM'.out; have := HB.out; have := HT.out; omega) hlt (by omega) O1.out O2.out (HI.out.2.1.ris.across hlt)).mono ?_
              rintro e w2 ⟨rfl, g3, s1, s2, s3⟩
              have HN2 := Lib.hid (HI.out.2.1.next s1 s2 s3 hlt)
              have HK2 := Lib.hid (show Blk tg g3 T 0 B ∧ Blk tg g3 s B n from by
                have q := HI.out.1
                refine ⟨?_, HI.out.2.2.2.keep s2 (by have := HB.out; omega)⟩
                rw [q] at s2 s3
                have := HI.out.2.2.1
                rw [q] at this
                exact this.next s2 s3 (by omega))
              clear s1 s2 s3
              go_wp2
              go_roundw
              case rel => exact ⟨B, B + T, k + 1, g3, rfl, by omega, rfl, by go_num, ⟨by have := HB.out; have := HI.out.1; rw [Nat.mul_add]; omega, HN2.out, HK2.out.1, HK2.out.2⟩⟩
              case measure => have := HB.out; simp [intOf]; omega
            · have h3 : ¬ (B : Int) ≤ (n : Int) := by omega
              by_cases hmn : M < n
              · have h4 : (M : Int) < (n : Int) := by omega
                have o1 : SortedOn tg g A M := by
                  have := Blk.one (k := 2 * k) (b := M) HI.out.2.2.2 (by omega) (by omega) (by omega)
                  rwa [← hk.1] at this
                have o2 : SortedOn tg g M n := by
                  have := Blk.one (k := 2 * k + 1) (b := n) HI.out.2.2.2 (by omega) (by omega) (by omega)
                  rwa [← hk.2, ← hM] at this
                have O1 := Lib.hid o1
                have O2 := Lib.hid o2
                clear hB hM hk hTT o1 o2
                go_wp2_with fail
                refine (HM.out g A M n _ (by exact HI.out.2.1.st) (by have := HM'.out; omega) hmn (Nat.le_refl _) (by omega) O1.out O2.out (HI.out.2.1.ris.across (Nat.le_refl _))).mono ?_
                rintro e w2 ⟨rfl, g3, s1, s2, s3⟩
                have HN2 := Lib.hid (HI.out.2.1.next s1 s2 s3 (Nat.le_refl _))
                have HK2 := Lib.hid (show Blk tg g3 T 0 n from by
                  have q := HI.out.1
                  rw [q] at s2 s3
                  have := HI.out.2.2.1
                  rw [q] at this
                  exact this.next s2 s3 (by omega))
                clear s1 s2 s3
                go_wp2
                go_roundw
                case rel => exact ⟨T, g3, by omega, by omega, rfl, ⟨HN2.out, HK2.out⟩⟩
                case measure => simp [intOf]; omega
              · have h4 : ¬ (M : Int) < (n : Int) := by omega
                have HK2 := Lib.hid (show Blk tg g T 0 n from by
                  have q := HI.out.1
                  have a1 := HI.out.2.2.1
                  have a2 := HI.out.2.2.2
                  rw [q, hTT] at a1 a2
                  rw [hTT]
                  exact Blk.last a1 a2 hs0 (by rw [hTT] at q; omega))
                clear hB hM hk hTT
                go_wp2
                go_roundw
                case rel => exact ⟨T, g, by omega, by omega, rfl, ⟨HI.out.2.1, HK2.out⟩⟩
                case measure => simp [intOf]; omega
        · have h2 : ¬ (s : Int) < (n : Int) := by omega
          go_wp2
          go_end0
          exact ⟨rfl, g2, HJ.out.1.st, HJ.out.1.sw, HJ.out.2.all (by omega)⟩

set_option maxRecDepth 100000 in
/-- slices.SortStableFunc over a row that is there. -/
theorem sort_some (Q : Nat → Prop) (tg : Nat → Nat) (w0 : World) (blk n cap : Nat) (f : Nat → Nat) (W : World) (hc : CmpOK blk tg Q w0) (h : St Q w0 blk n f W) (hn : n ≤ 1048576) (hr : Rising tg f 0 n) :
    Calls Try.prog 27 #[.slice (some ⟨blk, 0, none⟩) n cap, .func (.func 28) #[] #[]] W fun e W' => e = .returned (.tuple #[]) ∧ ∃ g, St Q w0 blk n g W' ∧ Sw 0 n f g ∧ SortedOn tg g 0 n := by
  have HR := Lib.hid (stable_any Q tg w0 blk n cap f W hc h hn hr)
  clear hc h hr
  go_enter Try.func27, Try.ntmps27
  go_wp2_with fail
  refine HR.out.mono ?_
  rintro e w1 ⟨rfl, g, h1, h2, h3⟩
  have H1 := Lib.hid h1
  have H2 := Lib.hid h2
  have H3 := Lib.hid h3
  clear h1 h2 h3
  go_wp2
  go_end0
  exact ⟨rfl, g, H1.out, H2.out, H3.out⟩
end Go.Proofs.Qxb6614277a
