import Derived.Test.Qxb6614277aSwr
namespace Go.Proofs.Qxb6614277a
open Go.RowKit

set_option maxHeartbeats 1000000 in
set_option maxRecDepth 100000 in
theorem rot_any (Q : Nat → Prop) (w0 : World) (blk n cap : Nat) (f : Nat → Nat) (a m b : Nat) (v : Value) (W : World) (h : St Q w0 blk n f W) (ham : a < m) (hmb : m < b) (hbn : b ≤ n) (hn : n ≤ 1048576) :
    Calls Try.prog 36 #[.slice (some ⟨blk, 0, none⟩) n cap, .int .i64 a, .int .i64 m, .int .i64 b, v] W fun e W' => e = .returned (.tuple #[]) ∧ St Q w0 blk n (rot f a m b) W' ∧ Sw a b f (rot f a m b) := by
  have HS := Lib.hid h
  clear h
  obtain ⟨i0, hi0⟩ : ∃ i0, a + i0 = m := ⟨m - a, by omega⟩
  obtain ⟨j0, hj0⟩ : ∃ j0, m + j0 = b := ⟨b - m, by omega⟩
  have e1 : (m : Int) - (a : Int) = (i0 : Int) := by omega
  have e2 : (b : Int) - (m : Int) = (j0 : Int) := by omega
  go_enter Try.func36, Try.ntmps36
  go_wp2
  go_loopw [10, 11] (fun vi vj wr => ∃ (i j : Nat) (g : Nat → Nat), 0 < i ∧ 0 < j ∧ i ≤ i0 ∧ j ≤ j0 ∧ vi = .int .i64 i ∧ vj = .int .i64 j ∧ Hid (rot g (m - i) m (m + j) = rot f a m b ∧ Sw a b f g ∧ St Q w0 blk n g wr)) (fun vi vj _ => (intOf vi).toNat + (intOf vj).toNat)
  case atStart => exact ⟨i0, j0, f, by omega, by omega, Nat.le_refl _, Nat.le_refl _, rfl, rfl, ⟨by rw [show m - i0 = a by omega, hj0], .refl, HS.out⟩⟩
  case round =>
    obtain ⟨i, j, g, hi, hj, hi1, hj1, rfl, rfl, HI⟩ := hrel
    obtain ⟨p, hp⟩ : ∃ p, p = m - i := ⟨_, rfl⟩
    have p1 : (m : Int) - (i : Int) = (p : Int) := by omega
    have HP := Lib.hid hp
    clear hp
    by_cases hij : i = j
    · subst hij
      go_wp2_with fail
      refine (swr_any Q w0 blk n cap g p m i v _ (by exact HI.out.2.2) (by have := HP.out; omega) (by omega) hn).mono ?_
      rintro e w1 ⟨rfl, hs⟩
      have HT := Lib.hid hs
      clear hs
      go_wp2
      go_end0
      have r := rot_same (f := g) (m := m) (i := i) (by omega)
      have hq := swr_sw g p m a b i (by have := HP.out; omega) (by have := HP.out; omega) (by omega)
      rw [← HP.out] at r
      refine ⟨rfl, ?_, ?_⟩
      · rw [← HI.out.1, ← HP.out, ← r]; exact HT.out
      · rw [← HI.out.1, ← HP.out, ← r]; exact HI.out.2.1.trans hq
    · have d1 : ¬ (i : Int) = (j : Int) := by omega
      by_cases hlt : j < i
      · have d2 : (j : Int) < (i : Int) := by omega
        obtain ⟨i', hi'⟩ : ∃ i', i' + j = i := ⟨i - j, by omega⟩
        have e3 : (i : Int) - (j : Int) = (i' : Int) := by omega
        have HI' := Lib.hid hi'
        clear hi'
        go_wp2_with fail
        refine (swr_any Q w0 blk n cap g p m j v _ (by exact HI.out.2.2) (by have := HP.out; omega) (by omega) hn).mono ?_
        rintro e w1 ⟨rfl, hs⟩
        have HT := Lib.hid hs
        clear hs
        go_wp2
        go_roundw
        case rel =>
          have q := HI'.out
          have q2 := HP.out
          refine ⟨i', j, swr g p m j, by omega, hj, by omega, hj1, rfl, rfl, ⟨?_, HI.out.2.1.trans (swr_sw g p m a b j (by omega) (by omega) (by omega)), HT.out⟩⟩
          rw [← HI.out.1, q2, show m - i' = m - (i - j) by omega]
          exact rot_left (by omega) hlt
        case measure => have q := HI'.out; simp [intOf]; omega
      · have d2 : ¬ (j : Int) < (i : Int) := by omega
        obtain ⟨j', hj'⟩ : ∃ j', j' + i = j := ⟨j - i, by omega⟩
        have e3 : (j : Int) - (i : Int) = (j' : Int) := by omega
        obtain ⟨r, hr⟩ : ∃ r, r = m + j - i := ⟨_, rfl⟩
        have e4 : (m : Int) + (j : Int) - (i : Int) = (r : Int) := by omega
        have HI' := Lib.hid hj'
        have HR := Lib.hid hr
        clear hj' hr
        go_wp2_with fail
        refine (swr_any Q w0 blk n cap g p r i v _ (by exact HI.out.2.2) (by have := HP.out; have := HR.out; omega) (by have := HR.out; omega) hn).mono ?_
        rintro e w1 ⟨rfl, hs⟩
        have HT := Lib.hid hs
        clear hs
        go_wp2
        go_roundw
        case rel =>
          have q := HI'.out
          have q2 := HP.out
          have q3 := HR.out
          refine ⟨i, j', swr g p r i, hi, by omega, hi1, by omega, rfl, rfl, ⟨?_, HI.out.2.1.trans (swr_sw g p r a b i (by omega) (by omega) (by omega)), HT.out⟩⟩
          rw [← HI.out.1, q2, q3, show m + j' = m + (j - i) by omega]
          exact rot_right (by omega) (by omega)
        case measure => have q := HI'.out; simp [intOf]; omega
end Go.Proofs.Qxb6614277a
