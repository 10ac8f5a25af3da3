import Derived.Test.Qxb6614277aTag
import Derived.Test.Qxb6614277aStable
namespace Go.Proofs.Qxb6614277a
open Go.RowKit

theorem KeyAt.mono {W : World} {B B' q : Nat} {k : Key} (h : KeyAt W B q k) (hB : B ≤ B') : KeyAt W B' q k := by
  obtain ⟨h0, h1, h2, h3, h4, v, h5, h6⟩ := h
  exact ⟨by omega, h1, h2, h3, h4, v, h5, h6.mono hB⟩

theorem tagOf_lt {k : Key} (hk : k.ok) : tagOf k < 65536 := by
  unfold tagOf
  split
  · exact two_lt (getD_lt (rdata_lt hk) (by omega) _) (getD_lt (rdata_lt hk) (by omega) _)
  · omega

set_option maxRecDepth 100000 in
theorem nan_any (a : Nat) (w : World) : Calls Try.prog 33 #[.int .u16 a] w fun e w' => e = .returned (.bool false) ∧ w' = w := by
  go_enter Try.func33, Try.ntmps33
  go_wp2
  go_ret
  exact ⟨by simp, rfl⟩

set_option maxRecDepth 100000 in
theorem compare_any (a b : Nat) (w : World) : Calls Try.prog 29 #[.int .u16 a, .int .u16 b] w fun e w' => e = .returned (.int .i64 (cmp3 a b)) ∧ w' = w := by
  have HC := Lib.hid (show cmp3 a b = if a < b then -1 else if b < a then 1 else 0 from rfl)
  by_cases h1 : a < b
  · have i1 : (a : Int) < (b : Int) := by omega
    go_enter Try.func29, Try.ntmps29
    go_wp2_with fail
    refine (nan_any a w).mono ?_
    rintro e w' ⟨rfl, hw⟩
    subst w'
    go_wp2_with fail
    refine (nan_any b w).mono ?_
    rintro e w' ⟨rfl, hw⟩
    subst w'
    go_wp2
    go_ret
    exact ⟨by rw [HC.out, if_pos h1]; rfl, rfl⟩
  · have i1 : ¬ (a : Int) < (b : Int) := by omega
    by_cases h2 : b < a
    · have i2 : (b : Int) < (a : Int) := by omega
      go_enter Try.func29, Try.ntmps29
      go_wp2_with fail
      refine (nan_any a w).mono ?_
      rintro e w' ⟨rfl, hw⟩
      subst w'
      go_wp2_with fail
      refine (nan_any b w).mono ?_
      rintro e w' ⟨rfl, hw⟩
      subst w'
      go_wp2
      go_ret
      exact ⟨by rw [HC.out, if_neg h1, if_pos h2]; rfl, rfl⟩
    · have i2 : ¬ (b : Int) < (a : Int) := by omega
      go_enter Try.func29, Try.ntmps29
      go_wp2_with fail
      refine (nan_any a w).mono ?_
      rintro e w' ⟨rfl, hw⟩
      subst w'
      go_wp2_with fail
      refine (nan_any b w).mono ?_
      rintro e w' ⟨rfl, hw⟩
      subst w'
      go_wp2
      go_ret
      exact ⟨by rw [HC.out, if_neg h1, if_neg h2]; rfl, rfl⟩

set_option maxRecDepth 100000 in
theorem cmp_any (x y : Nat) (kx ky : Key) (hx : kx.ok) (hy : ky.ok) (W : World) (h1 : KeyAt W W.heap.size x kx) (h2 : KeyAt W W.heap.size y ky) :
    Calls Try.prog 28 #[.pointer (some ⟨x, 0, none⟩), .pointer (some ⟨y, 0, none⟩)] W fun e W' => e = .returned (.int .i64 (cmp3 (tagOf kx) (tagOf ky))) ∧ Below W.heap.size W W' := by
  have HX := Lib.hid (tag_any kx hx x W h1)
  have H2 := Lib.hid h2
  clear h1 h2
  go_enter Try.func28, Try.ntmps28
  go_wp2_with fail
  refine HX.out.mono ?_
  rintro e w1 ⟨rfl, hb1⟩
  have HB1 := Lib.hid hb1
  have HY := Lib.hid (tag_any ky hy y w1 ((H2.out.below hb1 (Nat.le_refl _)).mono hb1.size))
  clear hb1
  go_wp2_with fail
  refine HY.out.mono ?_
  rintro e w2 ⟨rfl, hb2⟩
  have HB2 := Lib.hid hb2
  clear hb2
  go_wp2_with fail
  refine (compare_any _ _ _).mono ?_
  rintro e w' ⟨rfl, hw⟩
  subst w'
  go_wp2
  go_ret
  exact ⟨rfl, HB1.out.trans (HB2.out.mono HB1.out.size)⟩

/-- The blocks that are keys below blk in w0, with their tags. -/
def IsKey (w0 : World) (blk : Nat) (tg : Nat → Nat) (q : Nat) : Prop := ∃ k : Key, k.ok ∧ KeyAt w0 blk q k ∧ tg q = tagOf k

theorem cmp_ok (w0 : World) (blk : Nat) (tg : Nat → Nat) : CmpOK blk tg (IsKey w0 blk tg) w0 := by
  intro W hb hs x y ⟨kx, ox, ax, tx⟩ ⟨ky, oy, ay, ty⟩
  rw [tx, ty]
  exact cmp_any x y kx ky ox oy W ((ax.below hb (Nat.le_refl _)).mono (by omega)) ((ay.below hb (Nat.le_refl _)).mono (by omega))

set_option maxRecDepth 100000 in
set_option maxHeartbeats 1000000 in
/-- The insertion sort of nothing. -/
theorem ins_nil (W : World) : Calls Try.prog 34 #[.slice none 0 0, .int .i64 0, .int .i64 0, .func (.func 28) #[] #[]] W fun e W' => e = .returned (.tuple #[]) ∧ W' = W := by
  go_enter Try.func34, Try.ntmps34
  go_wp2
  go_loopw [8] (fun vi wr => vi = .int .i64 1 ∧ wr = W) (fun _ _ => 0)
  case atStart => exact ⟨rfl, rfl⟩
  case round =>
    obtain ⟨rfl, hw⟩ := hrel
    subst hw
    go_wp2
    go_end0
    exact ⟨rfl, rfl⟩

set_option maxRecDepth 100000 in
set_option maxHeartbeats 1000000 in
theorem stable_nil (W : World) : Calls Try.prog 32 #[.slice none 0 0, .int .i64 0, .func (.func 28) #[] #[]] W fun e W' => e = .returned (.tuple #[]) ∧ W' = W := by
  go_enter Try.func32, Try.ntmps32
  go_wp2
  go_loopw [7, 8] (fun va vb wr => va = .int .i64 0 ∧ vb = .int .i64 20 ∧ wr = W) (fun _ _ _ => 0)
  case atStart => exact ⟨rfl, rfl, rfl⟩
  case round =>
    obtain ⟨rfl, rfl, hw⟩ := hrel
    subst wr
    go_wp2_with fail
    refine (ins_nil _).mono ?_
    rintro e w' ⟨rfl, hw⟩
    subst w'
    go_wp2
    go_loopw [6] (fun vs wr => vs = .int .i64 20 ∧ wr = W) (fun _ _ => 0)
    case atStart => exact ⟨rfl, rfl⟩
    case round =>
      obtain ⟨rfl, hw⟩ := hrel
      subst wr
      go_wp2
      go_end0
      exact ⟨rfl, rfl⟩

set_option maxRecDepth 100000 in
/-- slices.SortStableFunc of nothing. -/
theorem sort_nil (W : World) : Calls Try.prog 27 #[.slice none 0 0, .func (.func 28) #[] #[]] W fun e W' => e = .returned (.tuple #[]) ∧ W' = W := by
  go_enter Try.func27, Try.ntmps27
  go_wp2_with fail
  refine (stable_nil _).mono ?_
  rintro e w' ⟨rfl, hw⟩
  subst w'
  go_wp2
  go_end0
  exact ⟨rfl, rfl⟩
end Go.Proofs.Qxb6614277a
