import Derived.Test.Qxb6614277aLawFive
namespace Go.Proofs.Qxb6614277a
open Go.RowKit

/-- The keys' own blocks. -/
def KeyBlk (W : World) (l : List Nat) : Prop := ∀ q ∈ l, ∃ c, W.heap[q]? = some (.cells c 29 (0, 0))
theorem KeyBlk.below {W W' : World} {l : List Nat} (h : KeyBlk W l) (hb : Below W.heap.size W W') : KeyBlk W' l := by
  intro q hq
  obtain ⟨c, hc⟩ := h q hq
  have hlt : q < W.heap.size := (Array.getElem?_eq_some_iff.1 hc).1
  exact ⟨c, by rw [hb.block q hlt]; exact hc⟩
theorem KeyBlk.sub {W : World} {l m : List Nat} (h : KeyBlk W l) (hs : ∀ q ∈ m, q ∈ l) : KeyBlk W m := fun q hq => h q (hs q hq)

theorem eql_same (w : World) (x : Nat) : (binOp .eql 25 (.pointer (some ⟨x, 0, none⟩)) (.pointer (some ⟨x, 0, none⟩))).run Try.prog w = .ok (.bool true) w :=
  run_eql_ptr_same w _ Try.underlying25 (show Try.prog.info? 29 = some Try.t29 by kernel_rfl)
theorem eql_other {w : World} {x y : Nat} (hne : x ≠ y) (hx : ∃ c, w.heap[x]? = some (.cells c 29 (0, 0))) (hy : ∃ c, w.heap[y]? = some (.cells c 29 (0, 0))) :
    (binOp .eql 25 (.pointer (some ⟨x, 0, none⟩)) (.pointer (some ⟨y, 0, none⟩))).run Try.prog w = .ok (.bool false) w := by
  obtain ⟨c, hc⟩ := hx
  obtain ⟨d, hd⟩ := hy
  exact run_eql_ptr_other w Try.underlying25 (show Try.prog.info? 29 = some Try.t29 by kernel_rfl) (by decide) (by intro e; injection e with e; exact hne e) hc hd

theorem count_succ {R : List Nat} {i c x q : Nat} (h : R[i]? = some x) (hc : c = (R.take i).count q) : (R.take (i + 1)).count q = c + (if x = q then 1 else 0) := by
  rw [List.take_add_one, h, List.count_append, hc]
  simp [List.count_cons]

set_option maxHeartbeats 1000000 in
set_option maxRecDepth 100000 in
theorem occ_any (a : Option Addr) (n cap : Nat) (R : List Nat) (q : Nat) (W : World) (hn : n = R.length) (hl : n ≤ 4096) (hp : PtrIn W a R) (hb : KeyBlk W R) (hq : ∃ c, W.heap[q]? = some (.cells c 29 (0, 0))) :
    Calls Try.prog 18 #[.slice a n cap, .pointer (some ⟨q, 0, none⟩)] W fun e W' => e = .returned (.int .i64 ((R.count q : Nat) : Int)) ∧ W' = W := by
  have HN := Lib.hid hn
  have HP := Lib.hid hp
  have HB := Lib.hid hb
  have HQ := Lib.hid hq
  clear hn hp hb hq
  have es := eql_same
  go_enter Try.func18, Try.ntmps18
  go_wp2
  go_loop [5, 6] (fun vc vi => ∃ (i c : Nat), i ≤ n ∧ c ≤ i ∧ vi = .int .i64 i ∧ vc = .int .i64 c ∧ Hid (c = (R.take i).count q)) (fun _ vi => n - (intOf vi).toNat)
  case atStart => exact ⟨0, 0, by omega, by omega, rfl, rfl, Lib.hid (by simp)⟩
  case round =>
    obtain ⟨i, c, hin, hci, rfl, rfl, HC⟩ := hrel
    by_cases hlt : i < n
    · have h1 : (i : Int) < (n : Int) := by omega
      have hil : i < R.length := by rw [← HN.out]; exact hlt
      obtain ⟨kb, ko, rfl, hk, hcell⟩ := HP.out.getD hil
      have HX := Lib.hid (show R[i]? = some (R.getD i 0) by rw [List.getD_eq_getElem?_getD, List.getElem?_eq_getElem hil]; rfl)
      have HXB := Lib.hid (HB.out _ (mem_getD hil))
      generalize R.getD i 0 = x at *
      clear hil
      by_cases hxq : x = q
      · subst hxq
        go_wp2
        go_round
        case rel => exact ⟨i + 1, c + 1, by omega, by omega, by go_num, by go_num, Lib.hid (by rw [count_succ HX.out HC.out]; simp)⟩
        case measure => simp [intOf]; omega
      · have eo := eql_other hxq HXB.out HQ.out
        go_wp2
        go_round
        case rel => exact ⟨i + 1, c, by omega, by omega, by go_num, rfl, Lib.hid (by rw [count_succ HX.out HC.out]; simp [hxq])⟩
        case measure => simp [intOf]; omega
    · obtain rfl : i = n := by omega
      go_wp2
      go_ret
      refine ⟨?_, rfl⟩
      rw [HC.out, HN.out, List.take_length]
      rfl

set_option maxHeartbeats 1000000 in
set_option maxRecDepth 100000 in
theorem sameptr_any (a b : Option Addr) (n c d : Nat) (R : List Nat) (W : World) (hn : n = R.length) (hl : n ≤ 4096) (hp : PtrIn W a R) (hp' : PtrIn W b R) :
    Calls Try.prog 19 #[.slice a n c, .slice b n d] W fun e W' => e = .returned (.bool true) ∧ Below W.heap.size W W' := by
  have HN := Lib.hid hn
  have HP := Lib.hid hp
  have HP' := Lib.hid hp'
  clear hn hp hp'
  have es := neq_same
  go_enter Try.func19, Try.ntmps19
  go_wp2
  go_loopw [5] (fun vi wr => ∃ (i nq : Nat), i ≤ n ∧ vi = .int .i64 i ∧ wr = W.drewN nq) (fun vi _ => n - (intOf vi).toNat)
  case atStart => exact ⟨0, 0, by omega, rfl, rfl⟩
  case round =>
    obtain ⟨i, nq, hin, rfl, rfl⟩ := hrel
    by_cases hlt : i < n
    · have h1 : (i : Int) < (n : Int) := by omega
      have hil : i < R.length := by rw [← HN.out]; exact hlt
      obtain ⟨kb, ko, rfl, hk, hcell⟩ := HP.out.getD hil
      obtain ⟨kb', ko', rfl, hk', hcell'⟩ := HP'.out.getD hil
      generalize R.getD i 0 = x at *
      clear hil
      go_wp2_with fail
      go_quiet (fail)
      go_wp2
      go_roundw
      case rel => exact ⟨i + 1, _, by omega, by go_num, by first | rfl | (simp only [go_sem]; rfl)⟩
      case measure => simp [intOf]; omega
    · obtain rfl : i = n := by omega
      go_wp2
      go_ret
      exact ⟨rfl, below_drewN (Below.refl _ _) _⟩
end Go.Proofs.Qxb6614277a
