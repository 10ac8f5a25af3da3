import Derived.Test.Qxb6614277aBuild2
import Derived.Test.Qxb6614277aNamed
namespace Go.Proofs.Qxb6614277a
open Go.RowKit

/-- The key i of the list. -/
def kAt (ks : List Key) (i : Nat) : Key := ks.getD i ⟨0, 0, 0, []⟩
theorem kAt_of {ks : List Key} {i : Nat} {k : Key} (h : ks[i]? = some k) : kAt ks i = k := by
  unfold kAt
  rw [List.getD_eq_getElem?_getD, h]; rfl

theorem ZAt.load {W : World} {la : Option Addr} {ks : List Key} (h : ZAt W la ks) {i : Nat} {k : Key} (hk : ks[i]? = some k) :
    ∃ lb lo v, la = some ⟨lb, lo, none⟩ ∧ lb < W.heap.size ∧ BytesAt W W.heap.size v k.pk ∧ (∀ p : Aft, (aft W p).cell? ⟨lb, lo + i * 4, none⟩ = some (.int .u16 k.fl)) ∧ (∀ p : Aft, (aft W p).cell? ⟨lb, lo + i * 4 + 1, none⟩ = some (.int .u8 k.pr)) ∧ (∀ p : Aft, (aft W p).cell? ⟨lb, lo + i * 4 + 2, none⟩ = some (.int .u8 k.al)) ∧ ∀ p : Aft, (aft W p).cell? ⟨lb, lo + i * 4 + 3, none⟩ = some v := by
  obtain ⟨lb, lo, v, rfl, hlb, c0, c1, c2, c3, hbv⟩ := h i k hk
  exact ⟨lb, lo, v, rfl, hlb, hbv, aft_cell c0, aft_cell c1, aft_cell c2, aft_cell c3⟩

theorem znamed_aft {k a : Key} {v u : Value} {w : World} (hl : k.pk.length ≤ 1048576) (h1 : BytesAt w w.heap.size v k.pk) (h2 : BytesAt w w.heap.size u a.pk) (p : Aft) :
    Calls Try.prog 23 #[ZVal k v, ZVal a u] (aft w p) fun e W' => e = .returned (.bool (named k a)) ∧ ∃ p' : Aft, W' = aft w p' := by
  have hb := below_aft w p
  refine (aft_call (znamed_any k a v u (aft w p) hl ((h1.below hb (Nat.le_refl _)).mono hb.size) ((h2.below hb (Nat.le_refl _)).mono hb.size))).mono ?_
  rintro e W' ⟨rfl, hw⟩
  refine ⟨ret_bool ?_, hw⟩
  unfold named
  simp only [eq_comm]

theorem countP_succ {ks : List Key} {p : Key → Bool} {i c : Nat} {k : Key} (h : ks[i]? = some k) (hc : c = (ks.take i).countP p) : (ks.take (i + 1)).countP p = c + (if p k then 1 else 0) := by
  rw [List.take_add_one, h, List.countP_append, hc]
  simp [List.countP_cons]

set_option maxHeartbeats 1000000 in
set_option maxRecDepth 100000 in
theorem count_any (la : Option Addr) (lcap : Nat) (ks : List Key) (ma : Option Addr) (mcap : Nat) (ms : List Key) (W : World) (hl : ks.length ≤ 1048576) (hl' : ms.length ≤ 1048576) (hok : ∀ k ∈ ks, k.ok) (h : ZAt W la ks) (h' : ZAt W ma ms) :
    Calls Try.prog 15 #[.slice la ks.length lcap, .slice ma ms.length mcap] W fun e W' => e = .returned (.int .i64 ((ks.countP fun k => hit k (kAt ms) ms.length : Nat) : Int)) ∧ Below W.heap.size W W' := by
  obtain ⟨n, hn⟩ : ∃ n, n = ks.length := ⟨_, rfl⟩
  obtain ⟨m, hm⟩ : ∃ m, m = ms.length := ⟨_, rfl⟩
  obtain ⟨P, hP⟩ : ∃ P : Key → Bool, P = fun k => hit k (kAt ms) ms.length := ⟨_, rfl⟩
  rw [← hn] at hl ⊢
  rw [← hP, ← hm]
  rw [← hm] at hl'
  have HZ := Lib.hid h
  have HZ' := Lib.hid h'
  have HOK := Lib.hid hok
  have HN := Lib.hid hn
  have HM := Lib.hid hm
  have HP := Lib.hid hP
  clear h h' hok hn hm hP
  go_enter Try.func15, Try.ntmps15
  go_wp2
  go_loopw [5, 6, 7] (fun vc vi _ wr => ∃ (i c : Nat), i ≤ n ∧ c ≤ i ∧ vi = .int .i64 i ∧ vc = .int .i64 c ∧ Hid (c = (ks.take i).countP P) ∧ Hid (Below W.heap.size W wr)) (fun _ vi _ _ => n - (intOf vi).toNat)
  case atStart => exact ⟨0, 0, by omega, by omega, rfl, rfl, Lib.hid (by simp), Lib.hid (Below.refl _ _)⟩
  case round =>
    obtain ⟨i, c, hin, hci, rfl, rfl, HC, HB⟩ := hrel
    by_cases hlt : i < n
    · have h1 : (i : Int) < (n : Int) := by omega
      obtain ⟨k, hk⟩ : ∃ k, ks[i]? = some k := ⟨ks[i]'(by have := HN.out; omega), List.getElem?_eq_getElem _⟩
      have hkl := (HOK.out k (List.mem_of_getElem? hk)).2.2.2.1
      have HK := Lib.hid hk
      clear hk
      go_wp2
      go_loopw [5, 7] (fun vc vj w2 => ∃ (j : Nat), j ≤ m ∧ vj = .int .i64 j ∧ vc = .int .i64 c ∧ Hid (∀ j', j' < j → named k (kAt ms j') = false) ∧ Hid (Below W.heap.size W w2)) (fun _ vj _ => m - (intOf vj).toNat)
      case atStart => exact ⟨0, by omega, rfl, rfl, Lib.hid (fun j' hj => by omega), HB⟩
      case round =>
        obtain ⟨j, hjm, rfl, rfl, HJ, HB2⟩ := hrel
        by_cases hlt2 : j < m
        · have h2 : (j : Int) < (m : Int) := by omega
          obtain ⟨a, ha⟩ : ∃ a, ms[j]? = some a := ⟨ms[j]'(by have := HM.out; omega), List.getElem?_eq_getElem _⟩
          obtain ⟨lb, lo, v, rfl, hlb, hv, c0, c1, c2, c3⟩ := (HZ.out.below HB2.out).load HK.out
          obtain ⟨mb, mo, u, rfl, hmb, hu, d0, d1, d2, d3⟩ := (HZ'.out.below HB2.out).load ha
          have HC23 := fun p => znamed_aft hkl hv hu p
          obtain ⟨b, hb⟩ : ∃ b, b = named k a := ⟨_, rfl⟩
          rw [← hb] at HC23
          have Hb := Lib.hid (show b = named k (kAt ms j) by rw [kAt_of ha]; exact hb)
          clear hb ha hv hu
          simp only [ZVal] at HC23
          go_wp2_with fail
          refine wp_region_aft (by kernel_rfl) (by kernel_rfl) ?_
          repeat (quiet_step (first | (go_at_call 23; exact HC23 _)))
          refine wpQuiet_nil ?_
          intro _ hw'
          obtain ⟨pq, hw''⟩ := hw'
          subst hw''
          cases b
          · go_wp2
            go_roundw
            case rel =>
              refine ⟨j + 1, by omega, by go_num, rfl, Lib.hid fun j' hj' => ?_, Lib.hid (HB2.out.trans ((below_aft _ pq).mono HB2.out.size))⟩
              by_cases e : j' = j
              · rw [e]; exact Hb.out.symm
              · exact HJ.out j' (by omega)
            case measure => simp [intOf]; omega
          · go_wp2
            go_roundw
            case rel =>
              refine ⟨i + 1, c + 1, by omega, by omega, by go_num, by go_num, Lib.hid ?_, Lib.hid (HB2.out.trans ((below_aft _ pq).mono HB2.out.size))⟩
              rw [countP_succ HK.out HC.out, HP.out]
              simp only [hit_true (show j < ms.length by rw [← HM.out]; exact hlt2) Hb.out.symm, if_true]
            case measure => simp [intOf]; omega
        · obtain rfl : j = m := by omega
          go_wp2
          go_roundw
          case rel =>
            refine ⟨i + 1, c, by omega, by omega, by go_num, rfl, Lib.hid ?_, HB2⟩
            rw [countP_succ HK.out HC.out, HP.out]
            simp only [hit_false (KA := kAt ms) (n := ms.length) (by rw [← HM.out]; exact HJ.out)]
            simp
          case measure => simp [intOf]; omega
    · obtain rfl : i = n := by omega
      go_wp2
      go_ret
      refine ⟨?_, HB.out⟩
      rw [HC.out, HN.out, List.take_length]
      rfl
end Go.Proofs.Qxb6614277a
