import Derived.Test.Qxb6614277aRdata
import Derived.Deep.Draws
namespace Go.Proofs.Qxb6614277a
open Go.RowKit

theorem BytesAt.form {w : World} {B : Nat} {v : Value} {l : List Nat} (h : BytesAt w B v l) : ∃ a c, v = .slice a l.length c := by
  rcases h with (⟨rfl, rfl⟩ | ⟨a, cap, rfl, rfl⟩) | ⟨b, off, cap, rfl, _⟩
  · exact ⟨none, 0, rfl⟩
  · exact ⟨_, _, rfl⟩
  · exact ⟨_, _, rfl⟩

theorem BytesAt.get {w : World} {B : Nat} {a : Option Addr} {n c : Nat} {l : List Nat} (h : BytesAt w B (.slice a n c) l) {i : Nat} (hi : i < l.length) : ∃ b off, a = some ⟨b, off, none⟩ ∧ w.cell? ⟨b, off + i, none⟩ = some (.int .u8 ((l.getD i 0 : Nat) : Int)) := by
  rcases h with (⟨_, rfl⟩ | ⟨a, cap, _, rfl⟩) | ⟨b, off, cap, e, _, h⟩
  · simp at hi
  · simp at hi
  · injection e with e1 e2 e3
    refine ⟨b, off, e1, h i _ ?_⟩
    unfold u8s
    rw [List.getElem?_map, List.getElem?_eq_getElem hi, List.getD_eq_getElem?_getD, List.getElem?_eq_getElem hi]; rfl

theorem eq_of_getD {l1 l2 : List Nat} (hl : l1.length = l2.length) (h : ∀ j, j < l1.length → l1.getD j 0 = l2.getD j 0) : l1 = l2 := by
  apply List.ext_getElem hl
  intro i h1 h2
  have := h i h1
  rwa [List.getD_eq_getElem?_getD, List.getD_eq_getElem?_getD, List.getElem?_eq_getElem h1, List.getElem?_eq_getElem h2] at this

theorem ret_bool {a b : Bool} (h : a = b) : Ending.returned (.bool a) = .returned (.bool b) := by rw [h]

set_option maxHeartbeats 1000000 in
set_option maxRecDepth 100000 in
theorem same_any (v1 v2 : Value) (l1 l2 : List Nat) (B : Nat) (W : World) (hl : l1.length ≤ 1048576) (h1 : BytesAt W B v1 l1) (h2 : BytesAt W B v2 l2) :
    Calls Try.prog 30 #[v1, v2] W fun e W' => e = .returned (.bool (decide (l1 = l2))) ∧ ∃ nq, W' = W.drewN nq := by
  obtain ⟨a1, c1, rfl⟩ := h1.form
  obtain ⟨a2, c2, rfl⟩ := h2.form
  have H1 := Lib.hid h1
  have H2 := Lib.hid h2
  clear h1 h2
  obtain ⟨n, hn⟩ : ∃ n, n = l1.length := ⟨_, rfl⟩
  obtain ⟨m, hm⟩ : ∃ m, m = l2.length := ⟨_, rfl⟩
  rw [← hn] at hl ⊢
  rw [← hm]
  have HN := Lib.hid hn
  have HM := Lib.hid hm
  clear hn hm
  by_cases hnm : n = m
  · subst hnm
    go_enter Try.func30, Try.ntmps30
    go_wp2
    go_loopw [5] (fun i wr => ∃ (k nq : Nat), k ≤ n ∧ i = .int .i64 k ∧ Hid (∀ j, j < k → l1.getD j 0 = l2.getD j 0) ∧ wr = W.drewN nq) (fun i _ => n - (intOf i).toNat)
    case atStart => exact ⟨0, 0, by omega, rfl, Lib.hid (fun j hj => by omega), rfl⟩
    case round =>
      obtain ⟨k, nq, hk, rfl, HP, rfl⟩ := hrel
      by_cases hlt : k < n
      · have hm' : (k : Int) < (n : Int) := by omega
        obtain ⟨b1, o1, rfl, e1⟩ := H1.out.get (i := k) (by rw [← HN.out]; exact hlt)
        obtain ⟨b2, o2, rfl, e2⟩ := H2.out.get (i := k) (by rw [← HM.out]; exact hlt)
        obtain ⟨x, hx⟩ : ∃ x, x = l1.getD k 0 := ⟨_, rfl⟩
        obtain ⟨y, hy⟩ : ∃ y, y = l2.getD k 0 := ⟨_, rfl⟩
        rw [← hx] at e1
        rw [← hy] at e2
        have HX := Lib.hid hx
        have HY := Lib.hid hy
        clear hx hy
        by_cases hxy : x = y
        · subst hxy
          go_wp2_with fail
          go_quiet (fail)
          go_wp2
          go_roundw
          case rel =>
            refine ⟨k + 1, _, by omega, by go_num, Lib.hid fun j hj => ?_, by first | rfl | (simp only [go_sem]; rfl)⟩
            by_cases e : j = k
            · rw [e, ← HX.out, ← HY.out]
            · exact HP.out j (by omega)
          case measure => simp [intOf]; omega
        · have g1 : ((x : Int) == (y : Int)) = false := by simp; omega
          have g2 : ¬ (x : Int) = (y : Int) := by omega
          go_wp2_with fail
          go_quiet (fail)
          go_wp2
          go_ret
          refine ⟨ret_bool ?_, _, by first | rfl | (simp only [go_sem]; rfl)⟩
          rw [eq_comm, decide_eq_false_iff_not]
          rintro rfl
          exact hxy (HX.out.trans HY.out.symm)
      · obtain rfl : k = n := by omega
        go_wp2
        go_ret
        refine ⟨ret_bool ?_, _, by first | rfl | (simp only [go_sem]; rfl)⟩
        rw [eq_comm, decide_eq_true_iff]
        exact eq_of_getD (HN.out.symm.trans HM.out) (by rw [← HN.out]; exact HP.out)
  · have g1 : ((n : Int) == (m : Int)) = false := by simp; omega
    have g2 : ¬ (n : Int) = (m : Int) := by omega
    go_enter Try.func30, Try.ntmps30
    go_wp2
    go_ret
    refine ⟨ret_bool ?_, 0, rfl⟩
    rw [eq_comm, decide_eq_false_iff_not]
    rintro rfl
    exact hnm (HN.out.trans HM.out.symm)
end Go.Proofs.Qxb6614277a
