import Derived.Test.Qxb6614277aOrd
namespace Go.Proofs.Qxb6614277a

/-- The order as a test: a smaller tag, or the same tag and a number that is no greater. -/
def le (tg : Nat → Nat) (x y : Nat) : Bool := decide (tg x < tg y ∨ (tg x = tg y ∧ x ≤ y))
theorem le_of_lt {tg : Nat → Nat} {x y : Nat} (h : lt tg x y) : le tg x y = true := by
  unfold lt at h; unfold le; rw [decide_eq_true_iff]; omega
theorem le_anti {tg : Nat → Nat} {x y : Nat} (h : le tg x y = true) (h' : le tg y x = true) : x = y := by
  unfold le at h h'; rw [decide_eq_true_iff] at h h'; omega
theorem le_trans {tg : Nat → Nat} (x y z : Nat) (h : le tg x y = true) (h' : le tg y z = true) : le tg x z = true := by
  unfold le at *; rw [decide_eq_true_iff] at *; omega
theorem le_total {tg : Nat → Nat} (x y : Nat) : (le tg x y || le tg y x) = true := by
  unfold le; rw [Bool.or_eq_true, decide_eq_true_iff, decide_eq_true_iff]; omega
theorem le_of_num {tg : Nat → Nat} {x y : Nat} (h : x < y) : le tg x y = decide (tg x ≤ tg y) := by
  unfold le; apply Bool.eq_iff_iff.2; rw [decide_eq_true_iff, decide_eq_true_iff]; omega

/-- Two lists in order, of the same elements, are one list. -/
theorem sorted_unique {tg : Nat → Nat} : ∀ {l m : List Nat}, l.Perm m → l.Pairwise (fun x y => le tg x y = true) → m.Pairwise (fun x y => le tg x y = true) → l = m
  | [], m, h, _, _ => (List.Perm.nil_eq h)
  | x :: l, [], h, _, _ => by have := h.length_eq; simp at this
  | x :: l, y :: m, h, hl, hm => by
    have e : x = y := by
      by_cases e : x = y
      · exact e
      · have h1 : x ∈ m := by
          have : x ∈ y :: m := h.subset (by simp)
          simp [e] at this; exact this
        have h2 : y ∈ l := by
          have : y ∈ x :: l := h.symm.subset (by simp)
          simp [Ne.symm e] at this; exact this
        exact le_anti ((List.pairwise_cons.1 hl).1 y h2) ((List.pairwise_cons.1 hm).1 x h1)
    subst e
    rw [sorted_unique (List.Perm.cons_inv h) (List.pairwise_cons.1 hl).2 (List.pairwise_cons.1 hm).2]

theorem lt_le {tg : Nat → Nat} {l : List Nat} (h : l.Pairwise (lt tg)) : l.Pairwise (fun x y => le tg x y = true) := h.imp le_of_lt

theorem lt_unique {tg : Nat → Nat} {l m : List Nat} (h : l.Perm m) (hl : l.Pairwise (lt tg)) (hm : m.Pairwise (lt tg)) : l = m := sorted_unique h (lt_le hl) (lt_le hm)

/-- The whole is the merge of its halves. -/
theorem whole_merge {tg : Nat → Nat} {R A B : List Nat} (hp : R.Perm (A ++ B)) (hR : R.Pairwise (lt tg)) (hA : A.Pairwise (lt tg)) (hB : B.Pairwise (lt tg)) : R = List.merge A B (le tg) :=
  sorted_unique (hp.trans (List.merge_perm_append (le tg)).symm) (lt_le hR) (List.pairwise_merge le_trans le_total _ _ (lt_le hA) (lt_le hB))

/-- How far the merge has come: i of the left, j of the right. -/
def Merged (tg : Nat → Nat) (R A B : List Nat) (i j : Nat) : Prop := R.drop (i + j) = List.merge (A.drop i) (B.drop j) (le tg)

theorem Merged.start {tg : Nat → Nat} {R A B : List Nat} (h : R = List.merge A B (le tg)) : Merged tg R A B 0 0 := h

theorem drop_getD {l : List Nat} {i : Nat} (h : i < l.length) : l.drop i = l.getD i 0 :: l.drop (i + 1) := by
  rw [List.drop_eq_getElem_cons h, List.getD_eq_getElem?_getD, List.getElem?_eq_getElem h]; rfl

theorem drop_step {R : List Nat} {n x : Nat} {t : List Nat} (h : R.drop n = x :: t) : R.getD n 0 = x ∧ R.drop (n + 1) = t ∧ n < R.length := by
  have hn : n < R.length := by
    apply Nat.lt_of_not_le
    intro hc
    rw [List.drop_eq_nil_of_le hc] at h; cases h
  rw [drop_getD hn] at h
  injection h with h1 h2
  exact ⟨h1, h2, hn⟩

theorem Merged.left {tg : Nat → Nat} {R A B : List Nat} {i j : Nat} (h : Merged tg R A B i j) (hi : i < A.length) (hj : j < B.length → le tg (A.getD i 0) (B.getD j 0) = true) :
    R.getD (i + j) 0 = A.getD i 0 ∧ Merged tg R A B (i + 1) j := by
  unfold Merged at *
  rw [drop_getD hi] at h
  by_cases hjb : j < B.length
  · rw [drop_getD hjb, List.cons_merge_cons, if_pos (hj hjb)] at h
    obtain ⟨h1, h2, _⟩ := drop_step h
    rw [show i + 1 + j = i + j + 1 by omega, h2, drop_getD hjb]
    exact ⟨h1, rfl⟩
  · rw [List.drop_eq_nil_of_le (by omega : B.length ≤ j), List.merge_right] at h
    obtain ⟨h1, h2, _⟩ := drop_step h
    rw [show i + 1 + j = i + j + 1 by omega, h2, List.drop_eq_nil_of_le (by omega : B.length ≤ j), List.merge_right]
    exact ⟨h1, rfl⟩

theorem Merged.right {tg : Nat → Nat} {R A B : List Nat} {i j : Nat} (h : Merged tg R A B i j) (hj : j < B.length) (hi : i < A.length → le tg (A.getD i 0) (B.getD j 0) = false) :
    R.getD (i + j) 0 = B.getD j 0 ∧ Merged tg R A B i (j + 1) := by
  unfold Merged at *
  rw [drop_getD hj] at h
  by_cases hia : i < A.length
  · rw [drop_getD hia, List.cons_merge_cons, if_neg (by rw [hi hia]; simp)] at h
    obtain ⟨h1, h2, _⟩ := drop_step h
    rw [show i + (j + 1) = i + j + 1 by omega, h2, drop_getD hia]
    exact ⟨h1, rfl⟩
  · rw [List.drop_eq_nil_of_le (by omega : A.length ≤ i), List.nil_merge] at h
    obtain ⟨h1, h2, _⟩ := drop_step h
    rw [show i + (j + 1) = i + j + 1 by omega, h2, List.drop_eq_nil_of_le (by omega : A.length ≤ i), List.nil_merge]
    exact ⟨h1, rfl⟩
end Go.Proofs.Qxb6614277a
