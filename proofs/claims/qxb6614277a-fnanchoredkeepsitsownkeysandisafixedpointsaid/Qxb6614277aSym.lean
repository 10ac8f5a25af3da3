import Derived.Test.Qxb6614277aOrd
namespace Go.Proofs.Qxb6614277a

/-! ### Exchanging two runs; turning a run -/

/-- The runs of n places at a and at b exchanged. -/
def swr (f : Nat → Nat) (a b n : Nat) : Nat → Nat := fun x => if a ≤ x ∧ x < a + n then f (x + b - a) else if b ≤ x ∧ x < b + n then f (x + a - b) else f x

theorem swr_zero (f : Nat → Nat) (a b : Nat) : swr f a b 0 = f := by
  funext x; unfold swr
  rw [if_neg (by omega), if_neg (by omega)]

theorem swr_succ (f : Nat → Nat) (a b n : Nat) (h : a + n < b) : swp (swr f a b n) (a + n) (b + n) = swr f a b (n + 1) := by
  funext x
  simp only [swp, swr]
  repeat' split
  all_goals first | rfl | (exfalso; omega) | (congr 1; omega)

theorem swr_sw (f : Nat → Nat) (a b lo hi : Nat) : ∀ n, a + n ≤ b → lo ≤ a → b + n ≤ hi → Sw lo hi f (swr f a b n) := by
  intro n
  induction n with
  | zero => intro _ _ _; rw [swr_zero]; exact .refl
  | succ n ih =>
    intro h1 h2 h3
    rw [← swr_succ f a b n (by omega)]
    exact (ih (by omega) h2 (by omega)).step _ _ (by omega) (by omega)

/-- The run [m, b) laid ahead of the run [a, m). -/
def rot (f : Nat → Nat) (a m b : Nat) : Nat → Nat := fun x => if a ≤ x ∧ x < a + (b - m) then f (x + m - a) else if a + (b - m) ≤ x ∧ x < b then f (x - (b - m)) else f x

theorem rot_none {f : Nat → Nat} {a m b : Nat} (ham : a ≤ m) (hmb : m ≤ b) (h : a = m ∨ m = b) : rot f a m b = f := by
  funext x
  simp only [rot]
  repeat' split
  all_goals first | rfl | (exfalso; omega) | (congr 1; omega)

/-- The longer run is the left one. -/
theorem rot_left {f : Nat → Nat} {m i j : Nat} (hi : i ≤ m) (hij : j < i) : rot (swr f (m - i) m j) (m - (i - j)) m (m + j) = rot f (m - i) m (m + j) := by
  funext x
  simp only [rot, swr]
  repeat' split
  all_goals first | rfl | (exfalso; omega) | (congr 1; omega)

/-- The longer run is the right one. -/
theorem rot_right {f : Nat → Nat} {m i j : Nat} (hi : i ≤ m) (hij : i < j) : rot (swr f (m - i) (m + j - i) i) (m - i) m (m + (j - i)) = rot f (m - i) m (m + j) := by
  funext x
  simp only [rot, swr]
  repeat' split
  all_goals first | rfl | (exfalso; omega) | (congr 1; omega)

theorem rot_same {f : Nat → Nat} {m i : Nat} (hi : i ≤ m) : swr f (m - i) m i = rot f (m - i) m (m + i) := by
  funext x
  simp only [rot, swr]
  repeat' split
  all_goals first | rfl | (exfalso; omega) | (congr 1; omega)

/-! ### One element carried along -/

/-- The element at a carried up to k. -/
def shu (f : Nat → Nat) (a k : Nat) : Nat → Nat := fun x => if a ≤ x ∧ x < k then f (x + 1) else if x = k then f a else f x
theorem shu_zero (f : Nat → Nat) (a : Nat) : shu f a a = f := by
  funext x; unfold shu
  rw [if_neg (by omega)]
  split
  · rename_i h; rw [h]
  · rfl
theorem shu_succ (f : Nat → Nat) (a k : Nat) (h : a ≤ k) : swp (shu f a k) k (k + 1) = shu f a (k + 1) := by
  funext x
  simp only [swp, shu]
  repeat' split
  all_goals first | rfl | (exfalso; omega) | (congr 1; omega) | (simp_all; done)
theorem shu_sw (f : Nat → Nat) (a lo hi : Nat) : ∀ d, lo ≤ a → a + d < hi → Sw lo hi f (shu f a (a + d)) := by
  intro d
  induction d with
  | zero => intro _ _; rw [Nat.add_zero, shu_zero]; exact .refl
  | succ d ih =>
    intro h1 h2
    rw [show a + (d + 1) = a + d + 1 by omega, ← shu_succ f a (a + d) (by omega)]
    exact (ih h1 (by omega)).step _ _ (by omega) (by omega)

/-- The element at m carried down to k. -/
def shd (f : Nat → Nat) (m k : Nat) : Nat → Nat := fun x => if x = k then f m else if k < x ∧ x ≤ m then f (x - 1) else f x
theorem shd_zero (f : Nat → Nat) (m : Nat) : shd f m m = f := by
  funext x; unfold shd
  split
  · rename_i h; rw [h]
  · rw [if_neg (by omega)]
theorem shd_succ (f : Nat → Nat) (m k : Nat) (h : k ≤ m) (h0 : 0 < k) : swp (shd f m k) k (k - 1) = shd f m (k - 1) := by
  funext x
  simp only [swp, shd]
  repeat' split
  all_goals first | rfl | (exfalso; omega) | (congr 1; omega) | (simp_all; done) | (exfalso; simp_all; omega)
theorem shd_sw (f : Nat → Nat) (m lo hi : Nat) : ∀ d, lo + d ≤ m → m < hi → Sw lo hi f (shd f m (m - d)) := by
  intro d
  induction d with
  | zero => intro _ _; rw [Nat.sub_zero, shd_zero]; exact .refl
  | succ d ih =>
    intro h1 h2
    rw [show m - (d + 1) = m - d - 1 by omega, ← shd_succ f m (m - d) (by omega) (by omega)]
    exact (ih (by omega) h2).step _ _ (by omega) (by omega)

theorem lt_of_across {tg f : Nat → Nat} {a m b i j : Nat} (h : Across tg f a m b) (h1 : a ≤ i) (h2 : i < m) (h3 : m ≤ j) (h4 : j < b) (hle : tg (f i) ≤ tg (f j)) : lt tg (f i) (f j) := by
  rcases Nat.lt_or_eq_of_le hle with hl | he
  · exact Or.inl hl
  · exact Or.inr ⟨he, h i j h1 h2 h3 h4 he⟩

/-- A run of one, carried into the run behind it. -/
theorem merged_up {tg f : Nat → Nat} {a b i : Nat} (hs : SortedOn tg f (a + 1) b) (hx : Across tg f a (a + 1) b) (h1 : a + 1 ≤ i) (h2 : i ≤ b)
    (hl : i = a + 1 ∨ tg (f (i - 1)) < tg (f a)) (hr : i = b ∨ tg (f a) ≤ tg (f i)) : SortedOn tg (shu f a (i - 1)) a b := by
  have low : ∀ x, a + 1 ≤ x → x < i → lt tg (f x) (f a) := by
    intro x hx1 hx2
    rcases hl with h | h
    · omega
    · by_cases e : x = i - 1
      · rw [e]; exact Or.inl h
      · exact (hs x (i - 1) hx1 (by omega) (by omega)).trans (Or.inl h)
  have high : ∀ x, i ≤ x → x < b → lt tg (f a) (f x) := by
    intro x hx1 hx2
    rcases hr with h | h
    · omega
    · apply lt_of_across hx (Nat.le_refl _) (by omega) (by omega) hx2
      by_cases e : x = i
      · rw [e]; exact h
      · exact Nat.le_trans h (hs i x (by omega) (by omega) hx2).le
  intro x y hx1 hxy hyb
  unfold shu
  by_cases c1 : x < i - 1
  · rw [if_pos (by omega)]
    by_cases c2 : y < i - 1
    · rw [if_pos (by omega)]; exact hs _ _ (by omega) (by omega) (by omega)
    · rw [if_neg (by omega)]
      by_cases c3 : y = i - 1
      · rw [if_pos c3]; exact low _ (by omega) (by omega)
      · rw [if_neg c3]; exact hs _ _ (by omega) (by omega) (by omega)
  · rw [if_neg (by omega)]
    by_cases c2 : x = i - 1
    · rw [if_pos c2, if_neg (by omega), if_neg (by omega)]; exact high _ (by omega) hyb
    · rw [if_neg c2, if_neg (by omega), if_neg (by omega)]; exact hs _ _ (by omega) hxy hyb

/-- A run of one, carried into the run ahead of it. -/
theorem merged_down {tg f : Nat → Nat} {a m i : Nat} (hs : SortedOn tg f a m) (hx : Across tg f a m (m + 1)) (h1 : a ≤ i) (h2 : i ≤ m)
    (hl : i = a ∨ tg (f (i - 1)) ≤ tg (f m)) (hr : i = m ∨ tg (f m) < tg (f i)) : SortedOn tg (shd f m i) a (m + 1) := by
  have low : ∀ x, a ≤ x → x < i → lt tg (f x) (f m) := by
    intro x hx1 hx2
    rcases hl with h | h
    · omega
    · apply lt_of_across hx hx1 (by omega) (Nat.le_refl _) (by omega)
      by_cases e : x = i - 1
      · rw [e]; exact h
      · exact Nat.le_trans (hs x (i - 1) hx1 (by omega) (by omega)).le h
  have high : ∀ x, i ≤ x → x < m → lt tg (f m) (f x) := by
    intro x hx1 hx2
    rcases hr with h | h
    · omega
    · by_cases e : x = i
      · rw [e]; exact Or.inl h
      · exact lt.trans (Or.inl h) (hs i x h1 (by omega) hx2)
  intro x y hx1 hxy hyb
  unfold shd
  by_cases c1 : x = i
  · rw [if_pos c1, if_neg (by omega), if_pos (by omega)]; exact high _ (by omega) (by omega)
  · rw [if_neg c1]
    by_cases c2 : i < x
    · rw [if_pos (by omega), if_neg (by omega), if_pos (by omega)]; exact hs _ _ (by omega) (by omega) (by omega)
    · rw [if_neg (by omega)]
      by_cases c3 : y = i
      · rw [if_pos c3]; exact low _ hx1 (by omega)
      · rw [if_neg c3]
        by_cases c4 : i < y
        · rw [if_pos (by omega)]; exact hs _ _ hx1 (by omega) (by omega)
        · rw [if_neg (by omega)]; exact hs _ _ hx1 hxy (by omega)
end Go.Proofs.Qxb6614277a
