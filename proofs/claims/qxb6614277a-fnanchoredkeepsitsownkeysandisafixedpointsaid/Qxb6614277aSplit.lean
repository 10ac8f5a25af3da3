import Derived.Test.Qxb6614277aSym
namespace Go.Proofs.Qxb6614277a

/-! ### The split of a symmetric merge -/

theorem rot_a {f : Nat → Nat} {a m b x : Nat} (h : x < a) : rot f a m b x = f x := by
  unfold rot; rw [if_neg (by omega)]; split
  · omega
  · rfl
theorem rot_b {f : Nat → Nat} {a m b x : Nat} (h : a ≤ x) (h' : x < a + (b - m)) : rot f a m b x = f (x + m - a) := by
  unfold rot; rw [if_pos ⟨h, h'⟩]
theorem rot_c {f : Nat → Nat} {a m b x : Nat} (h : a + (b - m) ≤ x) (h' : x < b) : rot f a m b x = f (x - (b - m)) := by
  unfold rot; rw [if_neg (by omega), if_pos ⟨h, h'⟩]
theorem rot_d {f : Nat → Nat} {a m b x : Nat} (ha : a ≤ m) (hb : m ≤ b) (h : b ≤ x) : rot f a m b x = f x := by
  unfold rot; rw [if_neg (by omega), if_neg (by omega)]

/-- What the binary search of symMerge finds. -/
structure Cut (tg f : Nat → Nat) (a m b mid s e : Nat) : Prop where
  c1 : a ≤ s
  c2 : s ≤ m
  c3 : m ≤ e
  c4 : e ≤ b
  c5 : e + s = mid + m
  c6 : s ≤ mid
  low : s = a ∨ e = b ∨ tg (f (s - 1)) ≤ tg (f e)
  high : s = m ∨ e = m ∨ tg (f (e - 1)) < tg (f s)

section
variable {tg f : Nat → Nat} {a m b mid s e : Nat} (hc : Cut tg f a m b mid s e) (h1 : SortedOn tg f a m) (h2 : SortedOn tg f m b) (hx : Across tg f a m b)
include hc h1 h2
omit h2 in
theorem Cut.s1 : SortedOn tg (rot f s m e) a s := by
  obtain ⟨c1, c2, c3, c4, c5, c6, _, _⟩ := hc
  intro i j hi hij hj
  rw [rot_a (by omega), rot_a hj]
  exact h1 _ _ hi hij (by omega)
omit h1 in
theorem Cut.s2 : SortedOn tg (rot f s m e) s mid := by
  obtain ⟨c1, c2, c3, c4, c5, c6, _, _⟩ := hc
  intro i j hi hij hj
  rw [rot_b hi (by omega), rot_b (by omega) (by omega)]
  exact h2 _ _ (by omega) (by omega) (by omega)
omit h2 in
theorem Cut.s3 : SortedOn tg (rot f s m e) mid e := by
  obtain ⟨c1, c2, c3, c4, c5, c6, _, _⟩ := hc
  intro i j hi hij hj
  rw [rot_c (by omega) (by omega), rot_c (by omega) hj]
  exact h1 _ _ (by omega) (by omega) (by omega)
omit h1 in
theorem Cut.s4 : SortedOn tg (rot f s m e) e b := by
  obtain ⟨c1, c2, c3, c4, c5, c6, _, _⟩ := hc
  intro i j hi hij hj
  rw [rot_d c2 c3 hi, rot_d c2 c3 (by omega)]
  exact h2 _ _ (by omega) hij hj
include hx
omit h1 h2 in
theorem Cut.x1 : Across tg (rot f s m e) a s mid := by
  obtain ⟨c1, c2, c3, c4, c5, c6, _, _⟩ := hc
  intro i j hi hij hj1 hj2
  rw [rot_a hij, rot_b hj1 (by omega)]
  exact hx _ _ hi (by omega) (by omega) (by omega)
omit h1 h2 in
theorem Cut.x2 : Across tg (rot f s m e) mid e b := by
  obtain ⟨c1, c2, c3, c4, c5, c6, _, _⟩ := hc
  intro i j hi hij hj1 hj2
  rw [rot_c (by omega) hij, rot_d c2 c3 hj1]
  exact hx _ _ (by omega) (by omega) (by omega) hj2
theorem Cut.halves : ∀ x y, a ≤ x → x < mid → mid ≤ y → y < b → lt tg (rot f s m e x) (rot f s m e y) := by
  obtain ⟨c1, c2, c3, c4, c5, c6, lo, hi⟩ := hc
  intro x y hx1 hx2 hy1 hy2
  by_cases cx : x < s
  · rw [rot_a cx]
    by_cases cy : y < e
    · rw [rot_c (by omega) cy]
      exact h1 _ _ hx1 (by omega) (by omega)
    · rw [rot_d c2 c3 (by omega)]
      apply lt_of_across hx hx1 (by omega) (by omega) hy2
      rcases lo with h | h | h
      · omega
      · omega
      · have k1 : tg (f x) ≤ tg (f (s - 1)) := by
          by_cases e1 : x = s - 1
          · rw [e1]; exact Nat.le_refl _
          · exact (h1 x (s - 1) hx1 (by omega) (by omega)).le
        have k2 : tg (f e) ≤ tg (f y) := by
          by_cases e1 : y = e
          · rw [e1]; exact Nat.le_refl _
          · exact (h2 e y (by omega) (by omega) hy2).le
        omega
  · rw [rot_b (by omega) (by omega)]
    by_cases cy : y < e
    · rw [rot_c (by omega) cy]
      rcases hi with h | h | h
      · omega
      · omega
      · apply Or.inl
        have k1 : tg (f (x + m - s)) ≤ tg (f (e - 1)) := by
          by_cases e1 : x + m - s = e - 1
          · rw [e1]; exact Nat.le_refl _
          · exact (h2 _ (e - 1) (by omega) (by omega) (by omega)).le
        have k2 : tg (f s) ≤ tg (f (y - (e - m))) := by
          by_cases e1 : y - (e - m) = s
          · rw [e1]; exact Nat.le_refl _
          · exact (h1 s _ (by omega) (by omega) (by omega)).le
        omega
    · rw [rot_d c2 c3 (by omega)]
      exact h2 _ _ (by omega) (by omega) hy2
end

/-- Two halves, each sorted, every element of the one ahead of every element of the other. -/
theorem joined {tg g g1 g2 : Nat → Nat} {a mid b : Nat} (hl : ∀ x y, a ≤ x → x < mid → mid ≤ y → y < b → lt tg (g x) (g y)) (s1 : Sw a mid g g1) (o1 : SortedOn tg g1 a mid) (s2 : Sw mid b g1 g2) (o2 : SortedOn tg g2 mid b) : SortedOn tg g2 a b := by
  intro i j hi hij hj
  by_cases ci : i < mid
  · by_cases cj : j < mid
    · rw [s2.out (Or.inl ci), s2.out (Or.inl cj)]; exact o1 i j hi hij cj
    · rw [s2.out (Or.inl ci)]
      obtain ⟨x, x1, x2, xe⟩ := s1.from (x := i) ⟨hi, ci⟩
      obtain ⟨y, y1, y2, ye⟩ := s2.from (x := j) ⟨by omega, hj⟩
      rw [xe, ye, s1.out (Or.inr y1)]
      exact hl x y x1 x2 y1 y2
  · exact o2 i j (by omega) hij hj

/-! ### The insertion sort -/

/-- The element of place i, carried down to j. -/
structure Ins (tg f g : Nat → Nat) (a i j : Nat) : Prop where
  sw : Sw a (i + 1) f g
  aj : a ≤ j
  ji : j ≤ i
  me : g j = f i
  old : ∀ x, a ≤ x → x ≤ i → x ≠ j → ∃ k, a ≤ k ∧ k < i ∧ g x = f k
  rest : ∀ x y, a ≤ x → x < y → y ≤ i → x ≠ j → y ≠ j → lt tg (g x) (g y)
  up : ∀ y, j < y → y ≤ i → lt tg (g j) (g y)

theorem Ins.start {tg f g : Nat → Nat} {a i : Nat} (hs : Sw a i f g) (ho : SortedOn tg g a i) (ha : a ≤ i) : Ins tg f g a i i :=
  ⟨hs.mono (Nat.le_refl _) (by omega), ha, Nat.le_refl _, hs.out (Or.inr (Nat.le_refl _)), fun x h1 h2 h3 => hs.from ⟨h1, by omega⟩, fun x y h1 h2 h3 h4 h5 => ho x y h1 h2 (by omega), fun y h1 h2 => by omega⟩

theorem Ins.down {tg f g : Nat → Nat} {a i j : Nat} (h : Ins tg f g a i j) (hj : a < j) (hl : tg (g j) < tg (g (j - 1))) : Ins tg f (swp g j (j - 1)) a i (j - 1) := by
  obtain ⟨h1, h2, h3, h4, h5, h6, h7⟩ := h
  refine ⟨h1.step _ _ (by omega) (by omega), by omega, by omega, by rw [swp_r]; exact h4, fun x x1 x2 x3 => ?_, fun x y x1 xy y1 xn yn => ?_, fun y y1 y2 => ?_⟩
  · by_cases e : x = j
    · subst e; rw [swp_l]; exact h5 _ (by omega) (by omega) (by omega)
    · rw [swp_o _ e x3]; exact h5 _ x1 x2 e
  · by_cases e : x = j
    · subst e
      rw [swp_l, swp_o _ (by omega) yn]
      exact h6 _ _ (by omega) (by omega) y1 (by omega) (by omega)
    · rw [swp_o _ e xn]
      by_cases e' : y = j
      · subst e'
        rw [swp_l]
        exact h6 _ _ x1 (by omega) (by omega) e (by omega)
      · rw [swp_o _ e' yn]; exact h6 _ _ x1 xy y1 e e'
  · rw [swp_r]
    by_cases e : y = j
    · subst e; rw [swp_l]; exact Or.inl hl
    · rw [swp_o _ e (by omega)]; exact h7 _ (by omega) y2

theorem Ins.stop {tg f g : Nat → Nat} {a b i j : Nat} (h : Ins tg f g a i j) (hr : Rising tg f a b) (hib : i < b) (hs : j = a ∨ tg (g (j - 1)) ≤ tg (g j)) : SortedOn tg g a (i + 1) := by
  obtain ⟨h1, h2, h3, h4, h5, h6, h7⟩ := h
  have low : ∀ x, a ≤ x → x < j → lt tg (g x) (g j) := by
    intro x x1 x2
    rcases hs with e | e
    · omega
    · have hl : lt tg (g (j - 1)) (g j) := by
        rcases Nat.lt_or_eq_of_le e with hl | he
        · exact Or.inl hl
        · obtain ⟨k, k1, k2, ke⟩ := h5 (j - 1) (by omega) (by omega) (by omega)
          refine Or.inr ⟨he, ?_⟩
          rw [ke, h4] at he ⊢
          exact hr k i k1 k2 hib he
      by_cases ex : x = j - 1
      · rw [ex]; exact hl
      · exact (h6 x (j - 1) x1 (by omega) (by omega) (by omega) (by omega)).trans hl
  intro x y x1 xy y1
  by_cases e : x = j
  · subst e; exact h7 y xy (by omega)
  · by_cases e' : y = j
    · subst e'; exact low x x1 xy
    · exact h6 x y x1 xy (by omega) e e'

/-! ### Blocks -/

/-- From lo to hi: sorted inside each block of s places. -/
def Blk (tg g : Nat → Nat) (s lo hi : Nat) : Prop := ∀ i j, lo ≤ i → i < j → j < hi → i / s = j / s → lt tg (g i) (g j)

theorem ge_of_div {s k i j : Nat} (h : i / s = j / s) (hj : s * k ≤ j) (hs : 0 < s) : s * k ≤ i := by
  have : k ≤ j / s := (Nat.le_div_iff_mul_le hs).2 (by rw [Nat.mul_comm]; exact hj)
  rw [← h] at this
  have := (Nat.le_div_iff_mul_le hs).1 this
  rw [Nat.mul_comm] at this
  exact this

theorem Blk.next {tg g g' : Nat → Nat} {s k b : Nat} (h : Blk tg g s 0 (s * k)) (hsw : Sw (s * k) b g g') (ho : SortedOn tg g' (s * k) b) (hs : 0 < s) : Blk tg g' s 0 b := by
  intro i j h1 h2 h3 h4
  by_cases hj : j < s * k
  · rw [hsw.out (Or.inl hj), hsw.out (Or.inl (by omega))]
    exact h i j h1 h2 hj h4
  · have := ge_of_div (k := k) h4 (by omega) hs
    exact ho i j this h2 h3

theorem div_block {s k i : Nat} (h1 : s * k ≤ i) (h2 : i < s * k + s) : i / s = k := by
  rw [Nat.div_eq_of_lt_le]
  · rw [Nat.mul_comm]; exact h1
  · rw [Nat.succ_mul, Nat.mul_comm]; exact h2

/-- One block. -/
theorem Blk.one {tg g : Nat → Nat} {s lo hi k b : Nat} (h : Blk tg g s lo hi) (h1 : lo ≤ s * k) (h2 : b ≤ hi) (h3 : b ≤ s * k + s) : SortedOn tg g (s * k) b := by
  intro i j hi' hij hj
  exact h i j (by omega) hij (by omega) (by rw [div_block (k := k) hi' (by omega), div_block (k := k) (by omega) (by omega)])

theorem Blk.keep {tg g g' : Nat → Nat} {s a lo b hi : Nat} (h : Blk tg g s lo hi) (hsw : Sw a b g g') (hb : lo ≤ b) : Blk tg g' s b hi := by
  intro i j h1 h2 h3 h4
  rw [hsw.out (Or.inr h1), hsw.out (Or.inr (by omega))]
  exact h i j (by omega) h2 h3 h4

theorem Blk.last {tg g : Nat → Nat} {s k n : Nat} (h : Blk tg g (2 * s) 0 (2 * s * k)) (h' : Blk tg g s (2 * s * k) n) (hs : 0 < s) (hn : n ≤ 2 * s * k + s) : Blk tg g (2 * s) 0 n := by
  intro i j h1 h2 h3 h4
  by_cases hj : j < 2 * s * k
  · exact h i j h1 h2 hj h4
  · have hi := ge_of_div (k := k) h4 (by omega) (by omega)
    have e : 2 * s * k = s * (2 * k) := by rw [Nat.mul_comm 2 s, Nat.mul_assoc]
    refine h' i j hi h2 h3 ?_
    rw [div_block (k := 2 * k) (by omega) (by omega), div_block (k := 2 * k) (by omega) (by omega)]

theorem Blk.all {tg g : Nat → Nat} {s n : Nat} (h : Blk tg g s 0 n) (hn : n ≤ s) : SortedOn tg g 0 n := by
  intro i j h1 h2 h3
  exact h i j h1 h2 h3 (by rw [Nat.div_eq_of_lt (by omega), Nat.div_eq_of_lt (by omega)])
end Go.Proofs.Qxb6614277a
