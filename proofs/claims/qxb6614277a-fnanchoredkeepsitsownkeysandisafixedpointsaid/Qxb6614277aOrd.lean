import Derived.Test.Qxb6614277aRows
namespace Go.Proofs.Qxb6614277a

/-! ### Rows of block numbers, ordered by tag and, at equal tags, by number -/

/-- x stands ahead of y: a smaller tag; at equal tags the smaller number. -/
def lt (tg : Nat → Nat) (x y : Nat) : Prop := tg x < tg y ∨ (tg x = tg y ∧ x < y)

theorem lt.trans {tg : Nat → Nat} {x y z : Nat} (h : lt tg x y) (h' : lt tg y z) : lt tg x z := by
  unfold lt at *; omega
theorem lt.le {tg : Nat → Nat} {x y : Nat} (h : lt tg x y) : tg x ≤ tg y := by unfold lt at *; omega
theorem lt.asymm {tg : Nat → Nat} {x y : Nat} (h : lt tg x y) (h' : lt tg y x) : False := by unfold lt at *; omega
theorem lt_irrefl {tg : Nat → Nat} {x : Nat} (h : lt tg x x) : False := by unfold lt at *; omega
theorem lt_of_tag {tg : Nat → Nat} {x y : Nat} (h : tg x < tg y) : lt tg x y := Or.inl h

/-- f with the places i and j exchanged. -/
def swp (f : Nat → Nat) (i j : Nat) : Nat → Nat := fun x => if x = i then f j else if x = j then f i else f x

theorem swp_l (f : Nat → Nat) (i j : Nat) : swp f i j i = f j := by unfold swp; simp
theorem swp_r (f : Nat → Nat) (i j : Nat) : swp f i j j = f i := by unfold swp; split <;> simp_all
theorem swp_o (f : Nat → Nat) {i j x : Nat} (h : x ≠ i) (h' : x ≠ j) : swp f i j x = f x := by unfold swp; simp [h, h']

/-- g is reached from f by exchanges inside [a, b). -/
inductive Sw (a b : Nat) (f : Nat → Nat) : (Nat → Nat) → Prop
  | refl : Sw a b f f
  | step {g : Nat → Nat} (h : Sw a b f g) (i j : Nat) (hi : a ≤ i ∧ i < b) (hj : a ≤ j ∧ j < b) : Sw a b f (swp g i j)

theorem Sw.trans {a b : Nat} {f g k : Nat → Nat} (h : Sw a b f g) (h' : Sw a b g k) : Sw a b f k := by
  induction h' with
  | refl => exact h
  | step _ i j hi hj ih => exact ih.step i j hi hj

theorem Sw.mono {a b a' b' : Nat} {f g : Nat → Nat} (h : Sw a b f g) (ha : a' ≤ a) (hb : b ≤ b') : Sw a' b' f g := by
  induction h with
  | refl => exact .refl
  | step _ i j hi hj ih => exact ih.step i j (by omega) (by omega)

theorem Sw.out {a b : Nat} {f g : Nat → Nat} (h : Sw a b f g) {x : Nat} (hx : x < a ∨ b ≤ x) : g x = f x := by
  induction h with
  | refl => rfl
  | step _ i j hi hj ih => rw [swp_o _ (by omega) (by omega)]; exact ih

/-- What stands inside stood inside. -/
theorem Sw.from {a b : Nat} {f g : Nat → Nat} (h : Sw a b f g) {x : Nat} (hx : a ≤ x ∧ x < b) : ∃ y, a ≤ y ∧ y < b ∧ g x = f y := by
  induction h generalizing x with
  | refl => exact ⟨x, hx.1, hx.2, rfl⟩
  | step _ i j hi hj ih =>
    by_cases h1 : x = i
    · subst h1; rw [swp_l]; exact ih hj
    · by_cases h2 : x = j
      · subst h2; rw [swp_r]; exact ih hi
      · rw [swp_o _ h1 h2]; exact ih hx

/-- The same as a list, in another order. -/
theorem Sw.perm {n : Nat} {f g : Nat → Nat} (h : Sw 0 n f g) : ((List.range n).map g).Perm ((List.range n).map f) := by
  induction h with
  | refl => exact List.Perm.refl _
  | @step g _ i j hi hj ih =>
    refine List.Perm.trans ?_ ih
    have hp : ((List.range n).map (fun x => if x = i then j else if x = j then i else x)).Perm (List.range n) := by
      refine (List.perm_ext_iff_of_nodup ?_ List.nodup_range).2 fun y => ?_
      · unfold List.Nodup
        rw [List.pairwise_map]
        refine List.Pairwise.imp ?_ List.nodup_range
        intro x y hxy
        repeat' split
        all_goals omega
      · rw [List.mem_map]
        constructor
        · rintro ⟨x, hx, rfl⟩
          rw [List.mem_range] at *
          repeat' split
          all_goals omega
        · intro hy
          rw [List.mem_range] at hy
          refine ⟨if y = i then j else if y = j then i else y, ?_, ?_⟩
          · rw [List.mem_range]
            repeat' split
            all_goals omega
          · repeat' split
            all_goals omega
    have : (List.range n).map (swp g i j) = ((List.range n).map (fun x => if x = i then j else if x = j then i else x)).map g := by
      rw [List.map_map]
      apply List.map_congr_left
      intro x _
      simp only [Function.comp, swp]
      split
      · rfl
      · split <;> rfl
    rw [this]
    exact hp.map g

def SortedOn (tg f : Nat → Nat) (a b : Nat) : Prop := ∀ i j, a ≤ i → i < j → j < b → lt tg (f i) (f j)
/-- At equal tags the numbers rise. -/
def Rising (tg f : Nat → Nat) (a b : Nat) : Prop := ∀ i j, a ≤ i → i < j → j < b → tg (f i) = tg (f j) → f i < f j
def Across (tg f : Nat → Nat) (a m b : Nat) : Prop := ∀ i j, a ≤ i → i < m → m ≤ j → j < b → tg (f i) = tg (f j) → f i < f j

theorem SortedOn.rising {tg f : Nat → Nat} {a b : Nat} (h : SortedOn tg f a b) : Rising tg f a b := by
  intro i j h1 h2 h3 he
  have := h i j h1 h2 h3
  unfold lt at this
  omega

/-- Sorting a part keeps 'at equal tags the numbers rise'. -/
theorem Rising.sorted {tg f g : Nat → Nat} {a b n : Nat} (h : Rising tg f 0 n) (hs : Sw a b f g) (ho : SortedOn tg g a b) (hb : b ≤ n) : Rising tg g 0 n := by
  intro i j h1 h2 h3 he
  by_cases hi : a ≤ i ∧ i < b
  · by_cases hj : a ≤ j ∧ j < b
    · exact ho.rising i j hi.1 h2 hj.2 he
    · obtain ⟨y, y1, y2, ye⟩ := hs.from hi
      have ej := hs.out (x := j) (by omega)
      rw [ye, ej] at he ⊢
      exact h y j (by omega) (by omega) h3 he
  · by_cases hj : a ≤ j ∧ j < b
    · obtain ⟨y, y1, y2, ye⟩ := hs.from hj
      have ei := hs.out (x := i) (by omega)
      rw [ye, ei] at he ⊢
      exact h i y (by omega) (by omega) (by omega) he
    · have ei := hs.out (x := i) (by omega)
      have ej := hs.out (x := j) (by omega)
      rw [ei, ej] at he ⊢
      exact h i j h1 h2 h3 he
end Go.Proofs.Qxb6614277a
