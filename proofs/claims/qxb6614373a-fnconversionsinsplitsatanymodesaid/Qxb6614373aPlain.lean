import Derived.Test.Qxb6614373aConvOK
import Derived.Test.Qxb6614373aMatch
namespace Go.Proofs.Qxb6614373a

theorem range_split (p : Nat → Bool) (c : Nat) : ∀ k, (List.range k).filter p = (List.range k).filter (fun m => p m && decide (m < c)) ++ (List.range k).filter (fun m => p m && !decide (m < c)) := by
  intro k
  induction k with
  | zero => rfl
  | succ k ih =>
    rw [List.range_succ, List.filter_append, List.filter_append, List.filter_append]
    by_cases hk : k < c
    · have e : (List.range k).filter (fun m => p m && !decide (m < c)) = [] := by
        rw [List.filter_eq_nil_iff]
        intro m hm
        rw [List.mem_range] at hm
        simp
        omega
      rw [ih, e]
      simp [List.filter_cons, hk]
    · rw [ih]
      simp [List.filter_cons, hk]

theorem sel_lo (M CI c m : Nat) (hm : m < 16) : sel (M &&& lowMask c) CI m = (sel M CI m && decide (m < c)) := by
  unfold sel
  rw [Nat.testBit_and, lowMask_bit c m hm]
  cases decide (1 ≤ m) <;> cases M.testBit m <;> cases CI.testBit m <;> cases decide (m < c) <;> rfl

theorem compl_bit (x m : Nat) (hx : x < 65536) (hm : m < 16) : (65535 - x).testBit m = !x.testBit m := by
  have := Nat.testBit_two_pow_sub_succ (x := x) (n := 16) (by omega) m
  rw [show 65535 - x = 2 ^ 16 - (x + 1) by omega, this]
  simp [hm]

theorem sel_hi (M CI c m : Nat) (hm : m < 16) : sel (M &&& (65535 - lowMask c)) CI m = (sel M CI m && !decide (m < c)) := by
  unfold sel
  rw [Nat.testBit_and, compl_bit _ m (lowMask_lt c) hm, lowMask_bit c m hm]
  cases decide (1 ≤ m) <;> cases M.testBit m <;> cases CI.testBit m <;> cases decide (m < c) <;> rfl

theorem sels_split (M CI c : Nat) : sels M CI 7 = sels (M &&& lowMask c) CI 7 ++ sels (M &&& (65535 - lowMask c)) CI 7 := by
  unfold sels
  rw [range_split (sel M CI) c 7]
  congr 1
  · apply List.filter_congr
    intro m hm
    rw [List.mem_range] at hm
    rw [sel_lo M CI c m (by omega)]
  · apply List.filter_congr
    intro m hm
    rw [List.mem_range] at hm
    rw [sel_hi M CI c m (by omega)]

theorem smode_lo (M CI c i : Nat) (hi : i < (sels (M &&& lowMask c) CI 7).length) : smode M CI i = smode (M &&& lowMask c) CI i := by
  unfold smode
  rw [sels_split M CI c, List.getD_eq_getElem?_getD, List.getElem?_append_left hi, ← List.getD_eq_getElem?_getD]
theorem smode_hi (M CI c i : Nat) : smode M CI ((sels (M &&& lowMask c) CI 7).length + i) = smode (M &&& (65535 - lowMask c)) CI i := by
  unfold smode
  rw [sels_split M CI c, List.getD_eq_getElem?_getD, List.getElem?_append_right (by omega), Nat.add_sub_cancel_left, ← List.getD_eq_getElem?_getD]

/-- The conversions that the modes of M below k count. -/
def wantN (M : Nat) (f : Nat → Int) : Nat → Int
  | 0 => 0
  | k + 1 => if (decide (1 ≤ k) && M.testBit k) = true then wantN M f k + f k else wantN M f k
def sumL (f : Nat → Int) : List Nat → Int
  | [] => 0
  | x :: l => f x + sumL f l
theorem sumL_append (f : Nat → Int) : ∀ a b, sumL f (a ++ b) = sumL f a + sumL f b
  | [], b => by simp [sumL]
  | x :: a, b => by simp only [List.cons_append, sumL, sumL_append f a b]; omega

theorem wantN_eq (M CI : Nat) (f : Nat → Int) : ∀ k, (∀ m, m < k → CI.testBit m = (f m != 0)) → wantN M f k = sumL f (sels M CI k) := by
  intro k
  induction k with
  | zero => intro _; rfl
  | succ k ih =>
    intro h
    have hk := h k (by omega)
    rw [wantN, ih (fun m hm => h m (by omega))]
    by_cases hs : (decide (1 ≤ k) && M.testBit k) = true
    · rw [if_pos hs]
      by_cases hc : CI.testBit k = true
      · rw [sels_succ_yes (by unfold sel; rw [hc]; simpa using hs), sumL_append]
        simp [sumL]
      · have hc' : CI.testBit k = false := by simpa using hc
        rw [hc'] at hk
        have h0 : f k = 0 := by
          apply Classical.byContradiction
          intro hne
          have : (f k != 0) = true := by simpa using hne
          rw [this] at hk
          cases hk
        rw [sels_succ_no (by unfold sel; rw [hc']; simp), h0]
        omega
    · rw [if_neg hs, sels_succ_no (by unfold sel; cases hx : decide (1 ≤ k) <;> cases hy : M.testBit k <;> simp_all)]

/-- The lengths of the first k rows. -/
def gotN (f : Nat → Nat) : Nat → Int
  | 0 => 0
  | k + 1 => gotN f k + (f k : Int)

theorem gotN_eq (g : Nat → Nat) (f : Nat → Int) : ∀ (l : List Nat), (∀ m ∈ l, f m = (g m : Int)) → ∀ k, k ≤ l.length → gotN (fun i => g (l.getD i 0)) k = sumL f (l.take k) := by
  intro l hl k
  induction k with
  | zero => intro _; rfl
  | succ k ih =>
    intro hk
    rw [gotN, ih (by omega), List.take_succ_eq_append_getElem (by omega), sumL_append]
    have : f l[k] = (g l[k] : Int) := hl _ (List.getElem_mem (by omega))
    simp only [sumL]
    rw [this, List.getD_eq_getElem?_getD, List.getElem?_eq_getElem (by omega)]
    simp

theorem got_want (M CI : Nat) (f : Nat → Int) (cv : Nat → Nat) (hf : ∀ m, m < 7 → f m = (cv m : Int)) (hb : ∀ m, m < 7 → CI.testBit m = (f m != 0)) :
    gotN (fun i => cv (smode M CI i)) (sels M CI 7).length = wantN M f 7 := by
  rw [wantN_eq M CI f 7 hb]
  have := gotN_eq cv f (sels M CI 7) (fun m hm => by
    unfold sels at hm
    rw [List.mem_filter, List.mem_range] at hm
    exact hf m hm.1) (sels M CI 7).length (Nat.le_refl _)
  rw [List.take_length] at this
  exact this

theorem wantN_bd (M : Nat) (f : Nat → Int) (hf : ∀ m, m < 7 → 0 ≤ f m ∧ f m ≤ 2147483647) : ∀ k, k ≤ 7 → 0 ≤ wantN M f k ∧ wantN M f k ≤ 2147483647 * (k : Int) := by
  intro k
  induction k with
  | zero => intro _; simp [wantN]
  | succ k ih =>
    intro hk
    have h1 := ih (by omega)
    have h2 := hf k (by omega)
    rw [wantN]
    split <;> omega
theorem gotN_bd (g : Nat → Nat) (hg : ∀ i, (g i : Int) ≤ 2147483647) : ∀ k, 0 ≤ gotN g k ∧ gotN g k ≤ 2147483647 * (k : Int) := by
  intro k
  induction k with
  | zero => simp [gotN]
  | succ k ih => rw [gotN]; have := hg k; omega
end Go.Proofs.Qxb6614373a
