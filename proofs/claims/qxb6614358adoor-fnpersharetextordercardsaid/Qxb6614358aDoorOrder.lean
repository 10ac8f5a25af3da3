import Derived.Test.Qxb6614358aDoorReads
namespace Go.Proofs.Qxb6614358aDoor
open Go.RowKit

def cmpN (a b : Nat) : Int := if a < b then -1 else if b < a then 1 else 0
def orI (a b : Int) : Int := if a = 0 then b else a
theorem cmpN_lt {a b : Nat} (h : a < b) : cmpN a b = -1 := by unfold cmpN; rw [if_pos h]
theorem cmpN_gt {a b : Nat} (h : b < a) : cmpN a b = 1 := by unfold cmpN; rw [if_neg (by omega), if_pos h]
theorem cmpN_eq (a : Nat) : cmpN a a = 0 := by unfold cmpN; rw [if_neg (by omega), if_neg (by omega)]
theorem cmpN_bd (a b : Nat) : -1 ≤ cmpN a b ∧ cmpN a b ≤ 1 := by
  unfold cmpN
  split
  · omega
  · split <;> omega

theorem div_lt_of {a b c : Nat} (h : a / c < b / c) : a < b := by
  apply Nat.lt_of_not_ge
  intro hge
  have := Nat.div_le_div_right (c := c) hge
  omega

/-- The digits of two numbers that agree above place m decide the order. -/
theorem lex_block (x y : Nat → Int) (U V : Nat) (r : Nat) : ∀ (m k : Nat), (∀ j, j < m → x (k + j) = 48 + ((U / 10 ^ (m - 1 - j) % 10 : Nat) : Int)) → (∀ j, j < m → y (k + j) = 48 + ((V / 10 ^ (m - 1 - j) % 10 : Nat) : Int)) →
    U / 10 ^ m = V / 10 ^ m → lexN x y k (m + r) = orI (cmpN U V) (lexN x y (k + m) r) := by
  intro m
  induction m with
  | zero =>
    intro k _ _ h
    simp at h
    rw [h, cmpN_eq]
    simp [orI]
  | succ m ih =>
    intro k hx hy h
    have x0 := hx 0 (by omega)
    have y0 := hy 0 (by omega)
    simp only [Nat.add_zero, Nat.sub_zero, Nat.add_sub_cancel] at x0 y0
    rw [Nat.pow_succ, ← Nat.div_div_eq_div_mul, ← Nat.div_div_eq_div_mul] at h
    rw [show m + 1 + r = (m + r) + 1 by omega, lexN]
    generalize hu : U / 10 ^ m = u at *
    generalize hv : V / 10 ^ m = v at *
    by_cases h1 : x k < y k
    · rw [if_pos h1, cmpN_lt (div_lt_of (c := 10 ^ m) (by rw [hu, hv]; omega))]; rfl
    · by_cases h2 : y k < x k
      · rw [if_neg h1, if_pos h2, cmpN_gt (div_lt_of (c := 10 ^ m) (by rw [hu, hv]; omega))]; rfl
      · rw [if_neg h1, if_neg h2, ih (k + 1) ?_ ?_ (by omega)]
        · rw [show k + 1 + m = k + (m + 1) by omega]
        · intro j hj
          rw [show k + 1 + j = k + (j + 1) by omega, hx (j + 1) (by omega), show m + 1 - 1 - (j + 1) = m - 1 - j by omega]
        · intro j hj
          rw [show k + 1 + j = k + (j + 1) by omega, hy (j + 1) (by omega), show m + 1 - 1 - (j + 1) = m - 1 - j by omega]

theorem or_cmp (a b : Nat) : orI (cmpN (a / 10000) (b / 10000)) (cmpN (a % 10000) (b % 10000)) = cmpN a b := by
  rcases Nat.lt_trichotomy (a / 10000) (b / 10000) with h | h | h
  · rw [cmpN_lt h, cmpN_lt (show a < b by omega)]; rfl
  · rw [h, cmpN_eq]
    show cmpN (a % 10000) (b % 10000) = _
    rcases Nat.lt_trichotomy (a % 10000) (b % 10000) with h' | h' | h'
    · rw [cmpN_lt h', cmpN_lt (show a < b by omega)]
    · rw [show a = b by omega, cmpN_eq, cmpN_eq]
    · rw [cmpN_gt h', cmpN_gt (show b < a by omega)]
  · rw [cmpN_gt h, cmpN_gt (show b < a by omega)]; rfl

theorem lex_dec (a b : Nat) (h : Lib.nDigits (a / 10000) = Lib.nDigits (b / 10000)) : lexN (dx a) (dx b) 0 (Lib.nDigits (a / 10000) + 5) = cmpN a b := by
  have ia := dx_int a
  have ib := dx_int b
  have fa := dx_fr a
  have fb := dx_fr b
  have pa := dx_pt a
  have pb := dx_pt b
  have la := Lib.lt_pow_nDigits (a / 10000)
  have lb := Lib.lt_pow_nDigits (b / 10000)
  rw [← h] at ib fb pb lb
  generalize Lib.nDigits (a / 10000) = L at *
  have e1 := lex_block (dx a) (dx b) (a / 10000) (b / 10000) 5 L 0 (fun j hj => by rw [Nat.zero_add]; exact ia j hj) (fun j hj => by rw [Nat.zero_add]; exact ib j hj) (by rw [Nat.div_eq_of_lt la, Nat.div_eq_of_lt lb])
  have e2 := lex_block (dx a) (dx b) (a % 10000) (b % 10000) 0 4 (L + 1) (fun j hj => by rw [fa j hj, show 4 - 1 - j = 3 - j by omega]) (fun j hj => by rw [fb j hj, show 4 - 1 - j = 3 - j by omega])
    (by rw [Nat.div_eq_of_lt (show a % 10000 < 10 ^ 4 by omega), Nat.div_eq_of_lt (show b % 10000 < 10 ^ 4 by omega)])
  have e3 : lexN (dx a) (dx b) (0 + L) 5 = lexN (dx a) (dx b) (L + 1) 4 := by
    rw [Nat.zero_add, show (5 : Nat) = 4 + 1 from rfl, lexN, pa, pb, if_neg (by omega), if_neg (by omega)]
  have e4 : ∀ c : Int, orI c 0 = c := fun c => by unfold orI; split <;> simp_all
  rw [e1, e3, show (4 : Nat) = 4 + 0 from rfl, e2]
  show orI _ (orI _ 0) = _
  rw [e4, or_cmp]

theorem digits_lt {a b : Nat} (h : Lib.nDigits (a / 10000) < Lib.nDigits (b / 10000)) : a < b := by
  have h1 := Lib.lt_pow_nDigits (a / 10000)
  have hp := Lib.nDigits_pos (a / 10000)
  have h2 := pow_le_of_digits (b / 10000) (by omega)
  have h3 : 10 ^ Lib.nDigits (a / 10000) ≤ 10 ^ (Lib.nDigits (b / 10000) - 1) := Nat.pow_le_pow_right (by omega) (by omega)
  have h4 : a / 10000 < b / 10000 := by
    generalize 10 ^ Lib.nDigits (a / 10000) = A at *
    generalize 10 ^ (Lib.nDigits (b / 10000) - 1) = B at *
    omega
  omega

theorem mag_gives (a a' : Nat) (ha : a ≤ 9223372036854775808) (o b b' : Nat) (w : World) (hX : ∀ j, j < (decL a).length → w.cell? ⟨b, o + j, none⟩ = some (.int .u8 (dx a j)))
    (hY : ∀ j, j < (decL a').length → w.cell? ⟨b', o + j, none⟩ = some (.int .u8 (dx a' j))) : MagGives w b b' o (decL a).length (decL a').length (cmpN a a') := by
  intro W hW cap cap'
  have l1 := decL_len a
  have l2 := decL_len a'
  rcases Nat.lt_trichotomy (Lib.nDigits (a / 10000)) (Lib.nDigits (a' / 10000)) with h | h | h
  · rw [cmpN_lt (digits_lt h)]
    exact mag_len_lt b o b' o _ _ cap cap' W (by omega)
  · have e := lex_dec a a' h
    rw [← l1] at e
    have hl : (decL a').length = (decL a).length := by omega
    rw [hl, ← e]
    exact mag_same (dx a) (dx a') _ b o b' o cap cap' W (fun j hj => (hW _).trans (hX j hj)) (fun j hj => (hW _).trans (hY j (by omega))) (by have := nd_le a ha; omega)
  · rw [cmpN_gt (digits_lt h)]
    exact mag_len_gt b o b' o _ _ cap cap' W (by omega)

def cmpI (a b : Int) : Int := if a < b then -1 else if b < a then 1 else 0

theorem cmp_pp {p q : Int} (hp : ¬ p < 0) (hq : ¬ q < 0) : cmpN p.natAbs q.natAbs = cmpI p q := by
  unfold cmpN cmpI
  rcases Int.lt_trichotomy p q with h | h | h
  · rw [if_pos (by omega), if_pos h]
  · rw [if_neg (by omega), if_neg (by omega), if_neg (by omega), if_neg (by omega)]
  · rw [if_neg (by omega), if_pos (by omega), if_neg (by omega), if_pos h]
theorem cmp_nn {p q : Int} (hp : p < 0) (hq : q < 0) : -cmpN p.natAbs q.natAbs = cmpI p q := by
  unfold cmpN cmpI
  rcases Int.lt_trichotomy p q with h | h | h
  · rw [if_neg (by omega), if_pos (by omega), if_pos h]
  · rw [if_neg (by omega), if_neg (by omega), if_neg (by omega), if_neg (by omega)]; rfl
  · rw [if_pos (by omega), if_neg (by omega), if_pos h]; rfl

theorem yuan_txt (p q : Int) (hp : p.natAbs ≤ 9223372036854775808) (b b' cap cap' : Nat) (w : World) (hX : BytesAt w b (txt p)) (hY : BytesAt w b' (txt q)) (hc : (txt p).length ≤ cap) (hc' : (txt q).length ≤ cap') :
    Calls Tryd.prog 9 #[.slice (some ⟨b, 0, none⟩) (txt p).length cap, .slice (some ⟨b', 0, none⟩) (txt q).length cap'] w fun e w' => e = .returned (.int .i64 (cmpI p q)) ∧ ∃ k, w' = w.drewN k := by
  have lp := decL_len p.natAbs
  have lq := decL_len q.natAbs
  have dp : dx p.natAbs 0 ≠ 45 := by
    rw [dx_int _ 0 (by have := Lib.nDigits_pos (p.natAbs / 10000); omega)]; generalize p.natAbs / 10000 / 10 ^ (Lib.nDigits (p.natAbs / 10000) - 1 - 0) % 10 = z; omega
  have dq : dx q.natAbs 0 ≠ 45 := by
    rw [dx_int _ 0 (by have := Lib.nDigits_pos (q.natAbs / 10000); omega)]; generalize q.natAbs / 10000 / 10 ^ (Lib.nDigits (q.natAbs / 10000) - 1 - 0) % 10 = z; omega
  by_cases np : p < 0
  · by_cases nq : q < 0
    · rw [txt_neg np] at hX hc ⊢
      rw [txt_neg nq] at hY hc' ⊢
      rw [List.length_cons] at *
      have hm := mag_gives p.natAbs q.natAbs hp 1 b b' w (fun j hj => by rw [Nat.add_comm]; exact bytes_cell hX (j + 1) (by rw [List.length_cons]; omega)) (fun j hj => by rw [Nat.add_comm]; exact bytes_cell hY (j + 1) (by rw [List.length_cons]; omega))
      have bd := cmpN_bd p.natAbs q.natAbs
      have := yuan_neg (cmpN p.natAbs q.natAbs) ((decL p.natAbs).length + 1) ((decL q.natAbs).length + 1) b b' cap cap' w (hX 0 (by simp)) (hY 0 (by simp)) (by omega) (by omega) hc hc' bd.1 bd.2 hm
      rw [cmp_nn np nq] at this
      exact this
    · rw [txt_neg np] at hX ⊢
      rw [txt_pos nq] at hY ⊢
      have : cmpI p q = -1 := by unfold cmpI; rw [if_pos (by omega)]
      rw [this]
      exact yuan_np (dx q.natAbs 0) _ _ b b' cap cap' w (hX 0 (by simp)) (bytes_cell hY 0 (by omega)) dq (by simp) (by omega)
  · by_cases nq : q < 0
    · rw [txt_pos np] at hX ⊢
      rw [txt_neg nq] at hY ⊢
      have : cmpI p q = 1 := by unfold cmpI; rw [if_neg (by omega), if_pos (by omega)]
      rw [this]
      exact yuan_pn (dx p.natAbs 0) _ _ b b' cap cap' w (bytes_cell hX 0 (by omega)) (hY 0 (by simp)) dp (by omega) (by simp)
    · rw [txt_pos np] at hX hc ⊢
      rw [txt_pos nq] at hY hc' ⊢
      have hm := mag_gives p.natAbs q.natAbs hp 0 b b' w (fun j hj => by rw [Nat.zero_add]; exact bytes_cell hX j hj) (fun j hj => by rw [Nat.zero_add]; exact bytes_cell hY j hj)
      rw [cmp_pp np nq] at hm
      exact yuan_pos (cmpI p q) (dx p.natAbs 0) (dx q.natAbs 0) _ _ b b' cap cap' w (bytes_cell hX 0 (by omega)) (bytes_cell hY 0 (by omega)) dp dq (by omega) (by omega) hm
end Go.Proofs.Qxb6614358aDoor
