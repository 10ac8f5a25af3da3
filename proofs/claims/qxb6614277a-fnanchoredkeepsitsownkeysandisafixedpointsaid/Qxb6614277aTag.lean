import Derived.Test.Qxb6614277aRdata
namespace Go.Proofs.Qxb6614277a
open Go.RowKit

theorem ofInt16 (a : Nat) (ha : a < 65536) : (BitVec.ofInt 16 (a : Int)).toNat = a := by
  rw [BitVec.ofInt_natCast, BitVec.toNat_ofNat]; exact Nat.mod_eq_of_lt (by omega)
theorem bits_or_u16 (a b : Nat) (ha : a < 65536) (hb : b < 65536) : bits .or .u16 (a : Int) (b : Int) = ((a ||| b : Nat) : Int) := by
  have hx : a ||| b < 2 ^ 16 := Nat.or_lt_two_pow (by omega) (by omega)
  show IntKind.u16.wrap ((BitVec.ofInt 16 (a : Int) ||| BitVec.ofInt 16 (b : Int)).toNat : Int) = _
  rw [BitVec.toNat_or, ofInt16 a ha, ofInt16 b hb, IntKind.wrap_u16]
  omega

/-- The number that two bytes spell. -/
def two (x y : Nat) : Nat := y ||| (x * 256)
theorem two_lt {x y : Nat} (hx : x < 256) (hy : y < 256) : two x y < 65536 := Nat.or_lt_two_pow (n := 16) (by omega) (by omega)

set_option maxRecDepth 100000 in
theorem u16_any (g off n cap x y : Nat) (W : World) (hx : x < 256) (hy : y < 256) (h0 : W.cell? ⟨g, off, none⟩ = some (.int .u8 x)) (h1 : W.cell? ⟨g, off + 1, none⟩ = some (.int .u8 y)) (hn : 2 ≤ n) :
    Calls Try.prog 24 #[.agg #[], .slice (some ⟨g, off, none⟩) n cap] W fun e W' => e = .returned (.int .u16 (two x y : Nat)) ∧ Below W.heap.size W W' := by
  obtain ⟨z, hz⟩ : ∃ z, z = x * 256 := ⟨_, rfl⟩
  have e1 : (x : Int) * 256 = (z : Int) := by omega
  have e2 : bits .or .u16 (y : Int) (z : Int) = (two x y : Int) := by rw [bits_or_u16 y z (by omega) (by omega), hz]; rfl
  have hg : g < W.heap.size := World.block_lt_of_cell? W ⟨g, off, none⟩ h0
  have z1 : z < 65536 := by omega
  have n1 : (1 : Int) < (n : Int) := by omega
  have n0 : (0 : Int) < (n : Int) := by omega
  clear hz
  go_enter Try.func24, Try.ntmps24
  go_wp2_with fail
  go_quiet (fail)
  go_wp2
  go_ret
  exact ⟨rfl, ⟨rfl, rfl, rfl, by simp, fun k hk => Below.heap_alloc _ _ _ hk⟩⟩

theorem ret_u16 {a b : Int} (h : a = b) : Ending.returned (.int .u16 a) = .returned (.int .u16 b) := by rw [h]

/-- The running sum of the key tag, over the first i bytes. -/
def accN (l : List Nat) : Nat → Nat
  | 0 => 0
  | i + 1 => (accN l i + (if i % 2 = 0 then l.getD i 0 * 256 else l.getD i 0)) % 4294967296
theorem accN_lt (l : List Nat) : ∀ i, accN l i < 4294967296
  | 0 => by simp [accN]
  | i + 1 => by rw [accN]; omega

/-- The key tag. -/
def tagOf (k : Key) : Nat :=
  if k.al = 1 then two ((rdata k).getD ((rdata k).length - 3) 0) ((rdata k).getD ((rdata k).length - 2) 0)
  else ((accN (rdata k) (rdata k).length + accN (rdata k) (rdata k).length / 65536) % 4294967296) % 65536

theorem rdata_lt {k : Key} (hk : k.ok) : ∀ x ∈ rdata k, x < 256 := by
  obtain ⟨h1, h2, h3, _, h5⟩ := hk
  intro x hx
  unfold rdata at hx
  simp only [List.mem_append, List.mem_cons, List.not_mem_nil, or_false] at hx
  rcases hx with ((rfl | rfl) | (rfl | rfl)) | hx
  · omega
  · omega
  · omega
  · omega
  · exact h5 x hx
theorem getD_lt {l : List Nat} {b : Nat} (h : ∀ x ∈ l, x < b) (hb : 0 < b) (i : Nat) : l.getD i 0 < b := by
  rw [List.getD_eq_getElem?_getD]
  cases e : l[i]? with
  | none => exact hb
  | some x => exact h x (List.mem_of_getElem? e)
theorem rdata_len (k : Key) : (rdata k).length = k.pk.length + 4 := by unfold rdata; simp

theorem own_cells {W : World} {B n : Nat} {v : Value} {l : List Nat} (h : W.ownsRow B 5 1 v n (u8s l)) (hl : l.length = n) (hn : 0 < n) : ∃ g cap, v = .slice (some ⟨g, 0, none⟩) n cap ∧ B ≤ g ∧ n ≤ cap ∧ ∀ j, j < n → W.cell? ⟨g, j, none⟩ = some (.int .u8 (l.getD j 0 : Nat)) := by
  have hc := fun g hg => h.cells (g := g) hg
  rcases h.2 with ⟨_, h0⟩ | ⟨g, cap, cur, hv, hb, _, hcap, _⟩
  · omega
  · subst hv
    refine ⟨g, cap, rfl, hb, hcap, fun j hj => ?_⟩
    have := hc g rfl j (.int .u8 (l.getD j 0 : Nat)) (by
      unfold u8s
      rw [List.getElem?_map, List.getElem?_eq_getElem (by omega), List.getD_eq_getElem?_getD, List.getElem?_eq_getElem (by omega)]
      rfl)
    rw [add_at, Nat.zero_add] at this
    exact this

set_option maxHeartbeats 1000000 in
set_option maxRecDepth 100000 in
theorem tag_any (k : Key) (hk : k.ok) (q : Nat) (W : World) (h : KeyAt W W.heap.size q k) :
    Calls Try.prog 16 #[.pointer (some ⟨q, 0, none⟩)] W fun e W' => e = .returned (.int .u16 (tagOf k : Nat)) ∧ Below W.heap.size W W' := by
  have HR := Lib.hid (rdata_any k hk q W h)
  have hlt := rdata_lt hk
  have hlen := rdata_len k
  have c3 := h.c3
  have h0 := h.lt
  have hal : k.al < 256 := hk.2.2.1
  have hpk : k.pk.length ≤ 1048576 := hk.2.2.2.1
  obtain ⟨n, hn⟩ : ∃ n, n = (rdata k).length := ⟨_, rfl⟩
  obtain ⟨l, hl⟩ : ∃ l, l = rdata k := ⟨_, rfl⟩
  have htag : tagOf k = if k.al = 1 then two (l.getD (n - 3) 0) (l.getD (n - 2) 0) else ((accN l n + accN l n / 65536) % 4294967296) % 65536 := by unfold tagOf; rw [hn, hl]
  obtain ⟨T, hT⟩ : ∃ T, T = tagOf k := ⟨_, rfl⟩
  rw [← hT]
  rw [← hT] at htag
  rw [← hl] at hlt
  obtain ⟨al, hale⟩ : ∃ al, al = k.al := ⟨_, rfl⟩
  rw [← hale] at c3 hal htag
  have HT := Lib.hid htag
  clear hT
  have n4 : 4 ≤ n ∧ n ≤ 1048580 := by omega
  have HL := Lib.hid hlt
  have HN := Lib.hid hn
  have HE := Lib.hid hl
  clear hlt hn hl htag hlen hale hpk h hk
  go_enter Try.func16, Try.ntmps16
  go_wp2_with fail
  refine HR.out.mono ?_
  rintro e w1 ⟨v, rfl, hown, hb⟩
  rw [← HE.out] at hown
  rw [show l.length = n by rw [HN.out, HE.out]] at hown
  obtain ⟨g, cap, rfl, hg, hcap, hcell⟩ := own_cells hown (by rw [HN.out, HE.out]) (by omega)
  have k3 := (hb.cell (p := ⟨q, 3, none⟩) (by exact h0)).trans c3
  have HB := Lib.hid hb
  have HC := Lib.hid hcell
  clear hown hb hcell
  by_cases ha : al = 1
  · have ht := HT.out
    rw [if_pos ha] at ht
    have HT2 := Lib.hid ht
    clear ht HT
    subst ha
    obtain ⟨m, rfl⟩ : ∃ m, n = m + 3 := ⟨n - 3, by omega⟩
    have d1 := HC.out m (by omega)
    have d2 := HC.out (m + 1) (by omega)
    have HU := Lib.hid (fun (w : World) (c : Nat) (h : Below w1.heap.size w1 w) => u16_any g m 3 c (l.getD m 0) (l.getD (m + 1) 0) w (getD_lt HL.out (by omega) _) (getD_lt HL.out (by omega) _) ((h.cell (p := ⟨g, m, none⟩) (World.block_lt_of_cell? w1 ⟨g, m, none⟩ d1)).trans d1) ((h.cell (p := ⟨g, m + 1, none⟩) (World.block_lt_of_cell? w1 ⟨g, m + 1, none⟩ d2)).trans d2) (by omega))
    have e1 : IntKind.i64.wrap (m : Int) = (m : Int) := by rw [IntKind.wrap_i64]; omega
    have e2 : (m : Int) ≤ (m : Int) + 3 := by omega
    have e3 : ¬ cap = m := by omega
    have e4 : m + 3 - m = 3 := by omega
    clear d1 d2
    go_wp2_with fail
    go_region_with ((go_at_call 24; refine (HU.out _ _ (by exact (Below.refl _ _).drew)).mono ?_; rintro e w2 ⟨rfl, hb2⟩; have HB2 := Lib.hid hb2; clear hb2))
    all_goals
      go_wp2
      go_ret
      refine ⟨?_, HB.out.trans ((below_undrew HB2.out).mono HB.out.size)⟩
      rw [HT2.out]
      rfl
  · have ht := HT.out
    rw [if_neg ha] at ht
    have HT2 := Lib.hid ht
    clear ht HT
    have a1 : ((al : Int) == 1) = false := by simp; omega
    have a2 : ¬ (al : Int) = 1 := by omega
    go_wp2
    go_loopw [4, 23] (fun vs vi wr => ∃ i : Nat, i ≤ n ∧ vi = .int .i64 i ∧ vs = .int .u32 (accN l i : Nat) ∧ wr = w1) (fun _ vi _ => n - (intOf vi).toNat)
    case atStart => exact ⟨0, by omega, rfl, rfl, rfl⟩
    case round =>
      obtain ⟨i, hi, rfl, rfl, hwr⟩ := hrel
      subst hwr
      by_cases hlt : i < n
      · have h1 : (i : Int) < (n : Int) := by omega
        have d1 := HC.out i hlt
        have b1 := getD_lt HL.out (by omega) i
        have b2 := accN_lt l i
        have hs : accN l (i + 1) = (accN l i + (if i % 2 = 0 then l.getD i 0 * 256 else l.getD i 0)) % 4294967296 := rfl
        generalize accN l i = A0 at *
        generalize l.getD i 0 = x at *
        by_cases hp : i % 2 = 0
        · rw [if_pos hp] at hs
          have HS := Lib.hid hs
          clear hs
          have p1 : (i : Int).tmod 2 = 0 := by rw [Int.tmod_eq_emod_of_nonneg (by omega)]; omega
          go_wp2
          go_roundw
          case rel => exact ⟨i + 1, by omega, by go_num, by rw [HS.out]; congr 1, trivial⟩
          case measure => simp [intOf]; omega
        · rw [if_neg hp] at hs
          have HS := Lib.hid hs
          clear hs
          have p1 : (i : Int).tmod 2 = 1 := by rw [Int.tmod_eq_emod_of_nonneg (by omega)]; omega
          go_wp2
          go_roundw
          case rel => exact ⟨i + 1, by omega, by go_num, by rw [HS.out]; congr 1, trivial⟩
          case measure => simp [intOf]; omega
      · obtain rfl : i = n := by omega
        go_wp2
        go_ret
        refine ⟨?_, HB.out⟩
        have := HT2.out
        exact ret_u16 (by rw [IntKind.wrap_u16]; omega)
end Go.Proofs.Qxb6614277a
