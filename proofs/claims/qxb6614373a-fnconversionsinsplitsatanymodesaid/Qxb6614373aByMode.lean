import Derived.Test.Qxb6614373aReq
import Derived.Deep.RegionWith
import Derived.Deep.DrawnRows
namespace Go.Proofs.Qxb6614373a
open Go.RowKit
attribute [local go_sem ↓] Go.wp_at_zero Go.wp_at_succ

/-- A row of numbers that came in: nil, or n cells of a block that is there. -/
def RowAt (w : World) (v : Value) (n : Nat) (s : Nat → Int) : Prop :=
  ((v = .slice none 0 0 ∧ n = 0) ∨ ∃ a cap, v = .slice (some a) 0 cap ∧ n = 0) ∨ ∃ b off cap, v = .slice (some ⟨b, off, none⟩) n cap ∧ b < w.heap.size ∧ (n : Int) ≤ 17592186044416 ∧ ∀ j, j < n → w.cell? ⟨b, off + j, none⟩ = some (.int .u64 (s j))

theorem RowAt.below {w w' : World} {B : Nat} {v : Value} {n : Nat} {s : Nat → Int} (h : RowAt w v n s) (hb : Below B w w') (hB : w.heap.size ≤ B) : RowAt w' v n s := by
  rcases h with h | ⟨b, off, cap, h1, h2, h3, h4⟩
  · exact Or.inl h
  · exact Or.inr ⟨b, off, cap, h1, Nat.lt_of_lt_of_le h2 hb.size, h3, fun j hj => (hb.cell (p := ⟨b, off + j, none⟩) (by show b < B; omega)).trans (h4 j hj)⟩

/-- A slice of Requests with the numbers s: nil, or pointers in new blocks. -/
def ReqVal (W : World) (lo hi : Nat) (v : Value) (n : Nat) (s : Nat → Int) : Prop :=
  (v = .slice none 0 0 ∧ n = 0) ∨ ∃ b, v = .slice (some ⟨b, 0, none⟩) n n ∧ ReqRow W lo hi b n s

theorem ReqRow.keep {W W' : World} {lo hi lo' hi' b n : Nat} {s : Nat → Int} (h : ReqRow W lo hi b n s) (h1 : lo' ≤ lo) (h2 : hi ≤ hi') (hc : ∀ b o, lo ≤ b → b < hi → W'.cell? ⟨b, o, none⟩ = W.cell? ⟨b, o, none⟩) : ReqRow W' lo' hi' b n s := by
  obtain ⟨a1, a2, a3⟩ := h
  refine ⟨by omega, by omega, fun j hj => ?_⟩
  obtain ⟨q, b1, b2, b3, b4⟩ := a3 j hj
  exact ⟨q, by omega, by omega, (hc _ _ a1 a2).trans b3, (hc _ _ b1 b2).trans b4⟩

theorem ReqVal.keep {W W' : World} {lo hi lo' hi' n : Nat} {v : Value} {s : Nat → Int} (h : ReqVal W lo hi v n s) (h1 : lo' ≤ lo) (h2 : hi ≤ hi') (hc : ∀ b o, lo ≤ b → b < hi → W'.cell? ⟨b, o, none⟩ = W.cell? ⟨b, o, none⟩) : ReqVal W' lo' hi' v n s := by
  rcases h with h | ⟨b, e, h⟩
  · exact Or.inl h
  · exact Or.inr ⟨b, e, h.keep h1 h2 hc⟩

theorem req_any {v : Value} {n : Nat} {s : Nat → Int} (c : Int) (w : World) (h : RowAt w v n s) :
    Calls Try.prog 28 #[v, .bool false, .int .i32 c] w fun e w' => ∃ va vl vc, e = .returned (.slice va vl vc) ∧ Below w.heap.size w w' ∧ ReqVal w' w.heap.size w'.heap.size (.slice va vl vc) n s := by
  rcases h with (⟨rfl, rfl⟩ | ⟨a, cap, rfl, rfl⟩) | ⟨b, off, cap, rfl, h2, h3, h4⟩
  · exact (req_nil 0 0 c w).mono fun e w' ⟨he, hw⟩ => ⟨_, _, _, he, by rw [hw]; exact Below.refl _ _, Or.inl ⟨rfl, rfl⟩⟩
  · exact (req_empty a cap c w).mono fun e w' ⟨he, hb, hs⟩ => ⟨_, _, _, he, hb, Or.inr ⟨_, rfl, Nat.le_refl _, hs, fun j hj => by omega⟩⟩
  · exact (req_some s n b off cap c w h3 h4 h2).mono fun e w' ⟨he, hb, hr⟩ => ⟨_, _, _, he, hb, Or.inr ⟨_, rfl, hr⟩⟩

/-- What the rounds of zzByMode keep: L rows (row i: ln i numbers S i), N counts C. -/
def ByInv (w wr : World) (L k : Nat) (ln : Nat → Nat) (S : Nat → Nat → Int) (cv : Nat → Int) : Prop :=
  Below w.heap.size w wr ∧ w.heap.size < wr.heap.size ∧ (∀ i, i < 22 → wr.frozen? ⟨w.heap.size, i, none⟩ = false ∧ (wr.cell? ⟨w.heap.size, i, none⟩).isSome = true) ∧
  (∀ i, i < k → i < L → ∃ v, wr.cell? ⟨w.heap.size, i, none⟩ = some v ∧ ReqVal wr (w.heap.size + 1) wr.heap.size v (ln i) (S i)) ∧
  ∀ i, i < k → wr.cell? ⟨w.heap.size, 14 + i, none⟩ = some (.int .i32 (cv i))

theorem below_undrewN {B : Nat} {w w' : World} (n : Nat) (h : Below B (w.drewN n) w') : Below B w w' := ⟨h.os, h.tape, h.output, h.size, h.block⟩
theorem below_undrew {B : Nat} {w w' : World} (h : Below B w.drew w') : Below B w w' := ⟨h.os, h.tape, h.output, h.size, h.block⟩

theorem addr_ne {b o o' : Nat} (h : o ≠ o') : (⟨b, o, none⟩ : Addr) ≠ ⟨b, o', none⟩ := by intro e; injection e; contradiction
theorem addr_ne' {b b' o o' : Nat} (h : b ≠ b') : (⟨b, o, none⟩ : Addr) ≠ ⟨b', o', none⟩ := by intro e; injection e; contradiction

/-- A round: from wr on, only new blocks; then stores into the block at w.heap.size. -/
theorem ByInv.step {w wr w2 X : World} {L k : Nat} {ln : Nat → Nat} {S : Nat → Nat → Int} {cv : Nat → Int} (h : ByInv w wr L k ln S cv) (hb : Below wr.heap.size wr w2)
    (hXs : X.heap.size = w2.heap.size) (hXf : ∀ a, X.frozen? a = w2.frozen? a) (hXb : Below w.heap.size w2 X) (hXo : ∀ b o, b ≠ w.heap.size → X.cell? ⟨b, o, none⟩ = w2.cell? ⟨b, o, none⟩)
    (hXi : ∀ i, i < 22 → i ≠ k → i ≠ 14 + k → X.cell? ⟨w.heap.size, i, none⟩ = w2.cell? ⟨w.heap.size, i, none⟩) (hk : k < 7)
    (hc : X.cell? ⟨w.heap.size, 14 + k, none⟩ = some (.int .i32 (cv k)))
    (hv : ∃ v, X.cell? ⟨w.heap.size, k, none⟩ = some v ∧ (k < L → ReqVal w2 (w.heap.size + 1) w2.heap.size v (ln k) (S k))) : ByInv w X L (k + 1) ln S cv := by
  obtain ⟨h1, h2, h3, h4, h5⟩ := h
  have hold : ∀ o, w2.cell? ⟨w.heap.size, o, none⟩ = wr.cell? ⟨w.heap.size, o, none⟩ := fun o => hb.cell (p := ⟨w.heap.size, o, none⟩) h2
  have hsz := hb.size
  obtain ⟨v, hv1, hv2⟩ := hv
  have hkeep : ∀ {v : Value} {n : Nat} {s : Nat → Int}, ReqVal w2 (w.heap.size + 1) w2.heap.size v n s → ReqVal X (w.heap.size + 1) X.heap.size v n s := fun hr =>
    hr.keep (Nat.le_refl _) (by rw [hXs]; exact Nat.le_refl _) (fun b o hb1 _ => hXo b o (by omega))
  refine ⟨(h1.trans (hb.mono (by omega))).trans hXb, by rw [hXs]; omega, fun i hi => ⟨?_, ?_⟩, fun i hi hiL => ?_, fun i hi => ?_⟩
  · rw [hXf, hb.frozen (p := ⟨w.heap.size, i, none⟩) h2]; exact (h3 i hi).1
  · by_cases e1 : i = k
    · subst e1; rw [hv1]; rfl
    · by_cases e2 : i = 14 + k
      · subst e2; rw [hc]; rfl
      · rw [hXi i hi e1 e2, hold]; exact (h3 i hi).2
  · by_cases e1 : i = k
    · subst e1; exact ⟨v, hv1, hkeep (hv2 hiL)⟩
    · obtain ⟨u, hu1, hu2⟩ := h4 i (by omega) hiL
      refine ⟨u, ?_, hkeep (hu2.keep (Nat.le_refl _) hsz (fun b o _ hb2 => hb.cell (p := ⟨b, o, none⟩) hb2))⟩
      rw [hXi i (by omega) e1 (by omega), hold]; exact hu1
  · by_cases e1 : i = k
    · subst e1; exact hc
    · rw [hXi (14 + i) (by omega) (by omega) (by omega), hold]; exact h5 i (by omega)

theorem ByInv.step_row {w wr w2 : World} {L k : Nat} {ln : Nat → Nat} {S : Nat → Nat → Int} {cv : Nat → Int} (h : ByInv w wr L k ln S cv) (hb : Below wr.heap.size wr w2) (hk : k < 7) {v : Value}
    (hr : ReqVal w2 wr.heap.size w2.heap.size v (ln k) (S k)) :
    ByInv w ((w2.setCell ⟨w.heap.size, k, none⟩ v).setCell ⟨w.heap.size, 14 + k, none⟩ (.int .i32 (cv k))) L (k + 1) ln S cv := by
  have h2 := h.2.1
  have hold : ∀ o, w2.cell? ⟨w.heap.size, o, none⟩ = wr.cell? ⟨w.heap.size, o, none⟩ := fun o => hb.cell (p := ⟨w.heap.size, o, none⟩) h2
  obtain ⟨v1, c1⟩ := Option.isSome_iff_exists.1 (h.2.2.1 k (by omega)).2
  obtain ⟨v2, c2⟩ := Option.isSome_iff_exists.1 (h.2.2.1 (14 + k) (by omega)).2
  refine h.step hb (by simp) (fun a => by simp) (((Below.refl _ _).setCell (by exact Nat.le_refl _) _).setCell (by exact Nat.le_refl _) _) (fun b o hne => ?_) (fun i _ e1 e2 => ?_) hk ?_ ⟨v, ?_, fun _ => ?_⟩
  · rw [World.cell?_setCell_other _ _ _ _ (addr_ne' (Ne.symm hne)), World.cell?_setCell_other _ _ _ _ (addr_ne' (Ne.symm hne))]
  · rw [World.cell?_setCell_other _ _ _ _ (addr_ne (Ne.symm e2)), World.cell?_setCell_other _ _ _ _ (addr_ne (Ne.symm e1))]
  · exact World.cell?_setCell_same _ _ _ (by rw [World.cell?_setCell_other _ _ _ _ (addr_ne (by omega)), hold]; exact c2)
  · rw [World.cell?_setCell_other _ _ _ _ (addr_ne (by omega))]
    exact World.cell?_setCell_same _ _ _ (by rw [hold]; exact c1)
  · exact hr.keep (by omega) (Nat.le_refl _) (fun _ _ _ _ => rfl)

theorem ByInv.step_none {w wr : World} {L k : Nat} {ln : Nat → Nat} {S : Nat → Nat → Int} {cv : Nat → Int} (h : ByInv w wr L k ln S cv) (hk : k < 7) (hL : ¬ k < L) :
    ByInv w (wr.setCell ⟨w.heap.size, 14 + k, none⟩ (.int .i32 (cv k))) L (k + 1) ln S cv := by
  obtain ⟨v1, c1⟩ := Option.isSome_iff_exists.1 (h.2.2.1 k (by omega)).2
  obtain ⟨v2, c2⟩ := Option.isSome_iff_exists.1 (h.2.2.1 (14 + k) (by omega)).2
  refine h.step (Below.refl _ _) (by simp) (fun a => by simp) ((Below.refl _ _).setCell (by exact Nat.le_refl _) _) (fun b o hne => ?_) (fun i _ e1 e2 => ?_) hk ?_ ⟨v1, ?_, fun hlt => absurd hlt hL⟩
  · rw [World.cell?_setCell_other _ _ _ _ (addr_ne' (Ne.symm hne))]
  · rw [World.cell?_setCell_other _ _ _ _ (addr_ne (Ne.symm e2))]
  · exact World.cell?_setCell_same _ _ _ c2
  · rw [World.cell?_setCell_other _ _ _ _ (addr_ne (by omega))]; exact c1

/-- What zzByMode hands back: block b (the heap's size ahead of the call) holds the lists, the counts and the set. -/
def ByDone (w W : World) (L : Nat) (ln : Nat → Nat) (S : Nat → Nat → Int) (cv : Nat → Int) (ci : Int) : Prop :=
  Below w.heap.size w W ∧ w.heap.size < W.heap.size ∧ (∀ i, i < 7 → i < L → ∃ v, W.cell? ⟨w.heap.size, i, none⟩ = some v ∧ ReqVal W (w.heap.size + 1) W.heap.size v (ln i) (S i)) ∧
  (∀ i, i < 7 → W.cell? ⟨w.heap.size, 14 + i, none⟩ = some (.int .i32 (cv i))) ∧ W.cell? ⟨w.heap.size, 21, none⟩ = some (.int .u16 ci)

theorem ByInv.done {w wr : World} {L : Nat} {ln : Nat → Nat} {S : Nat → Nat → Int} {cv : Nat → Int} {ci : Int} (h : ByInv w wr L 7 ln S cv) :
    ByDone w (wr.setCell ⟨w.heap.size, 21, none⟩ (.int .u16 ci)) L ln S cv ci := by
  obtain ⟨h1, h2, h3, h4, h5⟩ := h
  obtain ⟨v1, c1⟩ := Option.isSome_iff_exists.1 (h3 21 (by omega)).2
  refine ⟨h1.setCell (by exact Nat.le_refl _) _, by simp; exact h2, fun i hi hiL => ?_, fun i hi => ?_, World.cell?_setCell_same _ _ _ c1⟩
  · obtain ⟨v, hv1, hv2⟩ := h4 i hi hiL
    refine ⟨v, ?_, hv2.keep (Nat.le_refl _) (by simp) (fun b o hb _ => World.cell?_setCell_other _ _ _ _ (addr_ne' (by omega)))⟩
    rw [World.cell?_setCell_other _ _ _ _ (addr_ne (by omega))]; exact hv1
  · rw [World.cell?_setCell_other _ _ _ _ (addr_ne (by omega))]; exact h5 i hi

/-- The rows that came in. -/
def IsLists (w : World) (la : Option Addr) (L : Nat) (R : Nat → Value) (ln : Nat → Nat) (S : Nat → Nat → Int) : Prop :=
  ∀ i, i < L → ∃ lb lo, la = some ⟨lb, lo, none⟩ ∧ lb < w.heap.size ∧ w.cell? ⟨lb, lo + i, none⟩ = some (R i) ∧ RowAt w (R i) (ln i) (S i)
/-- The counts. -/
def IsCounts (w : World) (ca : Option Addr) (N : Nat) (C : Nat → Int) : Prop :=
  ∀ i, i < N → ∃ cb co, ca = some ⟨cb, co, none⟩ ∧ cb < w.heap.size ∧ w.cell? ⟨cb, co + i, none⟩ = some (.int .i32 (C i))

def cvOf (N : Nat) (C : Nat → Int) (i : Nat) : Int := if i < N then C i else 0
theorem cvOf_lt {N : Nat} {C : Nat → Int} {i : Nat} (h : i < N) : cvOf N C i = C i := if_pos h
theorem cvOf_ge {N : Nat} {C : Nat → Int} {i : Nat} (h : ¬ i < N) : cvOf N C i = 0 := if_neg h

set_option maxRecDepth 100000 in
set_option maxHeartbeats 400000 in
theorem bymode_any (la : Option Addr) (L lcap : Nat) (R : Nat → Value) (ln : Nat → Nat) (S : Nat → Nat → Int) (ca : Option Addr) (N ccap : Nat) (C : Nat → Int) (ci : Int) (w : World)
    (hla : IsLists w la L R ln S) (hca : IsCounts w ca N C) :
    Calls Try.prog 22 #[.slice la L lcap, .slice none 0 0, .slice ca N ccap, .int .u16 ci] w fun e w' => e = .returned (.pointer (some ⟨w.heap.size, 0, none⟩)) ∧ ByDone w w' L ln S (cvOf N C) ci := by
  go_enter Try.func22, Try.ntmps22
  go_wp2
  go_loopw [10] (fun i wr => ∃ k : Nat, k ≤ 7 ∧ i = .int .i64 k ∧ ByInv w wr L k ln S (cvOf N C)) (fun i _ => 7 - (intOf i).toNat)
  case atStart =>
    refine ⟨0, by omega, rfl, (Below.refl _ _).alloc (Nat.le_refl _) _, by simp, fun j hj => ⟨by simp [go_sem], ?_⟩, fun j hj => by omega, fun j hj => by omega⟩
    rw [World.cell?_alloc_at (hn := rfl)]
    simp [hj]
  case round =>
    obtain ⟨k, hk, rfl, hI⟩ := hrel
    by_cases hlt : k < 7
    · have h7 : (k : Int) < 7 := by omega
      have hsz := hI.2.1
      obtain ⟨f1, s1⟩ := hI.2.2.1 k (by omega)
      obtain ⟨f2, s2⟩ := hI.2.2.1 (14 + k) (by omega)
      obtain ⟨v1, c1⟩ := Option.isSome_iff_exists.1 s1
      obtain ⟨v2, c2⟩ := Option.isSome_iff_exists.1 s2
      clear s1 s2
      by_cases hN : k < N
      · obtain ⟨cb, co, rfl, hcb, hcc⟩ := hca k hN
        have hcw := (hI.1.cell (p := ⟨cb, co + k, none⟩) hcb).trans hcc
        have hN' : (k : Int) < (N : Int) := by omega
        clear hcc
        by_cases hL : k < L
        · obtain ⟨lb, lo, rfl, hlb, hlc, hrow⟩ := hla k hL
          have hlw := (hI.1.cell (p := ⟨lb, lo + k, none⟩) hlb).trans hlc
          have hL' : (k : Int) < (L : Int) := by omega
          have hrw := hrow.below hI.1 (Nat.le_refl _)
          clear hlc hrow
          go_wp2_with fail
          go_region_with ((go_at_call 28; refine (req_any _ _ (by exact hrw)).mono ?_; rintro e w2 ⟨va, vl, vc, rfl, hb2, hR2⟩; have g1 := (hb2.cell (p := ⟨w.heap.size, k, none⟩) (by exact hsz)).trans c1; have g2 := (hb2.frozen (p := ⟨w.heap.size, k, none⟩) (by exact hsz)).trans f1))
          have g3 := (hb2.cell (p := ⟨w.heap.size, 14 + k, none⟩) (by exact hsz)).trans c2
          have g4 := (hb2.frozen (p := ⟨w.heap.size, 14 + k, none⟩) (by exact hsz)).trans f2
          go_wp2
          go_roundw
          case rel => exact ⟨k + 1, by omega, by go_num, by rw [← cvOf_lt (C := C) hN]; exact (hI.step_row (below_undrew hb2) hlt hR2)⟩
          case measure => simp [intOf]; omega
        · have hL' : ¬ (k : Int) < (L : Int) := by omega
          go_wp2
          go_roundw
          case rel => exact ⟨k + 1, by omega, by go_num, by rw [← cvOf_lt (C := C) hN]; exact hI.step_none hlt hL⟩
          case measure => simp [intOf]; omega
      · have hN' : ¬ (k : Int) < (N : Int) := by omega
        by_cases hL : k < L
        · obtain ⟨lb, lo, rfl, hlb, hlc, hrow⟩ := hla k hL
          have hlw := (hI.1.cell (p := ⟨lb, lo + k, none⟩) hlb).trans hlc
          have hL' : (k : Int) < (L : Int) := by omega
          have hrw := hrow.below hI.1 (Nat.le_refl _)
          clear hlc hrow
          go_wp2_with fail
          go_region_with ((go_at_call 28; refine (req_any _ _ (by exact hrw)).mono ?_; rintro e w2 ⟨va, vl, vc, rfl, hb2, hR2⟩; have g1 := (hb2.cell (p := ⟨w.heap.size, k, none⟩) (by exact hsz)).trans c1; have g2 := (hb2.frozen (p := ⟨w.heap.size, k, none⟩) (by exact hsz)).trans f1))
          have g3 := (hb2.cell (p := ⟨w.heap.size, 14 + k, none⟩) (by exact hsz)).trans c2
          have g4 := (hb2.frozen (p := ⟨w.heap.size, 14 + k, none⟩) (by exact hsz)).trans f2
          go_wp2
          go_roundw
          case rel => exact ⟨k + 1, by omega, by go_num, by rw [← cvOf_ge (C := C) hN]; exact (hI.step_row (below_undrew hb2) hlt hR2)⟩
          case measure => simp [intOf]; omega
        · have hL' : ¬ (k : Int) < (L : Int) := by omega
          go_wp2
          go_roundw
          case rel => exact ⟨k + 1, by omega, by go_num, by rw [← cvOf_ge (C := C) hN]; exact hI.step_none hlt hL⟩
          case measure => simp [intOf]; omega
    · obtain rfl : k = 7 := by omega
      obtain ⟨f1, s1⟩ := hI.2.2.1 21 (by omega)
      obtain ⟨v1, c1⟩ := Option.isSome_iff_exists.1 s1
      have hsz := hI.2.1
      clear s1
      go_wp2
      go_ret
      exact ⟨rfl, hI.done⟩
end Go.Proofs.Qxb6614373a
