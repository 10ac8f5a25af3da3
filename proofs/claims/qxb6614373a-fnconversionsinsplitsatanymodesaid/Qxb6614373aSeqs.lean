import Derived.Test.Qxb6614373aConvIn
namespace Go.Proofs.Qxb6614373a
open Go.RowKit

/-- 'make([]uint64, n)', as the walk meets it. -/
theorem make_u64s (n : Nat) (hn : n ≤ 17592186044416) (W : World) :
    (Instr.makeSlice 44 (.int .i64 (n : Int)) (.int .i64 (n : Int))).run Try.prog W = .ok (.slice (some ⟨W.heap.size, 0, none⟩) n n) (W.alloc (.cells (cellsOf n (.int .u64 0)) 48)) := by
  have := run_make (P := Try.prog) W 44 48 Try.t48 (.int .u64 0) Try.underlying44 (by kernel_rfl) rfl .i64 .i64 (n : Int) (n : Int) (by omega) (by omega) (by show (8 : Int) * _ ≤ _; omega) (by omega)
  rw [this]
  simp only [Int.toNat_natCast]
  rw [show (Value.int .u64 0).cells = #[Value.int .u64 0] from rfl, show Try.t48.size = 1 from rfl, made_one]

/-- 'make([][]uint64, 12)'. -/
theorem make_12 (W : World) :
    (Instr.makeSlice 30 (.int .i64 12) (.int .i64 12)).run Try.prog W = .ok (.slice (some ⟨W.heap.size, 0, none⟩) 12 12) (W.alloc (.cells (cellsOf 12 (.slice none 0 0)) 44)) := by
  have := run_make (P := Try.prog) W 30 44 Try.t44 (.slice none 0 0) Try.underlying30 (by kernel_rfl) rfl .i64 .i64 12 12 (by omega) (by omega) (by decide) (by omega)
  rw [this]
  rw [show (Value.slice none 0 0).cells = #[Value.slice none 0 0] from rfl, show Try.t44.size = 1 from rfl, show (12 : Int).toNat = 12 from rfl, made_one]

/-- What the inner rounds keep: the row at block b of the numbers t, the first k of l written. -/
def InInv (wr wi : World) (l k : Nat) (t : Nat → Int) : Prop :=
  Below wr.heap.size wr wi ∧ wi.heap.size = wr.heap.size + 1 ∧ (∀ x, x < l → wi.frozen? ⟨wr.heap.size, x, none⟩ = false ∧ (wi.cell? ⟨wr.heap.size, x, none⟩).isSome = true) ∧
  ∀ x, x < k → wi.cell? ⟨wr.heap.size, x, none⟩ = some (.int .u64 (t x))

theorem InInv.start (wr : World) (l : Nat) (t : Nat → Int) : InInv wr (wr.alloc (.cells (cellsOf l (.int .u64 0)) 48)) l 0 t :=
  ⟨(Below.refl _ _).alloc (Nat.le_refl _) _, by simp, fun x hx => ⟨by simp [go_sem], by rw [World.cell?_alloc_at (hn := rfl), cellsOf_get _ _ _ hx]; rfl⟩, fun x hx => by omega⟩

theorem InInv.step {wr wi : World} {l k : Nat} {t : Nat → Int} (h : InInv wr wi l k t) (hk : k < l) : InInv wr (wi.setCell ⟨wr.heap.size, k, none⟩ (.int .u64 (t k))) l (k + 1) t := by
  obtain ⟨h1, h2, h3, h4⟩ := h
  obtain ⟨v, hv⟩ := Option.isSome_iff_exists.1 (h3 k hk).2
  refine ⟨h1.setCell (by exact Nat.le_refl _) _, by simp; exact h2, fun x hx => ⟨?_, ?_⟩, fun x hx => ?_⟩
  · rw [World.frozen?_setCell]; exact (h3 x hx).1
  · by_cases e : x = k
    · subst e; rw [World.cell?_setCell_same _ _ _ hv]; rfl
    · rw [World.cell?_setCell_other _ _ _ _ (addr_ne (Ne.symm e))]; exact (h3 x hx).2
  · by_cases e : x = k
    · subst e; rw [World.cell?_setCell_same _ _ _ hv]
    · rw [World.cell?_setCell_other _ _ _ _ (addr_ne (Ne.symm e))]; exact h4 x (by omega)

/-- What zzSeqs hands out: block b holds 12 rows, the first n of them the numbers T i, in blocks from lo up to hi. -/
def SeqRows (W : World) (lo hi b n : Nat) (pl : Nat → Nat) (T : Nat → Nat → Int) : Prop :=
  (∀ i, i < n → ∃ ob, lo ≤ ob ∧ ob < hi ∧ W.cell? ⟨b, i, none⟩ = some (.slice (some ⟨ob, 0, none⟩) (pl i) (pl i)) ∧ ∀ j, j < pl i → W.cell? ⟨ob, j, none⟩ = some (.int .u64 (T i j)))

/-- What the outer rounds keep. -/
def SeqInv (w wr : World) (A : Array Value) (n k : Nat) (pl : Nat → Nat) (T : Nat → Nat → Int) : Prop :=
  Below w.heap.size w wr ∧ w.heap.size + 1 < wr.heap.size ∧ (∀ i, wr.cell? ⟨w.heap.size, i, none⟩ = A[i]?) ∧
  (∀ i, i < 12 → wr.frozen? ⟨w.heap.size + 1, i, none⟩ = false ∧ (wr.cell? ⟨w.heap.size + 1, i, none⟩).isSome = true) ∧
  SeqRows wr (w.heap.size + 2) wr.heap.size (w.heap.size + 1) (min n k) pl T

theorem SeqInv.step {w wr wi : World} {A : Array Value} {n k : Nat} {pl : Nat → Nat} {T : Nat → Nat → Int} (h : SeqInv w wr A n k pl T) (hk : k < n) (h12 : k < 12) (hi : InInv wr wi (pl k) (pl k) (T k)) :
    SeqInv w (wi.setCell ⟨w.heap.size + 1, k, none⟩ (.slice (some ⟨wr.heap.size, 0, none⟩) (pl k) (pl k))) A n (k + 1) pl T := by
  obtain ⟨h1, h2, h3, h4, h5⟩ := h
  obtain ⟨i1, i2, i3, i4⟩ := hi
  have hold : ∀ b o, b < wr.heap.size → wi.cell? ⟨b, o, none⟩ = wr.cell? ⟨b, o, none⟩ := fun b o hb => i1.cell (p := ⟨b, o, none⟩) hb
  obtain ⟨v, hv⟩ := Option.isSome_iff_exists.1 (h4 k h12).2
  have hv' := (hold (w.heap.size + 1) k h2).trans hv
  refine ⟨(h1.trans (i1.mono (by omega))).setCell (by show w.heap.size ≤ w.heap.size + 1; omega) _, by simp; omega, fun i => ?_, fun i hi => ⟨?_, ?_⟩, fun i hi => ?_⟩
  · rw [World.cell?_setCell_other _ _ _ _ (addr_ne' (by omega)), hold _ _ (by omega)]; exact h3 i
  · rw [World.frozen?_setCell, i1.frozen (p := ⟨w.heap.size + 1, i, none⟩) h2]; exact (h4 i hi).1
  · by_cases e : i = k
    · subst e; rw [World.cell?_setCell_same _ _ _ hv']; rfl
    · rw [World.cell?_setCell_other _ _ _ _ (addr_ne (Ne.symm e)), hold _ _ h2]; exact (h4 i hi).2
  · by_cases e : i = k
    · subst e
      refine ⟨wr.heap.size, by omega, by simp; omega, World.cell?_setCell_same _ _ _ hv', fun j hj => ?_⟩
      rw [World.cell?_setCell_other _ _ _ _ (addr_ne' (by omega))]; exact i4 j hj
    · obtain ⟨ob, o1, o2, o3, o4⟩ := h5 i (by omega)
      refine ⟨ob, o1, by simp; omega, ?_, fun j hj => ?_⟩
      · rw [World.cell?_setCell_other _ _ _ _ (addr_ne (Ne.symm e)), hold _ _ h2]; exact o3
      · rw [World.cell?_setCell_other _ _ _ _ (addr_ne' (by omega)), hold _ _ o2]; exact o4 j hj

theorem SeqInv.idle {w wr : World} {A : Array Value} {n k : Nat} {pl : Nat → Nat} {T : Nat → Nat → Int} (h : SeqInv w wr A n k pl T) (hk : ¬ k < n) : SeqInv w wr A n (k + 1) pl T := by
  obtain ⟨h1, h2, h3, h4, h5⟩ := h
  refine ⟨h1, h2, h3, h4, fun i hi => h5 i (by omega)⟩

/-- The parts that are handed over, and the Requests behind them. -/
def PartsAt (w : World) (ps : List Value) (pl : Nat → Nat) (T : Nat → Nat → Int) : Prop :=
  ∀ i (hi : i < ps.length), ∃ pb pc, ps[i] = .slice (some ⟨pb, 0, none⟩) (pl i) pc ∧ pb < w.heap.size ∧ (pl i : Int) ≤ 17592186044416 ∧
    ∀ j, j < pl i → ∃ q, q < w.heap.size ∧ w.cell? ⟨pb, j, none⟩ = some (.pointer (some ⟨q, 0, none⟩)) ∧ w.cell? ⟨q, 7, none⟩ = some (.int .u64 (T i j))

set_option maxRecDepth 100000 in
set_option maxHeartbeats 400000 in
theorem seqs_any (ps : List Value) (pl : Nat → Nat) (T : Nat → Nat → Int) (w : World) (hlen : ps.length ≤ 12) (hps : PartsAt w ps pl T) :
    Calls Try.prog 23 #[.agg (Parr ps)] w fun e w' => e = .returned (.tuple #[.slice (some ⟨w.heap.size + 1, 0, none⟩) 12 12, .int .i64 (ps.length : Int)]) ∧ Below w.heap.size w w' ∧ w.heap.size + 1 < w'.heap.size ∧
      SeqRows w' (w.heap.size + 2) w'.heap.size (w.heap.size + 1) ps.length pl T := by
  have hm12 := make_12
  go_enter Try.func23, Try.ntmps23
  go_wp2
  go_loopw [5] (fun i wr => ∃ k d : Nat, k ≤ 12 ∧ i = .int .i64 k ∧ ∃ W, wr = W ∧ SeqInv w W (Parr ps) ps.length k pl T) (fun i _ => 12 - (intOf i).toNat)
  case atStart =>
    refine ⟨0, 0, by omega, rfl, _, rfl, ((Below.refl _ _).alloc (Nat.le_refl _) _).alloc (by simp) _, by simp, fun i => ?_, fun i hi => ⟨?_, ?_⟩, fun i hi => by omega⟩
    · rw [World.cell?_alloc_past (hn := by simp), World.cell?_alloc_at (hn := rfl)]
    · rw [World.frozen?_alloc_at (hn := by simp)]
    · rw [World.cell?_alloc_at (hn := by simp), cellsOf_get _ _ _ hi]; rfl
  case round =>
    obtain ⟨k, d, hk, rfl, W, rfl, hI⟩ := hrel
    by_cases hlt : k < 12
    · have hc := hI.2.2.1 k
      have h12 : (k : Int) < 12 := by omega
      have hsz := hI.2.1
      by_cases hn : k < ps.length
      · obtain ⟨pb, pc, hpe, hpb, hpl, hreq⟩ := hps k hn
        rw [Parr_lt ps k hn, hpe] at hc
        have heq : ∀ W, (binOp .eql 62 (.slice (some ⟨pb, 0, none⟩) (pl k) pc) (.slice none 0 0)).run Try.prog W = .ok (.bool false) W := fun W => eql_nil (e := 102) _ _ _ W Try.underlying62
        have hmk := make_u64s (pl k) (by omega)
        obtain ⟨f4, s4⟩ := hI.2.2.2.1 k hlt
        obtain ⟨v4, c4⟩ := Option.isSome_iff_exists.1 s4
        have hwb := hI.1
        have hws := hwb.size
        clear s4
        go_wp2
        go_loopw [8] (fun j wi => ∃ x : Nat, x ≤ pl k ∧ j = .int .i64 x ∧ InInv wr wi (pl k) x (T k)) (fun j _ => pl k - (intOf j).toNat)
        case atStart => exact ⟨0, by omega, rfl, InInv.start wr (pl k) (T k)⟩
        case round =>
          rename_i wi
          obtain ⟨x, hx, rfl, hJ⟩ := hrel
          by_cases hxl : x < pl k
          · obtain ⟨q, hq1, hq2, hq3⟩ := hreq x hxl
            have hx' : (x : Int) < (pl k : Int) := by omega
            have r1 := (hJ.1.cell (p := ⟨pb, x, none⟩) (by show pb < _; omega)).trans ((hwb.cell (p := ⟨pb, x, none⟩) hpb).trans hq2)
            have r2 := (hJ.1.cell (p := ⟨q, 7, none⟩) (by show q < _; omega)).trans ((hwb.cell (p := ⟨q, 7, none⟩) hq1).trans hq3)
            obtain ⟨f5, s5⟩ := hJ.2.2.1 x hxl
            obtain ⟨v5, c5⟩ := Option.isSome_iff_exists.1 s5
            clear s5 hq2 hq3
            go_wp2
            go_roundw
            case rel => exact ⟨x + 1, by omega, by go_num, hJ.step hxl⟩
            case measure => simp [intOf]; omega
          · obtain rfl : x = pl k := by omega
            have r3 := (hJ.1.cell (p := ⟨w.heap.size + 1, k, none⟩) hsz).trans c4
            have r4 := (hJ.1.frozen (p := ⟨w.heap.size + 1, k, none⟩) hsz).trans f4
            go_wp2
            go_roundw
            case rel => exact ⟨k + 1, 0, by omega, by go_num, _, rfl, hI.step hn hlt hJ⟩
            case measure => simp [intOf]; omega
      · rw [Parr_ge ps k (by omega) hlt] at hc
        have heq : ∀ W, (binOp .eql 62 (.slice none 0 0) (.slice none 0 0)).run Try.prog W = .ok (.bool true) W := fun W => eql_nil (e := 102) _ _ _ W Try.underlying62
        go_wp2
        go_roundw
        case rel => exact ⟨k + 1, 0, by omega, by go_num, _, rfl, hI.idle hn⟩
        case measure => simp [intOf]; omega
    · obtain rfl : k = 12 := by omega
      have hc := hI.2.2.1 12
      rw [Parr_n ps hlen] at hc
      have hsz := hI.2.1
      go_wp2_with fail
      go_quiet (fail)
      go_wp2
      go_ret2
      have h5 := hI.2.2.2.2
      rw [Nat.min_eq_left hlen] at h5
      exact ⟨rfl, below_drewN hI.1 _, hI.2.1, h5⟩
end Go.Proofs.Qxb6614373a
