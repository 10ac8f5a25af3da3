import Derived.Test.Qxb6614277aZZ
namespace Go.Proofs.Qxb6614277a
open Go.RowKit

theorem make_u8 (n : Nat) (hn : n ≤ 1048576) (W : World) :
    (Instr.makeSlice 23 (.int .i64 (n : Int)) (.int .i64 (n : Int))).run Try.prog W = .ok (.slice (some ⟨W.heap.size, 0, none⟩) n n) (W.alloc (.cells (cellsOf n (.int .u8 0)) 5)) := by
  have := run_make (P := Try.prog) W 23 5 Try.t5 (.int .u8 0) Try.underlying23 (by kernel_rfl) rfl .i64 .i64 (n : Int) (n : Int) (by omega) (by omega) (by show (1 : Int) * _ ≤ _; omega) (by omega)
  rw [this]
  simp only [Int.toNat_natCast]
  rw [show (Value.int .u8 0).cells = #[Value.int .u8 0] from rfl, show Try.t5.size = 1 from rfl, made_one]

theorem eql_nil {t e : TypeId} (a : Option Addr) (l c : Nat) (W : World) (h : Try.prog.underlying t = some (.slice e)) : (binOp .eql t (.slice a l c) (.slice none 0 0)).run Try.prog W = .ok (.bool a.isNone) W := by
  simp only [binOp]
  rw [Sem.run_bind, run_equal_slice_nil W t e a l c h]
  rfl

/-- The rounds of zzCloneBytes: n cells of block B0, the first i of them laid. -/
structure CloneInv (W wr : World) (n i : Nat) (l : List Nat) : Prop where
  bel : Below W.heap.size W wr
  lt : W.heap.size < wr.heap.size
  room : ∀ j, j < n → wr.frozen? ⟨W.heap.size, j, none⟩ = false ∧ (wr.cell? ⟨W.heap.size, j, none⟩).isSome = true
  done : ∀ j, j < i → wr.cell? ⟨W.heap.size, j, none⟩ = some (.int .u8 (l.getD j 0 : Nat))

theorem CloneInv.step {W wr : World} {n i : Nat} {l : List Nat} (h : CloneInv W wr n i l) (hi : i < n) : CloneInv W (wr.setCell ⟨W.heap.size, i, none⟩ (.int .u8 (l.getD i 0 : Nat))) n (i + 1) l := by
  obtain ⟨h1, h2, h3, h4⟩ := h
  obtain ⟨hf, hc⟩ := h3 i hi
  obtain ⟨v, hv⟩ := Option.isSome_iff_exists.1 hc
  refine ⟨h1.setCell (Nat.le_refl _) _, by simp [World.setCell]; omega, fun j hj => ⟨?_, ?_⟩, fun j hj => ?_⟩
  · rw [World.frozen?_setCell]; exact (h3 j hj).1
  · by_cases e : j = i
    · subst e; rw [World.cell?_setCell_same _ _ _ hv]; rfl
    · rw [World.cell?_setCell_other _ _ _ _ (by intro h; injection h; omega)]; exact (h3 j hj).2
  · by_cases e : j = i
    · subst e; rw [World.cell?_setCell_same _ _ _ hv]
    · rw [World.cell?_setCell_other _ _ _ _ (by intro h; injection h; omega)]; exact h4 j (by omega)

theorem u8s_get {l : List Nat} {j : Nat} {u : Value} (h : (u8s l)[j]? = some u) : j < l.length ∧ u = .int .u8 (l.getD j 0 : Nat) := by
  unfold u8s at h
  rw [List.getElem?_map] at h
  by_cases hj : j < l.length
  · rw [List.getElem?_eq_getElem hj] at h
    refine ⟨hj, ?_⟩
    rw [List.getD_eq_getElem?_getD, List.getElem?_eq_getElem hj]
    simpa using h.symm
  · rw [List.getElem?_eq_none (by omega)] at h
    cases h

set_option maxHeartbeats 1000000 in
set_option maxRecDepth 100000 in
/-- zzCloneBytes: the same bytes, in new memory. -/
theorem clone_some (a : Addr) (cap : Nat) (l : List Nat) (W : World) (hl : l.length ≤ 1048576) (hc : ∀ i, i < l.length → ∃ b off, a = ⟨b, off, none⟩ ∧ b < W.heap.size ∧ W.cell? ⟨b, off + i, none⟩ = some (.int .u8 (l.getD i 0 : Nat))) :
    Calls Try.prog 21 #[.slice (some a) l.length cap] W fun e W' => ∃ va vl vc, e = .returned (.slice va vl vc) ∧ BytesAt W' W'.heap.size (.slice va vl vc) l ∧ Below W.heap.size W W' := by
  obtain ⟨n, hn⟩ : ∃ n, n = l.length := ⟨_, rfl⟩
  rw [← hn] at hl ⊢
  have hmk := make_u8 n hl
  have heq : ∀ W, (binOp .eql 23 (.slice (some a) n cap) (.slice none 0 0)).run Try.prog W = .ok (.bool false) W := fun W => eql_nil (e := 5) _ _ _ W Try.underlying23
  have HC := Lib.hid hc
  have HN := Lib.hid hn
  clear hc hn
  go_enter Try.func21, Try.ntmps21
  go_wp2
  go_loopw [4] (fun vi wr => ∃ i : Nat, i ≤ n ∧ vi = .int .i64 i ∧ Hid (CloneInv W wr n i l)) (fun vi _ => n - (intOf vi).toNat)
  case atStart =>
    refine ⟨0, by omega, rfl, ⟨(Below.refl _ _).alloc (Nat.le_refl _) _, by simp, fun j hj => ⟨by simp [go_sem], ?_⟩, fun j hj => by omega⟩⟩
    rw [World.cell?_alloc_at (hn := rfl), cellsOf_get _ _ _ hj]; rfl
  case round =>
    obtain ⟨i, hin, rfl, HI⟩ := hrel
    by_cases hlt : i < n
    · have h1 : (i : Int) < (n : Int) := by omega
      obtain ⟨fz, hs⟩ := HI.out.room i hlt
      obtain ⟨v0, hv0⟩ := Option.isSome_iff_exists.1 hs
      obtain ⟨b, off, rfl, hb, c0⟩ := HC.out i (by have := HN.out; omega)
      have c1 := (HI.out.bel.cell (p := ⟨b, off + i, none⟩) hb).trans c0
      clear hs c0
      go_wp2
      go_roundw
      case rel => exact ⟨i + 1, by omega, by go_num, HI.out.step hlt⟩
      case measure => simp [intOf]; omega
    · obtain rfl : i = n := by omega
      go_wp2
      go_ret
      refine ⟨_, _, _, rfl, Or.inr ⟨W.heap.size, 0, i, by rw [HN.out], HI.out.lt, fun j u hj => ?_⟩, HI.out.bel⟩
      obtain ⟨h1, rfl⟩ := u8s_get hj
      rw [Nat.zero_add]
      exact HI.out.done j (by have := HN.out; omega)
end Go.Proofs.Qxb6614277a
