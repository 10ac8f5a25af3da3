import Derived.Test.Qxb6614373aRows
import Derived.WalkKit
import Derived.WalkSpells
import Derived.WalkLawsBesides
import Derived.Laws.MakeOwn
import Derived.Deep.QuietTactic
import Derived.BigQuiet
import Derived.WalkSmall
import Derived.Lib.Hide
namespace Go.Proofs.Qxb6614373a
open Go.RowKit

/-- n cells that hold v each: a name of its own, so that the walk leaves it standing. -/
def cellsOf (n : Nat) (v : Value) : Array Value := Array.replicate n v

theorem cellsOf_get (n : Nat) (v : Value) (i : Nat) (h : i < n) : (cellsOf n v)[i]? = some v := by
  unfold cellsOf; rw [Array.getElem?_replicate, if_pos h]

theorem made_one (n : Nat) (v : Value) : madeCells #[v] (n * 1) = cellsOf n v := by
  unfold madeCells cellsOf
  apply Array.ext
  · simp
  · intro i h1 h2
    simp [Nat.mod_one]

/-- 'make([]*Request, n)', as the walk meets it. -/
theorem make_reqs (n : Nat) (hn : n ≤ 17592186044416) (W : World) :
    (Instr.makeSlice 62 (.int .i64 (n : Int)) (.int .i64 (n : Int))).run Try.prog W = .ok (.slice (some ⟨W.heap.size, 0, none⟩) n n) (W.alloc (.cells (cellsOf n (.pointer none)) 102)) := by
  have := run_make (P := Try.prog) W 62 102 Try.t102 (.pointer none) Try.underlying62 (by kernel_rfl) rfl .i64 .i64 (n : Int) (n : Int) (by omega) (by omega) (by show (8 : Int) * _ ≤ _; omega) (by omega)
  rw [this]
  simp only [Int.toNat_natCast]
  rw [show (Value.pointer none).cells = #[Value.pointer none] from rfl, show Try.t102.size = 1 from rfl, made_one]

theorem eql_nil {t e : TypeId} (a : Option Addr) (l c : Nat) (W : World) (h : Try.prog.underlying t = some (.slice e)) : (binOp .eql t (.slice a l c) (.slice none 0 0)).run Try.prog W = .ok (.bool a.isNone) W := by
  simp only [binOp]
  rw [Sem.run_bind, run_equal_slice_nil W t e a l c h]
  rfl

/-- The Request that zzRequests makes: all fields zero but the number in the queue. -/
def reqCells (conv : Bool) (x : Int) : Array Value :=
  #[.pointer none, .pointer none, .int .u8 0, .int .u8 0, .bool false, .bool conv, .bool false, .int .u64 x, .slice none 0 0, .chan none, .nilIface, .pointer none]

/-- n pointers lie in block b, each to a Request of the blocks from lo up to hi, with the numbers s. -/
def ReqRow (W : World) (lo hi b n : Nat) (s : Nat → Int) : Prop :=
  lo ≤ b ∧ b < hi ∧ ∀ j, j < n → ∃ q, lo ≤ q ∧ q < hi ∧ W.cell? ⟨b, j, none⟩ = some (.pointer (some ⟨q, 0, none⟩)) ∧ W.cell? ⟨q, 7, none⟩ = some (.int .u64 (s j))

/-- What the rounds of zzRequests keep. -/
def ReqInv (w wr : World) (n k : Nat) (s : Nat → Int) : Prop :=
  Below w.heap.size w wr ∧ w.heap.size < wr.heap.size ∧ (∀ j, j < n → wr.frozen? ⟨w.heap.size, j, none⟩ = false ∧ (wr.cell? ⟨w.heap.size, j, none⟩).isSome = true) ∧
  ∀ j, j < k → ∃ q, w.heap.size < q ∧ q < wr.heap.size ∧ wr.cell? ⟨w.heap.size, j, none⟩ = some (.pointer (some ⟨q, 0, none⟩)) ∧ wr.cell? ⟨q, 7, none⟩ = some (.int .u64 (s j))

theorem ReqInv.step {w wr : World} {n k : Nat} {s : Nat → Int} (h : ReqInv w wr n k s) (hk : k < n) {A : Array Value} {t : TypeId} (hA : A[7]? = some (.int .u64 (s k))) :
    ReqInv w ((wr.setCell ⟨w.heap.size, k, none⟩ (.pointer (some ⟨wr.heap.size, 0, none⟩))).alloc (.cells A t)) n (k + 1) s := by
  obtain ⟨hb, hs, hr, hq⟩ := h
  obtain ⟨hf, hc⟩ := hr k hk
  obtain ⟨v, hv⟩ := Option.isSome_iff_exists.1 hc
  have hsz : (wr.setCell ⟨w.heap.size, k, none⟩ (.pointer (some ⟨wr.heap.size, 0, none⟩))).heap.size = wr.heap.size := by simp [World.setCell]
  have hold : ∀ b o, b < wr.heap.size → ((wr.setCell ⟨w.heap.size, k, none⟩ (.pointer (some ⟨wr.heap.size, 0, none⟩))).alloc (.cells A t)).cell? ⟨b, o, none⟩ = (wr.setCell ⟨w.heap.size, k, none⟩ (.pointer (some ⟨wr.heap.size, 0, none⟩))).cell? ⟨b, o, none⟩ := fun b o hbo =>
    World.cell?_alloc_past (hn := by rw [hsz]; exact hbo) ..
  refine ⟨(hb.setCell (Nat.le_refl _) _).alloc (by rw [hsz]; omega) _, by simp; omega, fun j hj => ⟨?_, ?_⟩, fun j hj => ?_⟩
  · rw [World.frozen?_alloc_past (hn := by rw [hsz]; exact hs), World.frozen?_setCell]; exact (hr j hj).1
  · rw [hold _ _ hs]
    by_cases e : j = k
    · subst e; rw [World.cell?_setCell_same _ _ _ hv]; rfl
    · rw [World.cell?_setCell_other _ _ _ _ (by intro h; injection h; omega)]; exact (hr j hj).2
  · by_cases e : j = k
    · subst e
      refine ⟨wr.heap.size, hs, by simp, ?_, ?_⟩
      · rw [hold _ _ hs, World.cell?_setCell_same _ _ _ hv]
      · rw [World.cell?_alloc_at (hn := hsz.symm)]; exact hA
    · obtain ⟨q, h1, h2, h3, h4⟩ := hq j (by omega)
      refine ⟨q, h1, by simp; omega, ?_, ?_⟩
      · rw [hold _ _ hs, World.cell?_setCell_other _ _ _ _ (by intro h; injection h; omega)]; exact h3
      · rw [hold _ _ h2, World.cell?_setCell_other _ _ _ _ (by intro h; injection h; omega)]; exact h4

set_option maxRecDepth 100000 in
set_option maxHeartbeats 400000 in
theorem req_some (s : Nat → Int) (n b off cap : Nat) (c : Int) (w : World) (hn : (n : Int) ≤ 17592186044416) (hs : ∀ j, j < n → w.cell? ⟨b, off + j, none⟩ = some (.int .u64 (s j))) (hb : b < w.heap.size) :
    Calls Try.prog 28 #[.slice (some ⟨b, off, none⟩) n cap, .bool false, .int .i32 c] w fun e w' => e = .returned (.slice (some ⟨w.heap.size, 0, none⟩) n n) ∧ Below w.heap.size w w' ∧ ReqRow w' w.heap.size w'.heap.size w.heap.size n s := by
  have HS := Lib.hid hs
  clear hs
  have hmk := make_reqs n (by omega)
  have heq : ∀ W, (binOp .eql 44 (.slice (some ⟨b, off, none⟩) n cap) (.slice none 0 0)).run Try.prog W = .ok (.bool false) W := fun W => eql_nil (e := 48) _ _ _ W Try.underlying44
  go_enter Try.func28, Try.ntmps28
  go_wp2
  go_loopw [8] (fun i wr => ∃ k : Nat, k ≤ n ∧ i = .int .i64 k ∧ ReqInv w wr n k s) (fun i _ => n - (intOf i).toNat)
  case atStart =>
    refine ⟨0, by omega, rfl, (Below.refl _ _).alloc (Nat.le_refl _) _, by simp, fun j hj => ⟨by simp [go_sem], ?_⟩, fun j hj => by omega⟩
    rw [World.cell?_alloc_at (hn := rfl), cellsOf_get _ _ _ hj]; rfl
  case round =>
    obtain ⟨k, hk, rfl, hI⟩ := hrel
    by_cases hlt : k < n
    · obtain ⟨hfz, hsome⟩ := hI.2.2.1 k hlt
      obtain ⟨v0, hv0⟩ := Option.isSome_iff_exists.1 hsome
      have hc := (hI.1.cell (p := ⟨b, off + k, none⟩) hb).trans (HS.out k hlt)
      have h1 : (k : Int) < (n : Int) := by omega
      have hsz := hI.2.1
      clear hsome
      go_wp2
      all_goals
        go_roundw
        case rel => exact ⟨k + 1, by omega, by go_num, hI.step hlt rfl⟩
        case measure => simp [intOf]; omega
    · obtain rfl : k = n := by omega
      go_wp2
      go_ret
      exact ⟨rfl, hI.1, Nat.le_refl _, hI.2.1, fun j hj => by obtain ⟨q, h1, h2, h3, h4⟩ := hI.2.2.2 j hj; exact ⟨q, by omega, h2, h3, h4⟩⟩

set_option maxRecDepth 100000 in
theorem req_nil (l cap : Nat) (c : Int) (w : World) :
    Calls Try.prog 28 #[.slice none l cap, .bool false, .int .i32 c] w fun e w' => e = .returned (.slice none 0 0) ∧ w' = w := by
  have heq : ∀ W, (binOp .eql 44 (.slice none l cap) (.slice none 0 0)).run Try.prog W = .ok (.bool true) W := fun W => eql_nil (e := 48) _ _ _ W Try.underlying44
  go_enter Try.func28, Try.ntmps28
  go_wp2
  go_ret
  exact ⟨rfl, rfl⟩
set_option maxRecDepth 100000 in
set_option maxHeartbeats 400000 in
/-- An empty slice that is not nil, wherever it leads. -/
theorem req_empty (a : Addr) (cap : Nat) (c : Int) (w : World) :
    Calls Try.prog 28 #[.slice (some a) 0 cap, .bool false, .int .i32 c] w fun e w' => e = .returned (.slice (some ⟨w.heap.size, 0, none⟩) 0 0) ∧ Below w.heap.size w w' ∧ w.heap.size < w'.heap.size := by
  have hmk : ∀ W, (Instr.makeSlice 62 (.int .i64 0) (.int .i64 0)).run Try.prog W = .ok (.slice (some ⟨W.heap.size, 0, none⟩) 0 0) (W.alloc (.cells (cellsOf 0 (.pointer none)) 102)) := fun W => make_reqs 0 (by omega) W
  have heq : ∀ W, (binOp .eql 44 (.slice (some a) 0 cap) (.slice none 0 0)).run Try.prog W = .ok (.bool false) W := fun W => eql_nil (e := 48) _ _ _ W Try.underlying44
  go_enter Try.func28, Try.ntmps28
  go_wp2
  go_loopw [8] (fun i wr => i = .int .i64 0 ∧ Below w.heap.size w wr ∧ w.heap.size < wr.heap.size) (fun _ _ => 0)
  case atStart => exact ⟨rfl, (Below.refl _ _).alloc (Nat.le_refl _) _, by simp⟩
  case round =>
    obtain ⟨rfl, h1, h2⟩ := hrel
    go_wp2
    go_ret
    exact ⟨rfl, h1, h2⟩
end Go.Proofs.Qxb6614373a
