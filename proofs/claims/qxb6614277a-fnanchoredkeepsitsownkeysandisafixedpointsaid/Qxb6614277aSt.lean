import Derived.Test.Qxb6614277aSplit
import Derived.WalkKit
import Derived.WalkSpells
import Derived.WalkLawsBesides
import Derived.Deep.QuietTactic
import Derived.BigQuiet
import Derived.BigRegion
import Derived.Deep.RegionWith
import Derived.Deep.DrawnRows
import Derived.WalkSmall
import Derived.Lib.Hide
import Derived.Below
namespace Go.Proofs.Qxb6614277a
open Go.RowKit

/-! ### A world, some draws and some blocks later -/
structure Aft where
  n : Nat
  os : Array Obj
  deriving Inhabited
def aft (w : World) (p : Aft) : World := { w with heap := w.heap ++ p.os, drawn := p.n }

theorem aft_size (w : World) (p : Aft) : w.heap.size ≤ (aft w p).heap.size := by unfold aft; simp
theorem aft_block (w : World) (p : Aft) (k : Nat) (h : k < w.heap.size) : (aft w p).heap[k]? = w.heap[k]? := by
  unfold aft
  show (w.heap ++ p.os)[k]? = _
  rw [Array.getElem?_append_left h]
theorem aft_cell {w : World} {a : Addr} {v : Value} (h : w.cell? a = some v) (p : Aft) : (aft w p).cell? a = some v := by
  have hb : a.block < w.heap.size := by
    apply Classical.byContradiction
    intro hn
    unfold World.cell? at h
    rw [Array.getElem?_eq_none (by omega)] at h
    cases h
  unfold World.cell? at *
  rw [aft_block w p _ hb]
  exact h
theorem below_aft (w : World) (p : Aft) : Below w.heap.size w (aft w p) := ⟨rfl, rfl, rfl, aft_size w p, fun k hk => aft_block w p k hk⟩
theorem aft_of_below {w w' : World} (h : Below w.heap.size w w') : ∃ p : Aft, w' = aft w p := by
  obtain ⟨h1, h2, h3, h4, h5⟩ := h
  refine ⟨⟨w'.drawn, w'.heap.extract w.heap.size w'.heap.size⟩, ?_⟩
  unfold aft
  have e : w.heap ++ w'.heap.extract w.heap.size w'.heap.size = w'.heap := by
    apply Array.ext_getElem?
    intro i
    by_cases hi : i < w.heap.size
    · rw [Array.getElem?_append_left hi, h5 i hi]
    · rw [Array.getElem?_append_right (by omega), Array.getElem?_extract]
      by_cases hj : i < w'.heap.size
      · rw [if_pos (by omega)]
        congr 1; omega
      · rw [if_neg (by omega), Array.getElem?_eq_none (by omega)]
  simp only [e, ← h1, ← h2, ← h3]

theorem wp_region_aft {P : Program} {id : Nat} {Q : Exit → Act → World → Prop} {a : Act} {w : World} {l : List Oper} (hm : P.follows .mixedOrders = true) (hB : Region.lexB .any l.toArray = true)
    (h : wpQuiet P l.toArray (fun w' => ∃ p : Aft, w' = aft w p) (fun a' => ∀ w', (∃ p : Aft, w' = aft w p) → Q .normal a' w') l a) : (Code.region id l.toArray true).wp P Q a w :=
  wp_region_quiet (C := fun w' => ∃ p : Aft, w' = aft w p) hm hB ⟨⟨w.drawn + 1, #[]⟩, by unfold aft; simp⟩ (by simpa using h)

/-- A callee that only lays blocks, met in a world of the class. -/
theorem aft_call {P : Program} {f : FuncId} {args : Array Value} {w : World} {p : Aft} {v : Value} (h : Calls P f args (aft w p) fun e w' => e = .returned v ∧ Below (aft w p).heap.size (aft w p) w') :
    Calls P f args (aft w p) fun e w'' => e = .returned v ∧ ∃ p : Aft, w'' = aft w p :=
  h.mono fun _ _ ⟨he, hb⟩ => ⟨he, aft_of_below ((below_aft w p).trans (hb.mono (aft_size w p)))⟩

/-! ### The row that is sorted -/

/-- Block blk holds n pointers, to the blocks f 0, f 1, ... -/
def Ptrs (W : World) (blk n : Nat) (f : Nat → Nat) : Prop :=
  blk < W.heap.size ∧ ∀ i, i < n → W.cell? ⟨blk, i, none⟩ = some (.pointer (some ⟨f i, 0, none⟩)) ∧ W.frozen? ⟨blk, i, none⟩ = false

def cmp3 (a b : Nat) : Int := if a < b then -1 else if b < a then 1 else 0
theorem cmp3_neg {a b : Nat} : cmp3 a b < 0 ↔ a < b := by unfold cmp3; repeat' split
                                                          all_goals omega

/-- What the comparison answers, in every world that has the blocks below blk as w0 has them. -/
def CmpOK (blk : Nat) (tg : Nat → Nat) (Q : Nat → Prop) (w0 : World) : Prop :=
  ∀ W, Below blk w0 W → blk < W.heap.size → ∀ x y, Q x → Q y → Calls Try.prog 28 #[.pointer (some ⟨x, 0, none⟩), .pointer (some ⟨y, 0, none⟩)] W fun e W' => e = .returned (.int .i64 (cmp3 (tg x) (tg y))) ∧ Below W.heap.size W W'

/-- The state of a sort. -/
structure St (Q : Nat → Prop) (w0 : World) (blk n : Nat) (f : Nat → Nat) (W : World) : Prop where
  bel : Below blk w0 W
  row : Ptrs W blk n f
  all : ∀ i, i < n → Q (f i)

theorem St.aft {Q : Nat → Prop} {w0 : World} {blk n : Nat} {f : Nat → Nat} {W : World} (h : St Q w0 blk n f W) (p : Aft) : St Q w0 blk n f (aft W p) := by
  obtain ⟨h1, ⟨h2, h3⟩, h4⟩ := h
  refine ⟨h1.trans ((below_aft W p).mono (by omega)), ⟨Nat.lt_of_lt_of_le h2 (aft_size W p), fun i hi => ⟨aft_cell (h3 i hi).1 p, ?_⟩⟩, h4⟩
  have := (below_aft W p).frozen (p := ⟨blk, i, none⟩) h2
  rw [this]; exact (h3 i hi).2
theorem St.drewN {Q : Nat → Prop} {w0 : World} {blk n : Nat} {f : Nat → Nat} {W : World} (h : St Q w0 blk n f W) (d : Nat) : St Q w0 blk n f (W.drewN d) :=
  ⟨⟨h.bel.os, h.bel.tape, h.bel.output, h.bel.size, h.bel.block⟩, h.row, h.all⟩

theorem St.swap {Q : Nat → Prop} {w0 : World} {blk n : Nat} {f : Nat → Nat} {W : World} (h : St Q w0 blk n f W) {i j : Nat} (hi : i < n) (hj : j < n) :
    St Q w0 blk n (swp f i j) ((W.setCell ⟨blk, i, none⟩ (.pointer (some ⟨f j, 0, none⟩))).setCell ⟨blk, j, none⟩ (.pointer (some ⟨f i, 0, none⟩))) := by
  obtain ⟨h1, ⟨h2, h3⟩, h4⟩ := h
  have hsz : ∀ (W : World) a v, (W.setCell a v).heap.size = W.heap.size := fun W a v => by simp [World.setCell]
  refine ⟨(h1.setCell (Nat.le_refl _) _).setCell (Nat.le_refl _) _, ⟨by rw [hsz, hsz]; exact h2, fun x hx => ⟨?_, ?_⟩⟩, fun x hx => ?_⟩
  · by_cases ej : x = j
    · subst ej
      by_cases ei : x = i
      · subst ei
        rw [World.cell?_setCell_same (h := (World.cell?_setCell_same (h := (h3 x hx).1) ..))]
        rw [swp_l]
      · rw [World.cell?_setCell_same (h := (World.cell?_setCell_other (h := by intro e; injection e; omega) ..).trans (h3 x hx).1)]
        rw [swp_r]
    · rw [World.cell?_setCell_other _ _ _ _ (by intro e; injection e; omega)]
      by_cases ei : x = i
      · subst ei
        rw [World.cell?_setCell_same _ _ _ (h3 x hx).1, swp_l]
      · rw [World.cell?_setCell_other _ _ _ _ (by intro e; injection e; omega), swp_o _ ei ej]
        exact (h3 x hx).1
  · rw [World.frozen?_setCell, World.frozen?_setCell]; exact (h3 x hx).2
  · by_cases ei : x = i
    · subst ei; rw [swp_l]; exact h4 _ hj
    · by_cases ej : x = j
      · subst ej; rw [swp_r]; exact h4 _ hi
      · rw [swp_o _ ei ej]; exact h4 _ hx
end Go.Proofs.Qxb6614277a
