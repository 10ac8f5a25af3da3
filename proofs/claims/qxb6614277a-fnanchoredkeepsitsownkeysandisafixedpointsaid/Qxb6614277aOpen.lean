import Derived.Test.Qxb6614277aLawFive
import Derived.ProofKit
import Derived.OpenShut
import Derived.ShutString
import Derived.ChangeOld
import Derived.Below
import Derived.Carry
import Derived.SizedLaws
import Derived.Deep.Matrix
import Derived.Lib.SmallJoins
namespace Go.Proofs.Qxb6614277a
open Go.ChangeShapes Go.WideShapes Go.ChangeAt Go.RowKit Go.Deep
set_option linter.unusedVariables false

theorem cells48 : Try.prog.cellsOf 48 = 4 := by kernel_rfl
theorem cells22 : Try.prog.cellsOf 22 = 1 := by kernel_rfl
theorem cells23 : Try.prog.cellsOf 23 = 1 := by kernel_rfl
theorem cells5 : Try.prog.cellsOf 5 = 1 := by kernel_rfl

theorem cell_there {w : World} {a : Addr} {v : Value} (h : w.cell? a = some v) : a.block < w.heap.size := by
  apply Classical.byContradiction
  intro hn
  unfold World.cell? at h
  rw [Array.getElem?_eq_none (by omega)] at h
  cases h

theorem nat_u16 {x : Int} (h : (Lit.int .u16 x).wf = true) : ∃ n : Nat, x = (n : Int) ∧ n < 65536 := by
  simp [Lit.wf, IntKind.min, IntKind.max, IntKind.bits, IntKind.signed] at h
  exact ⟨x.toNat, by omega, by omega⟩
theorem nat_u8 {x : Int} (h : (Lit.int .u8 x).wf = true) : ∃ n : Nat, x = (n : Int) ∧ n < 256 := by
  simp [Lit.wf, IntKind.min, IntKind.max, IntKind.bits, IntKind.signed] at h
  exact ⟨x.toNat, by omega, by omega⟩

variable {H : Type} {enc : TypeId × Value → H} {W : World} {base : Nat} {spare : Nat → Bool} {held : Bool}

/-- A slice of bytes that came in. -/
theorem open_bytes {fuel : Nat} {v : Value} {x : DataW H × List MemPlace} (h : DataW.trod enc Try.prog W base spare held fuel 23 [v] = some x) : ∃ l : List Nat, (∀ y ∈ l, y < 256) ∧ BytesAt W W.heap.size v l := by
  rcases open_ints Try.underlying23 Try.underlying5 cells5 h with ⟨hcs, _⟩ | ⟨a, len, cap, zs, hcs, _, hl, hm, hz, hx, hcell, hwz⟩
  · simp at hcs
    subst hcs
    exact ⟨[], by simp, Or.inl (Or.inl ⟨rfl, rfl⟩)⟩
  · simp at hcs
    subst hcs
    have hlz : len ≤ zs.length := by rw [hz]; split <;> omega
    have hb : ∀ y ∈ zs, ∃ n : Nat, y = (n : Int) ∧ n < 256 := fun y hy => nat_u8 (hwz y hy)
    refine ⟨(zs.take len).map Int.toNat, ?_, ?_⟩
    · intro y hy
      obtain ⟨z, hz1, rfl⟩ := List.mem_map.1 hy
      obtain ⟨n, e, hn⟩ := hb z (List.mem_of_mem_take hz1)
      omega
    · rcases Nat.eq_zero_or_pos len with h0 | hp
      · subst h0
        exact Or.inl (Or.inr ⟨a, cap, rfl, by simp⟩)
      · obtain ⟨ab, ao, asp⟩ := a
        have hc0 := hcell 0 (by omega)
        have has : asp = none := by simpa [Addr.add] using World.cell?_spot hc0
        subst has
        refine Or.inr ⟨ab, ao, cap, by simp; omega, cell_there hc0, fun j u hj => ?_⟩
        obtain ⟨hj1, rfl⟩ := u8s_get hj
        have hjl : j < len := by simp at hj1; omega
        have hc := hcell j (by omega)
        rw [add_plain] at hc
        rw [hc]
        have e1 : zs.getD j 0 = zs[j]'(by omega) := by rw [List.getD_eq_getElem?_getD, List.getElem?_eq_getElem (by omega)]; rfl
        obtain ⟨n, e, hn⟩ := hb (zs[j]'(by omega)) (List.getElem_mem _)
        have e2 : ((zs.take len).map Int.toNat).getD j 0 = n := by
          rw [List.getD_eq_getElem?_getD, List.getElem?_map, List.getElem?_take_of_lt hjl, List.getElem?_eq_getElem (by omega), e]
          simp
        rw [e1, e, e2]

/-- A drawn key: four cells. -/
theorem open_key {fuel : Nat} {cs : List Value} {x : DataW H × List MemPlace} (h : DataW.trod enc Try.prog W base spare held fuel 48 cs = some x) :
    ∃ (k : Key) (v : Value), cs = [.int .u16 k.fl, .int .u8 k.pr, .int .u8 k.al, v] ∧ k.raw ∧ BytesAt W W.heap.size v k.pk := by
  obtain ⟨y0, y1, y2, y3, n, _, hlen, h0, h1, h2, h3⟩ := Joins.trod_struct4 Try.underlying48 h
  rw [cells48] at hlen
  match cs, hlen with
  | [c0, c1, c2, c3], _ =>
    simp only [cells22, cells23, cells5, List.drop, List.take] at h0 h1 h2 h3
    obtain ⟨n0, e0, _, w0⟩ := DataW.trod_int Try.underlying22 h0
    obtain ⟨n1, e1, _, w1⟩ := DataW.trod_int Try.underlying5 h1
    obtain ⟨n2, e2, _, w2⟩ := DataW.trod_int Try.underlying5 h2
    simp at e0 e1 e2
    subst e0 e1 e2
    obtain ⟨a0, rfl, b0⟩ := nat_u16 w0
    obtain ⟨a1, rfl, b1⟩ := nat_u8 w1
    obtain ⟨a2, rfl, b2⟩ := nat_u8 w2
    obtain ⟨l, hl, hb⟩ := open_bytes h3
    exact ⟨⟨a0, a1, a2, l⟩, c3, rfl, ⟨b0, b1, b2, hl⟩, hb⟩

theorem cells_four {w : World} {a : Addr} {b : Nat} {c0 c1 c2 c3 : Value} (h : w.cells? b a 4 = some [c0, c1, c2, c3]) : w.cell? (a.add 0) = some c0 ∧ w.cell? (a.add 1) = some c1 ∧ w.cell? (a.add 2) = some c2 ∧ w.cell? (a.add 3) = some c3 := by
  obtain ⟨_, _, hc⟩ := World.cells?_some h
  exact ⟨hc 0 (by omega), hc 1 (by omega), hc 2 (by omega), hc 3 (by omega)⟩

instance : Inhabited Key := ⟨⟨0, 0, 0, []⟩⟩

/-- A slice of drawn keys that came in. -/
theorem open_keys {fuel : Nat} {a : Option Addr} {len cap : Nat} {x : DataW H × List MemPlace} (h : DataW.trod enc Try.prog W base spare held fuel 34 [.slice a len cap] = some x) :
    (len : Int) ≤ 9223372036854775807 ∧ ∃ ks : List Key, len = ks.length ∧ (∀ k ∈ ks, k.raw) ∧ ZAt W a ks := by
  rcases open_slice Try.underlying34 h with ⟨hcs, _⟩ | ⟨a', len', cap', m, n, D, Pl, hcs, _, hl, hm, hmm, hx, hi⟩
  · simp at hcs
    obtain ⟨rfl, rfl, rfl⟩ := hcs
    exact ⟨by omega, [], rfl, by simp, fun i k hi => by simp at hi⟩
  · simp at hcs
    obtain ⟨rfl, rfl, rfl⟩ := hcs
    have hlm : len ≤ m := by rw [hmm]; split <;> omega
    refine ⟨by unfold maxLen at hm; omega, ?_⟩
    have each : ∀ i, i < len → ∃ (k : Key), k.raw ∧ ∃ v, BytesAt W W.heap.size v k.pk ∧ W.cells? base (a'.add (i * 4)) 4 = some [.int .u16 k.fl, .int .u8 k.pr, .int .u8 k.al, v] := by
      intro i hlt
      obtain ⟨cs, h1, h2⟩ := hi i (by omega)
      rw [cells48] at h1
      obtain ⟨k, v, rfl, hr, hb⟩ := open_key h2
      exact ⟨k, hr, v, hb, h1⟩
    obtain ⟨K, hK⟩ := choose_lt (α := Key) (p := fun i k => k.raw ∧ ∃ v, BytesAt W W.heap.size v k.pk ∧ W.cells? base (a'.add (i * 4)) 4 = some [.int .u16 k.fl, .int .u8 k.pr, .int .u8 k.al, v]) each
    refine ⟨(List.range len).map K, by simp, ?_, ?_⟩
    · intro k hk
      obtain ⟨i, hi1, rfl⟩ := List.mem_map.1 hk
      exact (hK i (List.mem_range.1 hi1)).1
    · intro i k hk
      rw [List.getElem?_map] at hk
      have hlt : i < len := by
        apply Nat.lt_of_not_le
        intro hc
        rw [List.getElem?_eq_none (by simp; exact hc)] at hk
        simp at hk
      rw [List.getElem?_range hlt] at hk
      simp at hk
      subst hk
      obtain ⟨_, v, hb, hc⟩ := hK i hlt
      obtain ⟨c0, c1, c2, c3⟩ := cells_four hc
      obtain ⟨ab, ao, asp⟩ := a'
      have has : asp = none := by
        obtain ⟨_, v', _, hc'⟩ := hK 0 (by omega)
        simpa [Addr.add] using World.cell?_spot (cells_four hc').1
      subst has
      rw [add_plain] at c0 c1 c2 c3
      rw [add_plain] at c0 c1 c2 c3
      exact ⟨ab, ao, v, rfl, cell_there c0, c0, c1, c2, c3, hb⟩
end Go.Proofs.Qxb6614277a
