import Derived.Test.Qxb6614277aBuild
namespace Go.Proofs.Qxb6614277a
open Go.RowKit

set_option maxRecDepth 100000 in
theorem clone_nil (W : World) : Calls Try.prog 21 #[.slice none 0 0] W fun e W' => e = .returned (.slice none 0 0) ∧ W' = W := by
  have heq : ∀ W, (binOp .eql 23 (.slice none 0 0) (.slice none 0 0)).run Try.prog W = .ok (.bool true) W := fun W => eql_nil (e := 5) _ _ _ W Try.underlying23
  go_enter Try.func21, Try.ntmps21
  go_wp2
  go_ret
  exact ⟨rfl, rfl⟩

theorem clone_any (v : Value) (l : List Nat) (W : World) (hl : l.length ≤ 1048576) (h : BytesAt W W.heap.size v l) :
    Calls Try.prog 21 #[v] W fun e W' => ∃ va vl vc, e = .returned (.slice va vl vc) ∧ BytesAt W' W'.heap.size (.slice va vl vc) l ∧ Below W.heap.size W W' := by
  rcases h with (⟨rfl, rfl⟩ | ⟨a, cap, rfl, rfl⟩) | ⟨b, off, cap, rfl, hb, hc⟩
  · exact (clone_nil W).mono fun e W' ⟨he, hw⟩ => ⟨_, _, _, he, Or.inl (Or.inl ⟨rfl, rfl⟩), by rw [hw]; exact Below.refl _ _⟩
  · exact clone_some a cap [] W hl (fun i hi => by simp at hi)
  · refine clone_some ⟨b, off, none⟩ cap l W hl (fun i hi => ⟨b, off, rfl, hb, ?_⟩)
    refine hc i _ ?_
    unfold u8s
    rw [List.getElem?_map, List.getElem?_eq_getElem hi, List.getD_eq_getElem?_getD, List.getElem?_eq_getElem hi]
    rfl

/-- The drawn keys: 4 cells each. -/
def ZAt (W : World) (la : Option Addr) (ks : List Key) : Prop :=
  ∀ i k, ks[i]? = some k → ∃ lb lo v, la = some ⟨lb, lo, none⟩ ∧ lb < W.heap.size ∧ W.cell? ⟨lb, lo + i * 4, none⟩ = some (.int .u16 k.fl) ∧ W.cell? ⟨lb, lo + (i * 4 + 1), none⟩ = some (.int .u8 k.pr) ∧
    W.cell? ⟨lb, lo + (i * 4 + 2), none⟩ = some (.int .u8 k.al) ∧ W.cell? ⟨lb, lo + (i * 4 + 3), none⟩ = some v ∧ BytesAt W W.heap.size v k.pk

theorem ZAt.below {W W' : World} {la : Option Addr} {ks : List Key} (h : ZAt W la ks) (hb : Below W.heap.size W W') : ZAt W' la ks := by
  intro i k hi
  obtain ⟨lb, lo, v, e, h1, h2, h3, h4, h5, h6⟩ := h i k hi
  have c : ∀ o, W'.cell? ⟨lb, o, none⟩ = W.cell? ⟨lb, o, none⟩ := fun o => hb.cell (p := ⟨lb, o, none⟩) h1
  exact ⟨lb, lo, v, e, Nat.lt_of_lt_of_le h1 hb.size, by rw [c]; exact h2, by rw [c]; exact h3, by rw [c]; exact h4, by rw [c]; exact h5, (h6.below hb (Nat.le_refl _)).mono hb.size⟩
end Go.Proofs.Qxb6614277a
