import Derived.Test.Qxb6614277aAnc
import Derived.Laws.MakeOwn
namespace Go.Proofs.Qxb6614277a
open Go.RowKit

/-- n cells that hold v each. -/
def cellsOf (n : Nat) (v : Value) : Array Value := Array.replicate n v
theorem cellsOf_get (n : Nat) (v : Value) (i : Nat) (h : i < n) : (cellsOf n v)[i]? = some v := by
  unfold cellsOf; rw [Array.getElem?_replicate, if_pos h]
theorem made_one (n : Nat) (v : Value) : madeCells #[v] (n * 1) = cellsOf n v := by
  unfold madeCells cellsOf
  apply Array.ext
  · simp
  · intro i h1 h2
    simp [Nat.mod_one]

theorem make_anc (n : Nat) (hn : n ≤ 1048576) (W : World) :
    (Instr.makeSlice 50 (.int .i64 (n : Int)) (.int .i64 (n : Int))).run Try.prog W = .ok (.slice (some ⟨W.heap.size, 0, none⟩) n n) (W.alloc (.cells (cellsOf n .nilIface) 52)) := by
  have := run_make (P := Try.prog) W 50 52 Try.t52 .nilIface Try.underlying50 (by kernel_rfl) rfl .i64 .i64 (n : Int) (n : Int) (by omega) (by omega) (by show (16 : Int) * _ ≤ _; omega) (by omega)
  rw [this]
  simp only [Int.toNat_natCast]
  rw [show (Value.nilIface).cells = #[Value.nilIface] from rfl, show Try.t52.size = 1 from rfl, made_one]

structure ZZInv (W wr : World) (n i : Nat) (As : List Nat) : Prop where
  bel : Below W.heap.size W wr
  lt : W.heap.size < wr.heap.size
  room : ∀ j, j < n → wr.frozen? ⟨W.heap.size, j, none⟩ = false ∧ (wr.cell? ⟨W.heap.size, j, none⟩).isSome = true
  done : ∀ j, j < i → wr.cell? ⟨W.heap.size, j, none⟩ = some (.iface 25 (.pointer (some ⟨As.getD j 0, 0, none⟩)))

theorem ZZInv.step {W wr : World} {n i : Nat} {As : List Nat} (h : ZZInv W wr n i As) (hi : i < n) : ZZInv W (wr.setCell ⟨W.heap.size, i, none⟩ (.iface 25 (.pointer (some ⟨As.getD i 0, 0, none⟩)))) n (i + 1) As := by
  obtain ⟨h1, h2, h3, h4⟩ := h
  obtain ⟨hf, hc⟩ := h3 i hi
  obtain ⟨v, hv⟩ := Option.isSome_iff_exists.1 hc
  refine ⟨h1.setCell (Nat.le_refl _) _, by simp [World.setCell]; omega, fun j hj => ⟨?_, ?_⟩, fun j hj => ?_⟩
  · rw [World.frozen?_setCell]; exact (h3 j hj).1
  · by_cases e : j = i
    · subst e; rw [World.cell?_setCell_same _ _ _ hv]; rfl
    · rw [World.cell?_setCell_other _ _ _ _ (by intro h; injection h; omega)]; exact (h3 j hj).2
  · by_cases e : j = i
    · subst e; rw [World.cell?_setCell_same _ _ _ hv]
    · rw [World.cell?_setCell_other _ _ _ _ (by intro h; injection h; omega)]; exact h4 j (by omega)

set_option maxHeartbeats 1000000 in
set_option maxRecDepth 100000 in
theorem zz_any (ka : Option Addr) (kcap : Nat) (Ks : List Nat) (KK : Nat → Key) (aa : Option Addr) (acap : Nat) (As : List Nat) (tg : Nat → Nat) (W : World)
    (hn : Ks.length ≤ 1048576) (hna : As.length ≤ 1048576) (hp : PtrIn W ka Ks) (ha : PtrIn W aa As)
    (hk : ∀ q ∈ Ks, (KK q).ok ∧ KeyAt W W.heap.size q (KK q) ∧ tg q = tagOf (KK q)) (hka : ∀ q ∈ As, (KK q).ok ∧ KeyAt W W.heap.size q (KK q)) (hris : Ks.Pairwise fun x y => tg x = tg y → x < y) :
    Calls Try.prog 14 #[.slice ka Ks.length kcap, .slice aa As.length acap] W fun e W' => ∃ (v : Value) (R : List Nat), e = .returned v ∧ R.Perm (Ks.filter fun q => hit (KK q) (fun j => KK (As.getD j 0)) As.length) ∧ R.Pairwise (lt tg) ∧ Res W W' v R ∧ Below W.heap.size W W' := by
  obtain ⟨n, hnn⟩ : ∃ n, n = Ks.length := ⟨_, rfl⟩
  obtain ⟨m, hm⟩ : ∃ m, m = As.length := ⟨_, rfl⟩
  rw [← hnn] at hn ⊢
  rw [← hm] at hna ⊢
  have hmk := make_anc m hna
  have HP := Lib.hid hp
  have HA := Lib.hid ha
  have HK := Lib.hid hk
  have HKA := Lib.hid hka
  have HRI := Lib.hid hris
  have HNN := Lib.hid hnn
  have HM := Lib.hid hm
  clear hp ha hk hka hris hnn hm
  go_enter Try.func14, Try.ntmps14
  go_wp2
  go_loopw [13] (fun vi wr => ∃ i : Nat, i ≤ m ∧ vi = .int .i64 i ∧ Hid (ZZInv W wr m i As)) (fun vi _ => m - (intOf vi).toNat)
  case atStart =>
    refine ⟨0, by omega, rfl, ⟨(Below.refl _ _).alloc (Nat.le_refl _) _, by simp, fun j hj => ⟨by simp [go_sem], ?_⟩, fun j hj => by omega⟩⟩
    rw [World.cell?_alloc_at (hn := rfl), cellsOf_get _ _ _ hj]; rfl
  case round =>
    obtain ⟨i, him, rfl, HI⟩ := hrel
    by_cases hlt : i < m
    · have h1 : (i : Int) < (m : Int) := by omega
      obtain ⟨fz, hs⟩ := HI.out.room i hlt
      obtain ⟨v0, hv0⟩ := Option.isSome_iff_exists.1 hs
      have hq : As[i]? = some (As.getD i 0) := by
        have := HM.out
        rw [List.getD_eq_getElem?_getD, List.getElem?_eq_getElem (by omega)]
        rfl
      obtain ⟨kb, ko, rfl, hkb, c1⟩ := (HA.out.below HI.out.bel) i _ hq
      clear hs hq
      go_wp2
      go_roundw
      case rel => exact ⟨i + 1, by omega, by go_num, HI.out.step hlt⟩
      case measure => simp [intOf]; omega
    · obtain rfl : i = m := by omega
      have b1 : Below wr.heap.size wr (wr.alloc (.cells #[.string { data := #[] }, .slice ka n kcap, .slice none 0 0] 56)) := (Below.refl _ _).alloc (Nat.le_refl _) _
      have b2 : Below W.heap.size W (wr.alloc (.cells #[.string { data := #[] }, .slice ka n kcap, .slice none 0 0] 56)) := HI.out.bel.trans (b1.mono HI.out.bel.size)
      have hX := anchored_any wr.heap.size ka kcap Ks KK W.heap.size i i (fun j => As.getD j 0) (fun j => KK (As.getD j 0)) tg (wr.alloc (.cells #[.string { data := #[] }, .slice ka n kcap, .slice none 0 0] 56)) (by have := HNN.out; omega) hna
        (by rw [← HNN.out]; simp) (HP.out.below b2)
        ⟨by have := HI.out.lt; simp; omega, fun j hj => (b1.cell (p := ⟨W.heap.size, j, none⟩) HI.out.lt).trans (HI.out.done j hj), fun j hj => by
          have hq : As.getD j 0 ∈ As := by
            have := HM.out
            rw [List.getD_eq_getElem?_getD, List.getElem?_eq_getElem (by omega)]
            exact List.getElem_mem (by omega)
          exact ⟨(HKA.out _ hq).1, ((HKA.out _ hq).2.below b2 (Nat.le_refl _)).mono b2.size⟩⟩
        (fun q hq => ⟨(HK.out q hq).1, ((HK.out q hq).2.1.below b2 (Nat.le_refl _)).mono b2.size, (HK.out q hq).2.2⟩) HRI.out
      have HX := Lib.hid hX
      have HB2 := Lib.hid b2
      clear hX b1 b2
      go_wp2_with fail
      refine HX.out.mono ?_
      rintro e w2 ⟨v, R, rfl, r1, r2, r3, r4⟩
      have HF : Hid (R.Perm (Ks.filter fun q => hit (KK q) (fun j => KK (As.getD j 0)) i) ∧ R.Pairwise (lt tg) ∧ Res W w2 v R ∧ Below W.heap.size W w2) := by
        refine ⟨r1, r2, ?_, HB2.out.trans (r4.mono HB2.out.size)⟩
        rcases r3 with h | ⟨g, cap, h1, h2, h3⟩
        · exact Or.inl h
        · exact Or.inr ⟨g, cap, h1, Nat.le_trans HB2.out.size h2, h3⟩
      clear r1 r2 r3 r4
      go_wp2
      go_ret
      exact ⟨_, R, rfl, HF.out⟩
end Go.Proofs.Qxb6614277a
