import Derived.Test.Qxb6614277aMat
namespace Go.Proofs.Qxb6614277a
open Go.RowKit

set_option maxRecDepth 100000 in
theorem clo_any (q1 q2 cb : Nat) (k1 k2 : Key) (W : World) (hk1 : k1.ok) (hk2 : k2.ok) (h1 : KeyAt W W.heap.size q1 k1) (h2 : KeyAt W W.heap.size q2 k2) (hc : W.cell? ⟨cb, 0, none⟩ = some (.pointer (some ⟨q2, 0, none⟩))) :
    Calls Try.prog 26 #[.iface 25 (.pointer (some ⟨q1, 0, none⟩)), .pointer (some ⟨cb, 0, none⟩)] W fun e W' => e = .returned (.bool (named k2 k1)) ∧ Below W.heap.size W W' := by
  have HM := Lib.hid (matches_any q1 q2 k1 k2 W hk1 hk2 h1 h2)
  clear h1 h2 hk1 hk2
  go_enter Try.func26, Try.ntmps26
  go_wp2_with fail
  refine HM.out.mono ?_
  rintro e w1 ⟨rfl, hb⟩
  have HB := Lib.hid hb
  clear hb
  go_wp2
  go_ret
  exact ⟨rfl, HB.out⟩

/-- Block ab holds n anchors, the keys A 0, A 1, .. with the fields KA 0, KA 1, .. -/
structure AncAt (W : World) (ab n : Nat) (A : Nat → Nat) (KA : Nat → Key) : Prop where
  lt : ab < W.heap.size
  cell : ∀ j, j < n → W.cell? ⟨ab, j, none⟩ = some (.iface 25 (.pointer (some ⟨A j, 0, none⟩)))
  key : ∀ j, j < n → (KA j).ok ∧ KeyAt W W.heap.size (A j) (KA j)

theorem AncAt.below {W W' : World} {ab n : Nat} {A : Nat → Nat} {KA : Nat → Key} (h : AncAt W ab n A KA) (hb : Below W.heap.size W W') : AncAt W' ab n A KA :=
  ⟨Nat.lt_of_lt_of_le h.lt hb.size, fun j hj => (hb.cell (p := ⟨ab, j, none⟩) h.lt).trans (h.cell j hj), fun j hj => ⟨(h.key j hj).1, ((h.key j hj).2.below hb (Nat.le_refl _)).mono hb.size⟩⟩

/-- Some of the first n anchors names k. -/
def hit (k : Key) (KA : Nat → Key) (n : Nat) : Bool := (List.range n).any fun j => named k (KA j)
theorem hit_true {k : Key} {KA : Nat → Key} {n j : Nat} (hj : j < n) (h : named k (KA j) = true) : hit k KA n = true := by
  unfold hit
  rw [List.any_eq_true]
  exact ⟨j, List.mem_range.2 hj, h⟩
theorem hit_false {k : Key} {KA : Nat → Key} {n : Nat} (h : ∀ j, j < n → named k (KA j) = false) : hit k KA n = false := by
  unfold hit
  rw [List.any_eq_false]
  intro j hj
  rw [h j (List.mem_range.1 hj)]
  simp

set_option maxHeartbeats 1000000 in
set_option maxRecDepth 100000 in
theorem index_any (ab n cap : Nat) (A : Nat → Nat) (KA : Nat → Key) (q cb : Nat) (k : Key) (W : World) (hn : n ≤ 1048576) (ha : AncAt W ab n A KA) (hk : k.ok) (hq : KeyAt W W.heap.size q k) (hc : W.cell? ⟨cb, 0, none⟩ = some (.pointer (some ⟨q, 0, none⟩))) :
    Calls Try.prog 31 #[.slice (some ⟨ab, 0, none⟩) n cap, .func (.func 26) #[] #[.pointer (some ⟨cb, 0, none⟩)]] W fun e W' => (∃ r : Int, e = .returned (.int .i64 r) ∧ decide (0 ≤ r) = hit k KA n) ∧ Below W.heap.size W W' := by
  have hcb : cb < W.heap.size := World.block_lt_of_cell? W ⟨cb, 0, none⟩ hc
  have HA := Lib.hid ha
  have HQ := Lib.hid hq
  have HC := Lib.hid hc
  clear ha hq hc
  go_enter Try.func31, Try.ntmps31
  go_wp2
  go_loopw [8] (fun vi wr => ∃ j : Nat, j ≤ n ∧ vi = .int .i64 j ∧ Hid (Below W.heap.size W wr ∧ ∀ i, i < j → named k (KA i) = false)) (fun vi _ => n - (intOf vi).toNat)
  case atStart => exact ⟨0, by omega, rfl, ⟨Below.refl _ _, fun i hi => by omega⟩⟩
  case round =>
    obtain ⟨j, hj, rfl, HI⟩ := hrel
    by_cases hlt : j < n
    · have h1 : (j : Int) < (n : Int) := by omega
      have hAr := HA.out.below HI.out.1
      have c1 := hAr.cell j hlt
      have HCL := Lib.hid (clo_any (A j) q cb (KA j) k wr (hAr.key j hlt).1 hk (hAr.key j hlt).2 ((HQ.out.below HI.out.1 (Nat.le_refl _)).mono HI.out.1.size) ((HI.out.1.cell (p := ⟨cb, 0, none⟩) hcb).trans HC.out))
      clear hAr
      go_wp2_with fail
      refine HCL.out.mono ?_
      rintro e w1 ⟨rfl, hb⟩
      have HB := Lib.hid (HI.out.1.trans (hb.mono HI.out.1.size))
      clear hb
      cases hnm : named k (KA j)
      · have HN := Lib.hid hnm
        clear hnm
        go_wp2
        go_roundw
        case rel =>
          refine ⟨j + 1, by omega, by go_num, ⟨HB.out, fun i hi => ?_⟩⟩
          by_cases e : i = j
          · rw [e]; exact HN.out
          · exact HI.out.2 i (by omega)
        case measure => simp [intOf]; omega
      · have HN := Lib.hid hnm
        clear hnm
        go_wp2
        go_ret
        refine ⟨⟨_, rfl, ?_⟩, HB.out⟩
        rw [hit_true hlt HN.out]
        simp
    · obtain rfl : j = n := by omega
      go_wp2
      go_ret
      refine ⟨⟨_, rfl, ?_⟩, HI.out.1⟩
      rw [hit_false HI.out.2]
      simp

set_option maxRecDepth 100000 in
theorem contains_any (ab n cap : Nat) (A : Nat → Nat) (KA : Nat → Key) (q cb : Nat) (k : Key) (W : World) (hn : n ≤ 1048576) (ha : AncAt W ab n A KA) (hk : k.ok) (hq : KeyAt W W.heap.size q k) (hc : W.cell? ⟨cb, 0, none⟩ = some (.pointer (some ⟨q, 0, none⟩))) :
    Calls Try.prog 25 #[.slice (some ⟨ab, 0, none⟩) n cap, .func (.func 26) #[] #[.pointer (some ⟨cb, 0, none⟩)]] W fun e W' => e = .returned (.bool (hit k KA n)) ∧ Below W.heap.size W W' := by
  have HX := Lib.hid (index_any ab n cap A KA q cb k W hn ha hk hq hc)
  clear ha hq hc
  go_enter Try.func25, Try.ntmps25
  go_wp2_with fail
  refine HX.out.mono ?_
  rintro e w1 ⟨⟨r, rfl, hr⟩, hb⟩
  have HR := Lib.hid hr
  have HB := Lib.hid hb
  clear hr hb
  go_wp2
  go_ret
  exact ⟨by rw [← HR.out]; rfl, HB.out⟩
end Go.Proofs.Qxb6614277a
