import Derived.Test.Qxb6614358aDoorOrder
namespace Go.Proofs.Qxb6614358aDoor
open Go.RowKit

theorem read_txt (p : Int) (h0 : -9223372036854775808 ≤ p) (h1 : p ≤ 9223372036854775807) (b cap : Nat) (w : World) (hB : BytesAt w b (txt p)) :
    Calls Tryd.prog 6 #[.slice (some ⟨b, 0, none⟩) (txt p).length cap] w fun e w' => e = .returned (.tuple #[.bool (decide (p < 0)), .int .u64 (p.natAbs : Int), .bool true]) ∧ w' = w := by
  by_cases hn : p < 0
  · rw [decide_eq_true hn]; exact read_txt_neg p h0 hn b cap w hB
  · rw [decide_eq_false hn]; exact read_txt_pos p h1 hn b cap w hB

theorem bytes_below2 {w w' : World} {B b : Nat} {l : List UInt8} (h : BytesAt w b l) (hb : Below B w w') (hB : b < B) : BytesAt w' b l :=
  fun j hj => (hb.cell (p := ⟨b, j, none⟩) hB).trans (h j hj)

theorem tab_below2 {w w' : World} (h : Lib.TabIs Tryd.prog w powName .u64 Lib.pow10Tab) (hb : Below w.heap.size w w') : Lib.TabIs Tryd.prog w' powName .u64 Lib.pow10Tab :=
  Lib.tabBelow_of_tabIs h w' hb

theorem yuan_val (r p q : Int) (hp : p.natAbs ≤ 9223372036854775808) (b b' cap cap' : Nat) (w : World) (hX : BytesAt w b (txt p)) (hY : BytesAt w b' (txt q)) (hc : (txt p).length ≤ cap) (hc' : (txt q).length ≤ cap') (hr : cmpI p q = r) :
    Calls Tryd.prog 9 #[.slice (some ⟨b, 0, none⟩) (txt p).length cap, .slice (some ⟨b', 0, none⟩) (txt q).length cap'] w fun e w' => e = .returned (.int .i64 r) ∧ ∃ k, w' = w.drewN k := by
  subst hr; exact yuan_txt p q hp b b' cap cap' w hX hY hc hc'

set_option maxHeartbeats 1000000 in
theorem order_lt (p q : Int) (h0 : -9223372036854775808 ≤ p) (h1 : p ≤ 9223372036854775807) (k0 : -9223372036854775808 ≤ q) (k1 : q ≤ 9223372036854775807) (h : p < q) (w : World) (htab : Lib.TabIs Tryd.prog w powName .u64 Lib.pow10Tab) :
    Calls Tryd.prog 4 #[.int .i64 p, .int .i64 q] w fun e w' => e = .returned (.bool true) ∧ Below w.heap.size w w' := by
  have HR : Hid (cmpI p q = -1) := if_pos h
  have HM := Lib.hid (marshal_any p h0 h1 w htab)
  have HT := Lib.hid htab
  clear htab
  go_enter Tryd.func4, Tryd.ntmps4
  go_wp2_with fail
  refine HM.out.mono ?_
  rintro e w1 ⟨b, cap, rfl, hcap, hlo, hhi, hB, hb⟩
  go_wp2_with fail
  refine (marshal_any q k0 k1 _ (tab_below2 HT.out hb)).mono ?_
  rintro e w2 ⟨b2, cap2, rfl, hcap2, hlo2, hhi2, hB2, hb2⟩
  have hX := bytes_below2 hB hb2 hhi
  go_wp2_with fail
  refine (read_txt p h0 h1 b cap _ hX).mono ?_
  rintro e w' ⟨rfl, rfl⟩
  go_wp2_with fail
  refine (magOf_any p h0 h1 _).mono ?_
  rintro e w' ⟨rfl, rfl⟩
  go_wp2_with fail
  refine (read_txt q k0 k1 b2 cap2 _ hB2).mono ?_
  rintro e w' ⟨rfl, rfl⟩
  go_wp2_with fail
  refine (magOf_any q k0 k1 _).mono ?_
  rintro e w' ⟨rfl, rfl⟩
  go_wp2_with fail
  refine (yuan_val (-1) p q (by omega) b b2 cap cap2 _ hX hB2 hcap hcap2 HR.out).mono ?_
  rintro e w' ⟨rfl, k, rfl⟩
  go_wp2
  go_ret
  exact ⟨rfl, below_drewN (hb.trans (hb2.mono hb.size)) _⟩

set_option maxHeartbeats 1000000 in
theorem order_eq (p q : Int) (h0 : -9223372036854775808 ≤ p) (h1 : p ≤ 9223372036854775807) (k0 : -9223372036854775808 ≤ q) (k1 : q ≤ 9223372036854775807) (h : p = q) (w : World) (htab : Lib.TabIs Tryd.prog w powName .u64 Lib.pow10Tab) :
    Calls Tryd.prog 4 #[.int .i64 p, .int .i64 q] w fun e w' => e = .returned (.bool true) ∧ Below w.heap.size w w' := by
  have HR : Hid (cmpI p q = 0) := by unfold cmpI; show (if p < q then (-1 : Int) else if q < p then 1 else 0) = 0; rw [if_neg (by omega), if_neg (by omega)]
  have n1 : ¬ p < q := by omega
  have n2 : ¬ q < p := by omega
  clear h
  have HM := Lib.hid (marshal_any p h0 h1 w htab)
  have HT := Lib.hid htab
  clear htab
  go_enter Tryd.func4, Tryd.ntmps4
  go_wp2_with fail
  refine HM.out.mono ?_
  rintro e w1 ⟨b, cap, rfl, hcap, hlo, hhi, hB, hb⟩
  go_wp2_with fail
  refine (marshal_any q k0 k1 _ (tab_below2 HT.out hb)).mono ?_
  rintro e w2 ⟨b2, cap2, rfl, hcap2, hlo2, hhi2, hB2, hb2⟩
  have hX := bytes_below2 hB hb2 hhi
  go_wp2_with fail
  refine (read_txt p h0 h1 b cap _ hX).mono ?_
  rintro e w' ⟨rfl, rfl⟩
  go_wp2_with fail
  refine (magOf_any p h0 h1 _).mono ?_
  rintro e w' ⟨rfl, rfl⟩
  go_wp2_with fail
  refine (read_txt q k0 k1 b2 cap2 _ hB2).mono ?_
  rintro e w' ⟨rfl, rfl⟩
  go_wp2_with fail
  refine (magOf_any q k0 k1 _).mono ?_
  rintro e w' ⟨rfl, rfl⟩
  go_wp2_with fail
  refine (yuan_val 0 p q (by omega) b b2 cap cap2 _ hX hB2 hcap hcap2 HR.out).mono ?_
  rintro e w' ⟨rfl, k, rfl⟩
  go_wp2
  go_ret
  exact ⟨rfl, below_drewN (hb.trans (hb2.mono hb.size)) _⟩

set_option maxHeartbeats 1000000 in
theorem order_gt (p q : Int) (h0 : -9223372036854775808 ≤ p) (h1 : p ≤ 9223372036854775807) (k0 : -9223372036854775808 ≤ q) (k1 : q ≤ 9223372036854775807) (h : q < p) (w : World) (htab : Lib.TabIs Tryd.prog w powName .u64 Lib.pow10Tab) :
    Calls Tryd.prog 4 #[.int .i64 p, .int .i64 q] w fun e w' => e = .returned (.bool true) ∧ Below w.heap.size w w' := by
  have HR : Hid (cmpI p q = 1) := by unfold cmpI; show (if p < q then (-1 : Int) else if q < p then 1 else 0) = 1; rw [if_neg (by omega), if_pos h]
  have n1 : ¬ p < q := by omega
  have HM := Lib.hid (marshal_any p h0 h1 w htab)
  have HT := Lib.hid htab
  clear htab
  go_enter Tryd.func4, Tryd.ntmps4
  go_wp2_with fail
  refine HM.out.mono ?_
  rintro e w1 ⟨b, cap, rfl, hcap, hlo, hhi, hB, hb⟩
  go_wp2_with fail
  refine (marshal_any q k0 k1 _ (tab_below2 HT.out hb)).mono ?_
  rintro e w2 ⟨b2, cap2, rfl, hcap2, hlo2, hhi2, hB2, hb2⟩
  have hX := bytes_below2 hB hb2 hhi
  go_wp2_with fail
  refine (read_txt p h0 h1 b cap _ hX).mono ?_
  rintro e w' ⟨rfl, rfl⟩
  go_wp2_with fail
  refine (magOf_any p h0 h1 _).mono ?_
  rintro e w' ⟨rfl, rfl⟩
  go_wp2_with fail
  refine (read_txt q k0 k1 b2 cap2 _ hB2).mono ?_
  rintro e w' ⟨rfl, rfl⟩
  go_wp2_with fail
  refine (magOf_any q k0 k1 _).mono ?_
  rintro e w' ⟨rfl, rfl⟩
  go_wp2_with fail
  refine (yuan_val 1 p q (by omega) b b2 cap cap2 _ hX hB2 hcap hcap2 HR.out).mono ?_
  rintro e w' ⟨rfl, k, rfl⟩
  go_wp2
  go_ret
  exact ⟨rfl, below_drewN (hb.trans (hb2.mono hb.size)) _⟩

theorem law_two (p q : Int) (h0 : -9223372036854775808 ≤ p) (h1 : p ≤ 9223372036854775807) (k0 : -9223372036854775808 ≤ q) (k1 : q ≤ 9223372036854775807) (w : World) (htab : Lib.TabIs Tryd.prog w powName .u64 Lib.pow10Tab) :
    Calls Tryd.prog 4 #[.int .i64 p, .int .i64 q] w fun e w' => e = .returned (.bool true) ∧ Below w.heap.size w w' := by
  rcases Int.lt_trichotomy p q with h | h | h
  · exact order_lt p q h0 h1 k0 k1 h w htab
  · exact order_eq p q h0 h1 k0 k1 h w htab
  · exact order_gt p q h0 h1 k0 k1 h w htab
end Go.Proofs.Qxb6614358aDoor
