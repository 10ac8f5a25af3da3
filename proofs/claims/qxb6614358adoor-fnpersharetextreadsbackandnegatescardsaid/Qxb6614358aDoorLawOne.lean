import Derived.Test.Qxb6614358aDoorReads
namespace Go.Proofs.Qxb6614358aDoor
open Go.RowKit

theorem bytes_below {w w' : World} {B b : Nat} {l : List UInt8} (h : BytesAt w b l) (hb : Below B w w') (hB : b < B) : BytesAt w' b l :=
  fun j hj => (hb.cell (p := ⟨b, j, none⟩) hB).trans (h j hj)

theorem tab_below {w w' : World} (h : Lib.TabIs Tryd.prog w powName .u64 Lib.pow10Tab) (hb : Below w.heap.size w w') : Lib.TabIs Tryd.prog w' powName .u64 Lib.pow10Tab :=
  Lib.tabBelow_of_tabIs h w' hb

/-- The minus put on: the longer text in block b, the shorter in block b'. -/
theorem minus_txt (u : Nat) (hu : u ≤ 9223372036854775808) (b b' cap cap' : Nat) (w : World) (h : BytesAt w b (45 :: decL u)) (h' : BytesAt w b' (decL u)) :
    Calls Tryd.prog 8 #[.slice (some ⟨b, 0, none⟩) ((decL u).length + 1) cap, .slice (some ⟨b', 0, none⟩) (decL u).length cap'] w fun e w' => e = .returned (.bool true) ∧ ∃ k, w' = w.drewN k :=
  minus_any (dx u) (decL u).length b b' cap cap' w (h 0 (by simp))
    (fun j hj => (bytes_cell h (j + 1) (by simp; omega)).trans rfl)
    (fun j hj => bytes_cell h' j hj) (by have := decL_length u hu; omega)

set_option maxHeartbeats 1000000 in
theorem law_min (p : Int) (h0 : -9223372036854775808 ≤ p) (h1 : p ≤ 9223372036854775807) (w : World) (htab : Lib.TabIs Tryd.prog w powName .u64 Lib.pow10Tab) (hp : p = -9223372036854775808) :
    Calls Tryd.prog 3 #[.int .i64 p] w fun e w' => e = .returned (.bool true) ∧ Below w.heap.size w w' := by
  have hn : p < 0 := by omega
  have hd : decide (p < 0) = true := by simpa using hn
  have e0 : (p == 0) = false := by simp; omega
  have e1 : (p == -9223372036854775808) = true := by simpa using hp
  clear hp
  have HM := Lib.hid (marshal_any p h0 h1 w htab)
  have HT := Lib.hid htab
  clear htab
  go_enter Tryd.func3, Tryd.ntmps3
  go_wp2_with fail
  refine HM.out.mono ?_
  rintro e w1 ⟨b, cap, rfl, hcap, hlo, hhi, hB, hb⟩
  go_wp2_with fail
  refine (read_txt_neg p h0 hn b cap _ hB).mono ?_
  rintro e w' ⟨rfl, rfl⟩
  go_wp2_with fail
  refine (magOf_any p h0 h1 _).mono ?_
  rintro e w' ⟨rfl, rfl⟩
  go_wp2
  go_ret
  exact ⟨rfl, hb⟩

set_option maxHeartbeats 1000000 in
theorem law_zero (p : Int) (h0 : -9223372036854775808 ≤ p) (h1 : p ≤ 9223372036854775807) (w : World) (htab : Lib.TabIs Tryd.prog w powName .u64 Lib.pow10Tab) (hp : p = 0) :
    Calls Tryd.prog 3 #[.int .i64 p] w fun e w' => e = .returned (.bool true) ∧ Below w.heap.size w w' := by
  have hn : ¬ p < 0 := by omega
  have hd : decide (p < 0) = false := by simpa using hn
  have e0 : (p == 0) = true := by simpa using hp
  clear hp
  have HM := Lib.hid (marshal_any p h0 h1 w htab)
  have HT := Lib.hid htab
  clear htab
  go_enter Tryd.func3, Tryd.ntmps3
  go_wp2_with fail
  refine HM.out.mono ?_
  rintro e w1 ⟨b, cap, rfl, hcap, hlo, hhi, hB, hb⟩
  go_wp2_with fail
  refine (read_txt_pos p h1 (by omega) b cap _ hB).mono ?_
  rintro e w' ⟨rfl, rfl⟩
  go_wp2_with fail
  refine (magOf_any p h0 h1 _).mono ?_
  rintro e w' ⟨rfl, rfl⟩
  go_wp2
  go_ret
  exact ⟨rfl, hb⟩

set_option maxHeartbeats 1000000 in
theorem law_neg (p : Int) (h0 : -9223372036854775808 ≤ p) (h1 : p ≤ 9223372036854775807) (w : World) (htab : Lib.TabIs Tryd.prog w powName .u64 Lib.pow10Tab) (hn : p < 0) (hp : -9223372036854775807 ≤ p) :
    Calls Tryd.prog 3 #[.int .i64 p] w fun e w' => e = .returned (.bool true) ∧ Below w.heap.size w w' := by
  have hd : decide (p < 0) = true := by simpa using hn
  have e0 : (p == 0) = false := by simp; omega
  have e1 : (p == -9223372036854775808) = false := by simp; omega
  have HM := Lib.hid (marshal_any p h0 h1 w htab)
  have HT := Lib.hid htab
  clear htab
  go_enter Tryd.func3, Tryd.ntmps3
  go_wp2_with fail
  refine HM.out.mono ?_
  rintro e w1 ⟨b, cap, rfl, hcap, hlo, hhi, hB, hb⟩
  go_wp2_with fail
  refine (read_txt_neg p h0 hn b cap _ hB).mono ?_
  rintro e w' ⟨rfl, rfl⟩
  go_wp2_with fail
  refine (magOf_any p h0 h1 _).mono ?_
  rintro e w' ⟨rfl, rfl⟩
  go_wp2_with fail
  refine (marshal_any (-p) (by omega) (by omega) _ (tab_below HT.out hb)).mono ?_
  rintro e w2 ⟨b2, cap2, rfl, hcap2, hlo2, hhi2, hB2, hb2⟩
  have hX : BytesAt w2 b (45 :: decL p.natAbs) := by have := bytes_below hB hb2 hhi; rwa [txt_neg hn] at this
  have hY : BytesAt w2 b2 (decL p.natAbs) := by have := hB2; rwa [txt_pos (by omega), Int.natAbs_neg] at this
  go_wp2_with fail
  rw [show (txt p).length = (decL p.natAbs).length + 1 by rw [txt_neg hn]; rfl, show (txt (-p)).length = (decL p.natAbs).length by rw [txt_pos (by omega), Int.natAbs_neg]]
  refine (minus_txt p.natAbs (by omega) b b2 cap cap2 _ hX hY).mono ?_
  rintro e w' ⟨rfl, k, rfl⟩
  go_wp2
  go_ret
  exact ⟨rfl, below_drewN (hb.trans (hb2.mono hb.size)) _⟩

set_option maxHeartbeats 1000000 in
theorem law_pos (p : Int) (h0 : -9223372036854775808 ≤ p) (h1 : p ≤ 9223372036854775807) (w : World) (htab : Lib.TabIs Tryd.prog w powName .u64 Lib.pow10Tab) (hp : 0 < p) :
    Calls Tryd.prog 3 #[.int .i64 p] w fun e w' => e = .returned (.bool true) ∧ Below w.heap.size w w' := by
  have hn : ¬ p < 0 := by omega
  have hd : decide (p < 0) = false := by simpa using hn
  have e0 : (p == 0) = false := by simp; omega
  have e1 : (p == -9223372036854775808) = false := by simp; omega
  have HM := Lib.hid (marshal_any p h0 h1 w htab)
  have HT := Lib.hid htab
  clear htab
  go_enter Tryd.func3, Tryd.ntmps3
  go_wp2_with fail
  refine HM.out.mono ?_
  rintro e w1 ⟨b, cap, rfl, hcap, hlo, hhi, hB, hb⟩
  go_wp2_with fail
  refine (read_txt_pos p h1 (by omega) b cap _ hB).mono ?_
  rintro e w' ⟨rfl, rfl⟩
  go_wp2_with fail
  refine (magOf_any p h0 h1 _).mono ?_
  rintro e w' ⟨rfl, rfl⟩
  go_wp2_with fail
  refine (marshal_any (-p) (by omega) (by omega) _ (tab_below HT.out hb)).mono ?_
  rintro e w2 ⟨b2, cap2, rfl, hcap2, hlo2, hhi2, hB2, hb2⟩
  have hX : BytesAt w2 b2 (45 :: decL p.natAbs) := by have := hB2; rwa [txt_neg (by omega), Int.natAbs_neg] at this
  have hY : BytesAt w2 b (decL p.natAbs) := by have := bytes_below hB hb2 hhi; rwa [txt_pos (by omega)] at this
  go_wp2_with fail
  rw [show (txt (-p)).length = (decL p.natAbs).length + 1 by rw [txt_neg (by omega), Int.natAbs_neg]; rfl, show (txt p).length = (decL p.natAbs).length by rw [txt_pos (by omega)]]
  refine (minus_txt p.natAbs (by omega) b2 b cap2 cap _ hX hY).mono ?_
  rintro e w' ⟨rfl, k, rfl⟩
  go_wp2
  go_ret
  exact ⟨rfl, below_drewN (hb.trans (hb2.mono hb.size)) _⟩

theorem law_one (p : Int) (h0 : -9223372036854775808 ≤ p) (h1 : p ≤ 9223372036854775807) (w : World) (htab : Lib.TabIs Tryd.prog w powName .u64 Lib.pow10Tab) :
    Calls Tryd.prog 3 #[.int .i64 p] w fun e w' => e = .returned (.bool true) ∧ Below w.heap.size w w' := by
  by_cases hn : p < 0
  · by_cases hp : p = -9223372036854775808
    · exact law_min p h0 h1 w htab hp
    · exact law_neg p h0 h1 w htab hn (by omega)
  · by_cases hp : p = 0
    · exact law_zero p h0 h1 w htab hp
    · exact law_pos p h0 h1 w htab (by omega)
end Go.Proofs.Qxb6614358aDoor
