import Derived.Test.Qxb6614358aDoorShelf
import Derived.Lib.Walk
import Derived.Lib.ItoaMem
import Derived.Lib.ItoaLen
import Derived.Lib.AppendIntMem
import Derived.WalkKit
import Derived.WalkSpells
import Derived.BigCall
import Derived.BigGuard
import Derived.WalkSmall
import Derived.Deep.QuietTactic
import Derived.BigQuiet
import Derived.Lib.Zigzag
import Derived.Lib.ConvBytes
namespace Go.Proofs.Qxb6614358aDoor
open Go.Shelf Go.RowKit Go.Sort Go.Lib

theorem holds_zero0 (w : World) (T : TypeId) (nd : Nat) (hs : nd ≤ 24) : Holds (fun (b : UInt8) => Value.int .u8 (b.toNat : Int)) (w.alloc (.cells zeros24 T)) w.heap.size 0 (Array.replicate nd (0 : UInt8)) := fun j hj => by
  have hj' : j < nd := by simpa using hj
  refine ⟨?_, World.frozen?_alloc_new _ _ _ _⟩
  rw [World.cell?_alloc_new, zeros24_at _ (by omega), getElem!_pos _ j hj]
  simp

theorem fin0 (w : World) (o : Obj) (dk : Array UInt8) (k : Nat) : Below w.heap.size w ((putRow (fun (b : UInt8) => Value.int .u8 (b.toNat : Int)) (w.alloc o) w.heap.size 0 dk).drewN k) := by
  rw [alloc_eq_grow]
  obtain ⟨os', _, e⟩ := putRow_grow_new (fun (b : UInt8) => Value.int .u8 (b.toNat : Int)) w #[o] w.heap.size 0 dk (Nat.le_refl _)
  rw [e]
  refine below_drewN ?_ k
  refine ⟨rfl, rfl, rfl, by simp [grow], fun i hi => ?_⟩
  simp only [grow]
  rw [Array.getElem?_append_left hi]

set_option maxHeartbeats 800000 in
set_option maxRecDepth 100000 in
theorem formatUint_any (u : Nat) (h1 : u ≤ 9223372036854775808) (w : World) (htab : Lib.TabIs Tryd.prog w powName .u64 Lib.pow10Tab) :
    Calls Tryd.prog 17 #[.int .u64 u, .int .i64 10] w fun e w' => e = .returned (.string ⟨(Lib.decDigits u).toArray⟩) ∧ Below w.heap.size w w' := by
  by_cases hs : u < 100
  · go_enter Tryd.func17, Tryd.ntmps17
    go_wp2_with (go_at_call 24; refine (Tryd.internal_strconv_small u hs _).mono ?_; rintro e w' ⟨rfl, rfl⟩)
    go_ret
    exact ⟨rfl, Below.refl _ _⟩
  · have hu1 : 1 ≤ u := by omega
    have hu64 : u < 18446744073709551616 := by omega
    have hnd20 : Lib.nDigits u ≤ 20 := Lib.nDigits_le20 u hu64
    have hal : Tryd.prog.arrayLen 54 = 24 := by simp [Program.arrayLen, Tryd.underlying54]
    have hsl1 : ∀ W, (Instr.sliceAt 54 (.pointer (some ⟨w.heap.size, 0, none⟩)) none (some (.int .i64 (Lib.nDigits u : Int))) none).run Tryd.prog W = .ok (.slice (some ⟨w.heap.size, 0, none⟩) (Lib.nDigits u) 24) W := fun W => by
      rw [run_sliceAt_array_h W 54 ⟨w.heap.size, 0, none⟩ (by simp [Program.arrayLen, Program.elem, Tryd.underlying54]) .i64 (Lib.nDigits u : Int) (by omega) (by rw [hal]; omega)]
      go_simp
    have hH0 := holds_zero0 w 54 (Lib.nDigits u) (by omega)
    have hfmt := Tryd.internal_strconv_formatBase10 w.heap.size 0 24 u (Array.replicate (Lib.nDigits u) 0) (w.alloc (.cells Lib.zeros24 54)) hH0 (by rw [Array.size_replicate]; exact Lib.lt_pow_nDigits u) hu64 (by rw [Array.size_replicate]; omega)
    rw [Array.size_replicate] at hfmt
    have HH0 := Lib.hid hH0
    clear hH0 hal
    go_enter Tryd.func17, Tryd.ntmps17
    go_wp2_with (go_at_call 25; refine (Tryd.internal_strconv_numDigits u hu1 hu64 _ (Lib.tabIs_alloc htab _)).mono ?_; rintro e w' ⟨rfl, rfl⟩)
    go_at_call 26
    refine hfmt.mono ?_
    rintro e w' ⟨rfl, k, v', dk, rfl, hF⟩
    have hcv : (convert 22 9 (.slice (some ⟨w.heap.size, 0, none⟩) (Lib.nDigits u) 24)).run Tryd.prog ((putRow (fun (b : UInt8) => Value.int .u8 (b.toNat : Int)) (w.alloc (.cells Lib.zeros24 54)) w.heap.size 0 dk).drewN k) = .ok (.string ⟨(Lib.decDigits u).toArray⟩) ((putRow (fun (b : UInt8) => Value.int .u8 (b.toNat : Int)) (w.alloc (.cells Lib.zeros24 54)) w.heap.size 0 dk).drewN k) := by
      have h := run_convert_bytes_back (P := Tryd.prog) ((putRow (fun (b : UInt8) => Value.int .u8 (b.toNat : Int)) (w.alloc (.cells Lib.zeros24 54)) w.heap.size 0 dk).drewN k) 22 9 5 ⟨w.heap.size, 0, none⟩ 24 (Lib.decDigits u) Tryd.underlying22 Tryd.underlying5 Tryd.underlying9 (fun j hj => by
        rw [Lib.row_is_numeral hF j hj, Lib.add_plain, World.cell?_drewN]
        exact cell?_putRow (fun (b : UInt8) => Value.int .u8 (b.toNat : Int)) _ w.heap.size 0 _ dk HH0.out (by rw [hF.size, Array.size_replicate]) j (by rw [hF.size]; rw [Lib.decDigits_length] at hj; exact hj))
      rw [Lib.decDigits_length] at h
      exact h
    go_wp2
    go_ret
    exact ⟨rfl, fin0 _ _ _ _⟩

theorem formatUint_pub (u : Nat) (h1 : u ≤ 9223372036854775808) (w : World) (htab : Lib.TabIs Tryd.prog w powName .u64 Lib.pow10Tab) :
    Calls Tryd.prog 15 #[.int .u64 u, .int .i64 10] w fun e w' => e = .returned (.string ⟨(Lib.decDigits u).toArray⟩) ∧ Below w.heap.size w w' := by
  go_enter Tryd.func15, Tryd.ntmps15
  go_wp2_with (go_at_call 17; refine (formatUint_any u h1 _ htab).mono ?_; rintro e w' ⟨rfl, hb⟩)
  go_ret
  exact ⟨rfl, hb⟩

theorem ret_int {k : IntKind} {a b : Int} (h : a = b) : Ending.returned (.int k a) = .returned (.int k b) := by rw [h]

theorem mag_neg (p : Int) (h0 : -9223372036854775808 ≤ p) (hn : p < 0) : IntKind.u64.wrap (wrap64 (-p)) = (p.natAbs : Int) := by
  rw [IntKind.wrap_u64]; unfold wrap64; omega

theorem mag_pos (p : Int) (h1 : p ≤ 9223372036854775807) (hn : ¬ p < 0) : IntKind.u64.wrap p = (p.natAbs : Int) := by
  rw [IntKind.wrap_u64]; omega

theorem magnitude_any (p : Int) (h0 : -9223372036854775808 ≤ p) (h1 : p ≤ 9223372036854775807) (w : World) :
    Calls Tryd.prog 13 #[.int .i64 p] w fun e w' => e = .returned (.int .u64 (p.natAbs : Int)) ∧ w' = w := by
  by_cases hn : p < 0
  · have H : Hid (IntKind.u64.wrap (wrap64 (-p)) = (p.natAbs : Int)) := mag_neg p h0 hn
    go_enter Tryd.func13, Tryd.ntmps13
    go_wp2
    go_ret
    exact ⟨ret_int H.out, rfl⟩
  · have H : Hid (IntKind.u64.wrap p = (p.natAbs : Int)) := mag_pos p h1 hn
    go_enter Tryd.func13, Tryd.ntmps13
    clear h0 h1
    go_wp2
    go_ret
    first | exact ⟨rfl, rfl⟩ | exact ⟨ret_int H.out, rfl⟩

/-- '^p' at a negative int64. -/
theorem i64_not_neg (p : Int) (h0 : -9223372036854775808 ≤ p) (hn : p < 0) : bits .xor .i64 (-1) p = -p - 1 := by
  show IntKind.i64.wrap ((BitVec.ofInt 64 (-1) ^^^ BitVec.ofInt 64 p).toNat : Int) = _
  have h1 : (BitVec.ofInt 64 (-1)).toNat = 2 ^ 64 - 1 := by decide
  have h2 : (BitVec.ofInt 64 p).toNat = (p + 18446744073709551616).toNat := by
    rw [BitVec.toNat_ofInt]; omega
  rw [BitVec.toNat_xor, h1, h2, Lib.xor_ones64 _ (by omega), IntKind.wrap_i64]
  omega

theorem not_neg (p : Int) (h0 : -9223372036854775808 ≤ p) (hn : p < 0) : IntKind.u64.wrap (IntKind.u64.wrap (bits BinOp.xor IntKind.i64 (-1) p) + 1) = (p.natAbs : Int) := by
  rw [i64_not_neg p h0 hn, IntKind.wrap_u64, IntKind.wrap_u64]; omega

theorem magOf_any (p : Int) (h0 : -9223372036854775808 ≤ p) (h1 : p ≤ 9223372036854775807) (w : World) :
    Calls Tryd.prog 7 #[.int .i64 p] w fun e w' => e = .returned (.int .u64 (p.natAbs : Int)) ∧ w' = w := by
  by_cases hn : p < 0
  · have H : Hid (IntKind.u64.wrap (IntKind.u64.wrap (bits BinOp.xor IntKind.i64 (-1) p) + 1) = (p.natAbs : Int)) := not_neg p h0 hn
    go_enter Tryd.func7, Tryd.ntmps7
    go_wp2
    go_ret
    exact ⟨ret_int H.out, rfl⟩
  · have H : Hid (IntKind.u64.wrap p = (p.natAbs : Int)) := mag_pos p h1 hn
    go_enter Tryd.func7, Tryd.ntmps7
    clear h0 h1
    go_wp2
    go_ret
    first | exact ⟨rfl, rfl⟩ | exact ⟨ret_int H.out, rfl⟩

/-- The digits of u, with zeros ahead up to five places. -/
def padL (u : Nat) : List UInt8 := List.replicate (5 - (Lib.decDigits u).length) 48 ++ Lib.decDigits u
def decL (u : Nat) : List UInt8 := (padL u).take ((padL u).length - 4) ++ 46 :: (padL u).drop ((padL u).length - 4)

theorem ba_ext {a b : ByteArray} (h : a.data.toList = b.data.toList) : a = b := by
  cases a; cases b; simp at h; simpa using h

theorem dec_join (l : List UInt8) (k : Nat) : ((ByteArray.mk l.toArray).extract 0 k ++ ByteArray.mk #[46] ++ (ByteArray.mk l.toArray).extract k l.length : ByteArray) = ⟨(l.take k ++ 46 :: l.drop k).toArray⟩ := by
  apply ba_ext
  simp only [ByteArray.data_append, Array.toList_append, Lib.extract_data]
  simp [List.take_of_length_le]

theorem ret_str {a b : ByteArray} (h : a = b) : Ending.returned (.string a) = .returned (.string b) := by rw [h]

set_option maxHeartbeats 400000 in
theorem decimal_any (u : Nat) (h1 : u ≤ 9223372036854775808) (w : World) (htab : Lib.TabIs Tryd.prog w powName .u64 Lib.pow10Tab) :
    Calls Tryd.prog 14 #[.agg #[.int .u64 u, .int .u8 4]] w fun e w' => e = .returned (.string ⟨(decL u).toArray⟩) ∧ Below w.heap.size w w' := by
  have hl : (Lib.decDigits u).length ≤ 20 := by rw [Lib.decDigits_length]; exact Lib.nDigits_le20 u (by omega)
  have hf : Calls Tryd.prog 15 #[.int .u64 u, .int .i64 10] (w.alloc (.cells #[.int .u64 u, .int .u8 4] 39)) fun e w' => e = .returned (.string ⟨(Lib.decDigits u).toArray⟩) ∧ w'.cell? ⟨w.heap.size, 1, none⟩ = some (.int .u8 4) ∧ Below w.heap.size w w' :=
    (formatUint_pub u h1 (w.alloc (.cells #[.int .u64 u, .int .u8 4] 39)) (Lib.tabIs_alloc htab _)).mono fun e w' ⟨h, hb⟩ => ⟨h, by
      rw [hb.cell (by simp), World.cell?_alloc_at (hn := by simp)]; rfl, ((Below.refl _ _).alloc (Nat.le_refl _) _).trans (hb.mono (by simp))⟩
  have HF := Lib.hid hf
  clear hf htab
  by_cases h4 : (Lib.decDigits u).length ≤ 4
  · have HE : Hid (((ByteArray.mk (Array.replicate (5 - (Lib.decDigits u).length) 48) ++ ByteArray.mk (Lib.decDigits u).toArray)) = ⟨(padL u).toArray⟩) := by
      apply ba_ext
      simp [ByteArray.data_append, padL]
    have HL : Hid ((padL u).length = 5) := by
      show (padL u).length = 5
      unfold padL
      rw [List.length_append, List.length_replicate]
      omega
    go_enter Tryd.func14, Tryd.ntmps14
    go_wp2_with (go_at_call 15; refine HF.out.mono ?_; rintro e w' ⟨rfl, hc, hb⟩)
    rw [show (5 - ((Lib.decDigits u).length : Int)) = ((5 - (Lib.decDigits u).length : Nat) : Int) by omega]
    refine (Tryd.strings_Repeat ⟨#[48]⟩ (5 - (Lib.decDigits u).length) _ (by omega) (by show 1 * _ ≤ _; omega)).mono ?_
    rintro e w2 ⟨rfl, hb2⟩
    rw [show Lib.repeatL (ByteArray.mk #[48]).data.toList (5 - (Lib.decDigits u).length) = List.replicate (5 - (Lib.decDigits u).length) 48 from by
      have := Lib.repeatL_replicate 48 1 (5 - (Lib.decDigits u).length); simpa using this]
    go_wp2_with fail
    have he := HE.out
    generalize (ByteArray.mk (Array.replicate (5 - (Lib.decDigits u).length) 48) ++ ByteArray.mk (Lib.decDigits u).toArray : ByteArray) = S at he ⊢
    have hsz : S.size = 5 := by rw [he]; exact HL.out
    have HS : Hid (S = ⟨(padL u).toArray⟩) := he
    clear he HE
    go_quiet (fail)
    go_wp2
    go_ret
    refine ⟨ret_str ?_, below_drewN (hb.trans (hb2.mono hb.size)) _⟩
    unfold decL
    rw [← dec_join, HL.out, HS.out]
  · go_enter Tryd.func14, Tryd.ntmps14
    go_wp2_with (go_at_call 15; refine HF.out.mono ?_; rintro e w' ⟨rfl, hc, hb⟩)
    go_quiet (fail)
    go_wp2
    go_ret
    refine ⟨ret_str ?_, below_drewN hb _⟩
    have hp : padL u = Lib.decDigits u := by unfold padL; rw [show 5 - (Lib.decDigits u).length = 0 by omega]; rfl
    unfold decL
    rw [hp, dec_join]

/-- The text of p. -/
def txt (p : Int) : List UInt8 := if p < 0 then 45 :: decL p.natAbs else decL p.natAbs

theorem decL_length (u : Nat) (h1 : u ≤ 9223372036854775808) : 6 ≤ (decL u).length ∧ (decL u).length ≤ 30 := by
  have hl : (Lib.decDigits u).length ≤ 20 := by rw [Lib.decDigits_length]; exact Lib.nDigits_le20 u (by omega)
  have hp : (padL u).length = 5 - (Lib.decDigits u).length + (Lib.decDigits u).length := by unfold padL; rw [List.length_append, List.length_replicate]
  unfold decL
  rw [List.length_append, List.length_cons, List.length_take, List.length_drop]
  omega

set_option maxHeartbeats 400000 in
theorem fixed_any (p : Int) (h0 : -9223372036854775808 ≤ p) (h1 : p ≤ 9223372036854775807) (w : World) (htab : Lib.TabIs Tryd.prog w powName .u64 Lib.pow10Tab) :
    Calls Tryd.prog 12 #[.int .i64 p, .int .u8 4] w fun e w' => e = .returned (.string ⟨(txt p).toArray⟩) ∧ Below w.heap.size w w' := by
  have hl := decL_length p.natAbs (by omega)
  by_cases hn : p < 0
  · go_enter Tryd.func12, Tryd.ntmps12
    go_wp2_with (first
      | (go_at_call 13; refine (magnitude_any p h0 h1 _).mono ?_; rintro e w' ⟨rfl, rfl⟩)
      | (go_at_call 14; refine (decimal_any p.natAbs (by omega) _ htab).mono ?_; rintro e w' ⟨rfl, hb⟩))
    go_ret
    refine ⟨ret_str ?_, hb⟩
    unfold txt
    rw [if_pos hn]
    apply ba_ext
    simp [ByteArray.data_append]
  · go_enter Tryd.func12, Tryd.ntmps12
    go_wp2_with (first
      | (go_at_call 13; refine (magnitude_any p h0 h1 _).mono ?_; rintro e w' ⟨rfl, rfl⟩)
      | (go_at_call 14; refine (decimal_any p.natAbs (by omega) _ htab).mono ?_; rintro e w' ⟨rfl, hb⟩))
    go_ret
    refine ⟨ret_str ?_, hb⟩
    unfold txt
    rw [if_neg (by omega)]

theorem string_any (p : Int) (h0 : -9223372036854775808 ≤ p) (h1 : p ≤ 9223372036854775807) (w : World) (htab : Lib.TabIs Tryd.prog w powName .u64 Lib.pow10Tab) :
    Calls Tryd.prog 10 #[.int .i64 p] w fun e w' => e = .returned (.string ⟨(txt p).toArray⟩) ∧ Below w.heap.size w w' := by
  go_enter Tryd.func10, Tryd.ntmps10
  go_wp2_with (go_at_call 12; refine (fixed_any p h0 h1 _ htab).mono ?_; rintro e w' ⟨rfl, hb⟩)
  go_ret
  exact ⟨rfl, hb⟩

/-- The bytes l lie in block b from its first cell on. -/
def BytesAt (w : World) (b : Nat) (l : List UInt8) : Prop := ∀ j (hj : j < l.length), w.cell? ⟨b, j, none⟩ = some (.int .u8 (l[j].toNat : Int))

set_option maxHeartbeats 400000 in
theorem marshal_any (p : Int) (h0 : -9223372036854775808 ≤ p) (h1 : p ≤ 9223372036854775807) (w : World) (htab : Lib.TabIs Tryd.prog w powName .u64 Lib.pow10Tab) :
    Calls Tryd.prog 5 #[.int .i64 p] w fun e w' => ∃ b cap, e = .returned (.tuple #[.slice (some ⟨b, 0, none⟩) (txt p).length cap, .nilIface]) ∧ (txt p).length ≤ cap ∧ w.heap.size ≤ b ∧ b < w'.heap.size ∧ BytesAt w' b (txt p) ∧ Below w.heap.size w w' := by
  go_enter Tryd.func5, Tryd.ntmps5
  go_wp2_with (go_at_call 10; refine (string_any p h0 h1 _ htab).mono ?_; rintro e w' ⟨rfl, hb⟩)
  have hcv := Lib.run_convert_string_bytes (P := Tryd.prog) w' 9 22 5 ⟨(txt p).toArray⟩ (u := .string) Tryd.underlying9 Tryd.underlying22 Tryd.underlying5
  have hB : ∀ j, j < (ByteArray.mk (txt p).toArray).size → (Lib.bytesWorld w' 5 ⟨(txt p).toArray⟩).cell? ⟨w'.heap.size, j, none⟩ = some (.int .u8 ((ByteArray.mk (txt p).toArray).data.toList.getD j 0).toNat) := fun j hj => Lib.bytesWorld_cell w' 5 _ j hj
  have hsz : w'.heap.size < (Lib.bytesWorld w' 5 ⟨(txt p).toArray⟩).heap.size := by
    rw [Lib.bytesWorld_size]; omega
  have hlow : Below w'.heap.size w' (Lib.bytesWorld w' 5 ⟨(txt p).toArray⟩) :=
    ⟨rfl, rfl, rfl, by rw [Lib.bytesWorld_size]; omega, fun k hk => Lib.bytesWorld_at_old w' 5 _ k hk⟩
  obtain ⟨W1, hW1⟩ : ∃ W1, W1 = Lib.bytesWorld w' 5 ⟨(txt p).toArray⟩ := ⟨_, rfl⟩
  rw [← hW1] at hcv hB hsz hlow
  clear hW1
  have HB := Lib.hid hB
  clear hB
  go_wp2
  go_ret2
  refine ⟨_, _, rfl, ?_, hb.size, hsz, ?_, hb.trans (hlow.mono hb.size)⟩
  · exact grownCap_ge _ _ _ _
  intro j hj
  rw [HB.out j (by exact hj)]
  simp [List.getD_eq_getElem?_getD, hj]
end Go.Proofs.Qxb6614358aDoor
