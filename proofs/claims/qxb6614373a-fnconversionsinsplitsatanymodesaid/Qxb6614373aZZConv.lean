import Derived.Test.Qxb6614373aSeqs
import Derived.Deep.Slices
namespace Go.Proofs.Qxb6614373a
open Go.RowKit

set_option maxRecDepth 100000 in
set_option maxHeartbeats 400000 in
theorem convin_zero (lk : Nat) (w : World) :
    Calls Try.prog 24 #[.pointer (some ⟨lk, 0, none⟩), .int .u16 0] w fun e w' => e = .returned (.agg (Parr [])) ∧ Below w.heap.size w w' := by
  go_enter Try.func24, Try.ntmps24
  go_wp2
  refine bodyPost_ret (v := .agg (Parr [])) ?_ rfl ⟨rfl, ?_⟩
  · show _ = Result.ok (Value.agg #[.slice none 0 0, .slice none 0 0, .slice none 0 0, .slice none 0 0, .slice none 0 0, .slice none 0 0, .slice none 0 0, .slice none 0 0, .slice none 0 0, .slice none 0 0, .slice none 0 0, .slice none 0 0, .int .i64 0]) _
    simp [results, Try.results24, go_sem]
  · exact ((Below.refl _ _).alloc (Nat.le_refl _) _).alloc (by simp) _

theorem sels_zero (CI k : Nat) : sels 0 CI k = [] := by
  unfold sels
  rw [List.filter_eq_nil_iff]
  intro m _
  simp [sel]

theorem convin (M CI lk bm : Nat) (bl ln cv : Nat → Nat) (w : World) (hM : M < 65536) (hCI : CI < 65536) (hlk : lk < w.heap.size) (hbm : bm < w.heap.size)
    (h38 : w.cell? ⟨lk, 38, none⟩ = some (.pointer (some ⟨bm, 0, none⟩))) (h21 : w.cell? ⟨bm, 21, none⟩ = some (.int .u16 CI))
    (hl : ∀ m, m < 7 → sel M CI m = true → w.cell? ⟨bm, m, none⟩ = some (.slice (some ⟨bl m, 0, none⟩) (ln m) (ln m)) ∧ w.cell? ⟨bm, 14 + m, none⟩ = some (.int .i32 (cv m : Int)) ∧ cv m ≤ ln m) :
    Calls Try.prog 24 #[.pointer (some ⟨lk, 0, none⟩), .int .u16 M] w fun e w' => e = .returned (.agg (Parr (parts M CI bl ln cv 7))) ∧ Below w.heap.size w w' := by
  by_cases h0 : M = 0
  · subst h0
    unfold parts
    rw [sels_zero]
    exact convin_zero lk w
  · exact convin_any M CI lk bm bl ln cv w hM hCI hlk hbm h38 h21 hl h0

theorem sels_mem {M CI k i : Nat} (hi : i < (sels M CI k).length) : (sels M CI k)[i] < k ∧ sel M CI (sels M CI k)[i] = true := by
  have := List.getElem_mem hi
  unfold sels at this
  rw [List.mem_filter, List.mem_range] at this
  exact this

theorem ret_tup {v : Value} {a b : Nat} (h : a = b) : Ending.returned (.tuple #[v, .int .i64 (a : Int)]) = .returned (.tuple #[v, .int .i64 (b : Int)]) := by rw [h]

/-- What ZZConversionsIn hands out, by the selected modes. -/
def smode (M CI i : Nat) : Nat := (sels M CI 7).getD i 0

set_option maxRecDepth 100000 in
set_option maxHeartbeats 400000 in
theorem zzconv_any (la : Option Addr) (L lcap : Nat) (R : Nat → Value) (ln : Nat → Nat) (S : Nat → Nat → Int) (ca : Option Addr) (N ccap : Nat) (C : Nat → Int) (cv : Nat → Nat) (CI M : Nat) (w : World)
    (hM : M < 65536) (hCI : CI < 65536) (hla : IsLists w la L R ln S) (hca : IsCounts w ca N C) (hln : ∀ m, m < L → (ln m : Int) ≤ 17592186044416)
    (hsel : ∀ m, m < 7 → sel M CI m = true → m < L ∧ cvOf N C m = (cv m : Int) ∧ 0 < cv m ∧ cv m ≤ ln m) :
    Calls Try.prog 16 #[.int .u16 M, .slice la L lcap, .slice ca N ccap, .int .u16 CI] w fun e w' => ∃ b, e = .returned (.tuple #[.slice (some ⟨b, 0, none⟩) 12 12, .int .i64 ((sels M CI 7).length : Int)]) ∧
      Below w.heap.size w w' ∧ w.heap.size ≤ b ∧ b < w'.heap.size ∧ SeqRows w' w.heap.size w'.heap.size b (sels M CI 7).length (fun i => cv (smode M CI i)) (fun i => S (smode M CI i)) := by
  go_enter Try.func16, Try.ntmps16
  go_wp2_with fail
  refine (bymode_any la L lcap R ln S ca N ccap C CI _ hla hca).mono ?_
  rintro e w1 ⟨rfl, hD⟩
  obtain ⟨d1, d2, d3, d4, d5⟩ := hD
  obtain ⟨bl, hbl⟩ := Go.Deep.choose_lt (n := 7) (p := fun m b => sel M CI m = true → w1.cell? ⟨w.heap.size, m, none⟩ = some (.slice (some ⟨b, 0, none⟩) (ln m) (ln m)) ∧ ReqRow w1 (w.heap.size + 1) w1.heap.size b (ln m) (S m)) (fun m hm => by
    by_cases hs : sel M CI m = true
    · obtain ⟨s1, s2, s3, s4⟩ := hsel m hm hs
      obtain ⟨v, v1, v2⟩ := d3 m hm s1
      rcases v2 with ⟨rfl, v2⟩ | ⟨b, rfl, v2⟩
      · omega
      · exact ⟨b, fun _ => ⟨v1, v2⟩⟩
    · exact ⟨0, fun h => absurd h hs⟩)
  have HB := Lib.hid hbl
  have HS := Lib.hid hsel
  have H3 := Lib.hid d3
  have H4 := Lib.hid d4
  have HLn := Lib.hid hln
  clear hbl hsel d3 d4 hln
  go_wp2_with fail
  refine (convin M CI w1.heap.size w.heap.size bl ln cv _ hM hCI (by simp) (by simp; omega) (by rw [World.cell?_alloc_at (hn := rfl)]; rfl) (by rw [World.cell?_alloc_past (hn := d2)]; exact d5) ?_).mono ?_
  · intro m hm hs
    obtain ⟨q1, q2⟩ := HB.out m hm hs
    obtain ⟨s1, s2, s3, s4⟩ := HS.out m hm hs
    rw [World.cell?_alloc_past (hn := d2), World.cell?_alloc_past (hn := d2)]
    exact ⟨q1, by rw [H4.out m hm, s2], s4⟩
  rintro e w3 ⟨rfl, hb3⟩
  have hb3' : Below w1.heap.size w1 w3 := ((Below.refl _ _).alloc (Nat.le_refl _) _).trans (hb3.mono (by simp))
  have hs3 := hb3'.size
  have hplen : (parts M CI bl ln cv 7).length = (sels M CI 7).length := by unfold parts; rw [List.length_map]
  have hle : (sels M CI 7).length ≤ 6 := sels_len M CI 6
  have hP : PartsAt w3 (parts M CI bl ln cv 7) (fun i => cv (smode M CI i)) (fun i => S (smode M CI i)) := by
    intro i hi
    have hi' : i < (sels M CI 7).length := by omega
    have hm := sels_mem hi'
    have he : smode M CI i = (sels M CI 7)[i] := by unfold smode; rw [List.getD_eq_getElem?_getD, List.getElem?_eq_getElem hi']; rfl
    have hpi : (parts M CI bl ln cv 7)[i] = pv bl ln cv (smode M CI i) := by simp only [parts, List.getElem_map, he]
    rw [← he] at hm
    obtain ⟨q1, r1, r2, r3⟩ := HB.out _ hm.1 hm.2
    obtain ⟨s1, s2, s3, s4⟩ := HS.out _ hm.1 hm.2
    have hl := HLn.out _ s1
    refine ⟨bl (smode M CI i), ln (smode M CI i), hpi, by omega, by show ((cv (smode M CI i) : Nat) : Int) ≤ _; omega, fun j hj => ?_⟩
    have hj' : j < ln (smode M CI i) := by show j < _; exact Nat.lt_of_lt_of_le hj s4
    obtain ⟨q, x1, x2, x3, x4⟩ := r3 j hj'
    exact ⟨q, by omega, (hb3'.cell (p := ⟨bl (smode M CI i), j, none⟩) r2).trans x3, (hb3'.cell (p := ⟨q, 7, none⟩) x2).trans x4⟩
  have HP := Lib.hid hP
  have HPL := Lib.hid hplen
  have hle' : (parts M CI bl ln cv 7).length ≤ 12 := by omega
  clear hP hplen
  go_wp2_with fail
  refine (seqs_any _ _ _ _ hle' HP.out).mono ?_
  rintro e w4 ⟨rfl, hb4, hs4, hr4⟩
  rw [HPL.out] at hr4
  go_wp2
  go_ret2
  refine ⟨w3.heap.size + 1, ret_tup HPL.out, (d1.trans (hb3'.mono (by omega))).trans (hb4.mono (by omega)), by omega, hs4, fun i hi => ?_⟩
  obtain ⟨ob, o1, o2, o3, o4⟩ := hr4 i hi
  exact ⟨ob, by omega, o2, o3, o4⟩
end Go.Proofs.Qxb6614373a
