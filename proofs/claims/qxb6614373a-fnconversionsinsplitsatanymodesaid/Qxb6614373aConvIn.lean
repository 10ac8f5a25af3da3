import Derived.Test.Qxb6614373aByMode
import Derived.Test.Qxb6614373aHas
import Derived.Deep.RegionHeld3
import Derived.Deep.MidRow
namespace Go.Proofs.Qxb6614373a
open Go.RowKit

/-- Is the mode m selected: queued, a mode, and one with conversions? -/
def sel (M CI m : Nat) : Bool := decide (1 ≤ m) && (M.testBit m && CI.testBit m)
/-- The selected modes below k. -/
def sels (M CI k : Nat) : List Nat := (List.range k).filter (sel M CI)

theorem sels_succ_yes {M CI k : Nat} (h : sel M CI k = true) : sels M CI (k + 1) = sels M CI k ++ [k] := by
  unfold sels; rw [List.range_succ, List.filter_append]; simp [h]
theorem sels_succ_no {M CI k : Nat} (h : sel M CI k = false) : sels M CI (k + 1) = sels M CI k := by
  unfold sels; rw [List.range_succ, List.filter_append]; simp [h]
theorem sels_len (M CI k : Nat) : (sels M CI (k + 1)).length ≤ k := by
  unfold sels
  induction k with
  | zero => simp [List.range_succ, sel]
  | succ k ih =>
    rw [List.range_succ, List.filter_append, List.length_append]
    have : ([k + 1].filter (sel M CI)).length ≤ 1 := List.length_filter_le _ _
    omega

/-- The cells of a modeParts with the parts ps. -/
def Parr (ps : List Value) : Array Value := (ps ++ (List.replicate (12 - ps.length) (Value.slice none 0 0) ++ [Value.int .i64 (ps.length : Int)])).toArray

theorem Parr_n (ps : List Value) (h : ps.length ≤ 12) : (Parr ps)[12]? = some (.int .i64 (ps.length : Int)) := by
  unfold Parr
  simp only [List.getElem?_toArray]
  rw [List.getElem?_append_right (by omega), List.getElem?_append_right (by simp)]
  simp only [List.length_replicate]
  rw [show 12 - ps.length - (12 - ps.length) = 0 by omega]
  rfl
theorem Parr_lt (ps : List Value) (i : Nat) (h : i < ps.length) : (Parr ps)[i]? = some ps[i] := by
  unfold Parr
  simp only [List.getElem?_toArray]
  rw [List.getElem?_append_left h, List.getElem?_eq_getElem h]
theorem Parr_ge (ps : List Value) (i : Nat) (h : ps.length ≤ i) (h12 : i < 12) : (Parr ps)[i]? = some (.slice none 0 0) := by
  unfold Parr
  simp only [List.getElem?_toArray]
  rw [List.getElem?_append_right h, List.getElem?_append_left (by simp; omega), List.getElem?_replicate, if_pos (by omega)]
theorem Parr_push (ps : List Value) (v : Value) (h : ps.length < 12) : ((Parr ps).setIfInBounds ps.length v).setIfInBounds 12 (.int .i64 ((ps.length : Int) + 1)) = Parr (ps ++ [v]) := by
  apply Array.ext_getElem?
  intro i
  rw [Array.getElem?_setIfInBounds, Array.getElem?_setIfInBounds]
  have hs : (Parr ps).size = 13 := by unfold Parr; simp; omega
  have hs' : (Parr (ps ++ [v])).size = 13 := by unfold Parr; simp; omega
  simp only [Array.size_setIfInBounds, hs]
  by_cases e12 : 12 = i
  · subst e12
    rw [if_pos rfl, if_pos (by omega), Parr_n _ (by simp; omega)]
    simp
  · rw [if_neg e12]
    by_cases e : ps.length = i
    · subst e
      rw [if_pos rfl, if_pos (by omega), Parr_lt _ _ (by simp)]
      simp
    · rw [if_neg e]
      by_cases hlt : i < ps.length
      · rw [Parr_lt _ _ hlt, Parr_lt _ _ (by simp; omega), List.getElem_append_left hlt]
      · by_cases h12 : i < 12
        · rw [Parr_ge _ _ (by omega) h12, Parr_ge _ _ (by simp; omega) h12]
        · rw [Array.getElem?_eq_none (by omega), Array.getElem?_eq_none (by omega)]

/-- The part of mode m. -/
def pv (bl ln cv : Nat → Nat) (m : Nat) : Value := .slice (some ⟨bl m, 0, none⟩) (cv m) (ln m)
/-- The parts of the selected modes below k. -/
def parts (M CI : Nat) (bl ln cv : Nat → Nat) (k : Nat) : List Value := (sels M CI k).map (pv bl ln cv)

theorem parts_len (M CI : Nat) (bl ln cv : Nat → Nat) (k : Nat) : (parts M CI bl ln cv (k + 1)).length ≤ k := by
  unfold parts; rw [List.length_map]; exact sels_len M CI k
theorem parts_yes {M CI k : Nat} {bl ln cv : Nat → Nat} (h : sel M CI k = true) : parts M CI bl ln cv (k + 1) = parts M CI bl ln cv k ++ [.slice (some ⟨bl k, 0, none⟩) (cv k) (ln k)] := by
  unfold parts; rw [sels_succ_yes h, List.map_append]; rfl
theorem parts_no {M CI k : Nat} {bl ln cv : Nat → Nat} (h : sel M CI k = false) : parts M CI bl ln cv (k + 1) = parts M CI bl ln cv k := by
  unfold parts; rw [sels_succ_no h]

theorem conv_world (W : World) (A B : Array Value) (d b n : Nat) (v v' : Value) (hb : b = W.heap.size) (h : (A.setIfInBounds n v).setIfInBounds 12 v' = B) :
    ((((W.alloc (.cells A 86)).drewN d).setCell ⟨b, n, none⟩ v).setCell ⟨b, 12, none⟩ v') = (W.alloc (.cells B 86)).drewN d := by
  subst h
  show (((W.alloc (.cells A 86)).setCell ⟨b, n, none⟩ v).setCell ⟨b, 12, none⟩ v').drewN d = _
  rw [World.setCell_alloc_at (hn := hb), World.setCell_alloc_at (hn := hb)]

theorem Parr_size (ps : List Value) (h : ps.length ≤ 12) : (Parr ps).size = 13 := by unfold Parr; simp; omega
theorem Parr_one (ps : List Value) (h : ∀ v ∈ ps, v.oneCell' = true) : (Parr ps).all (·.oneCell') = true := by
  rw [Array.all_eq_true_iff_forall_mem]
  intro v hv
  unfold Parr at hv
  simp only [List.mem_toArray, List.mem_append, List.mem_replicate, List.mem_singleton] at hv
  rcases hv with hv | ⟨_, rfl⟩ | rfl
  · exact h v hv
  · rfl
  · rfl
theorem parts_one (M CI : Nat) (bl ln cv : Nat → Nat) (k : Nat) : ∀ v ∈ parts M CI bl ln cv k, v.oneCell' = true := by
  intro v hv
  unfold parts at hv
  obtain ⟨m, _, rfl⟩ := List.mem_map.1 hv
  rfl

theorem size_setCells (b : Nat) : ∀ (vs : List Value) (o : Nat) (w : World), (w.setCells b o vs).heap.size = w.heap.size
  | [], _, _ => rfl
  | v :: r, o, w => by rw [World.setCells, size_setCells b r]; simp
theorem below_setCells {B b : Nat} (hb : B ≤ b) : ∀ (vs : List Value) (o : Nat) {a w : World}, Below B a w → Below B a (w.setCells b o vs)
  | [], _, _, _, h => h
  | v :: r, o, _, _, h => below_setCells hb r (o + 1) (h.setCell (by exact hb) v)

set_option maxRecDepth 100000 in
set_option maxHeartbeats 400000 in
theorem convin_any (M CI lk bm : Nat) (bl ln cv : Nat → Nat) (w : World) (hM : M < 65536) (hCI : CI < 65536) (hlk : lk < w.heap.size) (hbm : bm < w.heap.size)
    (h38 : w.cell? ⟨lk, 38, none⟩ = some (.pointer (some ⟨bm, 0, none⟩))) (h21 : w.cell? ⟨bm, 21, none⟩ = some (.int .u16 CI))
    (hl : ∀ m, m < 7 → sel M CI m = true → w.cell? ⟨bm, m, none⟩ = some (.slice (some ⟨bl m, 0, none⟩) (ln m) (ln m)) ∧ w.cell? ⟨bm, 14 + m, none⟩ = some (.int .i32 (cv m : Int)) ∧ cv m ≤ ln m) (h0 : ¬ M = 0) :
    Calls Try.prog 24 #[.pointer (some ⟨lk, 0, none⟩), .int .u16 M] w fun e w' => e = .returned (.agg (Parr (parts M CI bl ln cv 7))) ∧ Below w.heap.size w w' := by
  have e0 : ((M : Int) == 0) = false := by simp; omega
  have HL := Lib.hid hl
  clear hl h0
  go_enter Try.func24, Try.ntmps24
  go_wp2_with fail
  go_loopw [7] (fun m wr => ∃ k d : Nat, 1 ≤ k ∧ k ≤ 7 ∧ m = .int .u8 k ∧ wr = ((w.alloc (.cells (Parr []) 86)).alloc (.cells (Parr (parts M CI bl ln cv k)) 86)).drewN d) (fun m _ => 7 - (intOf m).toNat)
  case atStart => exact ⟨1, 0, by omega, by omega, rfl, rfl⟩
  case round =>
    obtain ⟨k, d, hk1, hk, rfl, rfl⟩ := hrel
    have hlen := parts_len M CI bl ln cv (k - 1)
    rw [show k - 1 + 1 = k by omega] at hlen
    by_cases hlt : k < 7
    · have hn := Parr_n (parts M CI bl ln cv k) (by omega)
      by_cases hs : sel M CI k = true
      · obtain ⟨hc1, hc2, hc3⟩ := HL.out k hlt hs
        have hps := parts_yes (bl := bl) (ln := ln) (cv := cv) hs
        have hpush := Parr_push (parts M CI bl ln cv k) (.slice (some ⟨bl k, 0, none⟩) (cv k) (ln k)) (by omega)
        rw [← hps] at hpush
        have HP := Lib.hid hpush
        have hb : M.testBit k = true ∧ CI.testBit k = true := by
          unfold sel at hs; simp at hs; exact hs.2
        obtain ⟨hbM, hbC⟩ := hb
        clear hps hpush hs
        generalize parts M CI bl ln cv k = ps at *
        have hpn := Parr_ge ps ps.length (Nat.le_refl _) (by omega)
        have hM1 := has_any M k
        rw [hbM] at hM1
        have hC1 := has_any CI k
        rw [hbC] at hC1
        go_wp2_with (first
          | (go_at_call 29; refine (valid_yes k _ (by omega) hlt).mono ?_; rintro e w' ⟨rfl, rfl⟩))
        refine (hM1 _ hM (by omega)).mono ?_
        rintro e w' ⟨rfl, rfl⟩
        go_wp2_with fail
        refine (hC1 _ hCI (by omega)).mono ?_
        rintro e w' ⟨rfl, rfl⟩
        go_wp2_with fail
        have b1 : (0 : Int) ≤ (k : Int) := by omega
        have b2 : (k : Int) < 7 := by omega
        have b3 : (ps.length : Int) < 12 := by omega
        have b4 : (cv k : Int) ≤ (ln k : Int) := by omega
        clear hM1 hC1 hbM hbC
        have k1 : ((w.alloc (Obj.cells (Parr []) 86)).alloc (Obj.cells (Parr ps) 86)).cell? ⟨w.heap.size + 1, 12, none⟩ = some (.int .i64 (ps.length : Int)) := by
          rw [World.cell?_alloc_at (hn := by simp)]; exact hn
        have k2 : ((w.alloc (Obj.cells (Parr []) 86)).alloc (Obj.cells (Parr ps) 86)).cell? ⟨lk, 38, none⟩ = some (.pointer (some ⟨bm, 0, none⟩)) := by
          rw [World.cell?_alloc_past (hn := by simp; omega), World.cell?_alloc_past (hn := hlk)]; exact h38
        have k3 : ((w.alloc (Obj.cells (Parr []) 86)).alloc (Obj.cells (Parr ps) 86)).cell? ⟨bm, k, none⟩ = some (.slice (some ⟨bl k, 0, none⟩) (ln k) (ln k)) := by
          rw [World.cell?_alloc_past (hn := by simp; omega), World.cell?_alloc_past (hn := hbm)]; exact hc1
        have k4 : ((w.alloc (Obj.cells (Parr []) 86)).alloc (Obj.cells (Parr ps) 86)).cell? ⟨bm, 14 + k, none⟩ = some (.int .i32 (cv k : Int)) := by
          rw [World.cell?_alloc_past (hn := by simp; omega), World.cell?_alloc_past (hn := hbm)]; exact hc2
        go_region_held3 (fun w' => w'.cell? ⟨w.heap.size + 1, 12, none⟩ = some (.int .i64 (ps.length : Int)) ∧ w'.cell? ⟨lk, 38, none⟩ = some (.pointer (some ⟨bm, 0, none⟩)) ∧ w'.cell? ⟨bm, k, none⟩ = some (.slice (some ⟨bl k, 0, none⟩) (ln k) (ln k)) ∧ w'.cell? ⟨bm, 14 + k, none⟩ = some (.int .i32 (cv k : Int))) (first | go_keep | (refine ⟨?_, ?_, ?_, ?_⟩ <;> (rw [World.cell?_setCell_other _ _ _ _ (by first | (exact addr_ne (by omega)) | (exact addr_ne' (by omega)))]; first | exact k1 | exact k2 | exact k3 | exact k4))) (fail)
        go_wp2
        go_roundw
        case rel => exact ⟨k + 1, d + 1, by omega, by omega, by go_num, conv_world _ _ _ _ _ _ _ _ (by simp) HP.out⟩
        case measure => simp [intOf]; omega
      · have hs' : sel M CI k = false := by simpa using hs
        have hps := parts_no (bl := bl) (ln := ln) (cv := cv) hs'
        have HP := Lib.hid hps
        have h21' : ((w.alloc (Obj.cells (Parr []) 86)).alloc (Obj.cells (Parr (parts M CI bl ln cv k)) 86)).cell? ⟨bm, 21, none⟩ = some (.int .u16 CI) := by
          rw [World.cell?_alloc_past (hn := by simp; omega), World.cell?_alloc_past (hn := hbm)]; exact h21
        have hM1 := has_any M k
        have hC1 := has_any CI k
        have b2 : (k : Int) < 7 := by omega
        cases hbM : M.testBit k
        · rw [hbM] at hM1
          clear hps hs hs' hn hlen hbM
          generalize parts M CI bl ln cv k = ps at *
          go_wp2_with (first
            | (go_at_call 29; refine (valid_yes k _ (by omega) hlt).mono ?_; rintro e w' ⟨rfl, rfl⟩)
            | (go_at_call 30; refine (hM1 _ hM (by omega)).mono ?_; rintro e w' ⟨rfl, rfl⟩))
          go_roundw
          case rel => exact ⟨k + 1, d, by omega, by omega, by go_num, by rw [HP.out]⟩
          case measure => simp [intOf]; omega
        · have hbC : CI.testBit k = false := by
            cases hc : CI.testBit k
            · rfl
            · exfalso; unfold sel at hs; rw [hbM, hc] at hs; simp at hs; omega
          rw [hbM] at hM1
          rw [hbC] at hC1
          clear hps hs hs' hn hlen hbM hbC
          generalize parts M CI bl ln cv k = ps at *
          go_wp2_with (go_at_call 29; refine (valid_yes k _ (by omega) hlt).mono ?_; rintro e w' ⟨rfl, rfl⟩)
          refine (hM1 _ hM (by omega)).mono ?_
          rintro e w' ⟨rfl, rfl⟩
          go_wp2_with fail
          refine (hC1 _ hCI (by omega)).mono ?_
          rintro e w' ⟨rfl, rfl⟩
          go_wp2
          go_roundw
          case rel => exact ⟨k + 1, d, by omega, by omega, by go_num, by rw [HP.out]⟩
          case measure => simp [intOf]; omega
    · obtain rfl : k = 7 := by omega
      have hone := Parr_one _ (parts_one M CI bl ln cv 7)
      have hsize := Parr_size (parts M CI bl ln cv 7) (by omega)
      generalize hps : parts M CI bl ln cv 7 = ps at *
      have HPS := Lib.hid hps
      clear hps
      have hi : (Try.prog.info? 86).map (·.size) = some (Parr ps).toList.length := by rw [Array.length_toList, hsize]; kernel_rfl
      have hi' : (Try.prog.info? 86).map (·.size) = some (Parr ps).size := by rw [hsize]; kernel_rfl
      have hrange : (((w.alloc (Obj.cells (Parr []) 86)).alloc (Obj.cells (Parr ps) 86)).drewN d).rangeAt (w.heap.size + 1) 0 (Parr ps).toList := fun j v hv => by
        rw [World.cell?_drewN, World.cell?_alloc_at (hn := by simp), Nat.zero_add]; simpa using hv
      have hthere : (((w.alloc (Obj.cells (Parr []) 86)).alloc (Obj.cells (Parr ps) 86)).drewN d).there w.heap.size 0 (Parr ps).size := fun j hj => by
        rw [World.cell?_drewN, World.frozen?_drewN, World.cell?_alloc_past (hn := by simp), World.cell?_alloc_at (hn := rfl), World.frozen?_alloc_past (hn := by simp), World.frozen?_alloc_at (hn := rfl), Nat.zero_add]
        refine ⟨?_, rfl⟩
        rw [Array.getElem?_eq_getElem (by rw [Parr_size [] (by simp)]; omega)]; rfl
      have HI := Lib.hid hi
      have HI' := Lib.hid hi'
      have HR := Lib.hid hrange
      have HT := Lib.hid hthere
      have HO := Lib.hid hone
      clear hi hi' hrange hthere hone hsize hlen
      go_wp2_with (first
        | (go_at_call 29; refine (valid_no _).mono ?_; rintro e w' ⟨rfl, rfl⟩)
        | (refine wpList_load_mid rfl 86 (.tmp 5) (by rfl) (w.heap.size + 1) 0 (by rfl) (Parr ps).toList _ HR.out Try.underlying86 rfl HI.out ?_)
        | (refine wpList_store_mid rfl 86 (.tmp 4) (.tmp 56) (by rfl) w.heap.size 0 (Parr ps) (by rfl) (by rfl) HT.out HI'.out HO.out ?_))
      have hr2 := World.rangeAt_setCells_same _ _ _ (Parr ps).toList (by rw [Array.length_toList]; exact HT.out)
      have hload := run_loadVar_mid (P := Try.prog) _ _ _ 86 _ _ hr2 Try.underlying86 rfl HI.out
      refine bodyPost_ret (v := .agg (Parr ps)) ?_ rfl ⟨by rw [HPS.out], below_setCells (Nat.le_refl _) _ _ (below_drewN (((Below.refl _ _).alloc (Nat.le_refl _) _).alloc (by simp) _) _)⟩
      simp only [Array.toArray_toList] at hload
      simp [results, Try.results24, Act.put, asAddr, hload]
end Go.Proofs.Qxb6614373a
