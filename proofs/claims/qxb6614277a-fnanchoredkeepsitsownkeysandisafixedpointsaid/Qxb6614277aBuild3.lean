import Derived.Test.Qxb6614277aBuild2
import Derived.Deep.RegionHeld3
import Derived.Deep.Heap
namespace Go.Proofs.Qxb6614277a
open Go.RowKit

theorem make_ptrs (n : Nat) (hn : n ≤ 1048576) (W : World) :
    (Instr.makeSlice 37 (.int .i64 (n : Int)) (.int .i64 (n : Int))).run Try.prog W = .ok (.slice (some ⟨W.heap.size, 0, none⟩) n n) (W.alloc (.cells (cellsOf n (.pointer none)) 25)) := by
  have := run_make (P := Try.prog) W 37 25 Try.t25 (.pointer none) Try.underlying37 (by kernel_rfl) rfl .i64 .i64 (n : Int) (n : Int) (by omega) (by omega) (by show (8 : Int) * _ ≤ _; omega) (by omega)
  rw [this]
  simp only [Int.toNat_natCast]
  rw [show (Value.pointer none).cells = #[Value.pointer none] from rfl, show Try.t25.size = 1 from rfl, made_one]

theorem kept_cell {w : World} {b o rb ri : Nat} {u x : Value} {C : Array Value} {t : TypeId} (h : w.cell? ⟨b, o, none⟩ = some u) (hne : b ≠ rb) : ((w.setCell ⟨rb, ri, none⟩ x).alloc (.cells C t)).cell? ⟨b, o, none⟩ = some u := by
  have hb := World.block_lt_of_cell? w ⟨b, o, none⟩ h
  rw [World.cell?_alloc_past (hn := by simp [World.setCell]; exact hb), World.cell?_setCell_other _ _ _ _ (by intro e; injection e; omega)]
  exact h

/-- The rounds of zzBuild: i keys laid, in the blocks Bs. -/
structure BuildInv (W wr : World) (n : Nat) (ks : List Key) (Bs : List Nat) : Prop where
  bel : Below W.heap.size W wr
  lt : W.heap.size < wr.heap.size
  room : ∀ j, j < n → wr.frozen? ⟨W.heap.size, j, none⟩ = false ∧ ∃ p, wr.cell? ⟨W.heap.size, j, none⟩ = some (.pointer p)
  ptr : ∀ (j q : Nat), Bs[j]? = some q → wr.cell? ⟨W.heap.size, j, none⟩ = some (.pointer (some ⟨q, 0, none⟩))
  rise : Bs.Pairwise (· < ·)
  new : ∀ q ∈ Bs, W.heap.size < q ∧ q < wr.heap.size
  key : ∀ (j q : Nat) (k : Key), Bs[j]? = some q → ks[j]? = some k → KeyAt wr wr.heap.size q k
  blk : ∀ q ∈ Bs, ∃ c, wr.heap[q]? = some (.cells c 29 (0, 0))

/-- A pointer's cell turned: no other kind of value is touched. -/
theorem cell_setPtr {w : World} {a : Addr} {p : Option Addr} {x u : Value} {b : Addr} (ha : w.cell? a = some (.pointer p)) (h : w.cell? b = some u) (hu : ∀ p, u ≠ .pointer p) : (w.setCell a x).cell? b = some u := by
  rw [World.cell?_setCell_other _ _ _ _ (by rintro rfl; rw [ha] at h; injection h with h; exact hu p h.symm)]
  exact h

theorem BytesAt.setPtr {w : World} {B : Nat} {v : Value} {l : List Nat} {a : Addr} {p : Option Addr} {x : Value} (ha : w.cell? a = some (.pointer p)) (h : BytesAt w B v l) : BytesAt (w.setCell a x) B v l := by
  rcases h with h | ⟨b, off, cap, h1, h2, h3⟩
  · exact Or.inl h
  · refine Or.inr ⟨b, off, cap, h1, h2, fun j u hj => cell_setPtr ha (h3 j u hj) ?_⟩
    obtain ⟨_, rfl⟩ := u8s_get hj
    intro p h; cases h

theorem BytesAt.slice {w : World} {B : Nat} {v : Value} {l : List Nat} (h : BytesAt w B v l) : ∀ p, v ≠ .pointer p := by
  intro p
  rcases h with (⟨rfl, _⟩ | ⟨a, cap, rfl, _⟩) | ⟨b, off, cap, rfl, _⟩ <;> (intro h; cases h)

theorem KeyAt.setPtr {w : World} {B q : Nat} {k : Key} {a : Addr} {p : Option Addr} {x : Value} (ha : w.cell? a = some (.pointer p)) (h : KeyAt w B q k) : KeyAt (w.setCell a x) B q k := by
  obtain ⟨h0, h1, h2, h3, h4, v, h5, h6⟩ := h
  exact ⟨h0, cell_setPtr ha h1 (by intro p h; cases h), cell_setPtr ha h2 (by intro p h; cases h), cell_setPtr ha h3 (by intro p h; cases h), cell_setPtr ha h4 (by intro p h; cases h), v, cell_setPtr ha h5 h6.slice, h6.setPtr ha⟩

theorem BuildInv.step {W wr w2 : World} {n : Nat} {ks : List Key} {Bs : List Nat} {k : Key} {v : Value} (h : BuildInv W wr n ks Bs) (hi : Bs.length < n) (hk : ks[Bs.length]? = some k) (hb : Below wr.heap.size wr w2) (hv : BytesAt w2 w2.heap.size v k.pk) :
    BuildInv W ((w2.setCell ⟨W.heap.size, Bs.length, none⟩ (.pointer (some ⟨w2.heap.size, 0, none⟩))).alloc (.cells #[.string { data := #[] }, .int .u16 k.fl, .int .u8 k.pr, .int .u8 k.al, v] 29)) n ks (Bs ++ [w2.heap.size]) := by
  obtain ⟨h1, h2, h3, h4, h5, h6, h7, h8⟩ := h
  have hz := hb.size
  obtain ⟨w3, hw3⟩ : ∃ w3, w3 = w2.setCell ⟨W.heap.size, Bs.length, none⟩ (.pointer (some ⟨w2.heap.size, 0, none⟩)) := ⟨_, rfl⟩
  have hsz : w3.heap.size = w2.heap.size := by rw [hw3]; simp [World.setCell]
  have row : ∀ j, w2.cell? ⟨W.heap.size, j, none⟩ = wr.cell? ⟨W.heap.size, j, none⟩ := fun j => hb.cell (p := ⟨W.heap.size, j, none⟩) h2
  obtain ⟨hf, p, hu⟩ := h3 Bs.length hi
  have hu2 : w2.cell? ⟨W.heap.size, Bs.length, none⟩ = some (.pointer p) := by rw [row]; exact hu
  have same : w3.cell? ⟨W.heap.size, Bs.length, none⟩ = some (.pointer (some ⟨w2.heap.size, 0, none⟩)) := by rw [hw3]; exact World.cell?_setCell_same _ _ _ hu2
  have oth : ∀ j, j ≠ Bs.length → w3.cell? ⟨W.heap.size, j, none⟩ = wr.cell? ⟨W.heap.size, j, none⟩ := fun j hj => by rw [hw3, World.cell?_setCell_other _ _ _ _ (by intro e; injection e; omega), row]
  have fro : ∀ a, w3.frozen? a = w2.frozen? a := fun a => by rw [hw3]; exact World.frozen?_setCell ..
  have bel3 : Below W.heap.size W w3 := by rw [hw3]; exact (h1.trans (hb.mono (by omega))).setCell (Nat.le_refl _) _
  rw [← hw3]
  obtain ⟨O, hO⟩ : ∃ O, O = Obj.cells #[.string { data := #[] }, .int .u16 k.fl, .int .u8 k.pr, .int .u8 k.al, v] 29 := ⟨_, rfl⟩
  have past : ∀ o, (w3.alloc O).cell? ⟨W.heap.size, o, none⟩ = w3.cell? ⟨W.heap.size, o, none⟩ := fun o => by
    rw [hO]; exact World.cell?_alloc_past (hn := by show W.heap.size < w3.heap.size; omega) ..
  have pf : ∀ o, (w3.alloc O).frozen? ⟨W.heap.size, o, none⟩ = w3.frozen? ⟨W.heap.size, o, none⟩ := fun o => by
    rw [hO]; exact World.frozen?_alloc_past (hn := by show W.heap.size < w3.heap.size; omega) ..
  have b3 : Below w3.heap.size w3 (w3.alloc O) := (Below.refl _ _).alloc (Nat.le_refl _) _
  have hsx : (w3.alloc O).heap.size = w2.heap.size + 1 := by rw [← hsz]; simp
  rw [← hO]
  refine ⟨bel3.trans (b3.mono (by omega)), by omega, fun j hj => ⟨?_, ?_⟩, fun j q hq => ?_, ?_, fun q hq => ?_, fun j q k' hq hk' => ?_, fun q hq => ?_⟩
  · rw [pf, fro, hb.frozen (p := ⟨W.heap.size, j, none⟩) h2]; exact (h3 j hj).1
  · rw [past]
    by_cases e : j = Bs.length
    · rw [e]; exact ⟨_, same⟩
    · rw [oth j e]; exact (h3 j hj).2
  · rw [past]
    by_cases e : j < Bs.length
    · rw [List.getElem?_append_left e] at hq
      rw [oth j (by omega)]; exact h4 j q hq
    · have hjl : j = Bs.length := by
        have := (List.getElem?_eq_some_iff.1 hq).1
        simp at this; omega
      subst hjl
      rw [List.getElem?_append_right (Nat.le_refl _), Nat.sub_self] at hq
      simp at hq
      rw [← hq]; exact same
  · rw [List.pairwise_append]
    refine ⟨h5, List.pairwise_singleton _ _, fun a ha b hb' => ?_⟩
    simp at hb'
    have := (h6 a ha).2
    omega
  · rw [List.mem_append] at hq
    rcases hq with hq | hq
    · have := h6 q hq; omega
    · simp at hq; omega
  · by_cases e : j < Bs.length
    · rw [List.getElem?_append_left e] at hq
      have a1 := ((h7 j q k' hq hk').below hb (Nat.le_refl _)).mono hz
      have a2 : KeyAt w3 w2.heap.size q k' := by rw [hw3]; exact a1.setPtr hu2
      rw [← hsz] at a2
      exact (a2.below b3 (Nat.le_refl _)).mono b3.size
    · have hjl : j = Bs.length := by
        have := (List.getElem?_eq_some_iff.1 hq).1
        simp at this; omega
      subst hjl
      rw [List.getElem?_append_right (Nat.le_refl _), Nat.sub_self] at hq
      simp at hq
      rw [hk] at hk'
      injection hk' with hk'
      subst hk'
      have at' : ∀ o, (w3.alloc O).cell? ⟨q, o, none⟩ = (#[.string { data := #[] }, .int .u16 k.fl, .int .u8 k.pr, .int .u8 k.al, v] : Array Value)[o]? := fun o => by
        rw [hO]; exact World.cell?_alloc_at (hn := by show q = w3.heap.size; omega) ..
      refine ⟨by omega, by rw [at']; rfl, by rw [at']; rfl, by rw [at']; rfl, by rw [at']; rfl, v, by rw [at']; rfl, ?_⟩
      have a2 : BytesAt w3 w2.heap.size v k.pk := by rw [hw3]; exact hv.setPtr hu2
      rw [← hsz] at a2
      exact (a2.below b3 (Nat.le_refl _)).mono b3.size
  · rw [List.mem_append] at hq
    rcases hq with hq | hq
    · obtain ⟨c, hc⟩ := h8 q hq
      have hn := h6 q hq
      refine ⟨c, ?_⟩
      rw [b3.block q (by omega), hw3, Deep.blk_setCell_other _ _ _ _ (by show q ≠ W.heap.size; omega), hb.block q (by omega), hc]
    · simp at hq
      subst hq
      refine ⟨#[.string { data := #[] }, .int .u16 k.fl, .int .u8 k.pr, .int .u8 k.al, v], ?_⟩
      rw [← hsz, hO]
      show (w3.heap.push _)[w3.heap.size]? = _
      simp

set_option maxHeartbeats 1000000 in
set_option maxRecDepth 100000 in
theorem build_any (la : Option Addr) (lcap : Nat) (ks : List Key) (W : World) (hl : ks.length ≤ 1048576) (hok : ∀ k ∈ ks, k.ok) (h : ZAt W la ks) :
    Calls Try.prog 13 #[.slice la ks.length lcap] W fun e W' => ∃ Bs : List Nat, Bs.length = ks.length ∧ e = .returned (.slice (some ⟨W.heap.size, 0, none⟩) ks.length ks.length) ∧ BuildInv W W' ks.length ks Bs := by
  obtain ⟨n, hn⟩ : ∃ n, n = ks.length := ⟨_, rfl⟩
  rw [← hn] at hl ⊢
  have hmk := make_ptrs n hl
  have HZ := Lib.hid h
  have HOK := Lib.hid hok
  have HN := Lib.hid hn
  clear h hok hn
  go_enter Try.func13, Try.ntmps13
  go_wp2
  go_loopw [4] (fun vi wr => ∃ (i : Nat) (Bs : List Nat), i ≤ n ∧ Bs.length = i ∧ vi = .int .i64 i ∧ Hid (BuildInv W wr n ks Bs)) (fun vi _ => n - (intOf vi).toNat)
  case atStart =>
    refine ⟨0, [], by omega, rfl, rfl, ⟨(Below.refl _ _).alloc (Nat.le_refl _) _, by simp, fun j hj => ⟨by simp [go_sem], ?_⟩, fun j q hq => by simp at hq, List.Pairwise.nil, fun q hq => by simp at hq, fun j q k hq => by simp at hq, fun q hq => by simp at hq⟩⟩
    exact ⟨_, by rw [World.cell?_alloc_at (hn := rfl), cellsOf_get _ _ _ hj]⟩
  case round =>
    obtain ⟨i, Bs, hin, hBs, rfl, HI⟩ := hrel
    have HBs := Lib.hid hBs
    clear hBs
    by_cases hlt : i < n
    · have h1 : (i : Int) < (n : Int) := by omega
      obtain ⟨k, hk⟩ : ∃ k, ks[i]? = some k := ⟨ks[i]'(by have := HN.out; omega), List.getElem?_eq_getElem _⟩
      have ok := HOK.out k (List.mem_of_getElem? hk)
      obtain ⟨fz, p0, hv0⟩ := HI.out.room i hlt
      obtain ⟨lb, lo, v, rfl, hlb, c0, c1, c2, c3, hbv⟩ := (HZ.out.below HI.out.bel) i k hk
      have hlbW : lb ≠ W.heap.size := by
        obtain ⟨lb', lo', v', e, h1, _⟩ := HZ.out i k hk
        injection e with e
        injection e with e1 e2
        omega
      have c1' : wr.cell? ⟨lb, lo + i * 4 + 1, none⟩ = some (.int .u8 k.pr) := c1
      have c2' : wr.cell? ⟨lb, lo + i * 4 + 2, none⟩ = some (.int .u8 k.al) := c2
      have c3' : wr.cell? ⟨lb, lo + i * 4 + 3, none⟩ = some v := c3
      have HK := Lib.hid hk
      have HBV := Lib.hid hbv
      have HOK1 := Lib.hid ok
      have kl := ok.2.2.2.1
      have hsz := HI.out.lt
      clear hk hbv ok
      go_wp2_with fail
      go_region_held3 (fun w' => w'.cell? ⟨lb, lo + i * 4, none⟩ = some (.int .u16 k.fl) ∧ w'.cell? ⟨lb, lo + i * 4 + 1, none⟩ = some (.int .u8 k.pr) ∧ w'.cell? ⟨lb, lo + i * 4 + 2, none⟩ = some (.int .u8 k.al) ∧ w'.cell? ⟨lb, lo + i * 4 + 3, none⟩ = some v)
        (first
        | exact ⟨c0, c1', c2', c3'⟩
        | exact ⟨d0, d1, d2, d3⟩
        | exact ⟨kept_cell d0 hlbW, kept_cell d1 hlbW, kept_cell d2 hlbW, kept_cell d3 hlbW⟩
        | go_keep)
        (first
        | (go_at_call 21; refine (clone_any v k.pk _ kl (by exact HBV.out)).mono ?_; rintro e w2 ⟨va, vl, vc, rfl, hby, hb2⟩; have g1 := (hb2.cell (p := ⟨W.heap.size, i, none⟩) (by exact hsz)).trans hv0; have g2 := (hb2.frozen (p := ⟨W.heap.size, i, none⟩) (by exact hsz)).trans fz; have d0 := (hb2.cell (p := ⟨lb, lo + i * 4, none⟩) (by exact hlb)).trans c0; have d1 := (hb2.cell (p := ⟨lb, lo + i * 4 + 1, none⟩) (by exact hlb)).trans c1'; have d2 := (hb2.cell (p := ⟨lb, lo + i * 4 + 2, none⟩) (by exact hlb)).trans c2'; have d3 := (hb2.cell (p := ⟨lb, lo + i * 4 + 3, none⟩) (by exact hlb)).trans c3'; have g3 : W.heap.size < w2.heap.size := Nat.lt_of_lt_of_le hsz hb2.size; have HBY := Lib.hid hby; have HB2 := Lib.hid hb2; clear hby hb2))
      go_wp2
      go_roundw
      case rel =>
        have q := HBs.out
        subst q
        exact ⟨Bs.length + 1, Bs ++ [w2.heap.size], by omega, by simp, by go_num, HI.out.step hlt HK.out (below_undrew HB2.out) HBY.out⟩
      case measure => simp [intOf]; omega
    · obtain rfl : i = n := by omega
      go_wp2
      go_ret
      exact ⟨Bs, HBs.out, rfl, HI.out⟩
end Go.Proofs.Qxb6614277a
