import Derived.Test.Qxb6614277aIdx
namespace Go.Proofs.Qxb6614277a
open Go.RowKit

theorem Try.info25 : (Try.prog.info? 25).map (fun i => (i.zero, i.size, i.bytes)) = some (some (.pointer none), 1, 8) := by kernel_rfl

def ptr (q : Nat) : Value := .pointer (some ⟨q, 0, none⟩)
def ptrs (l : List Nat) : List Value := l.map ptr

/-- A slice of pointers to the blocks l, nil or not. -/
def PtrIn (W : World) (ka : Option Addr) (l : List Nat) : Prop :=
  ∀ i q, l[i]? = some q → ∃ kb ko, ka = some ⟨kb, ko, none⟩ ∧ kb < W.heap.size ∧ W.cell? ⟨kb, ko + i, none⟩ = some (.pointer (some ⟨q, 0, none⟩))

theorem PtrIn.below {W W' : World} {ka : Option Addr} {l : List Nat} (h : PtrIn W ka l) (hb : Below W.heap.size W W') : PtrIn W' ka l := by
  intro i q hi
  obtain ⟨kb, ko, e, h1, h2⟩ := h i q hi
  exact ⟨kb, ko, e, Nat.lt_of_lt_of_le h1 hb.size, (hb.cell (p := ⟨kb, ko + i, none⟩) h1).trans h2⟩

/-- What the rounds of anchored keep. -/
structure AncInv (W wr : World) (mv : Value) (l : List Nat) : Prop where
  own : wr.ownsRow W.heap.size 25 1 mv l.length (ptrs l)
  bel : Below W.heap.size W wr
  nil : mv = .slice none 0 0 ↔ l = []

theorem owns_below {W W' : World} {B : Nat} {e : TypeId} {size : Nat} {v : Value} {n : Nat} {xs : List Value} (h : W.ownsRow B e size v n xs) (hb : Below W.heap.size W W') : W'.ownsRow B e size v n xs := by
  refine ⟨h.1, ?_⟩
  rcases h.2 with h0 | ⟨g, cap, cur, hv, hB, hg, rest⟩
  · exact Or.inl h0
  · refine Or.inr ⟨g, cap, cur, hv, hB, ?_, rest⟩
    rw [hb.block g ?_]
    · exact hg
    · apply Classical.byContradiction
      intro hn
      rw [Array.getElem?_eq_none (by omega)] at hg
      cases hg

/-- A row of pointers that is there, as a sort has it. -/
theorem own_ptrs {W : World} {B : Nat} {v : Value} {l : List Nat} (h : W.ownsRow B 25 1 v l.length (ptrs l)) (hl : l ≠ []) : ∃ g cap, v = .slice (some ⟨g, 0, none⟩) l.length cap ∧ B ≤ g ∧ Ptrs W g l.length (fun i => l.getD i 0) := by
  have hlen : 0 < l.length := List.length_pos_iff.2 hl
  have hc := fun g hg => h.cells (g := g) hg
  have hlt := h.lt
  rcases h.2 with ⟨_, h0⟩ | ⟨g, cap, cur, hv, hb, hg, hcap, _⟩
  · omega
  · subst hv
    refine ⟨g, cap, rfl, hb, (hlt g rfl).2, fun j hj => ⟨?_, ?_⟩⟩
    · have := hc g rfl j (ptr (l.getD j 0)) (by
        unfold ptrs
        rw [List.getElem?_map, List.getElem?_eq_getElem hj, List.getD_eq_getElem?_getD, List.getElem?_eq_getElem hj]
        rfl)
      rw [add_at, Nat.zero_add] at this
      exact this
    · simp [World.frozen?, hg]

/-- The slice that anchored hands back. -/
def Res (W W' : World) (v : Value) (R : List Nat) : Prop :=
  (v = .slice none 0 0 ∧ R = []) ∨ ∃ g cap, v = .slice (some ⟨g, 0, none⟩) R.length cap ∧ W.heap.size ≤ g ∧ Ptrs W' g R.length (fun i => R.getD i 0)

theorem list_range (l : List Nat) : l = (List.range l.length).map (fun i => l.getD i 0) := by
  apply List.ext_getElem?
  intro i
  rw [List.getElem?_map]
  by_cases h : i < l.length
  · rw [List.getElem?_range h, List.getElem?_eq_getElem h, Option.map_some, List.getD_eq_getElem?_getD, List.getElem?_eq_getElem h]
    rfl
  · rw [List.getElem?_eq_none (by omega), List.getElem?_eq_none (by simp; omega)]
    rfl

theorem sorted_list {tg g : Nat → Nat} {L : List Nat} (hs : Sw 0 L.length (fun i => L.getD i 0) g) (ho : SortedOn tg g 0 L.length) :
    ∃ R : List Nat, R.length = L.length ∧ R.Perm L ∧ R.Pairwise (lt tg) ∧ ∀ i, i < L.length → R.getD i 0 = g i := by
  refine ⟨(List.range L.length).map g, by simp, ?_, ?_, fun i hi => ?_⟩
  · have := hs.perm
    rw [← list_range L] at this
    exact this
  · rw [List.pairwise_map]
    refine List.Pairwise.imp_of_mem ?_ (List.pairwise_lt_range (n := L.length))
    intro a b ha hb hab
    exact ho a b (Nat.zero_le _) hab (List.mem_range.1 hb)
  · rw [List.getD_eq_getElem?_getD, List.getElem?_map, List.getElem?_range hi]
    rfl

theorem take_hit {Ks : List Nat} {p : Nat → Bool} {i q : Nat} (h : Ks[i]? = some q) : (Ks.take (i + 1)).filter p = (Ks.take i).filter p ++ (if p q then [q] else []) := by
  have hi : i < Ks.length := (List.getElem?_eq_some_iff.1 h).1
  rw [List.take_succ_eq_append_getElem hi, List.filter_append]
  congr 1
  have e : Ks[i] = q := (List.getElem?_eq_some_iff.1 h).2
  rw [e, List.filter_cons]
  cases p q <;> simp

set_option maxHeartbeats 1000000 in
set_option maxRecDepth 100000 in
theorem anchored_any (rb : Nat) (ka : Option Addr) (kcap : Nat) (Ks : List Nat) (KK : Nat → Key) (ab na acap : Nat) (A : Nat → Nat) (KA : Nat → Key) (tg : Nat → Nat) (W : World)
    (hn : Ks.length ≤ 1048576) (hna : na ≤ 1048576) (hr : W.cell? ⟨rb, 1, none⟩ = some (.slice ka Ks.length kcap)) (hp : PtrIn W ka Ks) (ha : AncAt W ab na A KA)
    (hk : ∀ q ∈ Ks, (KK q).ok ∧ KeyAt W W.heap.size q (KK q) ∧ tg q = tagOf (KK q)) (hris : Ks.Pairwise fun x y => tg x = tg y → x < y) :
    Calls Try.prog 22 #[.pointer (some ⟨rb, 0, none⟩), .slice (some ⟨ab, 0, none⟩) na acap] W fun e W' => ∃ (v : Value) (R : List Nat), e = .returned v ∧ R.Perm (Ks.filter fun q => hit (KK q) KA na) ∧ R.Pairwise (lt tg) ∧ Res W W' v R ∧ Below W.heap.size W W' := by
  obtain ⟨i0, hi, hz0, hz1, hz2⟩ := info_parts Try.info25
  obtain ⟨n, hnn⟩ : ∃ n, n = Ks.length := ⟨_, rfl⟩
  rw [← hnn] at hr hn
  have HP := Lib.hid hp
  have HA := Lib.hid ha
  have HK := Lib.hid hk
  have HRI := Lib.hid hris
  have HNN := Lib.hid hnn
  clear hp ha hk hris hnn
  go_enter Try.func22, Try.ntmps22
  go_wp2
  go_loopw [5, 13] (fun mv vi wr => ∃ i : Nat, i ≤ n ∧ vi = .int .i64 i ∧ Hid (AncInv W wr mv ((Ks.take i).filter fun q => hit (KK q) KA na))) (fun _ vi _ => n - (intOf vi).toNat)
  case atStart => exact ⟨0, by omega, rfl, ⟨World.ownsRow_nil _ _ _ _, Below.refl _ _, by simp⟩⟩
  case round =>
    obtain ⟨i, hin, rfl, HI⟩ := hrel
    by_cases hlt : i < n
    · have h1 : (i : Int) < (n : Int) := by omega
      obtain ⟨q, hq⟩ : ∃ q, Ks[i]? = some q := ⟨Ks[i]'(by have := HNN.out; omega), List.getElem?_eq_getElem _⟩
      have hmem : q ∈ Ks := List.mem_of_getElem? hq
      obtain ⟨kok, kat, _⟩ := HK.out q hmem
      obtain ⟨kb, ko, rfl, hkb, c1⟩ := (HP.out.below HI.out.bel) i q hq
      have HAr := Lib.hid (HA.out.below HI.out.bel)
      have KATr := Lib.hid ((kat.below HI.out.bel (Nat.le_refl _)).mono HI.out.bel.size)
      have HQ := Lib.hid hq
      clear kat hq
      have b1 : Below wr.heap.size wr (wr.alloc (.cells #[.pointer (some ⟨q, 0, none⟩)] 25)) := (Below.refl _ _).alloc (Nat.le_refl _) _
      have HCO := Lib.hid (contains_any ab na acap A KA q wr.heap.size (KK q) (wr.alloc (.cells #[.pointer (some ⟨q, 0, none⟩)] 25)) hna (HAr.out.below b1) kok ((KATr.out.below b1 (Nat.le_refl _)).mono b1.size) (by simp))
      have HB1 := Lib.hid b1
      clear b1
      go_wp2_with fail
      refine HCO.out.mono ?_
      rintro e w2 ⟨rfl, hb2⟩
      have HB2 := Lib.hid (HB1.out.trans (hb2.mono HB1.out.size))
      have c2 : w2.cell? ⟨wr.heap.size, 0, none⟩ = some (.pointer (some ⟨q, 0, none⟩)) := (hb2.cell (p := ⟨wr.heap.size, 0, none⟩) (by simp)).trans (by simp)
      have HO2 := Lib.hid (owns_below HI.out.own HB2.out)
      have BW := Lib.hid (HI.out.bel.trans (HB2.out.mono HI.out.bel.size))
      clear hb2
      cases hh : hit (KK q) KA na
      · have HH := Lib.hid hh
        clear hh
        go_wp2
        go_roundw
        case rel =>
          refine ⟨i + 1, by omega, by go_num, ?_⟩
          show AncInv _ _ _ _
          rw [take_hit HQ.out, HH.out]
          simp only [if_neg (show ¬ false = true by simp), List.append_nil]
          exact ⟨HO2.out, BW.out, HI.out.nil⟩
        case measure => simp [intOf]; omega
      · have HH := Lib.hid hh
        clear hh
        have ll : ((Ks.take i).filter fun q => hit (KK q) KA na).length ≤ 1048576 := Nat.le_trans (List.length_filter_le _ _) (by rw [List.length_take]; have := HNN.out; omega)
        go_wp2_with (at_builtin; refine wpList_append_own _ rfl (.tmp 20) (.tmp 22) 37 rfl W.heap.size 25 i0 (.pointer none) 1 8 Try.underlying37 hi hz0 hz1 hz2 rfl (by decide) _ _ _ rfl (HO2.out.alloc _) ⟨w2.heap.size, 0, none⟩ 1 1 [.pointer (some ⟨q, 0, none⟩)] rfl rfl (by intro j u hj; match j, hj with | 0, hj => simp at hj; subst hj; simp [Addr.add]) (by intro u hu; simp at hu; subst hu; rfl) (by unfold maxLen; omega) (by omega) (by have := BW.out.size; simp; omega) ?_)
        intro v' w3 hown3 hgrow3 hnil3
        have R3 : Hid (AncInv W w3 v' ((Ks.take (i + 1)).filter fun q => hit (KK q) KA na)) := by
          show AncInv _ _ _ _
          rw [take_hit HQ.out, HH.out]
          simp only [if_true]
          refine ⟨?_, (BW.out.alloc BW.out.size _).grown hgrow3 (by have := BW.out.size; simp; omega) (fun k hk => (HO2.out.lt k hk).1), ?_⟩
          · rw [List.length_append]
            have : ptrs (((Ks.take i).filter fun q => hit (KK q) KA na) ++ [q]) = ptrs ((Ks.take i).filter fun q => hit (KK q) KA na) ++ [.pointer (some ⟨q, 0, none⟩)] := by unfold ptrs; rw [List.map_append]; rfl
            rw [this]
            exact hown3
          · exact ⟨fun h => absurd h hnil3, fun h => by simp at h⟩
        clear hown3 hgrow3 hnil3
        go_wp2
        go_roundw
        case rel => exact ⟨i + 1, by omega, by go_num, R3⟩
        case measure => simp [intOf]; omega
    · obtain rfl : i = n := by omega
      have HL : Hid (AncInv W wr u5 (Ks.filter fun q => hit (KK q) KA na)) := by
        have := HI.out
        rw [HNN.out, List.take_length] at this
        exact this
      obtain ⟨L, hL⟩ : ∃ L, L = Ks.filter fun q => hit (KK q) KA na := ⟨_, rfl⟩
      rw [← hL] at HL
      have hmem : ∀ q ∈ L, q ∈ Ks := fun q hq => by rw [hL] at hq; exact (List.mem_filter.1 hq).1
      have hris : L.Pairwise fun x y => tg x = tg y → x < y := by rw [hL]; exact HRI.out.filter _
      have hlen : L.length ≤ 1048576 := by rw [hL]; exact Nat.le_trans (List.length_filter_le _ _) (by have := HNN.out; omega)
      have HLE := Lib.hid hL
      clear hL
      by_cases hl : L = []
      · subst hl
        have hv : u5 = .slice none 0 0 := HL.out.nil.2 rfl
        subst hv
        clear hmem hris
        go_wp2_with fail
        refine (sort_nil _).mono ?_
        rintro e w' ⟨rfl, hw⟩
        subst w'
        go_wp2
        go_ret
        exact ⟨_, [], rfl, by rw [← HLE.out], List.Pairwise.nil, Or.inl ⟨rfl, rfl⟩, HL.out.bel⟩
      · obtain ⟨g, cap, hv, hg, hp⟩ := own_ptrs HL.out.own hl
        subst hv
        have hst : St (IsKey wr g tg) wr g L.length (fun i => L.getD i 0) wr := ⟨Below.refl _ _, hp, fun i hi => by
          have hq : L.getD i 0 ∈ L := by
            rw [List.getD_eq_getElem?_getD, List.getElem?_eq_getElem hi]
            exact List.getElem_mem hi
          obtain ⟨k1, k2, k3⟩ := HK.out _ (hmem _ hq)
          exact ⟨_, k1, (k2.below HL.out.bel (Nat.le_refl _)).mono hg, k3⟩⟩
        have hrr : Rising tg (fun i => L.getD i 0) 0 L.length := by
          intro a b _ hab hb he
          have := List.pairwise_iff_getElem.1 hris a b (by omega) hb hab
          have ea : L.getD a 0 = L[a]'(by omega) := by rw [List.getD_eq_getElem?_getD, List.getElem?_eq_getElem (by omega)]; rfl
          have eb : L.getD b 0 = L[b] := by rw [List.getD_eq_getElem?_getD, List.getElem?_eq_getElem hb]; rfl
          simp only [ea, eb] at he ⊢
          exact this he
        have HSO := Lib.hid (sort_some (IsKey wr g tg) tg wr g L.length cap (fun i => L.getD i 0) wr (cmp_ok wr g tg) hst hlen hrr)
        clear hst hrr hp hmem hris
        go_wp2_with fail
        refine HSO.out.mono ?_
        rintro e w1 ⟨rfl, gg, s1, s2, s3⟩
        obtain ⟨R, r1, r2, r3, r4⟩ := sorted_list s2 s3
        have HF : Hid (R.Perm (Ks.filter fun q => hit (KK q) KA na) ∧ R.Pairwise (lt tg) ∧ Res W w1 (.slice (some ⟨g, 0, none⟩) L.length cap) R ∧ Below W.heap.size W w1) := by
          refine ⟨by rw [← HLE.out]; exact r2, r3, Or.inr ⟨g, cap, by rw [r1], hg, ?_⟩, HL.out.bel.trans (s1.bel.mono hg)⟩
          rw [r1]
          exact ⟨s1.row.1, fun i hi => by have := s1.row.2 i hi; rw [← r4 i hi] at this; exact this⟩
        clear s1 s2 s3 r1 r2 r3 r4
        go_wp2
        go_ret
        exact ⟨_, R, rfl, HF.out⟩
end Go.Proofs.Qxb6614277a
