import Derived.Test.Qxb6614277aBuild3
import Derived.Test.Qxb6614277aCount
import Derived.Test.Qxb6614277aPlain
namespace Go.Proofs.Qxb6614277a
open Go.RowKit

/-- A list of pointers that a call gave back. -/
def Lst (W : World) (v : Value) (R : List Nat) : Prop := ∃ a c, v = .slice a R.length c ∧ PtrIn W a R
theorem Lst.below {W W' : World} {v : Value} {R : List Nat} (h : Lst W v R) (hb : Below W.heap.size W W') : Lst W' v R := by
  obtain ⟨a, c, e, hp⟩ := h
  exact ⟨a, c, e, hp.below hb⟩
theorem Res.lst {W W' : World} {v : Value} {R : List Nat} (h : Res W W' v R) : Lst W' v R := by
  rcases h with ⟨rfl, rfl⟩ | ⟨g, cap, rfl, hg, hp⟩
  · exact ⟨none, 0, rfl, fun i q hi => by simp at hi⟩
  · refine ⟨_, _, rfl, fun i q hi => ⟨g, 0, rfl, hp.1, ?_⟩⟩
    have hl := (List.getElem?_eq_some_iff.1 hi).1
    have this : W'.cell? ⟨g, i, none⟩ = some (.pointer (some ⟨R.getD i 0, 0, none⟩)) := (hp.2 i hl).1
    rw [Nat.zero_add, this, List.getD_eq_getElem?_getD, hi]; rfl

theorem PtrIn.getD {W : World} {a : Option Addr} {R : List Nat} (h : PtrIn W a R) {i : Nat} (hi : i < R.length) :
    ∃ kb ko, a = some ⟨kb, ko, none⟩ ∧ kb < W.heap.size ∧ W.cell? ⟨kb, ko + i, none⟩ = some (.pointer (some ⟨R.getD i 0, 0, none⟩)) := by
  obtain ⟨kb, ko, h1, h2, h3⟩ := h i _ (List.getElem?_eq_getElem hi)
  refine ⟨kb, ko, h1, h2, ?_⟩
  rw [h3, List.getD_eq_getElem?_getD, List.getElem?_eq_getElem hi]; rfl

/-- The keys that the law built: pointers at the heads of the blocks sa, sb. -/
structure Env (W : World) (sa sb : Nat) (Bs As : List Nat) (KK : Nat → Key) : Prop where
  pB : PtrIn W (some ⟨sa, 0, none⟩) Bs
  pA : PtrIn W (some ⟨sb, 0, none⟩) As
  kB : ∀ q ∈ Bs, (KK q).ok ∧ KeyAt W W.heap.size q (KK q)
  kA : ∀ q ∈ As, (KK q).ok ∧ KeyAt W W.heap.size q (KK q)

theorem Env.below {W W' : World} {sa sb : Nat} {Bs As : List Nat} {KK : Nat → Key} (h : Env W sa sb Bs As KK) (hb : Below W.heap.size W W') : Env W' sa sb Bs As KK :=
  ⟨h.pB.below hb, h.pA.below hb, fun q hq => ⟨(h.kB q hq).1, ((h.kB q hq).2.below hb (Nat.le_refl _)).mono hb.size⟩, fun q hq => ⟨(h.kA q hq).1, ((h.kA q hq).2.below hb (Nat.le_refl _)).mono hb.size⟩⟩

theorem rise_inj {Bs : List Nat} (h : Bs.Pairwise (· < ·)) {i j q : Nat} (hi : Bs[i]? = some q) (hj : Bs[j]? = some q) : i = j := by
  obtain ⟨hi1, hi2⟩ := List.getElem?_eq_some_iff.1 hi
  obtain ⟨hj1, hj2⟩ := List.getElem?_eq_some_iff.1 hj
  rw [List.pairwise_iff_getElem] at h
  rcases Nat.lt_trichotomy i j with hlt | e | hlt
  · have := h i j hi1 hj1 hlt; omega
  · exact e
  · have := h j i hj1 hi1 hlt; omega

/-- Read off the number: which key it is. -/
theorem keys_of {Bs As : List Nat} {ks ms : List Key} (hB : Bs.Pairwise (· < ·)) (hA : As.Pairwise (· < ·)) (hl : Bs.length = ks.length) (hl' : As.length = ms.length) (hd : ∀ q ∈ As, q ∉ Bs) :
    ∃ KK : Nat → Key, Bs.map KK = ks ∧ As.map KK = ms := by
  classical
  refine ⟨fun q => if h : ∃ i : Nat, Bs[i]? = some q then kAt ks h.choose else if h' : ∃ j : Nat, As[j]? = some q then kAt ms h'.choose else ⟨0, 0, 0, []⟩, ?_, ?_⟩
  · apply List.ext_getElem
    · simp [hl]
    · intro i h1 h2
      have hb : i < Bs.length := by simpa using h1
      rw [List.getElem_map]
      have hx : ∃ j : Nat, Bs[j]? = some Bs[i] := ⟨i, List.getElem?_eq_getElem hb⟩
      rw [dif_pos hx]
      have e : hx.choose = i := rise_inj hB hx.choose_spec (List.getElem?_eq_getElem hb)
      rw [e]
      exact kAt_of (List.getElem?_eq_getElem h2)
  · apply List.ext_getElem
    · simp [hl']
    · intro i h1 h2
      have hb : i < As.length := by simpa using h1
      rw [List.getElem_map]
      have hn : ¬ ∃ j : Nat, Bs[j]? = some As[i] := by
        rintro ⟨j, hj⟩
        exact hd As[i] (List.getElem_mem _) (List.mem_of_getElem? hj)
      have hx : ∃ j : Nat, As[j]? = some As[i] := ⟨i, List.getElem?_eq_getElem hb⟩
      rw [dif_neg hn, dif_pos hx]
      have e : hx.choose = i := rise_inj hA hx.choose_spec (List.getElem?_eq_getElem hb)
      rw [e]
      exact kAt_of (List.getElem?_eq_getElem h2)

/-- Both lists built. -/
theorem env_of {W W1 W2 : World} {ks ms : List Key} {Bs As : List Nat} (hl : Bs.length = ks.length) (hl' : As.length = ms.length) (ok : ∀ k ∈ ks, k.ok) (ok' : ∀ k ∈ ms, k.ok)
    (h : BuildInv W W1 ks.length ks Bs) (h' : BuildInv W1 W2 ms.length ms As) :
    ∃ KK : Nat → Key, Bs.map KK = ks ∧ As.map KK = ms ∧ Env W2 W.heap.size W1.heap.size Bs As KK := by
  have hd : ∀ q ∈ As, q ∉ Bs := fun q hq hq' => by
    have := h'.new q hq; have := h.new q hq'; omega
  obtain ⟨KK, e1, e2⟩ := keys_of h.rise h'.rise hl hl' hd
  refine ⟨KK, e1, e2, ?_, ?_, ?_, ?_⟩
  · have : PtrIn W1 (some ⟨W.heap.size, 0, none⟩) Bs := fun i q hi => ⟨_, _, rfl, h.lt, by rw [Nat.zero_add]; exact h.ptr i q hi⟩
    exact this.below h'.bel
  · exact fun i q hi => ⟨_, _, rfl, h'.lt, by rw [Nat.zero_add]; exact h'.ptr i q hi⟩
  · intro q hq
    obtain ⟨i, hi, e⟩ := List.getElem_of_mem hq
    have hk : ks[i]? = some (KK q) := by rw [← e1, List.getElem?_map, List.getElem?_eq_getElem hi, e]; rfl
    refine ⟨ok _ (List.mem_of_getElem? hk), ?_⟩
    exact ((h.key i q _ (by rw [List.getElem?_eq_getElem hi, e]) hk).below h'.bel (Nat.le_refl _)).mono h'.bel.size
  · intro q hq
    obtain ⟨i, hi, e⟩ := List.getElem_of_mem hq
    have hk : ms[i]? = some (KK q) := by rw [← e2, List.getElem?_map, List.getElem?_eq_getElem hi, e]; rfl
    exact ⟨ok' _ (List.mem_of_getElem? hk), h'.key i q _ (by rw [List.getElem?_eq_getElem hi, e]) hk⟩

/-- Some anchor names the key in block q. -/
def named? (KK : Nat → Key) (As : List Nat) (q : Nat) : Bool := hit (KK q) (fun j => KK (As.getD j 0)) As.length

theorem hit_congr {k : Key} {KA KB : Nat → Key} {n : Nat} (h : ∀ j, j < n → KA j = KB j) : hit k KA n = hit k KB n := by
  unfold hit
  rw [Bool.eq_iff_iff, List.any_eq_true, List.any_eq_true]
  constructor
  · rintro ⟨j, hj, e⟩; exact ⟨j, hj, by rw [← h j (List.mem_range.1 hj)]; exact e⟩
  · rintro ⟨j, hj, e⟩; exact ⟨j, hj, by rw [h j (List.mem_range.1 hj)]; exact e⟩

theorem count_eq {ks ms : List Key} {Bs As : List Nat} {KK : Nat → Key} (e1 : Bs.map KK = ks) (e2 : As.map KK = ms) :
    (ks.countP fun k => hit k (kAt ms) ms.length) = (Bs.filter (named? KK As)).length := by
  subst e1
  rw [List.countP_map, List.countP_eq_length_filter]
  congr 1
  apply List.filter_congr
  intro q hq
  subst e2
  show hit (KK q) _ _ = named? KK As q
  unfold named?
  rw [List.length_map]
  apply hit_congr
  intro j hj
  rw [kAt_of (k := KK (As.getD j 0))]
  rw [List.getElem?_map, List.getElem?_eq_getElem hj, List.getD_eq_getElem?_getD, List.getElem?_eq_getElem hj]; rfl

/-- ZZanchored on lists of built keys. -/
theorem zz_env {W : World} {sa sb : Nat} {Bs As : List Nat} {KK : Nat → Key} (E : Env W sa sb Bs As KK) (ka : Option Addr) (n kcap : Nat) (Ks : List Nat) (acap : Nat) (hn : n = Ks.length) (hl : n ≤ 1048576) (m : Nat) (hm : m = As.length) (hl' : m ≤ 1048576) (hp : PtrIn W ka Ks) (hs : ∀ q ∈ Ks, q ∈ Bs)
    (hris : Ks.Pairwise fun x y => tagOf (KK x) = tagOf (KK y) → x < y) :
    Calls Try.prog 14 #[.slice ka n kcap, .slice (some ⟨sb, 0, none⟩) m acap] W fun e W' => ∃ (a : Option Addr) (c : Nat) (R : List Nat), e = .returned (.slice a R.length c) ∧ R.Perm (Ks.filter (named? KK As)) ∧ R.Pairwise (lt fun q => tagOf (KK q)) ∧ PtrIn W' a R ∧ Below W.heap.size W W' := by
  subst hn hm
  refine (zz_any ka kcap Ks KK (some ⟨sb, 0, none⟩) acap As (fun q => tagOf (KK q)) W hl hl' hp E.pA (fun q hq => ⟨(E.kB q (hs q hq)).1, (E.kB q (hs q hq)).2, rfl⟩) E.kA hris).mono ?_
  rintro e W' ⟨v, R, rfl, h1, h2, h3, h4⟩
  obtain ⟨a, c, rfl, hp⟩ := h3.lst
  exact ⟨a, c, R, rfl, h1, h2, hp, h4⟩

/-- KeyTag on a built key. -/
theorem tag_env {W : World} {sa sb : Nat} {Bs As : List Nat} {KK : Nat → Key} (E : Env W sa sb Bs As KK) {q : Nat} (hq : q ∈ Bs) (p : Aft) :
    Calls Try.prog 16 #[.pointer (some ⟨q, 0, none⟩)] (aft W p) fun e W' => e = .returned (.int .u16 (tagOf (KK q) : Nat)) ∧ ∃ p' : Aft, W' = aft W p' := by
  have hb := below_aft W p
  exact aft_call (tag_any (KK q) (E.kB q hq).1 q (aft W p) (((E.kB q hq).2.below hb (Nat.le_refl _)).mono hb.size))

theorem PtrIn.take {W : World} {a : Option Addr} {R : List Nat} (h : PtrIn W a R) (c : Nat) : PtrIn W a (R.take c) := by
  intro i q hi
  rw [List.getElem?_take] at hi
  split at hi
  · exact h i q hi
  · cases hi
theorem PtrIn.drop {W : World} {s : Nat} {R : List Nat} (h : PtrIn W (some ⟨s, 0, none⟩) R) (c : Nat) : PtrIn W (some ⟨s, c, none⟩) (R.drop c) := by
  intro i q hi
  rw [List.getElem?_drop] at hi
  obtain ⟨kb, ko, e, h1, h2⟩ := h (c + i) q hi
  injection e with e
  injection e with e1 e2
  subst e1; subst e2
  exact ⟨_, _, rfl, h1, by rw [Nat.zero_add] at h2; exact h2⟩
end Go.Proofs.Qxb6614277a
