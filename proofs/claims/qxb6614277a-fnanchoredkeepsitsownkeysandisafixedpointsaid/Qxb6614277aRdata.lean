import Derived.Test.Qxb6614277aSt
import Derived.OwnWalk
import Derived.Laws.AppendOwn
import Derived.Deep.AppendLies
import Derived.Deep.RegionLaw
namespace Go.Proofs.Qxb6614277a
open Go.RowKit

theorem Try.info5 : (Try.prog.info? 5).map (fun i => (i.zero, i.size, i.bytes)) = some (some (.int .u8 0), 1, 1) := by kernel_rfl

set_option maxRecDepth 100000 in
theorem au16 (fl : Nat) (hfl : fl < 65536) (W : World) :
    Calls Try.prog 20 #[.agg #[], .slice none 0 0, .int .u16 fl] W fun e W' => ∃ v, e = .returned v ∧ W'.ownsRow W.heap.size 5 1 v 2 [.int .u8 ((fl / 256 : Nat) : Int), .int .u8 ((fl % 256 : Nat) : Int)] ∧ Below W.heap.size W W' := by
  obtain ⟨i0, hi, hz0, hz1, hz2⟩ := info_parts Try.info5
  obtain ⟨x, hx⟩ : ∃ x, x = fl / 256 := ⟨_, rfl⟩
  obtain ⟨y, hy⟩ : ∃ y, y = fl % 256 := ⟨_, rfl⟩
  have e1 : (fl : Int) / 256 = (x : Int) := by omega
  have e2 : (fl : Int) % 256 = (y : Int) := by omega
  rw [← hx, ← hy]
  have HX := Lib.hid hx
  have HY := Lib.hid hy
  have x1 : x < 256 := by omega
  have y1 : y < 256 := by omega
  clear hx hy
  go_enter Try.func20, Try.ntmps20
  go_wp2_with (at_builtin; refine wpList_append_own _ rfl (.tmp 7) (.tmp 13) 23 rfl W.heap.size 5 i0 (.int .u8 0) 1 1 Try.underlying23 hi hz0 hz1 hz2 rfl (by decide) _ _ _ rfl (World.ownsRow_nil _ _ _ _) ⟨W.heap.size + 1, 0, none⟩ 2 2 [.int .u8 x, .int .u8 y] rfl rfl ?c1 ?c2 ?c3 ?c4 ?c5 ?_)
  case c1 =>
    intro j u hj
    match j, hj with
    | 0, hj => simp at hj; subst hj; simp [Addr.add]
    | 1, hj => simp at hj; subst hj; simp [Addr.add]
  case c2 => intro u hu; simp at hu; rcases hu with rfl | rfl <;> rfl
  case c3 => unfold maxLen; omega
  case c4 => omega
  case c5 => simp; omega
  intro v' w1 hown hgrow _
  have HO := Lib.hid hown
  have HB := Lib.hid ((((Below.refl W.heap.size W).alloc (Nat.le_refl _) _).alloc (by simp) _).grown hgrow (by simp; omega) (by intro k hk; cases hk))
  clear hown hgrow
  go_wp2
  go_ret
  exact ⟨v', rfl, HO.out, HB.out⟩

theorem below_undrew {B : Nat} {w w' : World} (h : Below B w.drew w') : Below B w w' := ⟨h.os, h.tape, h.output, h.size, h.block⟩

theorem add_at (b o j : Nat) : (⟨b, o, none⟩ : Addr).add j = ⟨b, o + j, none⟩ := by
  unfold Addr.add
  split
  · simp_all
  · rfl

/-- A key's fields. -/
structure Key where
  fl : Nat
  pr : Nat
  al : Nat
  pk : List Nat

def Key.ok (k : Key) : Prop := k.fl < 65536 ∧ k.pr < 256 ∧ k.al < 256 ∧ k.pk.length ≤ 1048576 ∧ ∀ x ∈ k.pk, x < 256

def u8s (l : List Nat) : List Value := l.map fun x : Nat => Value.int .u8 (x : Int)
theorem u8s_len (l : List Nat) : (u8s l).length = l.length := by unfold u8s; simp
theorem u8s_one (l : List Nat) : ∀ v ∈ u8s l, v.oneCell' = true := by
  intro v hv
  unfold u8s at hv
  obtain ⟨x, _, rfl⟩ := List.mem_map.1 hv
  rfl

/-- The value v is a slice of bytes l in blocks below B. -/
def BytesAt (W : World) (B : Nat) (v : Value) (l : List Nat) : Prop :=
  ((v = .slice none 0 0 ∧ l = []) ∨ ∃ a cap, v = .slice (some a) 0 cap ∧ l = []) ∨
  ∃ b off cap, v = .slice (some ⟨b, off, none⟩) l.length cap ∧ b < B ∧ ∀ j u, (u8s l)[j]? = some u → W.cell? ⟨b, off + j, none⟩ = some u

theorem BytesAt.below {W W' : World} {B B' : Nat} {v : Value} {l : List Nat} (h : BytesAt W B v l) (hb : Below B' W W') (hB : B ≤ B') : BytesAt W' B v l := by
  rcases h with h | ⟨b, off, cap, h1, h2, h3⟩
  · exact Or.inl h
  · exact Or.inr ⟨b, off, cap, h1, h2, fun j u hj => (hb.cell (p := ⟨b, off + j, none⟩) (by show b < B'; omega)).trans (h3 j u hj)⟩
theorem BytesAt.mono {W : World} {B B' : Nat} {v : Value} {l : List Nat} (h : BytesAt W B v l) (hB : B ≤ B') : BytesAt W B' v l := by
  rcases h with h | ⟨b, off, cap, h1, h2, h3⟩
  · exact Or.inl h
  · exact Or.inr ⟨b, off, cap, h1, by omega, h3⟩

/-- Block q holds a DNSKEY of the fields k, all of it below B. -/
structure KeyAt (W : World) (B q : Nat) (k : Key) : Prop where
  lt : q < B
  c0 : W.cell? ⟨q, 0, none⟩ = some (.string ByteArray.empty)
  c1 : W.cell? ⟨q, 1, none⟩ = some (.int .u16 k.fl)
  c2 : W.cell? ⟨q, 2, none⟩ = some (.int .u8 k.pr)
  c3 : W.cell? ⟨q, 3, none⟩ = some (.int .u8 k.al)
  c4 : ∃ v, W.cell? ⟨q, 4, none⟩ = some v ∧ BytesAt W B v k.pk

theorem KeyAt.below {W W' : World} {B B' q : Nat} {k : Key} (h : KeyAt W B q k) (hb : Below B' W W') (hB : B ≤ B') : KeyAt W' B q k := by
  obtain ⟨h0, h1, h2, h3, h4, v, h5, h6⟩ := h
  have e : ∀ o, W'.cell? ⟨q, o, none⟩ = W.cell? ⟨q, o, none⟩ := fun o => hb.cell (p := ⟨q, o, none⟩) (by show q < B'; omega)
  exact ⟨h0, by rw [e]; exact h1, by rw [e]; exact h2, by rw [e]; exact h3, by rw [e]; exact h4, v, by rw [e]; exact h5, h6.below hb hB⟩

theorem two_cells (w : World) (H : Nat) (hH : w.heap.size = H) (x y : Value) (t : TypeId) : ∀ j u, [x, y][j]? = some u → (w.alloc (.cells #[x, y] t)).cell? ((⟨H, 0, none⟩ : Addr).add j) = some u := by
  subst hH
  intro j u hj
  match j, hj with
  | 0, hj => simp at hj; subst hj; simp [Addr.add]
  | 1, hj => simp at hj; subst hj; simp [Addr.add]

/-- The bytes of RDATA. -/
def rdata (k : Key) : List Nat := [k.fl / 256, k.fl % 256] ++ [k.pr, k.al] ++ k.pk

set_option maxHeartbeats 1000000 in
set_option maxRecDepth 100000 in
theorem rdata_any (k : Key) (hk : k.ok) (q : Nat) (W : World) (h : KeyAt W W.heap.size q k) :
    Calls Try.prog 10 #[.pointer (some ⟨q, 0, none⟩)] W fun e W' => ∃ v, e = .returned v ∧ W'.ownsRow W.heap.size 5 1 v (rdata k).length (u8s (rdata k)) ∧ Below W.heap.size W W' := by
  obtain ⟨i0, hi, hz0, hz1, hz2⟩ := info_parts Try.info5
  obtain ⟨h0, _, c1, c2, c3, pv, c4, hpv⟩ := h
  obtain ⟨fl, pr, al, pk⟩ := k
  obtain ⟨o1, o2, o3, o4, o5⟩ := hk
  simp only at *
  have HPV := Lib.hid hpv
  have HO5 := Lib.hid o5
  clear hpv o5
  go_enter Try.func10, Try.ntmps10
  go_wp2_with fail
  go_region_with ((go_at_call 20; refine (au16 fl o1 _).mono ?_; rintro e w1 ⟨v1, rfl, hown1, hb1⟩; have HO1 := Lib.hid hown1; have HB1 := Lib.hid hb1; clear hown1 hb1))
  all_goals
    go_wp2_with fail
    have k2 := (HB1.out.cell (p := ⟨q, 2, none⟩) (by exact h0)).trans c2
    have k3 := (HB1.out.cell (p := ⟨q, 3, none⟩) (by exact h0)).trans c3
    have k4 := (HB1.out.cell (p := ⟨q, 4, none⟩) (by exact h0)).trans c4
    have b1 : W.heap.size ≤ w1.heap.size := HB1.out.size
    go_region_law (refine step_append_lies (w := w1.drew.alloc (.cells #[.int .u8 pr, .int .u8 al] 5)) rfl (.tmp 10) (.tmp 19) 23 rfl W.heap.size 5 i0 (.int .u8 0) 1 1 Try.underlying23 hi hz0 hz1 hz2 rfl (by decide) v1 2 _ (by simp [Act.eval]) (by exact HO1.out.drew.alloc _) ⟨w1.heap.size, 0, none⟩ 2 2 [.int .u8 pr, .int .u8 al] (by simp [Act.eval]) rfl (two_cells _ _ rfl _ _ _) (by intro u hu; simp at hu; rcases hu with rfl | rfl <;> rfl) (by decide) (by unfold maxLen; omega) (by omega) (by simp; omega) (w1.heap.size + 1) (by simp) ?_; intro g cap w2 hown2 hgrow2 _ hg2; have HO2 := Lib.hid hown2; have HG2 := Lib.hid hgrow2; clear hown2 hgrow2)
    all_goals
      have b2 := hg2
      have HB2 := Lib.hid ((((below_undrew HB1.out).drew).alloc (by exact b1) (.cells #[.int .u8 pr, .int .u8 al] 5)).grown HG2.out (by simp; omega) (fun k hk => (HO1.out.lt k hk).1))
      have k5 := (HB2.out.cell (p := ⟨q, 4, none⟩) (by exact h0)).trans c4
      have HP2 := Lib.hid (HPV.out.below HB2.out (Nat.le_refl _))
      clear k2 k3 k4
      have hcap : 4 ≤ cap := by
        rcases HO2.out.2 with ⟨h, _⟩ | ⟨_, _, _, h, _, _, h4, _⟩
        · cases h
        · injection h with _ _ h; omega
      rcases HP2.out with (⟨rfl, rfl⟩ | ⟨pa, pcap, rfl, rfl⟩) | ⟨pb, po, pcap, rfl, hpb, hpc⟩
      · go_wp2
        go_ret
        exact ⟨_, rfl, by simpa [rdata, u8s] using HO2.out, HB2.out⟩
      · go_wp2_with (at_builtin; refine wpList_append_own _ rfl (.tmp 21) (.tmp 25) 23 rfl W.heap.size 5 i0 (.int .u8 0) 1 1 Try.underlying23 hi hz0 hz1 hz2 rfl (by decide) _ _ _ rfl HO2.out pa 0 pcap [] rfl rfl (by intro j u hj; simp at hj) (by intro u hu; simp at hu) (by unfold maxLen; omega) (by omega) (by have := HB2.out.size; omega) ?_)
        intro v' w3 hown3 hgrow3 _
        have HO3 := Lib.hid hown3
        have HB3 := Lib.hid (HB2.out.grown hgrow3 HB2.out.size (fun k hk => (HO2.out.lt k hk).1))
        clear hown3 hgrow3
        go_wp2
        go_ret
        exact ⟨_, rfl, by simpa [rdata, u8s] using HO3.out, HB3.out⟩
      · have l1 : (u8s pk).length = pk.length * 1 := by rw [u8s_len, Nat.mul_one]
        have l2 : ∀ j u, (u8s pk)[j]? = some u → w2.cell? ((⟨pb, po, none⟩ : Addr).add j) = some u := by intro j u hj; rw [add_at]; exact hpc j u hj
        have L1 := Lib.hid l1
        have L2 := Lib.hid l2
        clear hpc l1 l2
        go_wp2_with (at_builtin; refine wpList_append_own _ rfl (.tmp 21) (.tmp 25) 23 rfl W.heap.size 5 i0 (.int .u8 0) 1 1 Try.underlying23 hi hz0 hz1 hz2 rfl (by decide) _ _ _ rfl HO2.out ⟨pb, po, none⟩ pk.length pcap (u8s pk) rfl L1.out L2.out (u8s_one pk) (by unfold maxLen; omega) (by omega) (by have := HB2.out.size; omega) ?_)
        intro v' w3 hown3 hgrow3 _
        have HO3 := Lib.hid hown3
        have HB3 := Lib.hid (HB2.out.grown hgrow3 HB2.out.size (fun k hk => (HO2.out.lt k hk).1))
        clear hown3 hgrow3
        go_wp2
        go_ret
        refine ⟨_, rfl, ?_, HB3.out⟩
        have e : (rdata ⟨fl, pr, al, pk⟩).length = 2 + 2 + pk.length := by simp [rdata]; omega
        rw [e]
        have e2 : u8s (rdata ⟨fl, pr, al, pk⟩) = [.int .u8 ((fl / 256 : Nat) : Int), .int .u8 ((fl % 256 : Nat) : Int)] ++ [.int .u8 pr, .int .u8 al] ++ u8s pk := by simp [rdata, u8s]
        rw [e2]
        exact HO3.out
end Go.Proofs.Qxb6614277a
