import Derived.Test.Qxb6614277aBuild3
import Derived.Test.Qxb6614277aSame
namespace Go.Proofs.Qxb6614277a
open Go.RowKit

/-- What the guards read: the key's header, its length. -/
def ZLen (W : World) (la : Option Addr) (n : Nat) (pl : Nat → Nat) : Prop :=
  ∀ i, i < n → ∃ lb lo a c, la = some ⟨lb, lo, none⟩ ∧ W.cell? ⟨lb, lo + i * 4 + 3, none⟩ = some (.slice a (pl i) c)

theorem ZAt.zlen {W : World} {la : Option Addr} {ks : List Key} (h : ZAt W la ks) : ZLen W la ks.length (fun i => (ks.getD i ⟨0, 0, 0, []⟩).pk.length) := by
  intro i hi
  obtain ⟨lb, lo, v, e, h1, h2, h3, h4, h5, h6⟩ := h i _ (List.getElem?_eq_getElem hi)
  obtain ⟨a, c, hv⟩ := h6.form
  refine ⟨lb, lo, a, c, e, ?_⟩
  have : (ks.getD i ⟨0, 0, 0, []⟩) = ks[i] := by rw [List.getD_eq_getElem?_getD, List.getElem?_eq_getElem hi]; rfl
  show W.cell? _ = some (Value.slice a (ks.getD i ⟨0, 0, 0, []⟩).pk.length c)
  rw [this, ← hv]
  exact h5

/-- A bool comes back, whichever. -/
def IsBool (e : Ending) : Prop := ∃ ok : Bool, e = .returned (.bool ok)
theorem isBool (b : Bool) : IsBool (.returned (.bool b)) := ⟨b, rfl⟩

set_option maxHeartbeats 1000000 in
set_option maxRecDepth 100000 in
theorem bytes5 (la : Option Addr) (n lcap : Nat) (pl : Nat → Nat) (ma : Option Addr) (m mcap : Nat) (ql : Nat → Nat) (cut : Int) (w : World) (hn : (n : Int) ≤ 9223372036854775807) (hm : (m : Int) ≤ 9223372036854775807) (h : ZLen w la n pl) (h' : ZLen w ma m ql) :
    Calls Try.prog 11 #[.slice la n lcap, .slice ma m mcap, .int .i64 cut] w fun e w' => IsBool e ∧ w' = w := by
  have HL := Lib.hid h
  have HM := Lib.hid h'
  clear h h'
  go_enter Try.func11, Try.ntmps11
  go_wp2
  all_goals first
    | (go_ret; exact ⟨isBool _, rfl⟩)
    | skip
  go_loop [7, 8] (fun z i => ∃ (k : Nat) (x : Int), k ≤ n ∧ i = .int .i64 k ∧ z = .int .i64 x) (fun _ i => n - (intOf i).toNat)
  case atStart => exact ⟨0, _, by omega, rfl, rfl⟩
  case round =>
    obtain ⟨k, x, hk, rfl, rfl⟩ := hrel
    by_cases hlt : k < n
    · obtain ⟨lb, lo, a, c, rfl, h2⟩ := HL.out k hlt
      have hm' : (k : Int) < (n : Int) := by omega
      go_wp2
      all_goals first
        | (go_ret; exact ⟨isBool _, rfl⟩)
        | (go_round
           case rel => exact ⟨k + 1, _, by omega, by go_num, rfl⟩
           case measure => simp [intOf]; omega)
    · have hm' : ¬ (k : Int) < (n : Int) := by omega
      go_wp2
      all_goals first
        | (go_ret; exact ⟨isBool _, rfl⟩)
        | skip
      go_loop [7, 9] (fun z i => ∃ (k : Nat) (x : Int), k ≤ m ∧ i = .int .i64 k ∧ z = .int .i64 x) (fun _ i => m - (intOf i).toNat)
      case atStart => exact ⟨0, _, by omega, rfl, rfl⟩
      case round =>
        obtain ⟨k2, x2, hk2, rfl, rfl⟩ := hrel
        by_cases hlt2 : k2 < m
        · obtain ⟨lb, lo, a, c, rfl, h2⟩ := HM.out k2 hlt2
          have hm'' : (k2 : Int) < (m : Int) := by omega
          go_wp2
          all_goals first
            | (go_ret; exact ⟨isBool _, rfl⟩)
            | (go_round
               case rel => exact ⟨k2 + 1, _, by omega, by go_num, rfl⟩
               case measure => simp [intOf]; omega)
        · have hm'' : ¬ (k2 : Int) < (m : Int) := by omega
          go_wp2
          all_goals (go_ret; exact ⟨isBool _, rfl⟩)

set_option maxHeartbeats 1000000 in
set_option maxRecDepth 100000 in
theorem bytes6 (la : Option Addr) (n lcap : Nat) (pl : Nat → Nat) (ma : Option Addr) (m mcap : Nat) (ql : Nat → Nat) (w : World) (hn : (n : Int) ≤ 9223372036854775807) (hm : (m : Int) ≤ 9223372036854775807) (h : ZLen w la n pl) (h' : ZLen w ma m ql) :
    Calls Try.prog 17 #[.slice la n lcap, .slice ma m mcap] w fun e w' => IsBool e ∧ w' = w := by
  have HL := Lib.hid h
  have HM := Lib.hid h'
  clear h h'
  go_enter Try.func17, Try.ntmps17
  go_wp2
  all_goals first
    | (go_ret; exact ⟨isBool _, rfl⟩)
    | skip
  go_loop [5, 6] (fun z i => ∃ (k : Nat) (x : Int), k ≤ n ∧ i = .int .i64 k ∧ z = .int .i64 x) (fun _ i => n - (intOf i).toNat)
  case atStart => exact ⟨0, _, by omega, rfl, rfl⟩
  case round =>
    obtain ⟨k, x, hk, rfl, rfl⟩ := hrel
    by_cases hlt : k < n
    · obtain ⟨lb, lo, a, c, rfl, h2⟩ := HL.out k hlt
      have hm' : (k : Int) < (n : Int) := by omega
      go_wp2
      all_goals first
        | (go_ret; exact ⟨isBool _, rfl⟩)
        | (go_round
           case rel => exact ⟨k + 1, _, by omega, by go_num, rfl⟩
           case measure => simp [intOf]; omega)
    · have hm' : ¬ (k : Int) < (n : Int) := by omega
      go_wp2
      all_goals first
        | (go_ret; exact ⟨isBool _, rfl⟩)
        | skip
      go_loop [5, 7] (fun z i => ∃ (k : Nat) (x : Int), k ≤ m ∧ i = .int .i64 k ∧ z = .int .i64 x) (fun _ i => m - (intOf i).toNat)
      case atStart => exact ⟨0, _, by omega, rfl, rfl⟩
      case round =>
        obtain ⟨k2, x2, hk2, rfl, rfl⟩ := hrel
        by_cases hlt2 : k2 < m
        · obtain ⟨lb, lo, a, c, rfl, h2⟩ := HM.out k2 hlt2
          have hm'' : (k2 : Int) < (m : Int) := by omega
          go_wp2
          all_goals first
            | (go_ret; exact ⟨isBool _, rfl⟩)
            | (go_round
               case rel => exact ⟨k2 + 1, _, by omega, by go_num, rfl⟩
               case measure => simp [intOf]; omega)
        · have hm'' : ¬ (k2 : Int) < (m : Int) := by omega
          go_wp2
          all_goals (go_ret; exact ⟨isBool _, rfl⟩)
end Go.Proofs.Qxb6614277a
