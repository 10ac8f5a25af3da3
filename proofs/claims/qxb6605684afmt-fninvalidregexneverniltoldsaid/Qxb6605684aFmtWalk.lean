import Derived.Test.Qxb6605684aFmtFacts
import Derived.Test.Qxb6605684aFmtRows
import Derived.WalkKit
import Derived.WalkSpells
import Derived.WalkLawsBesides
namespace Go.Proofs.Qxb6605684aFmt
open Go.RowKit Go.Extern.Stop Go.Stop Go.Extern
attribute [local go_sem] call10 guard fmt0 fmt0r ptr29 elem29 isError29 opNil

set_option maxHeartbeats 400000 in
theorem inv_nil (F : Interp) (w : World) (hF : F.answers w.tape) :
    Calls Tryf.prog 7 #[.nilIface] w fun e w' => (∃ v, e = .returned (.iface 29 v)) ∧ Below w.heap.size w w' := by
  have hF' := answers_open hF
  go_enter Tryf.func7, Tryf.ntmps7
  go_wp2
  go_ret
  exact ⟨⟨_, rfl⟩, (((Below.refl _ _).alloc (Nat.le_refl _) _).alloc (by simp) _).drew⟩

set_option maxHeartbeats 400000 in
theorem inv_err (F : Interp) (a : Addr) (s : ByteArray) (w : World) (hF : F.answers w.tape) (ha : w.cell? a = some (.string s)) (hlt : a.block < w.heap.size) :
    Calls Tryf.prog 7 #[.iface 29 (.pointer (some a))] w fun e w' => (∃ v, e = .returned (.iface 29 v)) ∧ Below w.heap.size w w' := by
  have hF' := answers_open hF
  have hc : (w.alloc (Obj.cells #[.iface 29 (.pointer (some a))] 20)).cell? a = some (.string s) := by rw [World.cell?_alloc_lt (h := hlt)]; exact ha
  obtain ⟨r, hr⟩ := opPlain29 "fmt.errorf" a s _ hc
  go_enter Tryf.func7, Tryf.ntmps7
  go_wp2
  go_ret
  exact ⟨⟨_, rfl⟩, (((Below.refl _ _).alloc (Nat.le_refl _) _).alloc (by simp) _).drew⟩

theorem new_any (s : ByteArray) (w : World) :
    Calls Tryf.prog 8 #[.string s] w fun e w' => e = .returned (.iface 29 (.pointer (some ⟨w.heap.size, 0, none⟩))) ∧ w' = w.alloc (.cells #[.string s] 31) := by
  go_enter Tryf.func8, Tryf.ntmps8
  go_wp2
  go_ret
  exact ⟨rfl, rfl⟩

set_option maxHeartbeats 400000 in
theorem of_any (F : Interp) (s : ByteArray) (w : World) (hF : F.answers w.tape) :
    Calls Tryf.prog 5 #[.string s] w fun e w' => (∃ v, e = .returned (.iface 29 v)) ∧ Below w.heap.size w w' := by
  go_enter Tryf.func5, Tryf.ntmps5
  go_wp2_with fail
  refine (new_any s _).mono ?_
  rintro e w' ⟨rfl, rfl⟩
  go_wp2_with fail
  refine (inv_err F ⟨w.heap.size, 0, none⟩ s _ (by exact hF) (by rw [World.cell?_alloc_at (hn := by simp)]; rfl) (by simp)).mono ?_
  rintro e w' ⟨⟨v, rfl⟩, hb⟩
  go_wp2
  go_ret
  exact ⟨⟨_, rfl⟩, ((Below.refl _ _).alloc (Nat.le_refl _) _).trans (hb.mono (by simp))⟩

set_option maxHeartbeats 400000 in
theorem nil_any (F : Interp) (w : World) (hF : F.answers w.tape) :
    Calls Tryf.prog 6 #[] w fun e w' => (∃ v, e = .returned (.iface 29 v)) ∧ Below w.heap.size w w' := by
  go_enter Tryf.func6, Tryf.ntmps6
  go_wp2_with (go_at_call 7; refine (inv_nil F _ hF).mono ?_; rintro e w' ⟨⟨v, rfl⟩, hb⟩)
  go_ret
  exact ⟨⟨_, rfl⟩, hb⟩

set_option maxHeartbeats 400000 in
theorem law (F : Interp) (s : ByteArray) (c : Bool) (w : World) (hF : F.answers w.tape) :
    Calls Tryf.prog 3 #[.string s, .bool c] w fun e w' => e = .returned (.bool true) ∧ Below w.heap.size w w' := by
  by_cases hl : s.size ≤ 1048576
  · have h1 : ¬ (1048576 : Int) < (s.size : Int) := by omega
    cases c
    · go_enter Tryf.func3, Tryf.ntmps3
      go_wp2_with (first | (go_at_call 6; refine (nil_any F _ hF).mono ?_; rintro e w' ⟨⟨v, rfl⟩, hb⟩) | (go_at_call 4; go_in))
      go_ret
      exact ⟨rfl, hb⟩
    · go_enter Tryf.func3, Tryf.ntmps3
      go_wp2_with (first | (go_at_call 5; refine (of_any F s _ hF).mono ?_; rintro e w' ⟨⟨v, rfl⟩, hb⟩) | (go_at_call 4; go_in))
      go_ret
      exact ⟨rfl, hb⟩
  · have h1 : (1048576 : Int) < (s.size : Int) := by omega
    go_enter Tryf.func3, Tryf.ntmps3
    go_wp2
    go_ret
    exact ⟨rfl, Below.refl _ _⟩
end Go.Proofs.Qxb6605684aFmt
