import Derived.Test.Qxb6605684aFmtProg
import Derived.Stop.CallBack
import Derived.Stop.IfaceNil
import GoSem.ClaimData
namespace Go.Proofs.Qxb6605684aFmt
open Go.Extern.Stop Go.Stop Go.Extern

theorem call10 (args : Array Value) (w : World) : (callFunc 10 args).run Tryf.prog w = ((FmtStop.errorf #[9, 32] #[24] args).run Tryf.prog w).andThen fun v w' => .ok (.value v) w' :=
  run_callFunc_extern Tryf.func10 (by kernel_rfl) (by kernel_rfl) (by kernel_rfl) (by kernel_rfl) args w

theorem guard (name : String) (w : World) : (FmtStop.guard name).run Tryf.prog w = .ok () w := by kernel_rfl

/-- The one format: "invalid regular expression: %v". -/
theorem fmt0 : FmtStop.printed? ⟨#[105, 110, 118, 97, 108, 105, 100, 32, 114, 101, 103, 117, 108, 97, 114, 32, 101, 120, 112, 114, 101, 115, 115, 105, 111, 110, 58, 32, 37, 118]⟩ 1 = some [(0, 118, false)] := by kernel_rfl
theorem fmt0r (w : World) : (FmtDoors.printed ⟨#[105, 110, 118, 97, 108, 105, 100, 32, 114, 101, 103, 117, 108, 97, 114, 32, 101, 120, 112, 114, 101, 115, 115, 105, 111, 110, 58, 32, 37, 118]⟩ 1).run Tryf.prog w = .ok [(0, 118, false)] w := by kernel_rfl

theorem ptr29 (w : World) : (FmtStop.ptrTo "errors.errorString").run Tryf.prog w = .ok 29 w := by kernel_rfl
theorem elem29 (w : World) : (elemOf 29).run Tryf.prog w = .ok 31 w := by kernel_rfl
theorem isError29 (w : World) : (FmtDoors.textMethod 29 "Error").run Tryf.prog w = .ok true w := by kernel_rfl

/-- How the type of a plain error is told. -/
theorem told29 (w : World) : ∃ s, (typeStr 29).run Tryf.prog w = .ok s w :=
  ⟨match (typeStr 29).run Tryf.prog w with | .ok s _ => s | _ => default, by kernel_rfl⟩

theorem opPlain29 (name : String) (a : Addr) (s : ByteArray) (w : World) (hc : w.cell? a = some (.string s)) :
    ∃ r, (FmtStop.operand name true 118 false (.iface 29 (.pointer (some a)))).run Tryf.prog w = .ok (r, s.data.toList) w := by
  obtain ⟨t, h1⟩ := told29 w
  have d2 : Tryf.t29.desc = .pointer 31 := rfl
  have d3 : Tryf.t31.desc = .named "errors.errorString" 30 := rfl
  exact ⟨_, by simp [FmtStop.operand, h1, d2, d3, run_load, hc]; rfl⟩
theorem opNil (name : String) (w : World) : (FmtStop.operand name true 118 false .nilIface).run Tryf.prog w = .ok ([0], []) w := by kernel_rfl
end Go.Proofs.Qxb6605684aFmt
