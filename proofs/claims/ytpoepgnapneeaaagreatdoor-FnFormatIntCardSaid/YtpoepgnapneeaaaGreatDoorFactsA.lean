/-
  Closed facts on the program and the row of FnFormatInt, each by the kernel, apart from each other because together they take too much memory. No condition.
-/
import Derived.Test.YtpoepgnapneeaaaGreatDoorRows
import Derived.JoinedOf
import Derived.KernelRfl
namespace Go.Proofs.YtpoepgnapneeaaaGreatDoor
open Go
set_option linter.unusedVariables false
theorem jf0 : (fun (P : Program) (f : FuncId) (fn : Func) (s : ChangeSpec) (c : OpenClaim) => (c.wf (OpenSpec.ofChange s) : Bool)) Tryz.prog 3 Tryz.f3 Rows.fnFormatIntSpec Rows.fnFormatIntRow = true := by kernel_rfl
theorem jf1 : (fun (P : Program) (f : FuncId) (fn : Func) (s : ChangeSpec) (c : OpenClaim) => (laidOutB P : Bool)) Tryz.prog 3 Tryz.f3 Rows.fnFormatIntSpec Rows.fnFormatIntRow = true := by kernel_rfl
theorem jf2 : (fun (P : Program) (f : FuncId) (fn : Func) (s : ChangeSpec) (c : OpenClaim) => (mapsRowed P : Bool)) Tryz.prog 3 Tryz.f3 Rows.fnFormatIntSpec Rows.fnFormatIntRow = true := by kernel_rfl
theorem jf3 : (fun (P : Program) (f : FuncId) (fn : Func) (s : ChangeSpec) (c : OpenClaim) => (fn.params.all (P.readableRec ·) : Bool)) Tryz.prog 3 Tryz.f3 Rows.fnFormatIntSpec Rows.fnFormatIntRow = true := by kernel_rfl
theorem jf4 : (fun (P : Program) (f : FuncId) (fn : Func) (s : ChangeSpec) (c : OpenClaim) => (namedTie P c.named s.vars : Bool)) Tryz.prog 3 Tryz.f3 Rows.fnFormatIntSpec Rows.fnFormatIntRow = true := by kernel_rfl
theorem jf5 : (fun (P : Program) (f : FuncId) (fn : Func) (s : ChangeSpec) (c : OpenClaim) => ((c.stops == []) : Bool)) Tryz.prog 3 Tryz.f3 Rows.fnFormatIntSpec Rows.fnFormatIntRow = true := by kernel_rfl
theorem jf6 : (fun (P : Program) (f : FuncId) (fn : Func) (s : ChangeSpec) (c : OpenClaim) => ((P.stops == []) : Bool)) Tryz.prog 3 Tryz.f3 Rows.fnFormatIntSpec Rows.fnFormatIntRow = true := by kernel_rfl
theorem jf7 : (fun (P : Program) (f : FuncId) (fn : Func) (s : ChangeSpec) (c : OpenClaim) => ((c.knobs == []) : Bool)) Tryz.prog 3 Tryz.f3 Rows.fnFormatIntSpec Rows.fnFormatIntRow = true := by kernel_rfl
theorem jf8 : (fun (P : Program) (f : FuncId) (fn : Func) (s : ChangeSpec) (c : OpenClaim) => ((P.stopKnobs == []) : Bool)) Tryz.prog 3 Tryz.f3 Rows.fnFormatIntSpec Rows.fnFormatIntRow = true := by kernel_rfl
end Go.Proofs.YtpoepgnapneeaaaGreatDoor
