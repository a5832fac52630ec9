/-
  Closed facts on the program and the row of FnFormatInt, each by the kernel, apart from each other because together they take too much memory. No condition.
-/
import Derived.Test.YtpoepgnapneeaaaGreatDoorRows
import Derived.JoinedOf
import Derived.KernelRfl
namespace Go.Proofs.YtpoepgnapneeaaaGreatDoor
open Go
set_option linter.unusedVariables false
theorem jf9 : (fun (P : Program) (f : FuncId) (fn : Func) (s : ChangeSpec) (c : OpenClaim) => ((c.inPlace == P.inPlace f) : Bool)) Tryz.prog 3 Tryz.f3 Rows.fnFormatIntSpec Rows.fnFormatIntRow = true := by kernel_rfl
theorem jf10 : (fun (P : Program) (f : FuncId) (fn : Func) (s : ChangeSpec) (c : OpenClaim) => ((c.unfollowed == P.unfollowed f) : Bool)) Tryz.prog 3 Tryz.f3 Rows.fnFormatIntSpec Rows.fnFormatIntRow = true := by kernel_rfl
theorem jf11 : (fun (P : Program) (f : FuncId) (fn : Func) (s : ChangeSpec) (c : OpenClaim) => ((c.recurses == P.recurses f) : Bool)) Tryz.prog 3 Tryz.f3 Rows.fnFormatIntSpec Rows.fnFormatIntRow = true := by kernel_rfl
theorem jf12 : (fun (P : Program) (f : FuncId) (fn : Func) (s : ChangeSpec) (c : OpenClaim) => ((c.named == P.varsNamed f) : Bool)) Tryz.prog 3 Tryz.f3 Rows.fnFormatIntSpec Rows.fnFormatIntRow = true := by kernel_rfl
end Go.Proofs.YtpoepgnapneeaaaGreatDoor
