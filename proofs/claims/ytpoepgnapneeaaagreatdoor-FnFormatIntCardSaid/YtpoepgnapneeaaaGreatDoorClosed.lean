/-
  All the closed facts that the row of FnFormatInt asks, each by the kernel as a lemma of its own, because in one run they take too much memory. No condition.
-/
import Derived.Test.YtpoepgnapneeaaaGreatDoorRows
import Derived.JoinedOf
import Derived.KernelRfl
namespace Go.Proofs.YtpoepgnapneeaaaGreatDoor
open Go
theorem band {a b : Bool} (ha : a = true) (hb : b = true) : (a && b) = true := by rw [ha, hb]; rfl
set_option maxHeartbeats 0 in
set_option maxRecDepth 100000 in
theorem closedFacts : joinedFacts Tryz.prog 3 Tryz.f3 Rows.fnFormatIntSpec Rows.fnFormatIntRow = true := by
  unfold joinedFacts
  iterate 31 refine band ?_ (by as_aux_lemma => kernel_rfl)
  as_aux_lemma => kernel_rfl
end Go.Proofs.YtpoepgnapneeaaaGreatDoor
