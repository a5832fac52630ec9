/-
  All the closed facts that the row of FnFormatInt asks, put together. No condition.
-/
import Derived.Test.YtpoepgnapneeaaaGreatDoorFactsA
import Derived.Test.YtpoepgnapneeaaaGreatDoorFactsB
import Derived.Test.YtpoepgnapneeaaaGreatDoorFactsC
namespace Go.Proofs.YtpoepgnapneeaaaGreatDoor
open Go
theorem band {a b : Bool} (ha : a = true) (hb : b = true) : (a && b) = true := by rw [ha, hb]; rfl
set_option maxRecDepth 100000 in
theorem closedFacts : joinedFacts Tryz.prog 3 Tryz.f3 Rows.fnFormatIntSpec Rows.fnFormatIntRow = true := by
  unfold joinedFacts
  exact band (band (band (band (band (band (band (band (band (band (band (band (band (band (band (band (band (band (band (band (band (band (band (band (band (band (band (band (band (band (band (jf0) jf1) jf2) jf3) jf4) jf5) jf6) jf7) jf8) jf9) jf10) jf11) jf12) jf13) jf14) jf15) jf16) jf17) jf18) jf19) jf20) jf21) jf22) jf23) jf24) jf25) jf26) jf27) jf28) jf29) jf30) jf31
end Go.Proofs.YtpoepgnapneeaaaGreatDoor
