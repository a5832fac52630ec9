/-
  The walks of strings.Reader's ReadByte and UnreadByte: a byte while one is left, else io.EOF. Condition: the text has at most 1000 bytes.
-/
import Derived.Test.YtpoepgnapneeaaaGreatDoorProg
import Derived.Test.YtpoepgnapneeaaaGreatDoorWorld
import Derived.WalkKit
import Derived.WalkLawsBesides
import Derived.Deep.QuietTactic
import Derived.BigQuiet
import Derived.Lib.Hide
import Derived.WideLaws
import Derived.LaidEql
namespace Go.Proofs.YtpoepgnapneeaaaGreatDoor
open Go.RowKit
set_option linter.unusedVariables false
set_option maxHeartbeats 400000

/-- Block b is a strings.Reader over s that stands at i. -/
def RdAt (b : Nat) (s : ByteArray) (i : Int) (w : World) : Prop := ∃ p : Int, w.heap[b]? = some (.cells #[.string s, .int .i64 i, .int .i64 p] 123 (0, 0))

theorem RdAt.keep {b : Nat} {s : ByteArray} {i : Int} {w w' : World} {S : Nat → Prop} (h : RdAt b s i w) (k : Keeps S w w') (hS : ¬ S b) : RdAt b s i w' :=
  h.elim fun p hp => ⟨p, k.heap hp hS⟩

theorem readByte_yes (b : Nat) (s : ByteArray) (i : Nat) (w : World) (h : RdAt b s i w) (hi : i < s.size) (hs : s.size ≤ 1000) :
    Calls Tryz.prog 133 #[.pointer (some ⟨b, 0, none⟩)] w fun e w' => e = .returned (.tuple #[.int .u8 s[i].toNat, .nilIface]) ∧ RdAt b s (i + 1) w' ∧ Keeps (· = b) w w' := by
  obtain ⟨p, hb⟩ := h
  have c0 : w.cell? ⟨b, 0, none⟩ = some (.string s) := cell_of_heap hb 0
  have c1 : w.cell? ⟨b, 1, none⟩ = some (.int .i64 i) := cell_of_heap hb 1
  have c2 : w.cell? ⟨b, 2, none⟩ = some (.int .i64 p) := cell_of_heap hb 2
  have f1 : w.frozen? ⟨b, 1, none⟩ = false := free_of_heap hb 1
  have f2 : w.frozen? ⟨b, 2, none⟩ = false := free_of_heap hb 2
  have HB := Lib.hid hb
  clear hb
  go_enter Tryz.func133, Tryz.ntmps133
  go_wp2
  go_quiet (fail)
  go_wp2
  go_quiet (fail)
  go_wp2
  go_ret2
  refine ⟨rfl, ⟨-1, ?_⟩, ?_⟩
  · exact heap_setCell_same (w := (w.setCell ⟨b, 2, none⟩ (.int .i64 (-1))).drewN _) (o := 1) (heap_setCell_same (w := w) (o := 2) HB.out _) _
  · repeat (first | exact Keeps.refl _ _ | refine Keeps.drewN ?_ _ | refine Keeps.drew ?_ | refine Keeps.setAt ?_ _ rfl)

theorem readByte_end (b : Nat) (s : ByteArray) (i : Nat) (w : World) (v : Value) (h : RdAt b s i w) (hi : s.size ≤ i) (hs : i ≤ 1000) (hv : w.cell? ⟨0, 0, none⟩ = some v) (hb0 : 0 < b) :
    Calls Tryz.prog 133 #[.pointer (some ⟨b, 0, none⟩)] w fun e w' => e = .returned (.tuple #[.int .u8 0, v]) ∧ RdAt b s i w' ∧ Keeps (· = b) w w' := by
  obtain ⟨p, hb⟩ := h
  have c0 : w.cell? ⟨b, 0, none⟩ = some (.string s) := cell_of_heap hb 0
  have c1 : w.cell? ⟨b, 1, none⟩ = some (.int .i64 i) := cell_of_heap hb 1
  have c2 : w.cell? ⟨b, 2, none⟩ = some (.int .i64 p) := cell_of_heap hb 2
  have f2 : w.frozen? ⟨b, 2, none⟩ = false := free_of_heap hb 2
  have hv' : (w.setCell ⟨b, 2, none⟩ (.int .i64 (-1))).cell? ⟨0, 0, none⟩ = some v := by
    rw [World.cell?_setCell_other _ _ _ _ (by intro e; injection e; omega)]; exact hv
  have HB := Lib.hid hb
  clear hb
  go_enter Tryz.func133, Tryz.ntmps133
  go_wp2
  go_quiet (fail)
  go_wp2
  go_quiet (fail)
  go_wp2
  go_ret2
  refine ⟨rfl, ⟨-1, ?_⟩, ?_⟩
  · exact heap_setCell_same (w := w) (o := 2) HB.out _
  · repeat (first | exact Keeps.refl _ _ | refine Keeps.drewN ?_ _ | refine Keeps.drew ?_ | refine Keeps.setAt ?_ _ rfl)

theorem unreadByte_any (b : Nat) (s : ByteArray) (i : Nat) (w : World) (h : RdAt b s (i + 1) w) (hs : i ≤ 1000) :
    Calls Tryz.prog 286 #[.pointer (some ⟨b, 0, none⟩)] w fun e w' => e = .returned .nilIface ∧ RdAt b s i w' ∧ Keeps (· = b) w w' := by
  obtain ⟨p, hb⟩ := h
  have c1 : w.cell? ⟨b, 1, none⟩ = some (.int .i64 (i + 1)) := cell_of_heap hb 1
  have c2 : w.cell? ⟨b, 2, none⟩ = some (.int .i64 p) := cell_of_heap hb 2
  have f1 : w.frozen? ⟨b, 1, none⟩ = false := free_of_heap hb 1
  have f2 : w.frozen? ⟨b, 2, none⟩ = false := free_of_heap hb 2
  have HB := Lib.hid hb
  clear hb
  go_enter Tryz.func286, Tryz.ntmps286
  go_wp2
  go_ret
  refine ⟨rfl, ⟨-1, ?_⟩, ?_⟩
  · have := heap_setCell_same (w := w.setCell ⟨b, 2, none⟩ (.int .i64 (-1))) (o := 1) (heap_setCell_same (w := w) (o := 2) HB.out _) (.int .i64 i)
    exact this
  · repeat (first | exact Keeps.refl _ _ | refine Keeps.drewN ?_ _ | refine Keeps.drew ?_ | refine Keeps.setAt ?_ _ rfl)
end Go.Proofs.YtpoepgnapneeaaaGreatDoor
