/-
  The walks of the small functions on terms and operands: they hand on what they hold. Condition: the library's table of powers of ten, where a number is written.
-/
import Derived.Test.YtpoepgnapneeaaaGreatDoorRead
import Derived.Test.YtpoepgnapneeaaaGreatDoorShelf
namespace Go.Proofs.YtpoepgnapneeaaaGreatDoor
open Go.RowKit
set_option linter.unusedVariables false
set_option maxHeartbeats 400000

theorem as9_4 (v : Value) (w : World) : (Instr.typeAssert (.iface 9 v) 20 4 true).run Tryz.prog w = .ok (.tuple #[.bool false, .bool false]) w := by kernel_rfl
theorem as9_9 (v : Value) (w : World) : (Instr.typeAssert (.iface 9 v) 20 9 true).run Tryz.prog w = .ok (.tuple #[v, .bool true]) w := by kernel_rfl
theorem as3_4 (v : Value) (w : World) : (Instr.typeAssert (.iface 3 v) 20 4 true).run Tryz.prog w = .ok (.tuple #[.bool false, .bool false]) w := by kernel_rfl
theorem as3_9 (v : Value) (w : World) : (Instr.typeAssert (.iface 3 v) 20 9 true).run Tryz.prog w = .ok (.tuple #[.string ByteArray.empty, .bool false]) w := by kernel_rfl
theorem as3_3 (v : Value) (w : World) : (Instr.typeAssert (.iface 3 v) 20 3 true).run Tryz.prog w = .ok (.tuple #[v, .bool true]) w := by kernel_rfl
theorem as51 (v : Value) (w : World) : (Instr.typeAssert (.iface 51 v) 40 51 true).run Tryz.prog w = .ok (.tuple #[v, .bool true]) w := by kernel_rfl
theorem as37 (v : Value) (w : World) : (Instr.typeAssert (.iface 37 v) 40 37 true).run Tryz.prog w = .ok (.tuple #[v, .bool true]) w := by kernel_rfl

/-- Block tb is a term that holds v. -/
def TermIs (tb : Nat) (v : Value) (w : World) : Prop := w.heap[tb]? = some (.cells #[v, .pointer none] 43 (0, 0))

theorem TermIs.keep {tb : Nat} {v : Value} {w w' : World} {S : Nat → Prop} (h : TermIs tb v w) (k : Keeps S w w') (hS : ¬ S tb) : TermIs tb v w' := k.heap h hS

theorem is_any (s : ByteArray) (w : World) :
    Calls Tryz.prog 6 #[.string s, .string s, .bool true] w fun e w' => e = .returned (.bool true) ∧ w = w' := by
  go_enter Tryz.func6, Tryz.ntmps6
  go_wp2
  go_ret
  exact ⟨by first | rfl | simp, rfl⟩

theorem stringTerm_any (s : ByteArray) (w : World) :
    Calls Tryz.prog 18 #[.string s] w fun e w' => e = .returned (.pointer (some ⟨w.heap.size, 0, none⟩)) ∧ w' = w.alloc (.cells #[.iface 37 (.string s), .pointer none] 43) := by
  go_enter Tryz.func18, Tryz.ntmps18
  go_wp2
  go_ret
  exact ⟨rfl, rfl⟩

set_option maxRecDepth 100000 in
theorem newValueStr_any (s : ByteArray) (w : World) :
    Calls Tryz.prog 42 #[.string s] w fun e w' => e = .returned (.iface 37 (.string s)) ∧ w = w' := by
  have h1 := as9_4
  have h2 := as9_9
  go_enter Tryz.func42, Tryz.ntmps42
  go_wp2
  go_ret
  exact ⟨rfl, rfl⟩

theorem newTerm_str (t : TypeId) (s : ByteArray) (w : World) :
    Calls Tryz.prog 41 #[.iface t (.string s)] w fun e w' => e = .returned (.pointer (some ⟨w.heap.size, 0, none⟩)) ∧ w' = w.alloc (.cells #[.iface t (.string s), .pointer none] 43) := by
  go_enter Tryz.func41, Tryz.ntmps41
  go_wp2
  go_ret
  exact ⟨rfl, rfl⟩

theorem internedStr_any (s : ByteArray) (w : World) :
    Calls Tryz.prog 26 #[.string s] w fun e w' => e = .returned (.pointer (some ⟨w.heap.size, 0, none⟩)) ∧ w' = w.alloc (.cells #[.iface 37 (.string s), .pointer none] 43) := by
  go_enter Tryz.func26, Tryz.ntmps26
  go_wp2_with fail
  refine (newValueStr_any s w).mono ?_
  rintro e w1 ⟨rfl, rfl⟩
  go_wp2_with fail
  refine (newTerm_str 37 s w).mono ?_
  rintro e w1 ⟨rfl, rfl⟩
  go_wp2_with fail
  go_ret
  exact ⟨rfl, rfl⟩

/-- The library's table that Itoa reads. -/
def PowTab (w : World) : Prop := Lib.TabIs Tryz.prog w "internal/strconv.uint64pow10" .u64 Lib.pow10Tab
/-- The decimal numeral of n as Go's string. -/
def dec (n : Int) : ByteArray := ⟨(Lib.itoa n).toArray⟩

theorem itoa_any (n : Int) (h0 : -9223372036854775808 ≤ n) (h1 : n ≤ 9223372036854775807) (w : World) (ht : PowTab w) :
    Calls Tryz.prog 36 #[.int .i64 n] w fun e w' => e = .returned (.string (dec n)) ∧ Keeps (fun _ => False) w w' :=
  (Tryz.strconv_Itoa n h0 h1 w ht).mono fun e w' ⟨he, k, os, hw⟩ => ⟨he, by
    rw [hw]
    exact ((Keeps.refl (fun _ => False) w).drewN k).trans (keeps_grow _ os) (fun _ _ h => h)⟩

set_option maxRecDepth 100000 in
theorem newValueInt_any (n : Int) (h0 : -9223372036854775808 ≤ n) (h1 : n ≤ 9223372036854775807) (w : World) (ht : PowTab w) :
    Calls Tryz.prog 79 #[.int .i64 n] w fun e w' => e = .returned (.iface 51 (.string (dec n))) ∧ Keeps (fun _ => False) w w' := by
  have a1 := as3_4
  have a2 := as3_9
  have a3 := as3_3
  go_enter Tryz.func79, Tryz.ntmps79
  go_wp2_with fail
  refine (itoa_any n h0 h1 w ht).mono ?_
  rintro e w1 ⟨rfl, k1⟩
  go_wp2_with fail
  go_ret
  exact ⟨rfl, k1⟩

theorem num_any (n : Int) (h0 : -9223372036854775808 ≤ n) (h1 : n ≤ 9223372036854775807) (w : World) (ht : PowTab w) :
    Calls Tryz.prog 11 #[.int .i64 n] w fun e w' => ∃ tb, e = .returned (.pointer (some ⟨tb, 0, none⟩)) ∧ w.heap.size ≤ tb ∧ TermIs tb (.iface 51 (.string (dec n))) w' ∧ Keeps (fun _ => False) w w' := by
  go_enter Tryz.func11, Tryz.ntmps11
  go_wp2_with (first | (go_at_call 79; refine (newValueInt_any n h0 h1 w ht).mono ?_; rintro e w1 ⟨rfl, k1⟩; refine Hid.out ?_) | go_in)
  refine Lib.hid ?_
  go_wp2_with fail
  refine (newTerm_str 51 (dec n) w1).mono ?_
  rintro e w2 ⟨rfl, rfl⟩
  go_wp2_with fail
  go_ret
  exact ⟨w1.heap.size, rfl, k1.size, heap_alloc_new w1 _, k1.alloc _⟩

theorem numberOperand_any (s : ByteArray) (p : Int) (w : World) :
    Calls Tryz.prog 20 #[.iface 51 (.string s), .int .i64 p] w fun e w' => e = .returned (.tuple #[.string s, .nilIface]) ∧ w = w' := by
  have a1 := as51
  go_enter Tryz.func20, Tryz.ntmps20
  go_wp2
  go_ret2
  exact ⟨rfl, rfl⟩

theorem stringOperand_any (s : ByteArray) (p : Int) (w : World) :
    Calls Tryz.prog 32 #[.iface 37 (.string s), .int .i64 p] w fun e w' => e = .returned (.tuple #[.string s, .nilIface]) ∧ w = w' := by
  have a1 := as37
  go_enter Tryz.func32, Tryz.ntmps32
  go_wp2
  go_ret2
  exact ⟨rfl, rfl⟩

theorem isString_any (tb : Nat) (s : ByteArray) (w : World) (h : TermIs tb (.iface 37 (.string s)) w) :
    Calls Tryz.prog 9 #[.pointer (some ⟨tb, 0, none⟩), .nilIface] w fun e w' => e = .returned (.tuple #[.string s, .bool true]) ∧ w = w' := by
  have a1 := as37
  have c0 : w.cell? ⟨tb, 0, none⟩ = some (.iface 37 (.string s)) := cell_of_heap h 0
  clear h
  go_enter Tryz.func9, Tryz.ntmps9
  go_wp2
  go_ret2
  exact ⟨rfl, rfl⟩

theorem call1_any (tb R : Nat) (u : Value) (w : World) (h : w.cell? ⟨R, 0, none⟩ = some u) (hf : w.frozen? ⟨R, 0, none⟩ = false) :
    Calls Tryz.prog 19 #[.pointer (some ⟨tb, 0, none⟩), .pointer (some ⟨R, 0, none⟩)] w fun e w' => e = .returned .nilIface ∧ w' = w.setCell ⟨R, 0, none⟩ (.pointer (some ⟨tb, 0, none⟩)) := by
  go_enter Tryz.func19, Tryz.ntmps19
  go_wp2
  go_ret
  exact ⟨rfl, rfl⟩

theorem internedIntString_any (n : Int) (h0 : -9223372036854775808 ≤ n) (h1 : n ≤ 9223372036854775807) (w : World) (ht : PowTab w) :
    Calls Tryz.prog 23 #[.int .i64 n] w fun e w' => ∃ tb, e = .returned (.pointer (some ⟨tb, 0, none⟩)) ∧ w.heap.size ≤ tb ∧ TermIs tb (.iface 37 (.string (dec n))) w' ∧ Keeps (fun _ => False) w w' := by
  go_enter Tryz.func23, Tryz.ntmps23
  go_wp2_with fail
  refine (itoa_any n h0 h1 w ht).mono ?_
  rintro e w1 ⟨rfl, k1⟩
  go_wp2_with fail
  refine (stringTerm_any (dec n) w1).mono ?_
  rintro e w2 ⟨rfl, rfl⟩
  go_wp2_with fail
  go_ret
  exact ⟨w1.heap.size, rfl, k1.size, heap_alloc_new w1 _, k1.alloc _⟩
end Go.Proofs.YtpoepgnapneeaaaGreatDoor
