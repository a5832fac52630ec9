/-
  The walks of the thin package's FormatInt and of its Upper at one letter: the numeral, and the capital letter. Conditions: fewer than 19 digits; io.EOF and two tables of the library as their initialisers lay them.
-/
import Derived.Test.YtpoepgnapneeaaaGreatDoorFmt
import Derived.Test.YtpoepgnapneeaaaGreatDoorDigits
namespace Go.Proofs.YtpoepgnapneeaaaGreatDoor
open Go.RowKit
set_option linter.unusedVariables false
set_option maxHeartbeats 400000

/-- What a door leaves: a term that holds the string out. -/
def DoorRes (out : ByteArray) (w : World) (e : Ending) (w' : World) : Prop :=
  ∃ tb, e = .returned (.tuple #[.pointer (some ⟨tb, 0, none⟩), .nilIface]) ∧ TermIs tb (.iface 37 (.string out)) w' ∧ Keeps (fun _ => False) w w'

/-- The door of format_int, out of the built-in function's own contract. -/
theorem doorFormat_any (ob : Nat) (out : ByteArray) (w : World)
    (hf : ∀ w', Keeps (fun _ => False) w w' → w'.heap[w.heap.size]? = some (.cells #[.pointer none] 30 (0, 0)) →
      Calls Tryz.prog 15 #[.agg #[.nilIface], .slice (some ⟨ob, 0, none⟩) 2 2, .func (.func 19) #[] #[.pointer (some ⟨w.heap.size, 0, none⟩)]] w' (BuiltRes w.heap.size out w')) :
    Calls Tryz.prog 10 #[.slice (some ⟨ob, 0, none⟩) 2 2] w (DoorRes out w) := by
  have k1 : Keeps (fun _ => False) w (w.alloc (.cells #[.pointer none] 30)) := (Keeps.refl _ w).alloc _
  have HF := Lib.hid (hf _ k1 (heap_alloc_new w _))
  clear hf
  go_enter Tryz.func10, Tryz.ntmps10
  go_wp2_with (first | (go_at_call 14; go_in) | fail)
  refine HF.out.mono ?_
  rintro e w2 ⟨rfl, tb, hR, ht, k2⟩
  have hc : w2.cell? ⟨w.heap.size, 0, none⟩ = some (.pointer (some ⟨tb, 0, none⟩)) := cell_of_heap hR 0
  have HT := Lib.hid ht
  clear hR ht
  go_wp2_with fail
  go_ret2
  exact ⟨tb, rfl, HT.out, k1.trans k2 (fun k hk h => by omega)⟩

/-- The built-in function's contract at the texts of n and b: it leaves out. -/
def FmtOk (n b : Int) (out : ByteArray) (ea : Addr) : Prop := ∀ (ob tb1 tb2 R : Nat) (w : World), OpsAre ob tb1 tb2 (dec n) (dec b) w → w.heap[R]? = some (.cells #[.pointer none] 30 (0, 0)) → Env ea w →
  Calls Tryz.prog 15 #[.agg #[.nilIface], .slice (some ⟨ob, 0, none⟩) 2 2, .func (.func 19) #[] #[.pointer (some ⟨R, 0, none⟩)]] w (BuiltRes R out w)

theorem fmtOk_2 (n : Int) (ea : Addr) (h0 : -1000000000000000000 < n) (h1 : n < 1000000000000000000) : FmtOk n 2 ⟨(numeral 2 n.natAbs (decide (n < 0))).toArray⟩ ea :=
  fun ob tb1 tb2 R w ho hR hE => fmt_2 ob tb1 tb2 R n ea w h0 h1 (by rw [← dec2]; exact ho) hR hE
theorem fmtOk_8 (n : Int) (ea : Addr) (h0 : -1000000000000000000 < n) (h1 : n < 1000000000000000000) : FmtOk n 8 ⟨(numeral 8 n.natAbs (decide (n < 0))).toArray⟩ ea :=
  fun ob tb1 tb2 R w ho hR hE => fmt_8 ob tb1 tb2 R n ea w h0 h1 (by rw [← dec8]; exact ho) hR hE
theorem fmtOk_16 (n : Int) (ea : Addr) (h0 : -1000000000000000000 < n) (h1 : n < 1000000000000000000) : FmtOk n 16 ⟨(numeral 16 n.natAbs (decide (n < 0))).toArray⟩ ea :=
  fun ob tb1 tb2 R w ho hR hE => fmt_16 ob tb1 tb2 R n ea w h0 h1 (by rw [← dec16]; exact ho) hR hE
theorem fmtOk_10 (n : Int) (ea : Addr) (h0 : -1000000000000000000 < n) (h1 : n < 1000000000000000000) : FmtOk n 10 (dec n) ea :=
  fun ob tb1 tb2 R w ho hR hE => fmt_10 ob tb1 tb2 R n ea w h0 h1 (by rw [← dec10]; exact ho) hR hE

set_option maxRecDepth 100000 in
theorem implFormat_any (n b : Int) (out : ByteArray) (ea : Addr) (w : World) (h0 : -1000000000000000000 < n) (h1 : n < 1000000000000000000) (hb0 : 0 ≤ b) (hb1 : b ≤ 100) (hf : FmtOk n b out ea) (hE : Env ea w) :
    Calls Tryz.prog 5 #[.int .i64 n, .int .i64 b] w fun e w' => e = .returned (.tuple #[.string out, .bool true]) ∧ Keeps (fun _ => False) w w' := by
  have HF := Lib.hid hf
  clear hf
  go_enter Tryz.func5, Tryz.ntmps5
  go_wp2_with fail
  refine (num_any n (by omega) (by omega) w hE.pow).mono ?_
  rintro e w1 ⟨tb1, rfl, hb1, ht1, k1⟩
  have hE1 := hE.keep k1 (fun _ _ h => h)
  have T1 := Lib.hid ht1
  clear ht1
  go_wp2_with fail
  refine (num_any b (by omega) (by omega) w1 hE1.pow).mono ?_
  rintro e w2 ⟨tb2, rfl, hb2, ht2, k2⟩
  have hE2 := hE1.keep k2 (fun _ _ h => h)
  have T2 := Lib.hid ht2
  clear ht2
  go_wp2_with fail
  have k3 : Keeps (fun _ => False) w2 (w2.alloc (.cells #[.pointer (some ⟨tb1, 0, none⟩), .pointer (some ⟨tb2, 0, none⟩)] 30)) := (Keeps.refl _ w2).alloc _
  have hob := heap_alloc_new w2 (.cells #[.pointer (some ⟨tb1, 0, none⟩), .pointer (some ⟨tb2, 0, none⟩)] 30)
  have hops : OpsAre w2.heap.size tb1 tb2 (dec n) (dec b) (w2.alloc (.cells #[.pointer (some ⟨tb1, 0, none⟩), .pointer (some ⟨tb2, 0, none⟩)] 30)) :=
    ⟨cell_of_heap hob 0, cell_of_heap hob 1, cell_of_heap (k3.heap (k2.heap T1.out (fun h => h)) (fun h => h)) 0, cell_of_heap (k3.heap T2.out (fun h => h)) 0⟩
  have hE3 := hE2.keep k3 (fun _ _ h => h)
  refine (doorFormat_any _ out _ (fun w' kw hRw => HF.out _ tb1 tb2 _ w' (hops.keep kw (fun h => h) (fun h => h) (fun h => h)) hRw (hE3.keep kw (fun _ _ h => h)))).mono ?_
  rintro e w4 ⟨tb, rfl, ht, k4⟩
  have hk : Keeps (fun _ => False) w w4 := ((k1.trans k2 (fun _ _ h => h)).trans k3 (fun _ _ h => h)).trans k4 (fun _ _ h => h)
  clear hob hops
  go_wp2_with fail
  refine (isString_any tb out w4 ht).mono ?_
  rintro e w5 ⟨rfl, rfl⟩
  go_wp2_with fail
  go_ret2
  exact ⟨rfl, hk⟩

theorem upper_a (w : World) : Calls Tryz.prog 33 #[.string ⟨#[97]⟩] w fun e w' => e = .returned (.string ⟨#[65]⟩) ∧ Keeps (fun _ => False) w w' :=
  (Tryz.strings_ToUpper_ascii ⟨#[97]⟩ w (by decide) (fun j b hj => by
    match j, hj with
    | 0, hj => cases hj; decide
    | j + 1, hj => simp at hj)).mono fun e w' ⟨he, hb⟩ => ⟨he, (Keeps.of_below hb).mono fun k hk h => by omega⟩

set_option maxRecDepth 100000 in
theorem upperBuilt_any (ob tb1 R : Nat) (w : World) (o0 : w.cell? ⟨ob, 0, none⟩ = some (.pointer (some ⟨tb1, 0, none⟩))) (t1 : w.cell? ⟨tb1, 0, none⟩ = some (.iface 37 (.string ⟨#[97]⟩)))
    (hR : w.heap[R]? = some (.cells #[.pointer none] 30 (0, 0))) :
    Calls Tryz.prog 17 #[.agg #[.nilIface], .slice (some ⟨ob, 0, none⟩) 1 1, .func (.func 19) #[] #[.pointer (some ⟨R, 0, none⟩)]] w (BuiltRes R ⟨#[65]⟩ w) := by
  have hbox : Keeps (fun _ => False) w (w.alloc (.cells #[.nilIface] 49)) := (Keeps.refl _ w).alloc _
  have o0 := hbox.cell o0 (fun h => h)
  have t1 := hbox.cell t1 (fun h => h)
  go_enter Tryz.func17, Tryz.ntmps17
  go_wp2_with fail
  refine (stringOperand_any ⟨#[97]⟩ 1 _).mono ?_
  rintro e w1 ⟨rfl, rfl⟩
  go_wp2_with fail
  refine (upper_a _).mono ?_
  rintro e w3 ⟨rfl, k3⟩
  have hk := hbox.trans k3 (fun _ _ h => h)
  go_wp2_with fail
  refine (internedStr_any _ w3).mono ?_
  rintro e w5 ⟨rfl, rfl⟩
  have hR4 := hk.heap hR (fun h => h)
  have k5 : Keeps (fun _ => False) w3 (w3.alloc (.cells #[.iface 37 (.string ⟨#[65]⟩), .pointer none] 43)) := (Keeps.refl _ w3).alloc _
  have hR5 := k5.heap hR4 (fun h => h)
  go_wp2_with fail
  refine (call1_any _ R _ _ (cell_of_heap hR5 0) (free_of_heap hR5 0)).mono ?_
  rintro e w6 ⟨rfl, hw6⟩
  have HW := Lib.hid hw6
  clear hw6
  go_wp2_with fail
  go_ret
  exact built_close hR4 hk HW.out

theorem doorUpper_any (ob tb1 : Nat) (w : World) (o0 : w.cell? ⟨ob, 0, none⟩ = some (.pointer (some ⟨tb1, 0, none⟩))) (t1 : w.cell? ⟨tb1, 0, none⟩ = some (.iface 37 (.string ⟨#[97]⟩))) :
    Calls Tryz.prog 12 #[.slice (some ⟨ob, 0, none⟩) 1 1] w (DoorRes ⟨#[65]⟩ w) := by
  have k1 : Keeps (fun _ => False) w (w.alloc (.cells #[.pointer none] 30)) := (Keeps.refl _ w).alloc _
  have HF := Lib.hid (upperBuilt_any ob tb1 w.heap.size _ (k1.cell o0 (fun h => h)) (k1.cell t1 (fun h => h)) (heap_alloc_new w _))
  clear o0 t1
  go_enter Tryz.func12, Tryz.ntmps12
  go_wp2_with (first | (go_at_call 14; go_in) | fail)
  refine HF.out.mono ?_
  rintro e w2 ⟨rfl, tb, hR, ht, k2⟩
  have hc : w2.cell? ⟨w.heap.size, 0, none⟩ = some (.pointer (some ⟨tb, 0, none⟩)) := cell_of_heap hR 0
  have HT := Lib.hid ht
  clear hR ht
  go_wp2_with fail
  go_ret2
  exact ⟨tb, rfl, HT.out, k1.trans k2 (fun k hk h => by omega)⟩

theorem str_any (s : ByteArray) (w : World) :
    Calls Tryz.prog 13 #[.string s] w fun e w' => ∃ tb, e = .returned (.pointer (some ⟨tb, 0, none⟩)) ∧ TermIs tb (.iface 37 (.string s)) w' ∧ Keeps (fun _ => False) w w' := by
  go_enter Tryz.func13, Tryz.ntmps13
  go_wp2_with fail
  refine (stringTerm_any s w).mono ?_
  rintro e w1 ⟨rfl, rfl⟩
  go_wp2_with fail
  go_ret
  exact ⟨w.heap.size, rfl, heap_alloc_new w _, (Keeps.refl _ w).alloc _⟩

set_option maxRecDepth 100000 in
theorem implUpper_a (w : World) :
    Calls Tryz.prog 8 #[.string ⟨#[97]⟩] w fun e w' => e = .returned (.tuple #[.string ⟨#[65]⟩, .bool true]) ∧ Keeps (fun _ => False) w w' := by
  go_enter Tryz.func8, Tryz.ntmps8
  go_wp2_with fail
  refine (str_any ⟨#[97]⟩ w).mono ?_
  rintro e w1 ⟨tb1, rfl, t1, k1⟩
  have T1 := Lib.hid t1
  clear t1
  go_wp2_with fail
  have k3 : Keeps (fun _ => False) w1 (w1.alloc (.cells #[.pointer (some ⟨tb1, 0, none⟩)] 30)) := (Keeps.refl _ w1).alloc _
  have hob := heap_alloc_new w1 (.cells #[.pointer (some ⟨tb1, 0, none⟩)] 30)
  refine (doorUpper_any _ tb1 _ (cell_of_heap hob 0) (cell_of_heap (k3.heap T1.out (fun h => h)) 0)).mono ?_
  rintro e w4 ⟨tb, rfl, ht, k4⟩
  have hk : Keeps (fun _ => False) w w4 := (k1.trans k3 (fun _ _ h => h)).trans k4 (fun _ _ h => h)
  clear hob
  go_wp2_with fail
  refine (isString_any tb _ w4 ht).mono ?_
  rintro e w5 ⟨rfl, rfl⟩
  go_wp2_with fail
  go_ret2
  exact ⟨rfl, hk⟩

theorem alive_any (w : World) : Calls Tryz.prog 4 #[] w fun e w' => e = .returned (.bool true) ∧ Keeps (fun _ => False) w w' := by
  go_enter Tryz.func4, Tryz.ntmps4
  go_wp2_with fail
  refine (implUpper_a w).mono ?_
  rintro e w1 ⟨rfl, k1⟩
  go_wp2_with fail
  go_ret
  exact ⟨rfl, k1⟩
end Go.Proofs.YtpoepgnapneeaaaGreatDoor
