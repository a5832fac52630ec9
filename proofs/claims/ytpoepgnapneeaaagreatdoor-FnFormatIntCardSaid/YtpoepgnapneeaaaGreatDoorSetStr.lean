/-
  The walks of (*big.Int).SetString and what it calls, base 10, over a text of decimal digits with or without a minus sign: it is that number. Conditions: 1 to 18 digits, a fresh Int.
-/
import Derived.Test.YtpoepgnapneeaaaGreatDoorScan
namespace Go.Proofs.YtpoepgnapneeaaaGreatDoor
open Go.RowKit
set_option linter.unusedVariables false
set_option maxHeartbeats 400000

/-- s writes a number in decimal: a minus sign where sg says so, p bytes of sign, the digits ds. -/
structure NumText (s : ByteArray) (p : Nat) (sg : Bool) (ds : List Nat) : Prop where
  dig : DigAt s p ds
  sign : (sg = true ∧ p = 1 ∧ ∃ h : 0 < s.size, s[0].toNat = 45) ∨ (sg = false ∧ p = 0)
  size : s.size ≤ 1000

theorem scanSign_any (rb : Nat) (s : ByteArray) (p : Nat) (sg : Bool) (ds : List Nat) (w : World) (h : RdAt rb s 0 w) (ht : NumText s p sg ds) :
    Calls Tryz.prog 89 #[.iface 84 (.pointer (some ⟨rb, 0, none⟩))] w fun e w' => e = .returned (.tuple #[.bool sg, .nilIface]) ∧ RdAt rb s p w' ∧ Keeps (· = rb) w w' := by
  rcases ht.sign with ⟨rfl, rfl, h0, h45⟩ | ⟨rfl, rfl⟩
  · exact scanSign_minus rb s w h h0 ht.size h45
  · have hl := ht.dig.len
    have hp := ht.dig.pos
    have hd := ht.dig.dig 0 hp (by omega)
    exact scanSign_digit rb s w h (by omega) ht.size (by simp only [Nat.add_zero] at hd; omega)

/-- Block zb is a big.Int: its sign, its size. -/
def IntIs (B zb : Nat) (neg : Bool) (m : Nat) (w : World) : Prop := ∃ zv, w.heap[zb]? = some (.cells #[.bool neg, zv] 63 (0, 0)) ∧ NatIs B m zv w

def IntScanRes (rb zb : Nat) (s : ByteArray) (sg : Bool) (m : Nat) (w : World) (e : Ending) (w' : World) : Prop :=
  e = .returned (.tuple #[.pointer (some ⟨zb, 0, none⟩), .int .i64 10, .nilIface]) ∧ IntIs w.heap.size zb (decide (0 < m) && sg) m w' ∧ RdAt rb s s.size w' ∧ Keeps (fun k => k = rb ∨ k = zb) w w'

theorem intScan_close {rb zb m : Nat} {s : ByteArray} {sg bl : Bool} {z : Value} {w w1 w2 : World} (k1 : Keeps (· = rb) w w1) (k2 : Keeps (· = rb) w1 w2) (r2 : RdAt rb s s.size w2)
    (hz : NatIs w1.heap.size m z w2) (hzb : zb < w.heap.size) (hne : zb ≠ rb) (z2 : w2.heap[zb]? = some (.cells #[.bool false, .slice none 0 0] 63 (0, 0))) (hb : bl = (decide (0 < m) && sg)) :
    IntScanRes rb zb s sg m w (.returned (.tuple #[.pointer (some ⟨zb, 0, none⟩), .int .i64 10, .nilIface])) ((w2.setCell ⟨zb, 1, none⟩ z).setCell ⟨zb, 0, none⟩ (.bool bl)) := by
  have kk : Keeps (· = zb) w2 ((w2.setCell ⟨zb, 1, none⟩ z).setCell ⟨zb, 0, none⟩ (.bool bl)) :=
    Keeps.setAt (S := (· = zb)) (Keeps.setAt (S := (· = zb)) (Keeps.refl _ w2) _ rfl) _ rfl
  refine ⟨rfl, ⟨z, ?_, ?_⟩, r2.keep kk (fun e => hne e.symm), ?_⟩
  · rw [← hb]
    exact heap_setCell_same (heap_setCell_same z2 z) _
  · exact (hz.keep kk (fun b hb e => by have := k1.size; omega)).mono k1.size
  · exact ((k1.mono fun k _ h => Or.inl h).trans k2 (fun k _ h => Or.inl h)).trans kk (fun k _ h => Or.inr h)

set_option maxRecDepth 100000 in
theorem intScan_any (rb zb p : Nat) (s : ByteArray) (sg : Bool) (ds : List Nat) (ea : Addr) (w : World) (h : RdAt rb s 0 w) (ht : NumText s p sg ds)
    (hz : w.heap[zb]? = some (.cells #[.bool false, .slice none 0 0] 63 (0, 0))) (hne : zb ≠ rb) (hE : EofIs ea w) (hrb : 0 < rb) :
    Calls Tryz.prog 61 #[.pointer (some ⟨zb, 0, none⟩), .iface 84 (.pointer (some ⟨rb, 0, none⟩)), .int .i64 10] w (IntScanRes rb zb s sg (dnum ds) w) := by
  have HZ := Lib.hid hz
  clear hz
  go_enter Tryz.func61, Tryz.ntmps61
  go_wp2_with fail
  refine (scanSign_any rb s p sg ds w h ht).mono ?_
  rintro e w1 ⟨rfl, r1, k1⟩
  have z1 : w1.heap[zb]? = some (.cells #[.bool false, .slice none 0 0] 63 (0, 0)) := k1.heap HZ.out hne
  have c0 : w1.cell? ⟨zb, 0, none⟩ = some (.bool false) := cell_of_heap z1 0
  have c1 : w1.cell? ⟨zb, 1, none⟩ = some (.slice none 0 0) := cell_of_heap z1 1
  have Z1 := Lib.hid z1
  clear z1
  go_wp2_with fail
  refine (natScan_any rb p s ds ea w1 r1 ht.size ht.dig (k1.cell hE (by simp; omega)) hrb).mono ?_
  rintro e w2 ⟨z, rfl, hz, r2, k2⟩
  have z2 : w2.heap[zb]? = some (.cells #[.bool false, .slice none 0 0] 63 (0, 0)) := k2.heap Z1.out hne
  have d0 : w2.cell? ⟨zb, 0, none⟩ = some (.bool false) := cell_of_heap z2 0
  have d1 : w2.cell? ⟨zb, 1, none⟩ = some (.slice none 0 0) := cell_of_heap z2 1
  have f0 : w2.frozen? ⟨zb, 0, none⟩ = false := free_of_heap z2 0
  have f1 : w2.frozen? ⟨zb, 1, none⟩ = false := free_of_heap z2 1
  have Z2 := Lib.hid z2
  clear z2 c0 c1
  have HK := Lib.hid hz
  rcases hz with ⟨hm, rfl⟩ | ⟨hpos, nb, hnb, rfl, hn⟩
  · have HM := Lib.hid hm
    clear hm
    go_wp2_with fail
    refine bodyPost_ret (v := .tuple #[.pointer (some ⟨zb, 0, none⟩), .int .i64 10, .nilIface]) (by simp [results, Tryz.results61, go_sem]) rfl ?_
    exact intScan_close k1 k2 r2 HK.out (lt_of_block HZ.out) hne Z2.out (by rw [HM.out]; rfl)
  · go_wp2_with fail
    refine bodyPost_ret (v := .tuple #[.pointer (some ⟨zb, 0, none⟩), .int .i64 10, .nilIface]) (by simp [results, Tryz.results61, go_sem]) rfl ?_
    exact intScan_close k1 k2 r2 HK.out (lt_of_block HZ.out) hne Z2.out (by rw [decide_eq_true hpos]; rfl)

set_option maxRecDepth 100000 in
theorem setFromScanner_any (rb zb p : Nat) (s : ByteArray) (sg : Bool) (ds : List Nat) (ea : Addr) (w : World) (h : RdAt rb s 0 w) (ht : NumText s p sg ds)
    (hz : w.heap[zb]? = some (.cells #[.bool false, .slice none 0 0] 63 (0, 0))) (hne : zb ≠ rb) (hE : EofIs ea w) (hrb : 0 < rb) (hzb : 0 < zb) :
    Calls Tryz.prog 39 #[.pointer (some ⟨zb, 0, none⟩), .iface 84 (.pointer (some ⟨rb, 0, none⟩)), .int .i64 10] w fun e w' =>
      e = .returned (.tuple #[.pointer (some ⟨zb, 0, none⟩), .bool true]) ∧ IntIs w.heap.size zb (decide (0 < dnum ds) && sg) (dnum ds) w' ∧ Keeps (fun k => k = rb ∨ k = zb) w w' := by
  have m1 := method_readByte
  have heq := eof_neq ea
  have HZ := Lib.hid hz
  clear hz
  go_enter Tryz.func39, Tryz.ntmps39
  go_wp2_with fail
  refine (intScan_any rb zb p s sg ds ea w h ht HZ.out hne hE hrb).mono ?_
  rintro e w1 ⟨rfl, i1, r1, k1⟩
  go_wp2_with fail
  have he1 : EofIs ea w1 := k1.cell hE (by simp; omega)
  refine (readByte_end rb s s.size w1 _ r1 (Nat.le_refl _) ht.size he1 hrb).mono ?_
  rintro e w2 ⟨rfl, r2, k2⟩
  have he2 : w2.cell? ⟨0, 0, none⟩ = some (.iface 261 (.pointer (some ea))) := k2.cell he1 (by simp; omega)
  go_wp2_with fail
  go_ret2
  refine ⟨rfl, ?_, k1.trans k2 (fun _ _ h => .inl h)⟩
  obtain ⟨zv, h1, h2⟩ := i1
  have hrw : rb < w.heap.size := by
    obtain ⟨_, h⟩ := h
    exact lt_of_block h
  exact ⟨zv, k2.heap h1 hne, h2.keep k2 (fun b hb e => by omega)⟩

set_option maxRecDepth 100000 in
theorem newReader_any (s : ByteArray) (w : World) :
    Calls Tryz.prog 40 #[.string s] w fun e w' => e = .returned (.pointer (some ⟨w.heap.size, 0, none⟩)) ∧ w' = w.alloc (.cells #[.string s, .int .i64 0, .int .i64 (-1)] 123) := by
  go_enter Tryz.func40, Tryz.ntmps40
  go_wp2
  go_ret
  exact ⟨rfl, rfl⟩

set_option maxRecDepth 100000 in
theorem setString_any (zb p : Nat) (s : ByteArray) (sg : Bool) (ds : List Nat) (ea : Addr) (w : World) (ht : NumText s p sg ds)
    (hz : w.heap[zb]? = some (.cells #[.bool false, .slice none 0 0] 63 (0, 0))) (hE : EofIs ea w) (hzb : 0 < zb) :
    Calls Tryz.prog 25 #[.pointer (some ⟨zb, 0, none⟩), .string s, .int .i64 10] w fun e w' =>
      e = .returned (.tuple #[.pointer (some ⟨zb, 0, none⟩), .bool true]) ∧ IntIs w.heap.size zb (decide (0 < dnum ds) && sg) (dnum ds) w' ∧ Keeps (fun k => k = zb) w w' := by
  have HZ := Lib.hid hz
  clear hz
  go_enter Tryz.func25, Tryz.ntmps25
  go_wp2_with fail
  refine (newReader_any s w).mono ?_
  rintro e w1 ⟨rfl, rfl⟩
  go_wp2_with fail
  have k1 : Keeps (fun _ => False) w (w.alloc (.cells #[.string s, .int .i64 0, .int .i64 (-1)] 123)) := (Keeps.refl _ w).alloc _
  have hlt := lt_of_block HZ.out
  refine (setFromScanner_any w.heap.size zb p s sg ds ea _ ⟨-1, heap_alloc_new w _⟩ ht (k1.heap HZ.out (fun h => h)) (by omega) (k1.cell hE (fun h => h)) (by omega) hzb).mono ?_
  rintro e w2 ⟨rfl, ⟨zv, h1, h2⟩, k2⟩
  go_wp2_with fail
  go_ret2
  exact ⟨rfl, ⟨zv, h1, h2.mono (by simp)⟩, (k1.mono (T := (· = zb)) fun _ _ h => h.elim).trans k2 (fun k hk h => h.resolve_left (by omega))⟩
end Go.Proofs.YtpoepgnapneeaaaGreatDoor
