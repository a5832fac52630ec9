/-
  The walk of (*big.Int).Text in the bases 2, 8 and 16 on a whole number of at most one word: its numeral. Condition: the three cells of the library's table that TrailingZeros reads.
-/
import Derived.Test.YtpoepgnapneeaaaGreatDoorItoa
import Derived.Test.YtpoepgnapneeaaaGreatDoorSetStr
import Derived.StillTailTactics
import Derived.Lib.SlBytesConst
namespace Go.Proofs.YtpoepgnapneeaaaGreatDoor
open Go.RowKit
set_option linter.unusedVariables false
set_option maxHeartbeats 400000

set_option maxRecDepth 100000 in
theorem itoa_zero (neg : Bool) (b : Int) (hb : b = 2 ∨ b = 8 ∨ b = 16) (w : World) :
    Calls Tryz.prog 43 #[.slice none 0 0, .bool neg, .int .i64 b] w (ItoaRes [48] w) := by
  have hb1 : 2 ≤ b := by omega
  have hb2 : b ≤ 62 := by omega
  have kc := fun (w : World) (C : Array Value) (n c : Nat) => Lib.run_convert_bytes_const (P := Tryz.prog) w 88 5 C n c Tryz.underlying88 Tryz.underlying5
  clear hb
  go_enter Tryz.func43, Tryz.ntmps43
  go_wp2_with fail
  go_ret
  refine ⟨_, rfl, ⟨⟨w.heap.size, 0, none⟩, 1, rfl, ?_⟩, (Keeps.refl _ _).alloc _⟩
  intro j hj
  have : j = 0 := by simpa using hj
  subst this
  exact World.cell?_alloc_mark w _ _ _ 0

set_option maxRecDepth 100000 in
theorem text_any (zb b : Nat) (neg : Bool) (out : List UInt8) (zv : Value) (w : World) (c0 : w.cell? ⟨zb, 0, none⟩ = some (.bool neg)) (c1 : w.cell? ⟨zb, 1, none⟩ = some zv)
    (hi : ∀ w', w'.heap = w.heap → Calls Tryz.prog 43 #[zv, .bool neg, .int .i64 b] w' (ItoaRes out w')) :
    Calls Tryz.prog 27 #[.pointer (some ⟨zb, 0, none⟩), .int .i64 b] w fun e w' => e = .returned (.string ⟨out.toArray⟩) ∧ Keeps (fun _ => False) w w' := by
  have HI := Lib.hid (hi w.drew rfl)
  have k1 := (Keeps.refl (fun _ => False) w).drew
  have d0 : w.drew.cell? ⟨zb, 0, none⟩ = some (.bool neg) := c0
  have d1 : w.drew.cell? ⟨zb, 1, none⟩ = some zv := c1
  clear hi
  go_enter Tryz.func27, Tryz.ntmps27
  go_wp2_with fail
  go_still_tail 9, (by kernel_rfl)
  change wpList _ _ _ _ _ w.drew
  generalize w.drew = w2 at *
  go_wp2_with fail
  refine HI.out.mono ?_
  rintro e w3 ⟨v, rfl, ⟨a, cap, rfl, hcells⟩, k3⟩
  have hcv := run_convert_bytes_back (P := Tryz.prog) w3 88 9 5 a cap out Tryz.underlying88 Tryz.underlying5 Tryz.underlying9 hcells
  clear hcells
  go_wp2_with fail
  go_ret
  exact ⟨rfl, k1.trans k3 (fun _ _ h => h)⟩

/-- The cells of the library's table that TrailingZeros reads at 2, 8 and 16. -/
structure DeB (w : World) : Prop where
  c1 : w.cell? ⟨7, 1, none⟩ = some (.int .u8 1)
  c7 : w.cell? ⟨7, 7, none⟩ = some (.int .u8 3)
  c15 : w.cell? ⟨7, 15, none⟩ = some (.int .u8 4)

theorem DeB.same {w w' : World} (h : DeB w) (hw : w'.heap = w.heap) : DeB w' := by
  have e : ∀ a, w'.cell? a = w.cell? a := fun a => World.cell?_of_block (by rw [hw])
  exact ⟨by rw [e]; exact h.c1, by rw [e]; exact h.c7, by rw [e]; exact h.c15⟩

/-- The numeral of a whole number in base b: a minus sign where sg says so and m is not 0. -/
def numeral (b m : Nat) (sg : Bool) : List UInt8 := if (decide (0 < m) && sg) = true then 45 :: sdig b m else sdig b m

theorem text_int (B zb m b : Nat) (sg : Bool) (w : World) (h : IntIs B zb (decide (0 < m) && sg) m w) (hb : b = 2 ∨ b = 8 ∨ b = 16) (hm : m < 18446744073709551616) (hd : DeB w) :
    Calls Tryz.prog 27 #[.pointer (some ⟨zb, 0, none⟩), .int .i64 b] w fun e w' => e = .returned (.string ⟨(numeral b m sg).toArray⟩) ∧ Keeps (fun _ => False) w w' := by
  obtain ⟨zv, hz, hn⟩ := h
  refine text_any zb b _ (numeral b m sg) zv w (cell_of_heap hz 0) (cell_of_heap hz 1) fun w' hw => ?_
  have hd' := hd.same hw
  rcases hn with ⟨rfl, rfl⟩ | ⟨h0, nb, hB, rfl, hc⟩
  · have : numeral b 0 sg = [48] := by
      have h2 : sdig b 0 = [48] := by rw [sdig_lt (by omega)]; rfl
      simp [numeral, h2]
    rw [this]
    exact itoa_zero _ b (by omega) w'
  · have hc' : w'.cell? ⟨nb, 0, none⟩ = some (.int .u64 m) := by
      rw [World.cell?_of_block (w := w) (by rw [hw])]
      exact cell_of_heap hc 0
    have h1 : (decide (0 < m) && sg) = sg := by simp [h0]
    unfold numeral
    rw [h1]
    cases sg
    · rcases hb with rfl | rfl | rfl
      · exact itoa_2_pos nb m w' hc' h0 hm hd'.c1
      · exact itoa_8_pos nb m w' hc' h0 hm hd'.c7
      · exact itoa_16_pos nb m w' hc' h0 hm hd'.c15
    · rcases hb with rfl | rfl | rfl
      · exact itoa_2_neg nb m w' hc' h0 hm hd'.c1
      · exact itoa_8_neg nb m w' hc' h0 hm hd'.c7
      · exact itoa_16_neg nb m w' hc' h0 hm hd'.c15
end Go.Proofs.YtpoepgnapneeaaaGreatDoor
