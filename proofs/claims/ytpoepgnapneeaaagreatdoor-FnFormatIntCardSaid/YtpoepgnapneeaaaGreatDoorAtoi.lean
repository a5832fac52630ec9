/-
  The walk of Atoi64 over a decimal text, with a minus sign and without: its number. Condition: 1 to 18 digits.
-/
import Derived.Test.YtpoepgnapneeaaaGreatDoorScan
import Derived.Test.YtpoepgnapneeaaaGreatDoorSetStr
import Derived.Lib.ConvBytes
import Derived.Lib.AtoiErrMem
namespace Go.Proofs.YtpoepgnapneeaaaGreatDoor
open Go.RowKit
set_option linter.unusedVariables false
set_option maxHeartbeats 400000

/-- Block rb is a row of the digits ds, as bytes. -/
def DigRow (rb : Nat) (ds : List Nat) (w : World) : Prop := ∀ k d : Nat, ds[k]? = some d → w.cell? ⟨rb, k, none⟩ = some (.int .u8 (48 + (d : Int)))

theorem digRow_conv (t : ByteArray) (ds : List Nat) (w : World) (h : DigAt t 0 ds) : DigRow w.heap.size ds (Lib.bytesWorld w 5 t) := by
  intro k d hk
  obtain ⟨hk', rfl⟩ := List.getElem?_eq_some_iff.1 hk
  have hlt : 0 + k < t.size := by have := h.len; omega
  rw [Lib.bytesWorld_cell w 5 t k (by omega)]
  have h2 := h.dig k hk' hlt
  have h3 : t.data.toList.getD k 0 = t[0 + k] := by
    simp only [Nat.zero_add]
    rw [List.getD, List.getElem?_eq_getElem (by simpa using (by omega : k < t.size))]
    rfl
  rw [h3, h2]
  rfl

set_option maxRecDepth 100000 in
theorem atoi_pos (s : ByteArray) (ds : List Nat) (w : World) (h : DigAt s 0 ds) :
    Calls Tryz.prog 59 #[.string s] w fun e w' => e = .returned (.tuple #[.int .i64 (dnum ds), .bool true]) ∧ Keeps (fun _ => False) w w' := by
  have hlen := h.len
  have hpos := h.pos
  have hsh := h.short
  have hs1 : 0 < s.size := by omega
  have hs2 : s.size ≤ 18 := by omega
  have h0 := h.dig 0 (by omega) (by omega)
  have hl0 := h.low _ (List.getElem_mem (show 0 < ds.length by omega))
  have c45 : ((s[0].toNat : Int) == 45) = false := beq_eq_false_iff_ne.2 (by simp only [Nat.add_zero] at h0; omega)
  have c43 : ((s[0].toNat : Int) == 43) = false := beq_eq_false_iff_ne.2 (by simp only [Nat.add_zero] at h0; omega)
  have hsz : (((s.size : Nat) : Int) == 0) = false := beq_eq_false_iff_ne.2 (by omega)
  have hc := fun w => Lib.run_convert_string_bytes (P := Tryz.prog) w 9 88 5 s Tryz.underlying9 Tryz.underlying88 Tryz.underlying5
  have hrow := digRow_conv s ds w h
  have kb : Keeps (fun _ => False) w (Lib.bytesWorld w 5 s) := (Keeps.of_below (Lib.bytesWorld_below w 5 s)).mono (fun k hk hS => by omega)
  have HLEN := Lib.hid hlen
  have HR := Lib.hid hrow
  clear h0 hl0 hlen hrow
  go_enter Tryz.func59, Tryz.ntmps59
  go_wp2_with fail
  generalize Lib.bytesWorld w 5 s = w1 at *
  generalize w.heap.size = rb at *
  go_loop [6, 7, 36] (fun p n i => ∃ k : Nat, k ≤ ds.length ∧ p = .bool false ∧ i = .int .i64 k ∧ n = .int .i64 (dnum (ds.take k))) (fun _ _ i => ds.length - (intOf i).toNat)
  case atStart => exact ⟨0, Nat.zero_le _, rfl, rfl, rfl⟩
  case round =>
    obtain ⟨k, hk, rfl, rfl, rfl⟩ := hrel
    have hm := dnum_take_le ds k (by omega) h.low
    by_cases hlt : k < ds.length
    · have hd := List.getElem?_eq_getElem hlt
      have hcell := HR.out k _ hd
      have hd10 := h.low _ (List.getElem_mem hlt)
      have hst := dnum_take ds k hlt
      have hm2 : dnum (ds.take k) < 100000000000000000 := by
        have h1 := dnum_lt (ds.take k) fun d hd => h.low d (List.mem_of_mem_take hd)
        have h2 : 10 ^ (ds.take k).length ≤ 10 ^ 17 := Nat.pow_le_pow_right (by omega) (by have := List.length_take_le k ds; omega)
        exact Nat.lt_of_lt_of_le h1 h2
      generalize ds[k] = d at *
      have HST := Lib.hid hst
      clear hst hd
      generalize dnum (ds.take k) = m at *
      have c46 : ((48 + (d : Int)) == 46) = false := beq_eq_false_iff_ne.2 (by omega)
      have hkl := HLEN.out
      have hkn : k < s.size := by omega
      clear hkl
      go_wp2_with fail
      go_round
      case rel => exact ⟨k + 1, by omega, rfl, by go_num, by rw [HST.out]; go_num⟩
      case measure => simp [intOf]; omega
    · obtain rfl : k = ds.length := by omega
      rw [List.take_length] at *
      generalize hmE : dnum ds = m at *
      have HME := Lib.hid hmE
      clear hmE
      have hkl := HLEN.out
      have hkn : ¬ ds.length < s.size := by omega
      clear hkl
      go_wp2_with fail
      go_ret2
      obtain rfl := HME.out
      exact ⟨rfl, kb⟩

set_option maxRecDepth 100000 in
theorem atoi_neg (s t : ByteArray) (ds : List Nat) (w : World) (hs : s.extract 1 s.size = t) (h : DigAt t 0 ds) (hsz : s.size = t.size + 1) (h0 : ∃ h : 0 < s.size, s[0].toNat = 45) :
    Calls Tryz.prog 59 #[.string s] w fun e w' => e = .returned (.tuple #[.int .i64 (-(dnum ds : Int)), .bool true]) ∧ Keeps (fun _ => False) w w' := by
  have hlen := h.len
  have hpos := h.pos
  have hsh := h.short
  obtain ⟨hs1, h0⟩ := h0
  have hs2 : s.size ≤ 19 := by omega
  have c45 : ((s[0].toNat : Int) == 45) = true := by rw [h0]; rfl
  have htz : (((s.size : Int) - 1) == 0) = false := beq_eq_false_iff_ne.2 (by omega)
  have hc := fun w => Lib.run_convert_string_bytes (P := Tryz.prog) w 9 88 5 t Tryz.underlying9 Tryz.underlying88 Tryz.underlying5
  have hrow := digRow_conv t ds w h
  have kb : Keeps (fun _ => False) w (Lib.bytesWorld w 5 t) := (Keeps.of_below (Lib.bytesWorld_below w 5 t)).mono (fun k hk hS => by omega)
  have HLEN := Lib.hid hlen
  have HR := Lib.hid hrow
  have H0 := Lib.hid h0
  have HSZ := Lib.hid hsz
  clear h0 hlen hrow hsz
  go_enter Tryz.func59, Tryz.ntmps59
  go_wp2_with fail
  generalize Lib.bytesWorld w 5 t = w1 at *
  generalize w.heap.size = rb at *
  go_loop [6, 7, 36] (fun p n i => ∃ k : Nat, k ≤ ds.length ∧ p = .bool false ∧ i = .int .i64 k ∧ n = .int .i64 (dnum (ds.take k))) (fun _ _ i => ds.length - (intOf i).toNat)
  case atStart => exact ⟨0, Nat.zero_le _, rfl, rfl, rfl⟩
  case round =>
    obtain ⟨k, hk, rfl, rfl, rfl⟩ := hrel
    have hm := dnum_take_le ds k (by omega) h.low
    by_cases hlt : k < ds.length
    · have hd := List.getElem?_eq_getElem hlt
      have hcell := HR.out k _ hd
      have hd10 := h.low _ (List.getElem_mem hlt)
      have hst := dnum_take ds k hlt
      have hm2 : dnum (ds.take k) < 100000000000000000 := by
        have h1 := dnum_lt (ds.take k) fun d hd => h.low d (List.mem_of_mem_take hd)
        have h2 : 10 ^ (ds.take k).length ≤ 10 ^ 17 := Nat.pow_le_pow_right (by omega) (by have := List.length_take_le k ds; omega)
        exact Nat.lt_of_lt_of_le h1 h2
      generalize ds[k] = d at *
      have HST := Lib.hid hst
      clear hst hd
      generalize dnum (ds.take k) = m at *
      have c46 : ((48 + (d : Int)) == 46) = false := beq_eq_false_iff_ne.2 (by omega)
      have hkl := HLEN.out
      have hkn : k < t.size := by omega
      clear hkl
      go_wp2_with fail
      go_round
      case rel => exact ⟨k + 1, by omega, rfl, by go_num, by rw [HST.out]; go_num⟩
      case measure => simp [intOf]; omega
    · obtain rfl : k = ds.length := by omega
      rw [List.take_length] at *
      generalize hmE : dnum ds = m at *
      have HME := Lib.hid hmE
      clear hmE
      have hkl := HLEN.out
      have hkn : ¬ ds.length < t.size := by omega
      clear hkl
      go_wp2_with fail
      go_ret2
      obtain rfl := HME.out
      exact ⟨rfl, kb⟩
end Go.Proofs.YtpoepgnapneeaaaGreatDoor
