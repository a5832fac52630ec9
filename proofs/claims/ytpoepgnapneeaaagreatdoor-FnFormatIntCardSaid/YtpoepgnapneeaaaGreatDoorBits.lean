/-
  The walks of (nat).bitLen at one word, of math.Log2 at 2, 8, 16 and of bits.TrailingZeros at 2, 8, 16. Conditions: the word is not 0; the cell of the library's table that TrailingZeros reads.
-/
import Derived.Test.YtpoepgnapneeaaaGreatDoorSetStr
import Derived.Test.YtpoepgnapneeaaaGreatDoorShelf
import Derived.Laws.Bits64b
import Derived.Lib.ItoaNum
import Derived.Laws.FloatArith
namespace Go.Proofs.YtpoepgnapneeaaaGreatDoor
open Go.RowKit
set_option linter.unusedVariables false
set_option maxHeartbeats 400000
theorem or_step (m c : Nat) (hm : m < 18446744073709551616) : ∃ t : Nat, bits .or .u64 (m : Int) ((m : Int) / (c : Int)) = (t : Int) ∧ m ≤ t ∧ t < 18446744073709551616 := by
  have hd : m / c < 18446744073709551616 := Nat.lt_of_le_of_lt (Nat.div_le_self m c) hm
  refine ⟨m ||| m / c, ?_, Nat.left_le_or, ?_⟩
  · rw [← bits_or_u64_nat m (m / c) hm hd]; rfl
  · exact Nat.or_lt_two_pow (n := 64) (by omega) (by omega)
set_option maxRecDepth 100000 in
theorem bitLen_one (nb m : Nat) (w : World) (hc : w.cell? ⟨nb, 0, none⟩ = some (.int .u64 m)) (h0 : 0 < m) (hm : m < 18446744073709551616) :
    Calls Tryz.prog 62 #[.slice (some ⟨nb, 0, none⟩) 1 1] w fun e w' => (∃ L : Nat, e = .returned (.int .i64 L) ∧ 1 ≤ L ∧ L ≤ 64 ∧ m < 2 ^ L) ∧ w = w' := by
  obtain ⟨t1, e1, l1, u1⟩ := or_step m 2 hm
  obtain ⟨t2, e2, l2, u2⟩ := or_step t1 4 u1
  obtain ⟨t3, e3, l3, u3⟩ := or_step t2 16 u2
  obtain ⟨t4, e4, l4, u4⟩ := or_step t3 256 u3
  obtain ⟨t5, e5, l5, u5⟩ := or_step t4 65536 u4
  obtain ⟨t6, e6, l6, u6⟩ := or_step (t5) 4294967296 u5
  have e6' : bits .or .u64 (t5 : Int) ((t5 : Int) / 65536 / 65536) = (t6 : Int) := by
    rw [← e6]; congr 1; omega
  have H6 := Lib.hid (And.intro l1 (And.intro l2 (And.intro l3 (And.intro l4 (And.intro l5 (And.intro l6 u6))))))
  clear e6
  rw [show ((2 : Nat) : Int) = 2 from rfl] at e1
  rw [show ((4 : Nat) : Int) = 4 from rfl] at e2
  rw [show ((16 : Nat) : Int) = 16 from rfl] at e3
  rw [show ((256 : Nat) : Int) = 256 from rfl] at e4
  rw [show ((65536 : Nat) : Int) = 65536 from rfl] at e5
  go_enter Tryz.func62, Tryz.ntmps62
  go_wp2_with fail
  refine (Tryz.bits_Len t6 w (by omega) (by omega)).mono ?_
  rintro e w1 ⟨rfl, rfl⟩
  obtain ⟨l1, l2, l3, l4, l5, l6, u6⟩ := H6.out
  have hb := Lib.bitLenAux_bounds 64 t6 (by omega) (by omega)
  have hb' : Lib.bitLen t6 ≤ 64 := Lib.bitLen_le t6 64 (Nat.le_refl _) u6
  have hm6 : m < 2 ^ Lib.bitLen t6 := Nat.lt_of_le_of_lt (by omega) hb.2.2
  have hb1 : 1 ≤ Lib.bitLen t6 := hb.1
  rw [Int.toNat_natCast]
  have HB := Lib.hid hm6
  clear hb hm6
  generalize Lib.bitLen t6 = L at *
  go_wp2_with fail
  go_ret
  exact ⟨⟨L, rfl, hb1, hb', HB.out⟩, rfl⟩

theorem ffrom_half (w : World) : (callFunc 179 #[.int .u64 4602678819172646912]).run Tryz.prog w = .ok (.value (.float .f64 4602678819172646912)) w := by kernel_rfl
theorem ord_half : FloatKind.f64.format.order 4602678819172646912 4602678819172646912 = some .eq := by decide +kernel
theorem or_half : bits .or .u64 0 4602678819172646912 = 4602678819172646912 := by decide +kernel

theorem fbits_b2 (w : World) : (callFunc 178 #[.float .f64 4611686018427387904]).run Tryz.prog w = .ok (.value (.int .u64 4611686018427387904)) w := by kernel_rfl
theorem ffrom_b2 (w : World) : (callFunc 179 #[.int .u64 4611686018427387904]).run Tryz.prog w = .ok (.value (.float .f64 4611686018427387904)) w := by kernel_rfl
theorem ord0_b2 : FloatKind.f64.format.order 4611686018427387904 0 = some .gt := by decide +kernel
theorem ordmax_b2 : FloatKind.f64.format.order 4611686018427387904 9218868437227405311 = some .lt := by decide +kernel
theorem ordself_b2 : FloatKind.f64.format.order 4611686018427387904 4611686018427387904 = some .eq := by decide +kernel
theorem ordtiny_b2 : FloatKind.f64.format.order 4611686018427387904 4503599627370496 = some .gt := by decide +kernel
theorem abs_b2 : bits .andNot .u64 4611686018427387904 9223372036854775808 = 4611686018427387904 := by decide +kernel
theorem exp_b2 : bits .and .u64 1024 2047 = 1024 := by decide +kernel
theorem mant_b2 : bits .andNot .u64 4611686018427387904 9218868437227405312 = 0 := by decide +kernel
theorem toF_b2 : floatOfInt .f64 1 = 4607182418800017408 := by decide +kernel
set_option maxRecDepth 100000 in
theorem log2_b2 (w : World) : Calls Tryz.prog 63 #[.float .f64 4611686018427387904] w fun e w' => e = .returned (.float .f64 4607182418800017408) ∧ w = w' := by
  have b1 := fbits_b2
  have b2 := ffrom_half
  have b3 := ffrom_b2
  have o1 := ord0_b2
  have o2 := ordmax_b2
  have o3 := ordself_b2
  have o4 := ordtiny_b2
  have o5 := ord_half
  have a1 := abs_b2
  have a2 := exp_b2
  have a3 := mant_b2
  have a4 := or_half
  have a5 := toF_b2
  go_enter Tryz.func63, Tryz.ntmps63
  go_wp2
  go_ret
  exact ⟨rfl, rfl⟩

theorem fbits_b8 (w : World) : (callFunc 178 #[.float .f64 4620693217682128896]).run Tryz.prog w = .ok (.value (.int .u64 4620693217682128896)) w := by kernel_rfl
theorem ffrom_b8 (w : World) : (callFunc 179 #[.int .u64 4620693217682128896]).run Tryz.prog w = .ok (.value (.float .f64 4620693217682128896)) w := by kernel_rfl
theorem ord0_b8 : FloatKind.f64.format.order 4620693217682128896 0 = some .gt := by decide +kernel
theorem ordmax_b8 : FloatKind.f64.format.order 4620693217682128896 9218868437227405311 = some .lt := by decide +kernel
theorem ordself_b8 : FloatKind.f64.format.order 4620693217682128896 4620693217682128896 = some .eq := by decide +kernel
theorem ordtiny_b8 : FloatKind.f64.format.order 4620693217682128896 4503599627370496 = some .gt := by decide +kernel
theorem abs_b8 : bits .andNot .u64 4620693217682128896 9223372036854775808 = 4620693217682128896 := by decide +kernel
theorem exp_b8 : bits .and .u64 1026 2047 = 1026 := by decide +kernel
theorem mant_b8 : bits .andNot .u64 4620693217682128896 9218868437227405312 = 0 := by decide +kernel
theorem toF_b8 : floatOfInt .f64 3 = 4613937818241073152 := by decide +kernel
set_option maxRecDepth 100000 in
theorem log2_b8 (w : World) : Calls Tryz.prog 63 #[.float .f64 4620693217682128896] w fun e w' => e = .returned (.float .f64 4613937818241073152) ∧ w = w' := by
  have b1 := fbits_b8
  have b2 := ffrom_half
  have b3 := ffrom_b8
  have o1 := ord0_b8
  have o2 := ordmax_b8
  have o3 := ordself_b8
  have o4 := ordtiny_b8
  have o5 := ord_half
  have a1 := abs_b8
  have a2 := exp_b8
  have a3 := mant_b8
  have a4 := or_half
  have a5 := toF_b8
  go_enter Tryz.func63, Tryz.ntmps63
  go_wp2
  go_ret
  exact ⟨rfl, rfl⟩

theorem fbits_b16 (w : World) : (callFunc 178 #[.float .f64 4625196817309499392]).run Tryz.prog w = .ok (.value (.int .u64 4625196817309499392)) w := by kernel_rfl
theorem ffrom_b16 (w : World) : (callFunc 179 #[.int .u64 4625196817309499392]).run Tryz.prog w = .ok (.value (.float .f64 4625196817309499392)) w := by kernel_rfl
theorem ord0_b16 : FloatKind.f64.format.order 4625196817309499392 0 = some .gt := by decide +kernel
theorem ordmax_b16 : FloatKind.f64.format.order 4625196817309499392 9218868437227405311 = some .lt := by decide +kernel
theorem ordself_b16 : FloatKind.f64.format.order 4625196817309499392 4625196817309499392 = some .eq := by decide +kernel
theorem ordtiny_b16 : FloatKind.f64.format.order 4625196817309499392 4503599627370496 = some .gt := by decide +kernel
theorem abs_b16 : bits .andNot .u64 4625196817309499392 9223372036854775808 = 4625196817309499392 := by decide +kernel
theorem exp_b16 : bits .and .u64 1027 2047 = 1027 := by decide +kernel
theorem mant_b16 : bits .andNot .u64 4625196817309499392 9218868437227405312 = 0 := by decide +kernel
theorem toF_b16 : floatOfInt .f64 4 = 4616189618054758400 := by decide +kernel
set_option maxRecDepth 100000 in
theorem log2_b16 (w : World) : Calls Tryz.prog 63 #[.float .f64 4625196817309499392] w fun e w' => e = .returned (.float .f64 4616189618054758400) ∧ w = w' := by
  have b1 := fbits_b16
  have b2 := ffrom_half
  have b3 := ffrom_b16
  have o1 := ord0_b16
  have o2 := ordmax_b16
  have o3 := ordself_b16
  have o4 := ordtiny_b16
  have o5 := ord_half
  have a1 := abs_b16
  have a2 := exp_b16
  have a3 := mant_b16
  have a4 := or_half
  have a5 := toF_b16
  go_enter Tryz.func63, Tryz.ntmps63
  go_wp2
  go_ret
  exact ⟨rfl, rfl⟩

theorem and_neg_2 : bits .and .u64 2 (IntKind.u64.wrap (-2)) = 2 := by decide +kernel
theorem deB_2 : IntKind.u64.wrap (2 * 285870213051353865) / 288230376151711744 = 1 := by decide +kernel
set_option maxRecDepth 100000 in
theorem tz_2 (w : World) (hc : w.cell? ⟨7, 1, none⟩ = some (.int .u8 1)) : Calls Tryz.prog 64 #[.int .u64 2] w fun e w' => e = .returned (.int .i64 1) ∧ w = w' := by
  have a1 := and_neg_2
  have a2 := deB_2
  go_enter Tryz.func64, Tryz.ntmps64
  go_wp2
  go_ret
  exact ⟨rfl, rfl⟩

theorem and_neg_8 : bits .and .u64 8 (IntKind.u64.wrap (-8)) = 8 := by decide +kernel
theorem deB_8 : IntKind.u64.wrap (8 * 285870213051353865) / 288230376151711744 = 7 := by decide +kernel
set_option maxRecDepth 100000 in
theorem tz_8 (w : World) (hc : w.cell? ⟨7, 7, none⟩ = some (.int .u8 3)) : Calls Tryz.prog 64 #[.int .u64 8] w fun e w' => e = .returned (.int .i64 3) ∧ w = w' := by
  have a1 := and_neg_8
  have a2 := deB_8
  go_enter Tryz.func64, Tryz.ntmps64
  go_wp2
  go_ret
  exact ⟨rfl, rfl⟩

theorem and_neg_16 : bits .and .u64 16 (IntKind.u64.wrap (-16)) = 16 := by decide +kernel
theorem deB_16 : IntKind.u64.wrap (16 * 285870213051353865) / 288230376151711744 = 15 := by decide +kernel
set_option maxRecDepth 100000 in
theorem tz_16 (w : World) (hc : w.cell? ⟨7, 15, none⟩ = some (.int .u8 4)) : Calls Tryz.prog 64 #[.int .u64 16] w fun e w' => e = .returned (.int .i64 4) ∧ w = w' := by
  have a1 := and_neg_16
  have a2 := deB_16
  go_enter Tryz.func64, Tryz.ntmps64
  go_wp2
  go_ret
  exact ⟨rfl, rfl⟩
end Go.Proofs.YtpoepgnapneeaaaGreatDoor
