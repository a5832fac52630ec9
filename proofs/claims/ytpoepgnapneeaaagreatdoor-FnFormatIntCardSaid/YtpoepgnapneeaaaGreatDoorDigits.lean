/-
  The walk of the reference's Digits in the bases 2, 8, 10 and 16: the numeral. Condition: numbers below 2 to the 62nd.
-/
import Derived.Test.YtpoepgnapneeaaaGreatDoorRead
import Derived.Test.YtpoepgnapneeaaaGreatDoorLaw
namespace Go.Proofs.YtpoepgnapneeaaaGreatDoor
open Go.RowKit
set_option linter.unusedVariables false
set_option maxHeartbeats 400000

def signsRun (d : Nat) : Prop := ∀ w : World, (Instr.slice 9 (.string (⟨#[48, 49, 50, 51, 52, 53, 54, 55, 56, 57, 97, 98, 99, 100, 101, 102]⟩ : ByteArray)) (some (.int .i64 (d : Int))) (some (.int .i64 ((d : Int) + 1))) none).run Tryz.prog w = .ok (.string ⟨#[chd d]⟩) w
theorem signs0 : signsRun 0 := fun w => by kernel_rfl
theorem signs1 : signsRun 1 := fun w => by kernel_rfl
theorem signs2 : signsRun 2 := fun w => by kernel_rfl
theorem signs3 : signsRun 3 := fun w => by kernel_rfl
theorem signs4 : signsRun 4 := fun w => by kernel_rfl
theorem signs5 : signsRun 5 := fun w => by kernel_rfl
theorem signs6 : signsRun 6 := fun w => by kernel_rfl
theorem signs7 : signsRun 7 := fun w => by kernel_rfl
theorem signs8 : signsRun 8 := fun w => by kernel_rfl
theorem signs9 : signsRun 9 := fun w => by kernel_rfl
theorem signs10 : signsRun 10 := fun w => by kernel_rfl
theorem signs11 : signsRun 11 := fun w => by kernel_rfl
theorem signs12 : signsRun 12 := fun w => by kernel_rfl
theorem signs13 : signsRun 13 := fun w => by kernel_rfl
theorem signs14 : signsRun 14 := fun w => by kernel_rfl
theorem signs15 : signsRun 15 := fun w => by kernel_rfl
theorem signs_slice (d : Nat) (hd : d < 16) : signsRun d := by
  match d, hd with
  | 0, _ => exact signs0
  | 1, _ => exact signs1
  | 2, _ => exact signs2
  | 3, _ => exact signs3
  | 4, _ => exact signs4
  | 5, _ => exact signs5
  | 6, _ => exact signs6
  | 7, _ => exact signs7
  | 8, _ => exact signs8
  | 9, _ => exact signs9
  | 10, _ => exact signs10
  | 11, _ => exact signs11
  | 12, _ => exact signs12
  | 13, _ => exact signs13
  | 14, _ => exact signs14
  | 15, _ => exact signs15
  | n + 16, h => omega

theorem str_app (a b : List UInt8) : (⟨a.toArray⟩ : ByteArray) ++ (⟨b.toArray⟩ : ByteArray) = ⟨(a ++ b).toArray⟩ := by
  apply ByteArray.ext
  simp

set_option maxRecDepth 100000 in
theorem digits_lt (b n : Nat) (hb2 : 2 ≤ b) (hb16 : b ≤ 16) (hn : n < b) (w : World) :
    Calls Tryz.prog 7 #[.int .i64 n, .int .i64 b] w fun e w' => e = .returned (.string ⟨(sdig b n).toArray⟩) ∧ w = w' := by
  have hc := signs_slice n (by omega)
  unfold signsRun at hc
  have h16 : n < 16 := by omega
  go_enter Tryz.func7, Tryz.ntmps7
  go_wp2_with fail
  go_ret
  exact ⟨by rw [sdig_lt hn]; rfl, rfl⟩

theorem sdig_len (b n : Nat) (hb : 2 ≤ b) (hn : n < 4611686018427387904) : (sdig b n).length ≤ 63 := by
  by_cases h0 : n = 0
  · subst h0; rw [sdig_lt (by omega)]; simp
  · have h1 : rest b n = sdig b n := if_neg h0
    have h2 : n < b ^ 63 := by
      have : 2 ^ 63 ≤ b ^ 63 := Nat.pow_le_pow_left hb 63
      omega
    rw [← h1]
    exact rest_len hb 63 n h2
theorem app_run (b n : Nat) (hb : 2 ≤ b) (h : b ≤ n) (hn : n < 4611686018427387904) (w : World) :
    (Op.stringOp .add ⟨(sdig b (n / b)).toArray⟩ ⟨#[chd (n % b)]⟩).run Tryz.prog w = .ok (.string ⟨(sdig b n).toArray⟩) w := by
  have h1 := sdig_len b (n / b) hb (Nat.lt_of_le_of_lt (Nat.div_le_self n b) hn)
  rw [sdig_ge hb h]
  exact run_string_add_lists w _ [chd (n % b)] (by omega) (by simp)
theorem minus_run (l : List UInt8) (h : l.length ≤ 63) (w : World) : (Op.stringOp .add ⟨#[45]⟩ ⟨l.toArray⟩).run Tryz.prog w = .ok (.string ⟨(45 :: l).toArray⟩) w :=
  run_string_add_lists w [45] l (by simp) (by omega)
theorem div_i64 (n b : Nat) (hb : 1 ≤ b) (hn : n < 4611686018427387904) : IntKind.i64.wrap ((n : Int) / (b : Int)) = (n : Int) / (b : Int) := by
  have h2 : 0 ≤ (n : Int) / (b : Int) := Int.ediv_nonneg (by omega) (by omega)
  have h3 : (n : Int) / (b : Int) ≤ n := Int.ediv_le_self _ (by omega)
  rw [IntKind.wrap_i64]
  omega
theorem mod_i64 (n b : Nat) : (n : Int).tmod (b : Int) = (n : Int) % (b : Int) := Int.tmod_eq_emod_of_nonneg (by omega)
theorem inc_i64 (m : Int) (h0 : 0 ≤ m) (h1 : m < 16) : IntKind.i64.wrap (m + 1) = m + 1 := by rw [IntKind.wrap_i64]; omega


set_option maxRecDepth 100000 in
theorem digits_2 (n : Nat) : ∀ (x : Int) (w : World), x = n → n < 4611686018427387904 →
    Calls Tryz.prog 7 #[.int .i64 x, .int .i64 2] w fun e w' => e = .returned (.string ⟨(sdig 2 n).toArray⟩) ∧ ∃ k, w' = w.drewN k := by
  induction n using Nat.strongRecOn with
  | _ n ih =>
    intro x w hx hn
    subst hx
    by_cases hlt : n < 2
    · exact (digits_lt 2 n (by omega) (by omega) hlt w).mono fun e w' ⟨he, hw⟩ => ⟨he, 0, hw ▸ rfl⟩
    · have hc := signs_slice (n % 2) (by omega)
      unfold signsRun at hc
      rw [Int.natCast_emod, show ((2 : Nat) : Int) = 2 from rfl] at hc
      have hi := fun w => ih (n / 2) (by omega) ((n : Int) / 2) w rfl (by omega)
      have HI := Lib.hid hi
      have happ := app_run 2 n (by omega) (by omega) hn
      have q1 := div_i64 n 2 (by omega) hn
      have q2 := mod_i64 n 2
      rw [show ((2 : Nat) : Int) = 2 from rfl] at q1 q2
      have hp0 : 0 ≤ (n : Int) % 2 := by omega
      have hp1 : (n : Int) % 2 < 16 := by omega
      have q3 := inc_i64 ((n : Int) % 2) hp0 hp1
      clear ih hi
      go_enter Tryz.func7, Tryz.ntmps7
      go_wp2_with fail
      go_quiet ((go_at_call 7; exact Calls.quiet_of (HI.out _)))
      go_wp2_with fail
      go_ret
      exact ⟨rfl, _, rfl⟩

set_option maxRecDepth 100000 in
theorem digitsNeg_2 (n : Nat) (w : World) (h1 : 1 ≤ n) (hn : n < 4611686018427387904) :
    Calls Tryz.prog 7 #[.int .i64 (-(n : Int)), .int .i64 2] w fun e w' => e = .returned (.string ⟨(45 :: sdig 2 n).toArray⟩) ∧ ∃ k, w' = w.drewN k := by
  have hm := minus_run (sdig 2 n) (sdig_len 2 n (by omega) hn)
  go_enter Tryz.func7, Tryz.ntmps7
  go_wp2_with fail
  refine (digits_2 n _ w (by omega) hn).mono ?_
  rintro e w1 ⟨rfl, k, rfl⟩
  go_wp2_with fail
  go_ret
  exact ⟨rfl, _, rfl⟩

set_option maxRecDepth 100000 in
theorem digits_8 (n : Nat) : ∀ (x : Int) (w : World), x = n → n < 4611686018427387904 →
    Calls Tryz.prog 7 #[.int .i64 x, .int .i64 8] w fun e w' => e = .returned (.string ⟨(sdig 8 n).toArray⟩) ∧ ∃ k, w' = w.drewN k := by
  induction n using Nat.strongRecOn with
  | _ n ih =>
    intro x w hx hn
    subst hx
    by_cases hlt : n < 8
    · exact (digits_lt 8 n (by omega) (by omega) hlt w).mono fun e w' ⟨he, hw⟩ => ⟨he, 0, hw ▸ rfl⟩
    · have hc := signs_slice (n % 8) (by omega)
      unfold signsRun at hc
      rw [Int.natCast_emod, show ((8 : Nat) : Int) = 8 from rfl] at hc
      have hi := fun w => ih (n / 8) (by omega) ((n : Int) / 8) w rfl (by omega)
      have HI := Lib.hid hi
      have happ := app_run 8 n (by omega) (by omega) hn
      have q1 := div_i64 n 8 (by omega) hn
      have q2 := mod_i64 n 8
      rw [show ((8 : Nat) : Int) = 8 from rfl] at q1 q2
      have hp0 : 0 ≤ (n : Int) % 8 := by omega
      have hp1 : (n : Int) % 8 < 16 := by omega
      have q3 := inc_i64 ((n : Int) % 8) hp0 hp1
      clear ih hi
      go_enter Tryz.func7, Tryz.ntmps7
      go_wp2_with fail
      go_quiet ((go_at_call 7; exact Calls.quiet_of (HI.out _)))
      go_wp2_with fail
      go_ret
      exact ⟨rfl, _, rfl⟩

set_option maxRecDepth 100000 in
theorem digitsNeg_8 (n : Nat) (w : World) (h1 : 1 ≤ n) (hn : n < 4611686018427387904) :
    Calls Tryz.prog 7 #[.int .i64 (-(n : Int)), .int .i64 8] w fun e w' => e = .returned (.string ⟨(45 :: sdig 8 n).toArray⟩) ∧ ∃ k, w' = w.drewN k := by
  have hm := minus_run (sdig 8 n) (sdig_len 8 n (by omega) hn)
  go_enter Tryz.func7, Tryz.ntmps7
  go_wp2_with fail
  refine (digits_8 n _ w (by omega) hn).mono ?_
  rintro e w1 ⟨rfl, k, rfl⟩
  go_wp2_with fail
  go_ret
  exact ⟨rfl, _, rfl⟩

set_option maxRecDepth 100000 in
theorem digits_10 (n : Nat) : ∀ (x : Int) (w : World), x = n → n < 4611686018427387904 →
    Calls Tryz.prog 7 #[.int .i64 x, .int .i64 10] w fun e w' => e = .returned (.string ⟨(sdig 10 n).toArray⟩) ∧ ∃ k, w' = w.drewN k := by
  induction n using Nat.strongRecOn with
  | _ n ih =>
    intro x w hx hn
    subst hx
    by_cases hlt : n < 10
    · exact (digits_lt 10 n (by omega) (by omega) hlt w).mono fun e w' ⟨he, hw⟩ => ⟨he, 0, hw ▸ rfl⟩
    · have hc := signs_slice (n % 10) (by omega)
      unfold signsRun at hc
      rw [Int.natCast_emod, show ((10 : Nat) : Int) = 10 from rfl] at hc
      have hi := fun w => ih (n / 10) (by omega) ((n : Int) / 10) w rfl (by omega)
      have HI := Lib.hid hi
      have happ := app_run 10 n (by omega) (by omega) hn
      have q1 := div_i64 n 10 (by omega) hn
      have q2 := mod_i64 n 10
      rw [show ((10 : Nat) : Int) = 10 from rfl] at q1 q2
      have hp0 : 0 ≤ (n : Int) % 10 := by omega
      have hp1 : (n : Int) % 10 < 16 := by omega
      have q3 := inc_i64 ((n : Int) % 10) hp0 hp1
      clear ih hi
      go_enter Tryz.func7, Tryz.ntmps7
      go_wp2_with fail
      go_quiet ((go_at_call 7; exact Calls.quiet_of (HI.out _)))
      go_wp2_with fail
      go_ret
      exact ⟨rfl, _, rfl⟩

set_option maxRecDepth 100000 in
theorem digitsNeg_10 (n : Nat) (w : World) (h1 : 1 ≤ n) (hn : n < 4611686018427387904) :
    Calls Tryz.prog 7 #[.int .i64 (-(n : Int)), .int .i64 10] w fun e w' => e = .returned (.string ⟨(45 :: sdig 10 n).toArray⟩) ∧ ∃ k, w' = w.drewN k := by
  have hm := minus_run (sdig 10 n) (sdig_len 10 n (by omega) hn)
  go_enter Tryz.func7, Tryz.ntmps7
  go_wp2_with fail
  refine (digits_10 n _ w (by omega) hn).mono ?_
  rintro e w1 ⟨rfl, k, rfl⟩
  go_wp2_with fail
  go_ret
  exact ⟨rfl, _, rfl⟩

set_option maxRecDepth 100000 in
theorem digits_16 (n : Nat) : ∀ (x : Int) (w : World), x = n → n < 4611686018427387904 →
    Calls Tryz.prog 7 #[.int .i64 x, .int .i64 16] w fun e w' => e = .returned (.string ⟨(sdig 16 n).toArray⟩) ∧ ∃ k, w' = w.drewN k := by
  induction n using Nat.strongRecOn with
  | _ n ih =>
    intro x w hx hn
    subst hx
    by_cases hlt : n < 16
    · exact (digits_lt 16 n (by omega) (by omega) hlt w).mono fun e w' ⟨he, hw⟩ => ⟨he, 0, hw ▸ rfl⟩
    · have hc := signs_slice (n % 16) (by omega)
      unfold signsRun at hc
      rw [Int.natCast_emod, show ((16 : Nat) : Int) = 16 from rfl] at hc
      have hi := fun w => ih (n / 16) (by omega) ((n : Int) / 16) w rfl (by omega)
      have HI := Lib.hid hi
      have happ := app_run 16 n (by omega) (by omega) hn
      have q1 := div_i64 n 16 (by omega) hn
      have q2 := mod_i64 n 16
      rw [show ((16 : Nat) : Int) = 16 from rfl] at q1 q2
      have hp0 : 0 ≤ (n : Int) % 16 := by omega
      have hp1 : (n : Int) % 16 < 16 := by omega
      have q3 := inc_i64 ((n : Int) % 16) hp0 hp1
      clear ih hi
      go_enter Tryz.func7, Tryz.ntmps7
      go_wp2_with fail
      go_quiet ((go_at_call 7; exact Calls.quiet_of (HI.out _)))
      go_wp2_with fail
      go_ret
      exact ⟨rfl, _, rfl⟩

set_option maxRecDepth 100000 in
theorem digitsNeg_16 (n : Nat) (w : World) (h1 : 1 ≤ n) (hn : n < 4611686018427387904) :
    Calls Tryz.prog 7 #[.int .i64 (-(n : Int)), .int .i64 16] w fun e w' => e = .returned (.string ⟨(45 :: sdig 16 n).toArray⟩) ∧ ∃ k, w' = w.drewN k := by
  have hm := minus_run (sdig 16 n) (sdig_len 16 n (by omega) hn)
  go_enter Tryz.func7, Tryz.ntmps7
  go_wp2_with fail
  refine (digits_16 n _ w (by omega) hn).mono ?_
  rintro e w1 ⟨rfl, k, rfl⟩
  go_wp2_with fail
  go_ret
  exact ⟨rfl, _, rfl⟩
end Go.Proofs.YtpoepgnapneeaaaGreatDoor
