/-
  The walks of scanSign, maxPow, pow, and of a nat made of one word. Conditions stand at each theorem: short texts, a nil receiver.
-/
import Derived.Test.YtpoepgnapneeaaaGreatDoorRead
namespace Go.Proofs.YtpoepgnapneeaaaGreatDoor
open Go.RowKit
set_option linter.unusedVariables false
set_option maxHeartbeats 400000

theorem method_readByte (a : Addr) (w : World) : (method 517 84 (.pointer (some a)) "ReadByte").run Tryz.prog w = .ok (133, .pointer (some a)) w := by kernel_rfl
theorem method_unreadByte (a : Addr) (w : World) : (method 517 84 (.pointer (some a)) "UnreadByte").run Tryz.prog w = .ok (286, .pointer (some a)) w := by kernel_rfl

set_option maxRecDepth 100000 in
theorem scanSign_minus (b : Nat) (s : ByteArray) (w : World) (h : RdAt b s 0 w) (hi : 0 < s.size) (hs : s.size ≤ 1000) (hm : s[0].toNat = 45) :
    Calls Tryz.prog 89 #[.iface 84 (.pointer (some ⟨b, 0, none⟩))] w fun e w' => e = .returned (.tuple #[.bool true, .nilIface]) ∧ RdAt b s 1 w' ∧ Keeps (· = b) w w' := by
  have m1 := method_readByte
  have m2 := method_unreadByte
  have hR := readByte_yes b s 0 w h hi hs
  rw [hm] at hR
  have HR := Lib.hid hR
  clear hR hm
  go_enter Tryz.func89, Tryz.ntmps89
  go_wp2_with fail
  refine HR.out.mono ?_
  rintro e w1 ⟨rfl, r1, k1⟩
  go_wp2_with fail
  go_ret2
  exact ⟨rfl, r1, k1⟩

set_option maxRecDepth 100000 in
theorem scanSign_digit (b : Nat) (s : ByteArray) (w : World) (h : RdAt b s 0 w) (hi : 0 < s.size) (hs : s.size ≤ 1000) (hm : 48 ≤ (s[0].toNat : Int)) :
    Calls Tryz.prog 89 #[.iface 84 (.pointer (some ⟨b, 0, none⟩))] w fun e w' => e = .returned (.tuple #[.bool false, .nilIface]) ∧ RdAt b s 0 w' ∧ Keeps (· = b) w w' := by
  have m1 := method_readByte
  have m2 := method_unreadByte
  have hR := readByte_yes b s 0 w h hi hs
  have h45 : ((s[0].toNat : Int) == 45) = false := by simp; omega
  have h43 : ((s[0].toNat : Int) == 43) = false := by simp; omega
  have HR := Lib.hid hR
  clear hR hm
  go_enter Tryz.func89, Tryz.ntmps89
  go_wp2_with fail
  refine HR.out.mono ?_
  rintro e w1 ⟨rfl, r1, k1⟩
  go_wp2_with fail
  refine (unreadByte_any b s 0 w1 r1 (by omega)).mono ?_
  rintro e w2 ⟨rfl, r2, k2⟩
  go_wp2_with fail
  go_ret2
  exact ⟨rfl, r2, k1.trans k2 (fun _ _ h => h)⟩
theorem make_one (w : World) : (Instr.makeSlice 61 (.int .i64 1) (.int .i64 1)).run Tryz.prog w = .ok (.slice (some ⟨w.heap.size, 0, none⟩) 1 1) (w.alloc (.cells #[.int .u64 0] 131)) := by kernel_rfl

theorem setWord_zero (w : World) :
    Calls Tryz.prog 104 #[.slice none 0 0, .int .u64 0] w fun e w' => e = .returned (.slice none 0 0) ∧ w = w' := by
  go_enter Tryz.func104, Tryz.ntmps104
  go_wp2
  go_ret
  exact ⟨rfl, rfl⟩

set_option maxRecDepth 100000 in
theorem setWord_pos (r : Int) (w : World) (h : (r == 0) = false) :
    Calls Tryz.prog 104 #[.slice none 0 0, .int .u64 r] w fun e w' => e = .returned (.slice (some ⟨w.heap.size, 0, none⟩) 1 1) ∧ w' = w.alloc (.cells #[.int .u64 r] 131) := by
  have hmk := make_one
  go_enter Tryz.func104, Tryz.ntmps104
  go_wp2
  go_ret
  exact ⟨rfl, rfl⟩

set_option maxRecDepth 100000 in
theorem mulAddWW_zero (y : Int) (w : World) :
    Calls Tryz.prog 116 #[.slice none 0 0, .slice none 0 0, .int .u64 y, .int .u64 0] w fun e w' => e = .returned (.slice none 0 0) ∧ w = w' := by
  go_enter Tryz.func116, Tryz.ntmps116
  go_wp2_with fail
  refine (setWord_zero w).mono ?_
  rintro e w1 ⟨rfl, rfl⟩
  go_wp2_with fail
  go_ret
  exact ⟨rfl, rfl⟩
set_option maxRecDepth 100000 in
theorem mulAddWW_pos (y r : Int) (w : World) (h : (r == 0) = false) :
    Calls Tryz.prog 116 #[.slice none 0 0, .slice none 0 0, .int .u64 y, .int .u64 r] w fun e w' => e = .returned (.slice (some ⟨w.heap.size, 0, none⟩) 1 1) ∧ w' = w.alloc (.cells #[.int .u64 r] 131) := by
  have H := Lib.hid h
  clear h
  go_enter Tryz.func116, Tryz.ntmps116
  go_wp2_with fail
  refine (setWord_pos r w H.out).mono ?_
  rintro e w1 ⟨rfl, rfl⟩
  go_wp2_with fail
  go_ret
  exact ⟨rfl, rfl⟩

set_option maxRecDepth 100000 in
theorem pow_any (x n : Int) (w : World) (h0 : 0 ≤ n) (h1 : n ≤ 100) :
    Calls Tryz.prog 117 #[.int .u64 x, .int .i64 n] w fun e w' => (∃ v, e = .returned (.int .u64 v)) ∧ w = w' := by
  go_enter Tryz.func117, Tryz.ntmps117
  go_wp2
  go_loop [0, 1, 4] (fun a b c => ∃ x' n' p' : Int, 0 ≤ n' ∧ n' ≤ 100 ∧ a = .int .u64 x' ∧ b = .int .i64 n' ∧ c = .int .u64 p') (fun _ b _ => (intOf b).toNat)
  case atStart => exact ⟨x, n, 1, h0, h1, rfl, rfl, rfl⟩
  case round =>
    obtain ⟨x', n', p', h0, h1, rfl, rfl, rfl⟩ := hrel
    by_cases hlt : 0 < n'
    · go_wp2
      all_goals
        go_round
        case rel => exact ⟨_, n' / 2, _, by omega, by omega, rfl, by go_num, rfl⟩
        case measure => simp [intOf]; omega
    · go_wp2
      go_ret
      exact ⟨⟨_, rfl⟩, rfl⟩

def p10 : Nat → Int
  | 0 => 1
  | k + 1 => p10 k * 10

set_option maxRecDepth 100000 in
theorem maxPow_ten (w : World) :
    Calls Tryz.prog 67 #[.int .u64 10] w fun e w' => e = .returned (.tuple #[.int .u64 10000000000000000000, .int .i64 19]) ∧ w = w' := by
  go_enter Tryz.func67, Tryz.ntmps67
  go_wp2
  go_loop [2, 3] (fun a b => ∃ k : Nat, k ≤ 18 ∧ a = .int .u64 (p10 (k + 1)) ∧ b = .int .i64 (k + 1)) (fun _ b => 19 - (intOf b).toNat)
  case atStart => exact ⟨0, by omega, rfl, rfl⟩
  case round =>
    obtain ⟨k, hk, rfl, rfl⟩ := hrel
    by_cases hlt : k < 18
    · have hp : 0 ≤ p10 (k + 1) ∧ p10 (k + 1) ≤ 1844674407370955161 := by
        revert hlt; revert k; decide
      obtain ⟨hp0, hp1⟩ := hp
      go_wp2
      go_round
      case rel => exact ⟨k + 1, by omega, by go_num, by go_num⟩
      case measure => simp [intOf]; omega
    · obtain rfl : k = 18 := by omega
      go_wp2
      go_ret2
      exact ⟨rfl, rfl⟩
end Go.Proofs.YtpoepgnapneeaaaGreatDoor
