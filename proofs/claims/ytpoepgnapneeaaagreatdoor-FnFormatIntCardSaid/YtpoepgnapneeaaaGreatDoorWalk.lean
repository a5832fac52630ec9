/-
  The walk of the law FnFormatInt: it returns true at every two numbers, and nothing that lay in memory has turned. Condition: io.EOF and two tables of the library as their initialisers lay them.
-/
import Derived.Test.YtpoepgnapneeaaaGreatDoorImpl
namespace Go.Proofs.YtpoepgnapneeaaaGreatDoor
open Go.RowKit
set_option linter.unusedVariables false
set_option maxHeartbeats 400000

/-- The numeral of n in base b, as a string. -/
def specOut (b : Nat) (n : Int) : ByteArray := ⟨(numeral b n.natAbs (decide (n < 0))).toArray⟩

theorem numeral_nonneg (b m : Nat) : numeral b m false = sdig b m := by simp [numeral]
theorem numeral_neg (b m : Nat) (h : 1 ≤ m) : numeral b m true = 45 :: sdig b m := by simp [numeral, show 0 < m by omega]

theorem dec_spec (n : Int) : dec n = specOut 10 n := by
  unfold specOut
  by_cases hn : 0 ≤ n
  · obtain ⟨m, rfl⟩ := Int.eq_ofNat_of_zero_le hn
    rw [decide_eq_false (show ¬ ((m : Int) < 0) by omega), Int.natAbs_natCast, numeral_nonneg, dec_pos, dec_eq]
  · obtain ⟨m, rfl, hm⟩ : ∃ m : Nat, n = -(m : Int) ∧ 1 ≤ m := ⟨n.natAbs, by omega, by omega⟩
    rw [decide_eq_true (show -(m : Int) < 0 by omega), Int.natAbs_neg, Int.natAbs_natCast, numeral_neg _ _ hm, dec_neg m hm, dec_eq]

theorem specDigits (b : Nat) (hb : b = 2 ∨ b = 8 ∨ b = 10 ∨ b = 16) (n : Int) (w : World) (h0 : -4611686018427387904 < n) (h1 : n < 4611686018427387904) :
    Calls Tryz.prog 7 #[.int .i64 n, .int .i64 (b : Int)] w fun e w' => e = .returned (.string (specOut b n)) ∧ ∃ k, w' = w.drewN k := by
  unfold specOut
  by_cases hn : 0 ≤ n
  · obtain ⟨m, rfl⟩ := Int.eq_ofNat_of_zero_le hn
    rw [decide_eq_false (show ¬ ((m : Int) < 0) by omega), Int.natAbs_natCast, numeral_nonneg]
    rcases hb with rfl | rfl | rfl | rfl
    · exact digits_2 m _ w rfl (by omega)
    · exact digits_8 m _ w rfl (by omega)
    · exact digits_10 m _ w rfl (by omega)
    · exact digits_16 m _ w rfl (by omega)
  · obtain ⟨m, rfl, hm⟩ : ∃ m : Nat, n = -(m : Int) ∧ 1 ≤ m := ⟨n.natAbs, by omega, by omega⟩
    rw [decide_eq_true (show -(m : Int) < 0 by omega), Int.natAbs_neg, Int.natAbs_natCast, numeral_neg _ _ hm]
    rcases hb with rfl | rfl | rfl | rfl
    · exact digitsNeg_2 m w hm (by omega)
    · exact digitsNeg_8 m w hm (by omega)
    · exact digitsNeg_10 m w hm (by omega)
    · exact digitsNeg_16 m w hm (by omega)

theorem fmtOk_spec (b : Nat) (hb : b = 2 ∨ b = 8 ∨ b = 10 ∨ b = 16) (n : Int) (ea : Addr) (h0 : -1000000000000000000 < n) (h1 : n < 1000000000000000000) : FmtOk n (b : Int) (specOut b n) ea := by
  rcases hb with rfl | rfl | rfl | rfl
  · exact fmtOk_2 n ea h0 h1
  · exact fmtOk_8 n ea h0 h1
  · rw [← dec_spec]; exact fmtOk_10 n ea h0 h1
  · exact fmtOk_16 n ea h0 h1

/-- Out of the statement's guards: the law asks whether strings are alive. -/
theorem law_out (n b : Int) (w : World) (h : n > 9007199254740991 ∨ n < -9007199254740991 ∨ (b ≠ 2 ∧ b ≠ 8 ∧ b ≠ 10 ∧ b ≠ 16)) :
    Calls Tryz.prog 3 #[.int .i64 n, .int .i64 b] w fun e w' => e = .returned (.bool true) ∧ Keeps (fun _ => False) w w' := by
  by_cases h1 : 9007199254740991 < n
  · clear h
    go_enter Tryz.func3, Tryz.ntmps3
    go_wp2_with fail
    refine (alive_any w).mono ?_
    rintro e w1 ⟨rfl, k1⟩
    go_wp2_with fail
    go_ret
    exact ⟨rfl, k1⟩
  · by_cases h2 : n < -9007199254740991
    · clear h
      go_enter Tryz.func3, Tryz.ntmps3
      go_wp2_with fail
      refine (alive_any w).mono ?_
      rintro e w1 ⟨rfl, k1⟩
      go_wp2_with fail
      go_ret
      exact ⟨rfl, k1⟩
    · obtain ⟨b2, b8, b10, b16⟩ := (h.resolve_left (by omega)).resolve_left (by omega)
      have c2 : (b == 2) = false := beq_eq_false_iff_ne.2 b2
      have c8 : (b == 8) = false := beq_eq_false_iff_ne.2 b8
      have c10 : (b == 10) = false := beq_eq_false_iff_ne.2 b10
      have c16 : (b == 16) = false := beq_eq_false_iff_ne.2 b16
      have d2 : (b != 2) = true := by rw [bne_iff_ne]; exact b2
      have d8 : (b != 8) = true := by rw [bne_iff_ne]; exact b8
      have d10 : (b != 10) = true := by rw [bne_iff_ne]; exact b10
      have d16 : (b != 16) = true := by rw [bne_iff_ne]; exact b16
      clear h b2 b8 b10 b16
      go_enter Tryz.func3, Tryz.ntmps3
      go_wp2_with fail
      refine (alive_any w).mono ?_
      rintro e w1 ⟨rfl, k1⟩
      go_wp2_with fail
      go_ret
      exact ⟨rfl, k1⟩

theorem law_in (n : Int) (b : Nat) (ea : Addr) (w : World) (h0 : -9007199254740991 ≤ n) (h1 : n ≤ 9007199254740991) (hb : b = 2 ∨ b = 8 ∨ b = 10 ∨ b = 16) (hE : Env ea w) :
    Calls Tryz.prog 3 #[.int .i64 n, .int .i64 (b : Int)] w fun e w' => e = .returned (.bool true) ∧ Keeps (fun _ => False) w w' := by
  have HI := Lib.hid (implFormat_any n (b : Int) (specOut b n) ea w (by omega) (by omega) (by omega) (by omega) (fmtOk_spec b hb n ea (by omega) (by omega)) hE)
  have HD := Lib.hid (fun w => specDigits b hb n w (by omega) (by omega))
  generalize specOut b n = out at *
  rcases hb with rfl | rfl | rfl | rfl
  all_goals
    go_enter Tryz.func3, Tryz.ntmps3
    go_wp2_with fail
    refine HI.out.mono ?_
    rintro e w1 ⟨rfl, k1⟩
    go_wp2_with fail
    refine (HD.out w1).mono ?_
    rintro e w2 ⟨rfl, k, rfl⟩
    go_wp2_with fail
    refine (is_any out _).mono ?_
    rintro e w3 ⟨rfl, rfl⟩
    go_wp2_with fail
    go_ret
    exact ⟨rfl, k1.drewN _⟩

/-- The law, whatever its arguments: true, and nothing that lay in memory has turned. -/
theorem law_any (n b : Int) (ea : Addr) (w : World) (hE : Env ea w) :
    Calls Tryz.prog 3 #[.int .i64 n, .int .i64 b] w fun e w' => e = .returned (.bool true) ∧ Keeps (fun _ => False) w w' := by
  by_cases h : n > 9007199254740991 ∨ n < -9007199254740991 ∨ (b ≠ 2 ∧ b ≠ 8 ∧ b ≠ 10 ∧ b ≠ 16)
  · exact law_out n b w h
  · have hb : b = 2 ∨ b = 8 ∨ b = 10 ∨ b = 16 := by omega
    obtain ⟨c, rfl⟩ := Int.eq_ofNat_of_zero_le (show 0 ≤ b by omega)
    exact law_in n c ea w (by omega) (by omega) (by omega) hE
end Go.Proofs.YtpoepgnapneeaaaGreatDoor
