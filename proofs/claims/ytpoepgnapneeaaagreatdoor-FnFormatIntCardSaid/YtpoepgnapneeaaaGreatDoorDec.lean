/-
  The decimal text of a number, read back by Atoi64 and by Number.Int: the number. Condition: fewer than 19 digits.
-/
import Derived.Test.YtpoepgnapneeaaaGreatDoorAtoi
import Derived.Test.YtpoepgnapneeaaaGreatDoorSmall
import Derived.Test.YtpoepgnapneeaaaGreatDoorLaw
namespace Go.Proofs.YtpoepgnapneeaaaGreatDoor
open Go.RowKit
set_option linter.unusedVariables false
set_option maxHeartbeats 400000

theorem dnum_dl (m : Nat) : dnum (dl m) = m := by
  induction m using Nat.strongRecOn with
  | _ m ih =>
    by_cases h : m < 10
    · rw [dl_lt h]; simp [dnum, dnumFrom]
    · rw [dl_ge (n := m) (by omega)]
      show dnumFrom 0 _ = _
      rw [dnumFrom_snoc]
      have := ih (m / 10) (by omega)
      unfold dnum at this
      rw [this]
      omega

theorem dig_of (l : List UInt8) (p m : Nat) (hp : l.drop p = (dl m).map fun d => UInt8.ofNat (48 + d)) (hl : p ≤ l.length) (hm : m < 10 ^ 18) : DigAt ⟨l.toArray⟩ p (dl m) := by
  have hlen : l.length = p + (dl m).length := by
    have := congrArg List.length hp
    simp only [List.length_drop, List.length_map] at this
    omega
  refine ⟨by simpa [ByteArray.size] using hlen, fun k hk h => ?_, dl_low m, dl_len 17 m hm, dl_pos m⟩
  have h1 : l[p + k]? = some (UInt8.ofNat (48 + (dl m)[k])) := by
    have h2 : (l.drop p)[k]? = ((dl m).map fun d => UInt8.ofNat (48 + d))[k]? := by rw [hp]
    rw [List.getElem?_drop, List.getElem?_map, List.getElem?_eq_getElem hk] at h2
    simpa using h2
  have h3 : (⟨l.toArray⟩ : ByteArray)[p + k] = UInt8.ofNat (48 + (dl m)[k]) := by
    have h4 : (l[p + k]'(by omega)) = UInt8.ofNat (48 + (dl m)[k]) := by
      rw [List.getElem?_eq_getElem (by omega)] at h1
      exact Option.some.inj h1
    rw [← h4]
    rfl
  rw [h3]
  have h5 := dl_low m _ (List.getElem_mem hk)
  show (48 + (dl m)[k]) % 256 = _
  omega

theorem dec_pos (m : Nat) : dec (m : Int) = ⟨(Lib.decDigits m).toArray⟩ := by
  unfold dec; rw [Lib.itoa_nonneg]
theorem dec_neg (m : Nat) (h : 1 ≤ m) : dec (-(m : Int)) = ⟨(45 :: Lib.decDigits m).toArray⟩ := by
  unfold dec; rw [Lib.itoa_neg m h]

theorem digAt_pos (m : Nat) (hm : m < 10 ^ 18) : DigAt (dec (m : Int)) 0 (dl m) := by
  rw [dec_pos]
  exact dig_of _ 0 m (by rw [List.drop_zero, dec_dl]) (Nat.zero_le _) hm
theorem digAt_neg (m : Nat) (h : 1 ≤ m) (hm : m < 10 ^ 18) : DigAt (dec (-(m : Int))) 1 (dl m) := by
  rw [dec_neg m h]
  exact dig_of _ 1 m (by rw [List.drop_succ_cons, List.drop_zero, dec_dl]) (by simp) hm

theorem extract_cons (c : UInt8) (l : List UInt8) : (⟨(c :: l).toArray⟩ : ByteArray).extract 1 (⟨(c :: l).toArray⟩ : ByteArray).size = ⟨l.toArray⟩ := by
  apply ByteArray.ext
  simp [ByteArray.data_extract, ByteArray.size]

theorem numText_pos (m : Nat) (hm : m < 10 ^ 18) : NumText (dec (m : Int)) 0 false (dl m) := by
  have h := digAt_pos m hm
  refine ⟨h, .inr ⟨rfl, rfl⟩, ?_⟩
  have := h.len; have := h.short; omega
theorem numText_neg (m : Nat) (h : 1 ≤ m) (hm : m < 10 ^ 18) : NumText (dec (-(m : Int))) 1 true (dl m) := by
  have h' := digAt_neg m h hm
  refine ⟨h', .inl ⟨rfl, rfl, ?_⟩, ?_⟩
  · refine ⟨by have := h'.len; omega, ?_⟩
    simp only [dec_neg m h]
    rfl
  · have := h'.len; have := h'.short; omega

theorem atoi_dec (n : Int) (h0 : -1000000000000000000 < n) (h1 : n < 1000000000000000000) (w : World) :
    Calls Tryz.prog 59 #[.string (dec n)] w fun e w' => e = .returned (.tuple #[.int .i64 n, .bool true]) ∧ Keeps (fun _ => False) w w' := by
  by_cases hn : 0 ≤ n
  · obtain ⟨m, rfl⟩ := Int.eq_ofNat_of_zero_le hn
    have := atoi_pos (dec (m : Int)) (dl m) w (digAt_pos m (by omega))
    rwa [dnum_dl] at this
  · obtain ⟨m, rfl, hm⟩ : ∃ m : Nat, n = -(m : Int) ∧ 1 ≤ m := ⟨n.natAbs, by omega, by omega⟩
    have h2 := (numText_neg m hm (by omega)).sign
    have h3 : ∃ h : 0 < (dec (-(m : Int))).size, (dec (-(m : Int)))[0].toNat = 45 := by
      rcases h2 with h2 | h2
      · exact h2.2.2
      · exact absurd h2.1 (by decide)
    have := atoi_neg (dec (-(m : Int))) (dec (m : Int)) (dl m) w (by rw [dec_neg m hm, dec_pos]; exact extract_cons _ _) (digAt_pos m (by omega)) (by rw [dec_neg m hm, dec_pos]; simp [ByteArray.size]) h3
    rwa [dnum_dl] at this

theorem numInt_dec (n : Int) (h0 : -1000000000000000000 < n) (h1 : n < 1000000000000000000) (w : World) :
    Calls Tryz.prog 22 #[.string (dec n)] w fun e w' => e = .returned (.tuple #[.int .i64 n, .bool true]) ∧ Keeps (fun _ => False) w w' := by
  go_enter Tryz.func22, Tryz.ntmps22
  go_wp2_with (first | (go_at_call 59; refine (atoi_dec n h0 h1 _).mono ?_; rintro e w1 ⟨rfl, k1⟩; refine Hid.out ?_) | go_in)
  refine Lib.hid ?_
  go_wp2_with fail
  go_ret2
  exact ⟨rfl, k1⟩
end Go.Proofs.YtpoepgnapneeaaaGreatDoor
