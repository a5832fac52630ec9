/-
  Plain lemmas on numerals: the digits of a number in a base, their number, and that reading a decimal numeral gives the number back. No program in it.
-/
import Derived.Lib.ItoaNum
import Derived.Lib.ItoaMem
namespace Go.Proofs.YtpoepgnapneeaaaGreatDoor

/-- The character of a digit. -/
def chd (d : Nat) : UInt8 := if d < 10 then UInt8.ofNat (48 + d) else UInt8.ofNat (87 + d)

/-- The numeral of n in base b, the first digit first. -/
def sdig (b n : Nat) : List UInt8 := if 2 ≤ b ∧ b ≤ n then sdig b (n / b) ++ [chd (n % b)] else [chd n]
termination_by n
decreasing_by exact Nat.div_lt_self (by omega) (by omega)

theorem sdig_lt {b n : Nat} (h : n < b) : sdig b n = [chd n] := by
  rw [sdig, if_neg (by omega)]
theorem sdig_ge {b n : Nat} (hb : 2 ≤ b) (h : b ≤ n) : sdig b n = sdig b (n / b) ++ [chd (n % b)] := by
  rw [sdig, if_pos ⟨hb, h⟩]

/-- What is still to be written of n: nothing of 0. -/
def rest (b n : Nat) : List UInt8 := if n = 0 then [] else sdig b n

theorem rest_step {b n : Nat} (hb : 2 ≤ b) (h : n ≠ 0) : rest b n = rest b (n / b) ++ [chd (n % b)] := by
  unfold rest
  rw [if_neg h]
  by_cases hn : n < b
  · rw [sdig_lt hn, if_pos (Nat.div_eq_of_lt hn), Nat.mod_eq_of_lt hn]; rfl
  · have : 0 < n / b := Nat.div_pos (by omega) (by omega)
    rw [sdig_ge hb (by omega), if_neg (by omega)]

theorem rest_len {b : Nat} (hb : 2 ≤ b) : ∀ (k n : Nat), n < b ^ k → (rest b n).length ≤ k := by
  intro k
  induction k with
  | zero => intro n h; have : n = 0 := by simpa using h
            subst this; simp [rest]
  | succ k ih =>
    intro n h
    by_cases hn : n = 0
    · subst hn; simp [rest]
    · rw [rest_step hb hn, List.length_append, List.length_singleton]
      have : n / b < b ^ k := by rw [Nat.div_lt_iff_lt_mul (by omega)]; rwa [Nat.pow_succ] at h
      have := ih (n / b) this
      omega

theorem rest_fits {s m L : Nat} (hs : 1 ≤ s) (h : m < 2 ^ L) : (rest (2 ^ s) m).length ≤ L / s + 1 := by
  have h2 : 2 ≤ 2 ^ s := by
    have := Nat.pow_le_pow_right (n := 2) (by omega) hs
    simpa using this
  refine rest_len h2 _ m (Nat.lt_of_lt_of_le h ?_)
  rw [← Nat.pow_mul]
  refine Nat.pow_le_pow_right (by omega) ?_
  have := Nat.div_add_mod L s
  have := Nat.mod_lt L (show 0 < s by omega)
  rw [Nat.mul_add]
  omega

theorem dec_eq (n : Nat) : Lib.decDigits n = sdig 10 n := by
  induction n using Nat.strongRecOn with
  | _ n ih =>
    rw [Lib.decDigits]
    by_cases h : n < 10
    · rw [dif_pos h, sdig_lt h]
      simp [chd, h]
    · rw [dif_neg h, ih (n / 10) (by omega), sdig_ge (n := n) (by omega) (by omega)]
      have : n % 10 < 10 := Nat.mod_lt _ (by omega)
      simp [chd, this]

/-- The decimal digits of n as numbers, the first ahead. -/
def dl (n : Nat) : List Nat := if 10 ≤ n then dl (n / 10) ++ [n % 10] else [n]
termination_by n
decreasing_by omega

theorem dl_lt {n : Nat} (h : n < 10) : dl n = [n] := by rw [dl, if_neg (by omega)]
theorem dl_ge {n : Nat} (h : 10 ≤ n) : dl n = dl (n / 10) ++ [n % 10] := by rw [dl, if_pos h]

theorem dec_dl (n : Nat) : Lib.decDigits n = (dl n).map fun d => UInt8.ofNat (48 + d) := by
  induction n using Nat.strongRecOn with
  | _ n ih =>
    rw [Lib.decDigits]
    by_cases h : n < 10
    · rw [dif_pos h, dl_lt h]; rfl
    · rw [dif_neg h, ih (n / 10) (by omega), dl_ge (n := n) (by omega), List.map_append]; rfl

theorem dl_low (n : Nat) : ∀ d ∈ dl n, d < 10 := by
  induction n using Nat.strongRecOn with
  | _ n ih =>
    by_cases h : n < 10
    · rw [dl_lt h]; intro d hd; simp at hd; omega
    · rw [dl_ge (n := n) (by omega)]
      intro d hd
      rcases List.mem_append.1 hd with hd | hd
      · exact ih (n / 10) (by omega) d hd
      · simp at hd; omega

theorem dl_pos (n : Nat) : 1 ≤ (dl n).length := by
  rw [dl]; split <;> simp

theorem dl_len : ∀ (k n : Nat), n < 10 ^ (k + 1) → (dl n).length ≤ k + 1 := by
  intro k
  induction k with
  | zero => intro n h; rw [dl_lt (by simpa using h)]; simp
  | succ k ih =>
    intro n h
    by_cases hn : n < 10
    · rw [dl_lt hn]; simp
    · rw [dl_ge (by omega), List.length_append, List.length_singleton]
      have := ih (n / 10) (by rw [Nat.div_lt_iff_lt_mul (by omega)]; rwa [Nat.pow_succ 10 (k + 1)] at h)
      omega
end Go.Proofs.YtpoepgnapneeaaaGreatDoor
