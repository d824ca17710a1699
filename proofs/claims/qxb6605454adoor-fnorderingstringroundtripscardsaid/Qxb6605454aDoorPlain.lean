/-
  THE PLAIN LAW of 'FnOrderingStringRoundTrips': decimal digits read back. No Go in sight.
-/
import Derived.Lib.ItoaNum
import Derived.Lib.ItoaLen
namespace Go.Proofs.Qxb6605454aDoor.Plain
open Go.Lib

/-- What the reader has of u after k of its digits. -/
def pre (u k : Nat) : Nat := u / 10 ^ (nDigits u - k)

theorem pre_zero (u : Nat) : pre u 0 = 0 := by
  unfold pre
  exact Nat.div_eq_of_lt (by simpa using lt_pow_nDigits u)

theorem pre_all (u : Nat) : pre u (nDigits u) = u := by
  unfold pre
  simp

theorem pre_le (u k : Nat) : pre u k ≤ u := Nat.div_le_self _ _

theorem dg_toNat (u j : Nat) : (dg u j).toNat = 48 + u / 10 ^ j % 10 := by
  unfold dg
  have : u / 10 ^ j % 10 < 10 := Nat.mod_lt _ (by decide)
  simp
  omega

theorem digit_at (u k : Nat) (h : k < (decDigits u).length) : ((decDigits u)[k]).toNat = 48 + u / 10 ^ (nDigits u - 1 - k) % 10 := by
  simp only [decDigits_eq, List.getElem_map, List.getElem_range]
  exact dg_toNat _ _

theorem pre_succ (u k : Nat) (h : k < nDigits u) : pre u (k + 1) = 10 * pre u k + u / 10 ^ (nDigits u - 1 - k) % 10 := by
  unfold pre
  have e1 : nDigits u - (k + 1) = nDigits u - 1 - k := by omega
  have e2 : nDigits u - k = (nDigits u - 1 - k) + 1 := by omega
  rw [e1, e2, Nat.pow_succ, ← Nat.div_div_eq_div_mul]
  omega

theorem pre_step (u k : Nat) (h : k < (decDigits u).length) : pre u (k + 1) = 10 * pre u k + (((decDigits u)[k]).toNat - 48) := by
  rw [digit_at u k h, pre_succ u k (by rw [← decDigits_length]; exact h)]
  omega

theorem digit_range (u k : Nat) (h : k < (decDigits u).length) : 48 ≤ ((decDigits u)[k]).toNat ∧ ((decDigits u)[k]).toNat ≤ 57 := by
  rw [digit_at u k h]
  have : u / 10 ^ (nDigits u - 1 - k) % 10 < 10 := Nat.mod_lt _ (by decide)
  omega

/-- The first digit is a nought only where the numeral is "0". -/
theorem nDigits_low (u : Nat) (h : 1 < nDigits u) : 10 ^ (nDigits u - 1) ≤ u := by
  induction u using Nat.strongRecOn with
  | _ u ih =>
    by_cases h0 : u < 10
    · rw [nDigits_small h0] at h; omega
    · rw [nDigits_big h0]
      by_cases h1 : 1 < nDigits (u / 10)
      · have := ih (u / 10) (by omega) h1
        have e : nDigits (u / 10) + 1 - 1 = (nDigits (u / 10) - 1) + 1 := by omega
        rw [e, Nat.pow_succ]
        omega
      · have := nDigits_pos (u / 10)
        have e : nDigits (u / 10) + 1 - 1 = 1 := by omega
        rw [e]; omega

theorem first_digit (u : Nat) (h : 1 < (decDigits u).length) : ((decDigits u)[0]'(by omega)).toNat ≠ 48 := by
  rw [digit_at u 0 (by omega)]
  rw [decDigits_length] at h
  have h1 := nDigits_low u h
  have h2 := lt_pow_nDigits u
  have e : nDigits u = (nDigits u - 1) + 1 := by omega
  rw [e, Nat.pow_succ] at h2
  have hp : 0 < 10 ^ (nDigits u - 1) := Nat.pow_pos (by decide)
  have a1 : 1 ≤ u / 10 ^ (nDigits u - 1) := (Nat.le_div_iff_mul_le hp).2 (by omega)
  have a2 : u / 10 ^ (nDigits u - 1) < 10 := (Nat.div_lt_iff_lt_mul hp).2 (by rw [Nat.mul_comm]; exact h2)
  simp only [Nat.sub_zero]
  omega

theorem digits_pos (u : Nat) : 1 ≤ (decDigits u).length := by rw [decDigits_length]; exact nDigits_pos u

theorem digits_le (u : Nat) (h : u < 18446744073709551616) : (decDigits u).length ≤ 20 := by rw [decDigits_length]; exact nDigits_le20 u h

/-- A numeral of one digit 0 is 0's. -/
theorem zero_only (u : Nat) (h : decDigits u = [48]) : u = 0 := by
  by_cases hu : u < 10
  · rw [decDigits_one hu] at h
    have := congrArg (fun l : List UInt8 => (l.headD 0).toNat) h
    simp at this
    omega
  · have hl := decDigits_length u
    rw [h, nDigits_big hu] at hl
    have := nDigits_pos (u / 10)
    simp at hl
    omega
end Go.Proofs.Qxb6605454aDoor.Plain
