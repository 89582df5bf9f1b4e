/-
  The decimal numeral, digit by digit: what is read back behind t digits. No Go.
-/
import Derived.Lib.ItoaLen
namespace Go.Proofs.Qxb6606012aFmt.Dec
open Go.Lib

/-- The t-th digit of u from the front; what t digits from the front spell. -/
def dgt (u t : Nat) : Nat := u / 10 ^ (nDigits u - 1 - t) % 10
def acc (u t : Nat) : Nat := u / 10 ^ (nDigits u - t)

theorem dgt_le (u t : Nat) : dgt u t ≤ 9 := by unfold dgt; omega
theorem acc_zero (u : Nat) : acc u 0 = 0 := by
  unfold acc
  exact Nat.div_eq_of_lt (lt_pow_nDigits u)
theorem acc_all (u : Nat) : acc u (nDigits u) = u := by unfold acc; simp
theorem acc_le (u t : Nat) : acc u t ≤ u := Nat.div_le_self _ _
theorem acc_succ (u t : Nat) (h : t < nDigits u) : acc u (t + 1) = acc u t * 10 + dgt u t := by
  unfold acc dgt
  rw [show nDigits u - 1 - t = nDigits u - (t + 1) by omega, show nDigits u - t = (nDigits u - (t + 1)) + 1 by omega, Nat.pow_succ, ← Nat.div_div_eq_div_mul]
  omega
theorem pow_le (u : Nat) : 10 ≤ u → 10 ^ (nDigits u - 1) ≤ u := by
  induction u using Nat.strongRecOn with
  | _ u ih =>
    intro h
    rw [nDigits_big (by omega)]
    by_cases h' : 10 ≤ u / 10
    · have := ih (u / 10) (by omega) h'
      have hp := nDigits_pos (u / 10)
      rw [show nDigits (u / 10) + 1 - 1 = (nDigits (u / 10) - 1) + 1 by omega, Nat.pow_succ]
      omega
    · rw [nDigits_small (by omega)]
      simpa using h
theorem dgt_first (u : Nat) (h : 1 < nDigits u) : dgt u 0 ≠ 0 := by
  have h10 : 10 ≤ u := by
    by_cases h' : u < 10
    · rw [nDigits_small h'] at h; omega
    · omega
  have h1 := pow_le u h10
  have h2 := lt_pow_nDigits u
  unfold dgt
  rw [Nat.sub_zero]
  rw [show nDigits u = (nDigits u - 1) + 1 by omega, Nat.pow_succ] at h2
  have hp : 0 < 10 ^ (nDigits u - 1) := Nat.pow_pos (by decide)
  have h3 : 1 ≤ u / 10 ^ (nDigits u - 1) := (Nat.le_div_iff_mul_le hp).2 (by omega)
  have h4 : u / 10 ^ (nDigits u - 1) < 10 := (Nat.div_lt_iff_lt_mul hp).2 (by rw [Nat.mul_comm]; exact h2)
  omega
theorem digit_is (u t : Nat) (h : t < (decDigits u).length) : (((decDigits u)[t]).toNat : Int) = 48 + (dgt u t : Int) := by
  have hd := dgt_le u t
  have e : (decDigits u)[t] = dg u (nDigits u - 1 - t) := by
    simp only [decDigits_eq u, List.getElem_map, List.getElem_range]
  rw [e]
  unfold dg
  rw [UInt8.toNat_ofNat_of_lt' (by show 48 + u / 10 ^ (nDigits u - 1 - t) % 10 < 256; omega)]
  show ((48 + dgt u t : Nat) : Int) = _
  omega
end Go.Proofs.Qxb6606012aFmt.Dec
