/-
  PLAIN: floating point, off the model's own core (Ieee): the rungs of the double format and their values; what rounding to nearest gives. No Go in sight.
  'Vr r': the value of rung r in units of 2^-1074.
-/
import Ieee.Arith
namespace Go.Proofs.Qxb6601637aMods.draw.Fl
open Ieee

theorem binade_eq : double.binade = 4503599627370496 := by decide
theorem infRung_eq : double.infRung = 9218868437227405312 := by decide
theorem signWeight_eq : double.signWeight = 9223372036854775808 := by decide
theorem leastPlace_eq : double.leastPlace = -1074 := by decide

def Vr (r : Nat) : Nat := if r < 4503599627370496 then r else (4503599627370496 + r % 4503599627370496) * 2 ^ (r / 4503599627370496 - 1)

theorem Vr_at (e k : Nat) (h : e = 0 ∨ 4503599627370496 ≤ k) (hk : k ≤ 9007199254740992) : Vr (e * 4503599627370496 + k) = k * 2 ^ e := by
  unfold Vr
  by_cases h1 : k < 4503599627370496
  · obtain rfl : e = 0 := by omega
    rw [if_pos (by omega)]
    simp
  · rw [if_neg (by omega)]
    by_cases h2 : k < 9007199254740992
    · rw [show (e * 4503599627370496 + k) % 4503599627370496 = k - 4503599627370496 by omega, show (e * 4503599627370496 + k) / 4503599627370496 - 1 = e by omega, show 4503599627370496 + (k - 4503599627370496) = k by omega]
    · obtain rfl : k = 9007199254740992 := by omega
      rw [show (e * 4503599627370496 + 9007199254740992) % 4503599627370496 = 0 by omega, show (e * 4503599627370496 + 9007199254740992) / 4503599627370496 - 1 = e + 1 by omega, Nat.pow_succ]
      omega

theorem split (r : Nat) : ∃ e k, r = e * 4503599627370496 + k ∧ (e = 0 ∨ 4503599627370496 ≤ k) ∧ k < 9007199254740992 := by
  by_cases h : r < 4503599627370496
  · exact ⟨0, r, by omega, .inl rfl, by omega⟩
  · exact ⟨r / 4503599627370496 - 1, 4503599627370496 + r % 4503599627370496, by omega, .inr (by omega), by omega⟩

theorem Vr_succ (r : Nat) : Vr r < Vr (r + 1) := by
  obtain ⟨e, k, rfl, h, hk⟩ := split r
  rw [Vr_at e k h (by omega), Nat.add_assoc, Vr_at e (k + 1) (by omega) (by omega)]
  exact Nat.mul_lt_mul_of_pos_right (by omega) (Nat.two_pow_pos e)

theorem Vr_add (r d : Nat) : Vr r ≤ Vr (r + d) := by
  induction d with
  | zero => exact Nat.le_refl _
  | succ d ih => exact Nat.le_trans ih (Nat.le_of_lt (Vr_succ (r + d)))

theorem Vr_mono {r s : Nat} (h : r ≤ s) : Vr r ≤ Vr s := by
  have := Vr_add r (s - r)
  rwa [show r + (s - r) = s by omega] at this

theorem Vr_lt {r s : Nat} (h : r < s) : Vr r < Vr s := Nat.lt_of_lt_of_le (Vr_succ r) (Vr_mono h)

theorem Vr_lt_iff (r s : Nat) : Vr r < Vr s ↔ r < s :=
  ⟨fun h => by
    by_cases h1 : r < s
    · exact h1
    · exact absurd (Vr_mono (Nat.le_of_not_lt h1)) (Nat.not_le_of_lt h), Vr_lt⟩

theorem Vr_zero : Vr 0 = 0 := by unfold Vr; rw [if_pos (by omega)]

/-! ### rounding a number to a whole one -/
theorem cut_even (neg : Bool) (n drop : Nat) :
    2 * (Toward.even.cut neg n drop * 2 ^ drop) ≤ 2 * n + 2 ^ drop ∧ 2 * n ≤ 2 * (Toward.even.cut neg n drop * 2 ^ drop) + 2 ^ drop := by
  unfold Toward.cut
  simp only [Nat.one_shiftLeft]
  by_cases hd : drop ≤ n.log2 + 2
  · rw [Nat.min_eq_left hd]
    have hpos : 0 < 2 ^ drop := Nat.two_pow_pos drop
    have hdm := Nat.div_add_mod n (2 ^ drop)
    have hlt := Nat.mod_lt n hpos
    generalize n % 2 ^ drop = rest at *
    generalize n / 2 ^ drop = low at *
    generalize hg : 2 ^ drop = gap at *
    have hcm : gap * low = low * gap := Nat.mul_comm _ _
    by_cases hm : (decide (gap < 2 * rest) || (gap == 2 * rest && low % 2 == 1)) = true
    · rw [hm]
      have h2 : gap ≤ 2 * rest := by
        simp only [Bool.or_eq_true, decide_eq_true_eq, Bool.and_eq_true, beq_iff_eq] at hm
        omega
      simp only [Bool.toNat_true, Nat.add_mul, Nat.one_mul]
      omega
    · have h2 : 2 * rest ≤ gap := by
        simp only [Bool.or_eq_true, decide_eq_true_eq, Bool.and_eq_true, beq_iff_eq] at hm
        omega
      rw [Bool.not_eq_true] at hm
      rw [hm]
      simp only [Bool.toNat_false, Nat.add_zero]
      omega
  · rw [Nat.min_eq_right (by omega)]
    have h1 : n < 2 ^ (n.log2 + 1) := Nat.lt_log2_self
    have h2 : 2 ^ (n.log2 + 2) = 2 * 2 ^ (n.log2 + 1) := by rw [Nat.pow_succ 2 (n.log2 + 1)]; omega
    have h3 : 2 ^ (n.log2 + 2) ≤ 2 ^ drop := Nat.pow_le_pow_right (by omega) (by omega)
    have e1 : n / 2 ^ (n.log2 + 2) = 0 := Nat.div_eq_of_lt (by omega)
    have e2 : n % 2 ^ (n.log2 + 2) = n := Nat.mod_eq_of_lt (by omega)
    rw [e1, e2]
    have hm : (decide (2 ^ (n.log2 + 2) < 2 * n) || (2 ^ (n.log2 + 2) == 2 * n && 0 % 2 == 1)) = false := by
      simp only [Bool.or_eq_false_iff, decide_eq_false_iff_not]
      exact ⟨by omega, by simp⟩
    rw [hm]
    simp only [Bool.toNat_false, Nat.add_zero, Nat.zero_mul, Nat.mul_zero, Nat.zero_add]
    omega

end Go.Proofs.Qxb6601637aMods.draw.Fl
