/-
  PLAIN: what 'nearest' gives: the rung found is the one whose neighbourhood holds the number.
-/
import Derived.Test.Qxb6601637aModsFlA
namespace Go.Proofs.Qxb6601637aMods.draw.Fl
open Ieee

/-- The facts on the place that is kept. 'N / 2^drop' is the number in units of the last digit kept, which is 'e' places above the least. -/
theorem places (mag : Nat) (place : Int) (D : Nat) (hm : 0 < mag) (hp : 0 ≤ place + 1074 + D) (last : Int) (hlast : last = max (place + mag.log2 - 52) (-1074)) :
    (mag * 2 ^ (place + 1074 + D).toNat) * 2 ^ (last - place).toNat = (mag <<< (place - last).toNat) * 2 ^ ((last + 1074).toNat + D) ∧
    mag <<< (place - last).toNat < 9007199254740992 * 2 ^ (last - place).toNat ∧
    (0 < (last + 1074).toNat → 4503599627370496 * 2 ^ (last - place).toNat ≤ mag <<< (place - last).toNat) := by
  have hlt : mag < 2 ^ (mag.log2 + 1) := Nat.lt_log2_self
  have hle : 2 ^ mag.log2 ≤ mag := Nat.log2_self_le (by omega)
  generalize mag.log2 = lg at *
  rw [Nat.shiftLeft_eq]
  have p53 : (9007199254740992 : Nat) = 2 ^ 53 := by decide
  have p52 : (4503599627370496 : Nat) = 2 ^ 52 := by decide
  rw [p53, p52]
  refine ⟨?_, ?_, ?_⟩
  · rw [Nat.mul_assoc, Nat.mul_assoc, ← Nat.pow_add, ← Nat.pow_add]
    congr 2
    omega
  · rw [← Nat.pow_add]
    refine Nat.lt_of_lt_of_le (Nat.mul_lt_mul_of_pos_right hlt (Nat.two_pow_pos _)) ?_
    rw [← Nat.pow_add]
    exact Nat.pow_le_pow_right (by omega) (by omega)
  · intro he
    rw [← Nat.pow_add]
    refine Nat.le_trans ?_ (Nat.mul_le_mul_right _ hle)
    rw [← Nat.pow_add]
    exact Nat.pow_le_pow_right (by omega) (by omega)

theorem nearest_spec (mag : Nat) (place : Int) (D : Nat) (hm : 0 < mag) (hp : 0 ≤ place + 1074 + D) :
    ∃ R, double.nearest false mag place = min R 9218868437227405312 ∧
      (∀ S, 2 * (mag * 2 ^ (place + 1074 + D).toNat) < (Vr S + Vr (S + 1)) * 2 ^ D → R ≤ S) ∧
      (∀ S, (Vr S + Vr (S + 1)) * 2 ^ D < 2 * (mag * 2 ^ (place + 1074 + D).toNat) → S + 1 ≤ R) := by
  obtain ⟨last, hlast⟩ : ∃ last : Int, last = max (place + mag.log2 - 52) (-1074) := ⟨_, rfl⟩
  obtain ⟨h1, h2, h3⟩ := places mag place D hm hp last hlast
  have hcut := cut_even false (mag <<< (place - last).toNat) (last - place).toNat
  have hmin : -1074 ≤ last := by omega
  have hnear : double.nearest false mag place = min ((last + 1074).toNat * 4503599627370496 + Toward.even.cut false (mag <<< (place - last).toNat) (last - place).toNat) 9218868437227405312 := by
    unfold Format.nearest
    rw [if_neg (by omega)]
    simp only [leastPlace_eq, binade_eq, infRung_eq, Format.word]
    rw [show ((double.fractionBits : Nat) : Int) = 52 from rfl, ← hlast]
    simp
  generalize Toward.even.cut false (mag <<< (place - last).toNat) (last - place).toNat = k at *
  generalize mag <<< (place - last).toNat = N at *
  generalize (last - place).toNat = drop at *
  generalize (last + 1074).toNat = e at *
  generalize mag * 2 ^ (place + 1074 + ↑D).toNat = X at *
  clear hlast
  have hdp : 0 < 2 ^ drop := Nat.two_pow_pos drop
  have hep : 0 < 2 ^ (e + D) := Nat.two_pow_pos _
  -- the kept number lies where its rung says
  have hk2 : k ≤ 9007199254740992 := by
    by_cases h : k ≤ 9007199254740992
    · exact h
    · have : 9007199254740993 * 2 ^ drop ≤ k * 2 ^ drop := Nat.mul_le_mul_right _ (by omega)
      omega
  have hk1 : e = 0 ∨ 4503599627370496 ≤ k := by
    by_cases he : e = 0
    · exact .inl he
    · right
      by_cases h : 4503599627370496 ≤ k
      · exact h
      · have h4 := h3 (by omega)
        have : k * 2 ^ drop ≤ 4503599627370495 * 2 ^ drop := Nat.mul_le_mul_right _ (by omega)
        omega
  have hVR : Vr (e * 4503599627370496 + k) = k * 2 ^ e := Vr_at e k hk1 hk2
  refine ⟨e * 4503599627370496 + k, hnear, ?_, ?_⟩
  · -- below the middle: not above S
    intro S hS
    by_cases hR : e * 4503599627370496 + k ≤ S
    · exact hR
    exfalso
    have m1 : Vr (S + 1) ≤ Vr (e * 4503599627370496 + k) := Vr_mono (by omega)
    have m2 : Vr S ≤ Vr (e * 4503599627370496 + k - 1) := Vr_mono (by omega)
    -- 2 X is at least the middle below R
    have key : (Vr (e * 4503599627370496 + k - 1) + Vr (e * 4503599627370496 + k)) * 2 ^ D ≤ 2 * X := by
      refine Nat.le_of_mul_le_mul_right (c := 2 ^ drop) ?_ hdp
      rw [Nat.mul_assoc 2 X, h1, hVR]
      by_cases hc : 1 ≤ k ∧ (e = 0 ∨ 4503599627370496 ≤ k - 1)
      · rw [show e * 4503599627370496 + k - 1 = e * 4503599627370496 + (k - 1) by omega, Vr_at e (k - 1) hc.2 (by omega)]
        rw [← Nat.add_mul, Nat.mul_assoc, Nat.mul_assoc, ← Nat.pow_add, ← Nat.pow_add, ← Nat.mul_assoc 2 N]
        rw [show e + (D + drop) = drop + (e + D) by omega, Nat.pow_add, ← Nat.mul_assoc]
        refine Nat.mul_le_mul_right _ ?_
        have : (k - 1 + k) * 2 ^ drop + 2 ^ drop = 2 * (k * 2 ^ drop) := by
          rw [← Nat.succ_mul, ← Nat.mul_assoc]
          congr 1
          omega
        omega
      · have he : 0 < e := by omega
        have hkB : k = 4503599627370496 := by omega
        have h4 := h3 he
        have h5 : Vr (e * 4503599627370496 + k - 1) ≤ k * 2 ^ e := by rw [← hVR]; exact Vr_mono (by omega)
        refine Nat.le_trans (Nat.mul_le_mul_right _ (Nat.mul_le_mul_right _ (Nat.add_le_add_right h5 _))) ?_
        rw [← Nat.two_mul, Nat.mul_assoc, Nat.mul_assoc, Nat.mul_assoc]
        refine Nat.mul_le_mul_left 2 ?_
        rw [← Nat.pow_add, ← Nat.pow_add, show e + (D + drop) = drop + (e + D) by omega, Nat.pow_add, ← Nat.mul_assoc]
        refine Nat.mul_le_mul_right _ ?_
        rw [hkB]
        exact h4
    have := Nat.mul_le_mul_right (2 ^ D) (Nat.add_le_add m2 m1)
    omega
  · -- above the middle: above S
    intro S hS
    by_cases hR : S + 1 ≤ e * 4503599627370496 + k
    · exact hR
    exfalso
    have m1 : Vr (e * 4503599627370496 + k) ≤ Vr S := Vr_mono (by omega)
    have m2 : Vr (e * 4503599627370496 + k + 1) ≤ Vr (S + 1) := Vr_mono (by omega)
    have key : 2 * X ≤ (Vr (e * 4503599627370496 + k) + Vr (e * 4503599627370496 + k + 1)) * 2 ^ D := by
      refine Nat.le_of_mul_le_mul_right (c := 2 ^ drop) ?_ hdp
      rw [Nat.mul_assoc 2 X, h1, hVR]
      by_cases hc : k < 9007199254740992
      · rw [Nat.add_assoc, Vr_at e (k + 1) (by omega) (by omega)]
        rw [← Nat.add_mul, Nat.mul_assoc, Nat.mul_assoc, ← Nat.pow_add, ← Nat.pow_add, ← Nat.mul_assoc 2 N]
        rw [show e + (D + drop) = drop + (e + D) by omega, Nat.pow_add 2 drop, ← Nat.mul_assoc]
        refine Nat.mul_le_mul_right _ ?_
        have : (k + (k + 1)) * 2 ^ drop = 2 * (k * 2 ^ drop) + 2 ^ drop := by
          rw [← Nat.mul_assoc, ← Nat.succ_mul]
          congr 1
          omega
        omega
      · have hkB : k = 9007199254740992 := by omega
        have h5 : k * 2 ^ e ≤ Vr (e * 4503599627370496 + k + 1) := by rw [← hVR]; exact Vr_mono (by omega)
        refine Nat.le_trans ?_ (Nat.mul_le_mul_right _ (Nat.mul_le_mul_right _ (Nat.add_le_add_left h5 _)))
        rw [← Nat.two_mul, Nat.mul_assoc 2 (k * 2 ^ e), Nat.mul_assoc 2, Nat.mul_assoc, Nat.mul_assoc]
        refine Nat.mul_le_mul_left 2 ?_
        rw [← Nat.pow_add, ← Nat.pow_add, show e + (D + drop) = drop + (e + D) by omega, Nat.pow_add 2 drop, ← Nat.mul_assoc]
        refine Nat.mul_le_mul_right _ ?_
        rw [hkB]
        omega
    have := Nat.mul_le_mul_right (2 ^ D) (Nat.add_le_add m1 m2)
    omega

/-- Not above a rung's value: not above the rung. -/
theorem nearest_bounds (mag : Nat) (place : Int) (D : Nat) (hm : 0 < mag) (hp : 0 ≤ place + 1074 + D) :
    ∃ R, double.nearest false mag place = min R 9218868437227405312 ∧
      (∀ T, mag * 2 ^ (place + 1074 + D).toNat ≤ Vr T * 2 ^ D → R ≤ T) ∧ (∀ T, Vr T * 2 ^ D ≤ mag * 2 ^ (place + 1074 + D).toNat → T ≤ R) ∧
      (∀ S, 2 * (mag * 2 ^ (place + 1074 + D).toNat) < (Vr S + Vr (S + 1)) * 2 ^ D → R ≤ S) := by
  obtain ⟨R, h1, h2, h3⟩ := nearest_spec mag place D hm hp
  have hDp : 0 < 2 ^ D := Nat.two_pow_pos D
  refine ⟨R, h1, fun T hT => h2 T ?_, fun T hT => ?_, h2⟩
  · have := Nat.mul_lt_mul_of_pos_right (Vr_succ T) hDp
    rw [Nat.add_mul]
    omega
  · cases T with
    | zero => omega
    | succ S =>
      refine h3 S ?_
      have := Nat.mul_lt_mul_of_pos_right (Vr_succ S) hDp
      rw [Nat.add_mul]
      omega

end Go.Proofs.Qxb6601637aMods.draw.Fl
