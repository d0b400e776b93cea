/-
  PLAIN: whole numbers as floats; a float cut to a whole number; r * n for r below 1.
-/
import Derived.Test.Qxb6601637aModsFlC
namespace Go.Proofs.Qxb6601637aMods.draw.Fl
open Ieee

/-- What is held to be at least 0, and is no NaN, is on a rung. -/
theorem nn_of_order {b : Nat} (hb : b < 18446744073709551616) (h0 : double.order b 0 = some .gt ∨ double.order b 0 = some .eq) : ∃ R, Nn b R := by
  have hz : double.read 0 = .number false 0 (-1074) := by decide
  by_cases h1 : b ≤ 9218868437227405312
  · exact ⟨b, Nn.mk h1⟩
  by_cases h2 : b = 9223372036854775808
  · exact ⟨0, Nat.zero_le _, .inr ⟨h2, rfl⟩⟩
  exfalso
  unfold Format.order at h0
  rw [hz] at h0
  by_cases h3 : b < 9223372036854775808
  · have hr : ∃ f, double.read b = .nan false f := by
      unfold Format.read
      simp only [signWeight_eq, binade_eq, infRung_eq, leastPlace_eq]
      rw [show b / 9223372036854775808 = 0 by omega, show b % 9223372036854775808 = b by omega, if_neg (by omega), if_neg (by omega), if_neg (by omega)]
      exact ⟨_, rfl⟩
    obtain ⟨f, hr⟩ := hr
    rw [hr] at h0
    simp [Datum.order] at h0
  · have hr : (∃ m i, double.read b = .number true m i ∧ 0 < m) ∨ double.read b = .infinity true ∨ ∃ f, double.read b = .nan true f := by
      unfold Format.read
      simp only [signWeight_eq, binade_eq, infRung_eq, leastPlace_eq]
      rw [show b / 9223372036854775808 = 1 by omega]
      by_cases c1 : b % 9223372036854775808 < 4503599627370496
      · rw [if_pos c1]
        exact .inl ⟨_, _, rfl, by omega⟩
      · rw [if_neg c1]
        by_cases c2 : b % 9223372036854775808 < 9218868437227405312
        · rw [if_pos c2]
          exact .inl ⟨_, _, rfl, by omega⟩
        · rw [if_neg c2]
          by_cases c3 : b % 9223372036854775808 = 9218868437227405312
          · rw [if_pos c3]
            exact .inr (.inl rfl)
          · rw [if_neg c3]
            exact .inr (.inr ⟨_, rfl⟩)
    rcases hr with ⟨m, i, hr, hm⟩ | hr | ⟨f, hr⟩
    · rw [hr] at h0
      simp only [Datum.order] at h0
      have hs : signed true m (i - min i (-1074)).toNat < 0 := by
        unfold signed
        rw [if_pos rfl, Nat.shiftLeft_eq]
        have : 0 < m * 2 ^ (i - min i (-1074)).toNat := Nat.mul_pos hm (Nat.two_pow_pos _)
        omega
      have hz2 : signed false 0 (-1074 - min i (-1074)).toNat = 0 := by simp [signed]
      rw [hz2, cmp_int, if_pos hs] at h0
      simp at h0
    · rw [hr] at h0
      simp [Datum.order] at h0
    · rw [hr] at h0
      simp [Datum.order] at h0

/-- A small whole number times a power of two lies on a rung. -/
theorem rep (j e0 : Nat) (h1 : 1 ≤ j) (h2 : j ≤ 131073) (h3 : 52 ≤ e0) :
    ∃ e k, 4503599627370496 ≤ k ∧ k < 9007199254740992 ∧ e ≤ e0 - 35 ∧ e0 ≤ e + 52 ∧ k * 2 ^ e = j * 2 ^ e0 := by
  have hlg : j.log2 ≤ 17 := by
    have : j.log2 < 18 := (Nat.log2_lt (by omega)).2 (by omega)
    omega
  have hlt : j < 2 ^ (j.log2 + 1) := Nat.lt_log2_self
  have hle : 2 ^ j.log2 ≤ j := Nat.log2_self_le (by omega)
  generalize j.log2 = lg at *
  have p53 : (9007199254740992 : Nat) = 2 ^ 53 := by decide
  have p52 : (4503599627370496 : Nat) = 2 ^ 52 := by decide
  refine ⟨e0 - (52 - lg), j * 2 ^ (52 - lg), ?_, ?_, by omega, by omega, ?_⟩
  · rw [p52]
    refine Nat.le_trans ?_ (Nat.mul_le_mul_right _ hle)
    rw [← Nat.pow_add]
    exact Nat.pow_le_pow_right (by omega) (by omega)
  · rw [p53]
    refine Nat.lt_of_lt_of_le (Nat.mul_lt_mul_of_pos_right hlt (Nat.two_pow_pos _)) ?_
    rw [← Nat.pow_add]
    exact Nat.pow_le_pow_right (by omega) (by omega)
  · rw [Nat.mul_assoc, ← Nat.pow_add]
    congr 2
    omega

theorem rep_rung (j e0 : Nat) (h1 : j ≤ 131073) (h3 : 52 ≤ e0) (h4 : e0 ≤ 2071) : ∃ S, S < 9218868437227405312 ∧ Vr S = j * 2 ^ e0 := by
  by_cases hj : j = 0
  · exact ⟨0, by omega, by rw [Vr_zero, hj, Nat.zero_mul]⟩
  · obtain ⟨e, k, hk1, hk2, he, _, hv⟩ := rep j e0 (by omega) h1 h3
    exact ⟨e * 4503599627370496 + k, by omega, by rw [Vr_at e k (.inr hk1) (by omega), hv]⟩

/-- 'float64(g)' is exact. -/
theorem ofNat_nn (g D : Nat) (hD : D = 1074) (h : g ≤ 131073) : ∃ S, Nn (double.write (.number false g 0)) S ∧ S < 9218868437227405312 ∧ Vr S = g * 2 ^ D := by
  obtain ⟨S, hS, hv⟩ := rep_rung g D h (by omega) (by omega)
  obtain ⟨Q, q1, _, q3, q4, _⟩ := write_nn false g 0 0 (by omega) (fun h => by cases h)
  have e : ((0 : Int) + 1074 + ((0 : Nat) : Int)).toNat = D := by omega
  rw [e] at q3 q4
  have a := q3 S hS (by rw [hv]; simp)
  have b := q4 S (by omega) (by rw [hv]; simp)
  obtain rfl : Q = S := by omega
  exact ⟨Q, q1, hS, hv⟩

theorem cut_zero (neg : Bool) (n drop : Nat) : Toward.zero.cut neg n drop = n / 2 ^ drop := by
  unfold Toward.cut
  simp only [Nat.one_shiftLeft, Bool.toNat_false, Nat.add_zero]
  by_cases hd : drop ≤ n.log2 + 2
  · rw [Nat.min_eq_left hd]
  · rw [Nat.min_eq_right (by omega)]
    have h1 : n < 2 ^ (n.log2 + 1) := Nat.lt_log2_self
    have h2 : 2 ^ (n.log2 + 1) ≤ 2 ^ (n.log2 + 2) := Nat.pow_le_pow_right (by omega) (by omega)
    have h3 : 2 ^ (n.log2 + 2) ≤ 2 ^ drop := Nat.pow_le_pow_right (by omega) (by omega)
    rw [Nat.div_eq_of_lt (by omega), Nat.div_eq_of_lt (by omega)]

/-- 'int(y)': y cut towards zero. -/
theorem toInt_nn {y Q : Nat} (D : Nat) (hD : D = 1074) (hy : Nn y Q) (hQ : Q < 9218868437227405312) : (double.read y).toInt .zero = some ((Vr Q / 2 ^ D : Nat) : Int) := by
  obtain ⟨s, m, d, hr, hv, hs⟩ := read_nn hy hQ
  rw [hr]
  simp only [Datum.toInt, Datum.integral, cut_zero]
  have hg : (m <<< (-1074 + (d : Int)).toNat) / 2 ^ (-(-1074 + (d : Int))).toNat = Vr Q / 2 ^ D := by
    rw [Nat.shiftLeft_eq, ← hv]
    by_cases h : d ≤ D
    · rw [show (-1074 + (d : Int)).toNat = 0 by omega, show (-(-1074 + (d : Int))).toNat = D - d by omega, Nat.pow_zero, Nat.mul_one]
      rw [show (2 : Nat) ^ D = 2 ^ (D - d) * 2 ^ d by rw [← Nat.pow_add]; congr 1; omega]
      exact (Nat.mul_div_mul_right _ _ (Nat.two_pow_pos d)).symm
    · rw [show (-1074 + (d : Int)).toNat = d - D by omega, show (-(-1074 + (d : Int))).toNat = 0 by omega, Nat.pow_zero, Nat.div_one]
      rw [show (2 : Nat) ^ d = 2 ^ (d - D) * 2 ^ D by rw [← Nat.pow_add]; congr 1; omega, ← Nat.mul_assoc]
      exact (Nat.mul_div_cancel _ (Nat.two_pow_pos D)).symm
  rw [hg, signed_eq s _ 0 (fun h => by rw [← hg, hs h]; simp)]
  simp

/-- r * n stays below n, for r below 1. -/
theorem mul_below (r R n D : Nat) (hD : D = 1074) (hr : Nn r R) (hR : R < 4607182418800017408) (hn1 : 1 ≤ n) (hn : n ≤ 131072) :
    ∃ y Q, double.mul r (double.write (.number false n 0)) = some y ∧ Nn y Q ∧ Q < 9218868437227405312 ∧ Vr Q < n * 2 ^ D := by
  obtain ⟨S, hS, hSi, hSv⟩ := ofNat_nn n D hD (by omega)
  obtain ⟨e, k, hk1, hk2, he1, he2, hkv⟩ := rep n D hn1 (by omega) (by omega)
  have hSe : S = e * 4503599627370496 + k := by
    have hv2 : Vr (e * 4503599627370496 + k) = n * 2 ^ D := by rw [Vr_at e k (.inr hk1) (by omega), hkv]
    have a1 := Vr_lt_iff S (e * 4503599627370496 + k)
    have a2 := Vr_lt_iff (e * 4503599627370496 + k) S
    omega
  obtain ⟨s, m, d, h1, hv, hs⟩ := read_nn hr (by omega)
  obtain ⟨u, mn, c, h2, hv2, hu⟩ := read_nn hS hSi
  unfold Format.mul
  rw [h1, h2]
  simp only [Datum.product, Option.map_some]
  obtain ⟨Q, q1, _, _, _, q5⟩ := write_nn (s ^^ u) (m * mn) (-1074 + (d : Int) + (-1074 + (c : Int))) D (by omega) (by
    intro hx
    cases s
    · cases u
      · cases hx
      · rw [hu rfl, Nat.mul_zero]
    · rw [hs rfl, Nat.zero_mul])
  have ep : (-1074 + (d : Int) + (-1074 + (c : Int)) + 1074 + (D : Int)).toNat = d + c := by omega
  rw [ep] at q5
  have hX : m * mn * 2 ^ (d + c) = Vr R * n * 2 ^ D := by
    rw [Nat.mul_assoc (Vr R), ← hSv, ← hv, ← hv2, Nat.pow_add]
    rw [Nat.mul_assoc, Nat.mul_assoc, Nat.mul_left_comm mn]
  rw [hX] at q5
  have hQ : Q ≤ S - 1 := by
    refine q5 (S - 1) (by omega) ?_
    rw [show S - 1 + 1 = S by omega, ← Nat.mul_assoc]
    refine Nat.mul_lt_mul_of_pos_right ?_ (Nat.two_pow_pos D)
    -- r is at most the number below 1
    have hVR : Vr R ≤ 9007199254740991 * 2 ^ (D - 53) := by
      rw [← Vr_at (D - 53) 9007199254740991 (.inr (by omega)) (by omega)]
      exact Vr_mono (by omega)
    have hM : 9007199254740992 * (n * 2 ^ (D - 53)) = k * 2 ^ e := by
      have p53 : (9007199254740992 : Nat) = 2 ^ 53 := by decide
      rw [hkv, show (2 : Nat) ^ D = 2 ^ (D - 53) * 2 ^ 53 by rw [← Nat.pow_add]; congr 1; omega, ← Nat.mul_assoc n, p53]
      exact Nat.mul_comm _ _
    have hVn : Vr R * n ≤ 9007199254740991 * (n * 2 ^ (D - 53)) := by
      refine Nat.le_trans (Nat.mul_le_mul_right n hVR) ?_
      rw [Nat.mul_assoc, Nat.mul_comm (2 ^ (D - 53)) n]
      exact Nat.le_refl _
    generalize n * 2 ^ (D - 53) = M at *
    generalize Vr R * n = Z at *
    rw [hSv, ← hkv, hSe]
    by_cases hkB : 4503599627370496 ≤ k - 1
    · rw [show e * 4503599627370496 + k - 1 = e * 4503599627370496 + (k - 1) by omega, Vr_at e (k - 1) (.inr hkB) (by omega)]
      have hk : (k - 1) * 2 ^ e + 2 ^ e = k * 2 ^ e := by rw [← Nat.succ_mul]; congr 1; omega
      have hb : 4503599627370497 * 2 ^ e ≤ k * 2 ^ e := Nat.mul_le_mul_right _ (by omega)
      have hp : 0 < 2 ^ e := Nat.two_pow_pos e
      omega
    · obtain rfl : k = 4503599627370496 := by omega
      rw [show e * 4503599627370496 + 4503599627370496 - 1 = (e - 1) * 4503599627370496 + 9007199254740991 by omega, Vr_at (e - 1) 9007199254740991 (.inr (by omega)) (by omega)]
      have hpe : 2 ^ e = 2 * 2 ^ (e - 1) := by rw [← Nat.pow_succ']; congr 1; omega
      have hp : 0 < 2 ^ (e - 1) := Nat.two_pow_pos _
      rw [hpe] at hM ⊢
      omega
  exact ⟨_, Q, rfl, q1, by omega, by rw [← hSv]; exact Vr_lt (by omega)⟩

end Go.Proofs.Qxb6601637aMods.draw.Fl
