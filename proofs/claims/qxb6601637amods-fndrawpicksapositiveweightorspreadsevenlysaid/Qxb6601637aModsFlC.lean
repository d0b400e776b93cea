/-
  PLAIN: the floats that are not negative, as rungs: how they are read, held against each other, added, taken from each other, multiplied.
-/
import Derived.Test.Qxb6601637aModsFlB
namespace Go.Proofs.Qxb6601637aMods.draw.Fl
open Ieee

/-- The bits b are a number that is not negative (or the negative zero, or plus infinity), on rung R. -/
def Nn (b R : Nat) : Prop := R ≤ 9218868437227405312 ∧ (b = R ∨ (b = 9223372036854775808 ∧ R = 0))

theorem Nn.mk {R : Nat} (h : R ≤ 9218868437227405312) : Nn R R := ⟨h, .inl rfl⟩

theorem read_nn {b R : Nat} (h : Nn b R) (hf : R < 9218868437227405312) :
    ∃ (s : Bool) (m d : Nat), double.read b = .number s m (-1074 + (d : Int)) ∧ m * 2 ^ d = Vr R ∧ (s = true → m = 0) := by
  rcases h.2 with rfl | ⟨rfl, rfl⟩
  · unfold Format.read
    simp only [signWeight_eq, binade_eq, infRung_eq, leastPlace_eq]
    rw [show b / 9223372036854775808 = 0 by omega, show b % 9223372036854775808 = b by omega]
    by_cases hb : b < 4503599627370496
    · rw [if_pos hb]
      exact ⟨false, b, 0, rfl, by unfold Vr; rw [if_pos hb]; simp, fun h => by cases h⟩
    · rw [if_neg hb, if_pos hf]
      exact ⟨false, _, _, rfl, by unfold Vr; rw [if_neg hb], fun h => by cases h⟩
  · exact ⟨true, 0, 0, by decide, by rw [Vr_zero], fun _ => rfl⟩

theorem read_inf {b : Nat} (h : Nn b 9218868437227405312) : double.read b = .infinity false := by
  rcases h.2 with rfl | ⟨_, h0⟩
  · decide
  · omega

theorem signed_eq (s : Bool) (m up : Nat) (h : s = true → m = 0) : signed s m up = ((m * 2 ^ up : Nat) : Int) := by
  unfold signed
  rw [Nat.shiftLeft_eq]
  cases s
  · rfl
  · rw [h rfl]; simp

theorem cmp_nat (a b : Nat) : compare a b = if a < b then .lt else if a = b then .eq else .gt := rfl
theorem cmp_int (a b : Int) : compare a b = if a < b then .lt else if a = b then .eq else .gt := rfl

/-- Two of them stand as their rungs stand. -/
theorem order_nn {a b R S : Nat} (ha : Nn a R) (hb : Nn b S) : double.order a b = some (compare R S) := by
  unfold Format.order
  by_cases hR : R < 9218868437227405312
  · obtain ⟨s, m, d, hr, hv, hs⟩ := read_nn ha hR
    by_cases hS : S < 9218868437227405312
    · obtain ⟨t, n, c, hr2, hv2, ht⟩ := read_nn hb hS
      rw [hr, hr2]
      simp only [Datum.order]
      rw [signed_eq s m _ hs, signed_eq t n _ ht]
      have e1 : (-1074 + (d : Int) - min (-1074 + (d : Int)) (-1074 + (c : Int))).toNat = d - min d c := by omega
      have e2 : (-1074 + (c : Int) - min (-1074 + (d : Int)) (-1074 + (c : Int))).toNat = c - min d c := by omega
      rw [e1, e2, cmp_int, cmp_nat]
      have v1 : m * 2 ^ (d - min d c) * 2 ^ min d c = Vr R := by rw [← hv, Nat.mul_assoc, ← Nat.pow_add]; congr 2; omega
      have v2 : n * 2 ^ (c - min d c) * 2 ^ min d c = Vr S := by rw [← hv2, Nat.mul_assoc, ← Nat.pow_add]; congr 2; omega
      generalize m * 2 ^ (d - min d c) = x at *
      generalize n * 2 ^ (c - min d c) = y at *
      have hp : 0 < 2 ^ min d c := Nat.two_pow_pos _
      have l1 : x < y ↔ R < S := by rw [← Vr_lt_iff R S, ← v1, ← v2]; exact (Nat.mul_lt_mul_right hp).symm
      have l2 : y < x ↔ S < R := by rw [← Vr_lt_iff S R, ← v1, ← v2]; exact (Nat.mul_lt_mul_right hp).symm
      congr 1
      by_cases h1 : R < S
      · rw [if_pos (by omega), if_pos h1]
      · rw [if_neg (by omega), if_neg h1]
        by_cases h2 : S < R
        · rw [if_neg (by omega), if_neg (by omega)]
        · rw [if_pos (by omega), if_pos (by omega)]
    · obtain rfl : S = 9218868437227405312 := by have := hb.1; omega
      rw [hr, read_inf hb]
      show some Ordering.lt = _
      rw [cmp_nat, if_pos hR]
  · obtain rfl : R = 9218868437227405312 := by have := ha.1; omega
    rw [read_inf ha]
    by_cases hS : S < 9218868437227405312
    · obtain ⟨t, n, c, hr2, hv2, ht⟩ := read_nn hb hS
      rw [hr2]
      show some Ordering.gt = _
      rw [cmp_nat, if_neg (by omega), if_neg (by omega)]
    · obtain rfl : S = 9218868437227405312 := by have := hb.1; omega
      rw [read_inf hb]
      show some Ordering.eq = _
      rw [cmp_nat, if_neg (by omega), if_pos rfl]

/-- A number that is not negative, written: its rung, and between which others it lies. -/
theorem write_nn (neg : Bool) (mag : Nat) (place : Int) (D : Nat) (hp : 0 ≤ place + 1074 + D) (h : neg = true → mag = 0) :
    ∃ Q, Nn (double.write (.number neg mag place)) Q ∧ (mag = 0 → Q = 0) ∧
      (∀ T, T < 9218868437227405312 → mag * 2 ^ (place + 1074 + D).toNat ≤ Vr T * 2 ^ D → Q ≤ T) ∧
      (∀ T, T ≤ 9218868437227405312 → Vr T * 2 ^ D ≤ mag * 2 ^ (place + 1074 + D).toNat → T ≤ Q) ∧
      (∀ S, S < 9218868437227405312 → 2 * (mag * 2 ^ (place + 1074 + D).toNat) < (Vr S + Vr (S + 1)) * 2 ^ D → Q ≤ S) := by
  by_cases hm : mag = 0
  · subst hm
    refine ⟨0, ?_, fun _ => rfl, fun T _ _ => Nat.zero_le _, fun T _ hT => ?_, fun S _ _ => Nat.zero_le _⟩
    · refine ⟨Nat.zero_le _, ?_⟩
      have hw : double.write (.number neg 0 place) = if neg then 9223372036854775808 else 0 := by
        simp [Format.write, Format.nearest, Format.word, signWeight_eq]
      rw [hw]
      cases neg
      · exact .inl rfl
      · exact .inr ⟨rfl, rfl⟩
    · rw [Nat.zero_mul] at hT
      have h0 : Vr T = 0 := by
        rcases Nat.mul_eq_zero.1 (Nat.le_zero.1 hT) with h | h
        · exact h
        · exact absurd h (Nat.ne_of_gt (Nat.two_pow_pos D))
      by_cases ht : T ≤ 0
      · exact ht
      · have := Vr_lt (r := 0) (s := T) (by omega)
        omega
  · obtain rfl : neg = false := by
      cases neg
      · rfl
      · exact absurd (h rfl) hm
    obtain ⟨R, h1, h2, h3, h4⟩ := nearest_bounds mag place D (by omega) hp
    refine ⟨min R 9218868437227405312, ?_, fun h => absurd h hm, fun T hT hX => ?_, fun T hT hX => ?_, fun S hS hX => ?_⟩
    · show Nn (double.nearest false mag place) _
      rw [h1]
      exact Nn.mk (by omega)
    · have := h2 T hX; omega
    · have := h3 T hX; omega
    · have := h4 S hX; omega

/-- '+': not below either, and not above what the exact sum is not above. -/
theorem add_nn {a b R S : Nat} (ha : Nn a R) (hb : Nn b S) (hR : R < 9218868437227405312) (hS : S < 9218868437227405312) :
    ∃ c Q, double.add a b = some c ∧ Nn c Q ∧ (∀ T, T < 9218868437227405312 → Vr R + Vr S ≤ Vr T → Q ≤ T) ∧ R ≤ Q ∧ S ≤ Q := by
  obtain ⟨s, m, d, hr, hv, hs⟩ := read_nn ha hR
  obtain ⟨t, n, c, hr2, hv2, ht⟩ := read_nn hb hS
  unfold Format.add
  rw [hr, hr2]
  simp only [Datum.sum, Option.map_some]
  rw [signed_eq s m _ hs, signed_eq t n _ ht]
  have e1 : (-1074 + (d : Int) - min (-1074 + (d : Int)) (-1074 + (c : Int))).toNat = d - min d c := by omega
  have e2 : (-1074 + (c : Int) - min (-1074 + (d : Int)) (-1074 + (c : Int))).toNat = c - min d c := by omega
  rw [e1, e2]
  have v1 : m * 2 ^ (d - min d c) * 2 ^ min d c = Vr R := by rw [← hv, Nat.mul_assoc, ← Nat.pow_add]; congr 2; omega
  have v2 : n * 2 ^ (c - min d c) * 2 ^ min d c = Vr S := by rw [← hv2, Nat.mul_assoc, ← Nat.pow_add]; congr 2; omega
  generalize m * 2 ^ (d - min d c) = x at *
  generalize n * 2 ^ (c - min d c) = y at *
  have hpl : min (-1074 + (d : Int)) (-1074 + (c : Int)) = -1074 + ((min d c : Nat) : Int) := by omega
  rw [hpl]
  have hab : ((x : Int) + (y : Int)).natAbs = x + y := by omega
  rw [hab]
  obtain ⟨Q, q1, _, q3, q4, _⟩ := write_nn (if (x : Int) + (y : Int) = 0 then s && t else decide ((x : Int) + (y : Int) < 0)) (x + y) (-1074 + ((min d c : Nat) : Int)) 0 (by omega) (by
    intro hneg
    by_cases h0 : (x : Int) + (y : Int) = 0
    · omega
    · rw [if_neg h0, decide_eq_true_eq] at hneg; omega)
  have ep : (-1074 + ((min d c : Nat) : Int) + 1074 + ((0 : Nat) : Int)).toNat = min d c := by omega
  rw [ep] at q3 q4
  simp only [Nat.pow_zero, Nat.mul_one, Nat.add_mul, v1, v2] at q3 q4
  exact ⟨_, Q, rfl, q1, q3, q4 R (by omega) (by omega), q4 S (by omega) (by omega)⟩

/-- '-': of one that is not below the other. -/
theorem sub_nn {x w X W : Nat} (hx : Nn x X) (hw : Nn w W) (hW : W < 9218868437227405312) (hle : W ≤ X) :
    ∃ c Q, double.sub x w = some c ∧ Nn c Q ∧ (X = 0 → Q = 0) := by
  obtain ⟨t, n, c, hr2, hv2, ht⟩ := read_nn hw hW
  unfold Format.sub
  rw [hr2]
  simp only [Datum.opposite]
  by_cases hX : X < 9218868437227405312
  · obtain ⟨s, m, d, hr, hv, hs⟩ := read_nn hx hX
    rw [hr]
    simp only [Datum.sum, Option.map_some]
    have sg : ∀ up, signed (!t) n up = -((n * 2 ^ up : Nat) : Int) := by
      intro up
      unfold signed
      rw [Nat.shiftLeft_eq]
      cases t
      · rfl
      · rw [ht rfl]; simp
    rw [signed_eq s m _ hs, sg]
    have e1 : (-1074 + (d : Int) - min (-1074 + (d : Int)) (-1074 + (c : Int))).toNat = d - min d c := by omega
    have e2 : (-1074 + (c : Int) - min (-1074 + (d : Int)) (-1074 + (c : Int))).toNat = c - min d c := by omega
    rw [e1, e2]
    have v1 : m * 2 ^ (d - min d c) * 2 ^ min d c = Vr X := by rw [← hv, Nat.mul_assoc, ← Nat.pow_add]; congr 2; omega
    have v2 : n * 2 ^ (c - min d c) * 2 ^ min d c = Vr W := by rw [← hv2, Nat.mul_assoc, ← Nat.pow_add]; congr 2; omega
    generalize m * 2 ^ (d - min d c) = a at *
    generalize n * 2 ^ (c - min d c) = b at *
    have hp : 0 < 2 ^ min d c := Nat.two_pow_pos _
    have hba : b ≤ a := by
      have := Vr_mono hle
      rw [← v1, ← v2] at this
      exact Nat.le_of_mul_le_mul_right this hp
    have hpl : min (-1074 + (d : Int)) (-1074 + (c : Int)) = -1074 + ((min d c : Nat) : Int) := by omega
    rw [hpl]
    have hab : ((a : Int) + -(b : Int)).natAbs = a - b := by omega
    rw [hab]
    obtain ⟨Q, q1, q2, _⟩ := write_nn (if (a : Int) + -(b : Int) = 0 then s && !t else decide ((a : Int) + -(b : Int) < 0)) (a - b) (-1074 + ((min d c : Nat) : Int)) 0 (by omega) (by
      intro hneg
      by_cases h0 : (a : Int) + -(b : Int) = 0
      · omega
      · rw [if_neg h0, decide_eq_true_eq] at hneg; omega)
    refine ⟨_, Q, rfl, q1, fun h0 => q2 ?_⟩
    subst h0
    rw [Vr_zero] at v1
    have : a = 0 := by
      rcases Nat.mul_eq_zero.1 v1 with h | h
      · exact h
      · omega
    omega
  · obtain rfl : X = 9218868437227405312 := by have := hx.1; omega
    rw [read_inf hx]
    refine ⟨_, 9218868437227405312, rfl, ?_, fun h => by omega⟩
    have : double.write (.infinity false) = 9218868437227405312 := by decide
    rw [this]
    exact Nn.mk (Nat.le_refl _)

/-- '*'. -/
theorem mul_nn {r t R T : Nat} (hr : Nn r R) (ht : Nn t T) (hR : R < 9218868437227405312) (hT : T < 9218868437227405312) :
    ∃ c Q, double.mul r t = some c ∧ Nn c Q ∧ (R = 0 → Q = 0) ∧ (T = 0 → Q = 0) := by
  obtain ⟨s, m, d, h1, hv, hs⟩ := read_nn hr hR
  obtain ⟨u, n, c, h2, hv2, hu⟩ := read_nn ht hT
  unfold Format.mul
  rw [h1, h2]
  simp only [Datum.product, Option.map_some]
  obtain ⟨Q, q1, q2, _⟩ := write_nn (s ^^ u) (m * n) (-1074 + (d : Int) + (-1074 + (c : Int))) 1074 (by omega) (by
    intro hx
    cases s
    · cases u
      · cases hx
      · rw [hu rfl, Nat.mul_zero]
    · rw [hs rfl, Nat.zero_mul])
  have zero : ∀ (x e : Nat), x * 2 ^ e = 0 → x = 0 := by
    intro x e hx
    rcases Nat.mul_eq_zero.1 hx with h | h
    · exact h
    · exact absurd h (Nat.ne_of_gt (Nat.two_pow_pos e))
  refine ⟨_, Q, rfl, q1, fun h0 => q2 ?_, fun h0 => q2 ?_⟩
  · subst h0
    rw [Vr_zero] at hv
    rw [zero m d hv, Nat.zero_mul]
  · subst h0
    rw [Vr_zero] at hv2
    rw [zero n c hv2, Nat.mul_zero]

end Go.Proofs.Qxb6601637aMods.draw.Fl
