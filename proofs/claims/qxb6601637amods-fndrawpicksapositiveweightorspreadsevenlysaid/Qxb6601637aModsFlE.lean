/-
  PLAIN, IN THE MODEL's WORDS: 'floatBits', 'floatOfInt', 'floatToIntVal' on floats that are not negative.
-/
import Derived.Test.Qxb6601637aModsFlD
import Derived.Laws.FloatArith
namespace Go.Proofs.Qxb6601637aMods.draw.Fl
open Ieee

/-- The rung of a float that is not negative. -/
def rung (b : Nat) : Nat := if b = 9223372036854775808 then 0 else b

theorem Nn.rung {b R : Nat} (h : Nn b R) : rung b = R := by
  unfold Fl.rung
  rcases h.2 with rfl | ⟨rfl, rfl⟩
  · rw [if_neg (by have := h.1; omega)]
  · rw [if_pos rfl]

/-- A float that is not negative, and no NaN. -/
def Ok (b : Nat) : Prop := Nn b (rung b)

theorem Nn.ok {b R : Nat} (h : Nn b R) : Ok b := by unfold Ok; rw [h.rung]; exact h

theorem ok_zero : Ok 0 := ⟨Nat.zero_le _, .inl rfl⟩
theorem rung_zero : rung 0 = 0 := rfl
theorem ok_const {b : Nat} (h : b ≤ 9218868437227405312) : Ok b ∧ rung b = b := by
  have := (Nn.mk h)
  exact ⟨this.ok, this.rung⟩

theorem order_ok {a b : Nat} (ha : Ok a) (hb : Ok b) : FloatKind.f64.format.order a b = some (compare (rung a) (rung b)) := order_nn ha hb

theorem order_lt {a b : Nat} (ha : Ok a) (hb : Ok b) (h : rung a < rung b) : FloatKind.f64.format.order a b = some .lt := by
  rw [order_ok ha hb, cmp_nat, if_pos h]
theorem order_eq {a b : Nat} (ha : Ok a) (hb : Ok b) (h : rung a = rung b) : FloatKind.f64.format.order a b = some .eq := by
  rw [order_ok ha hb, cmp_nat, if_neg (by omega), if_pos h]
theorem order_gt {a b : Nat} (ha : Ok a) (hb : Ok b) (h : rung b < rung a) : FloatKind.f64.format.order a b = some .gt := by
  rw [order_ok ha hb, cmp_nat, if_neg (by omega), if_neg (by omega)]

theorem ok_of_order {b : Nat} (hb : b < 18446744073709551616) (h0 : FloatKind.f64.format.order b 0 = some .gt ∨ FloatKind.f64.format.order b 0 = some .eq) : Ok b := by
  obtain ⟨R, hR⟩ := nn_of_order hb h0
  exact hR.ok

theorem rung_le_of_order {a b : Nat} (ha : Ok a) (hb : Ok b) (h : FloatKind.f64.format.order a b = some .lt ∨ FloatKind.f64.format.order a b = some .eq) : rung a ≤ rung b := by
  by_cases hc : rung a ≤ rung b
  · exact hc
  · rw [order_gt ha hb (by omega)] at h
    simp at h
theorem rung_lt_of_order {a b : Nat} (ha : Ok a) (hb : Ok b) (h : FloatKind.f64.format.order a b = some .lt) : rung a < rung b := by
  by_cases hc : rung a < rung b
  · exact hc
  · by_cases he : rung a = rung b
    · rw [order_eq ha hb he] at h; simp at h
    · rw [order_gt ha hb (by omega)] at h; simp at h

/-- The value of 1e300 is not above 2^997. -/
theorem big_le (E : Nat) (hE : E = 2071) : Vr 9094988921128908188 ≤ 2 ^ E := by
  have h := Vr_at (E - 53) 9007199254740992 (.inr (by omega)) (by omega)
  have p53 : (9007199254740992 : Nat) = 2 ^ 53 := by decide
  have e : 9007199254740992 * 2 ^ (E - 53) = 2 ^ E := by rw [p53, ← Nat.pow_add, show 53 + (E - 53) = E by omega]
  rw [e] at h
  rw [← h]
  exact Vr_mono (by omega)

/-- WHAT THE SUM OF THE FIRST k WEIGHTS IS: finite; not below any of them; zero where they are. -/
structure Sum (W : Nat → Nat) (k tb : Nat) : Prop where
  ok : Ok tb
  fin : rung tb < 9218868437227405312
  bound : ∀ E, E = 2071 → Vr (rung tb) ≤ k * 2 ^ E
  above : ∀ j, j < k → W j ≤ rung tb
  zero : (∀ j, j < k → W j = 0) → rung tb = 0

theorem Sum.start (W : Nat → Nat) : Sum W 0 0 :=
  ⟨ok_zero, by rw [rung_zero]; omega, fun E _ => by rw [rung_zero, Vr_zero]; omega, fun j hj => by omega, fun _ => rfl⟩

theorem Sum.step {W : Nat → Nat} {k tb wb : Nat} (h : Sum W k tb) (hk : k < 131072) (hw : Ok wb) (hW : rung wb = W k) (hle : W k ≤ 9094988921128908188) :
    ∃ c, floatBits .add .f64 tb wb = some c ∧ Sum W (k + 1) c := by
  obtain ⟨c, Q, h1, h2, h3, h4, h5⟩ := add_nn h.ok hw h.fin (by omega)
  have hsum : ∀ E, E = 2071 → Vr (rung tb) + Vr (rung wb) ≤ (k + 1) * 2 ^ E := by
    intro E hE
    have a := h.bound E hE
    have b := Nat.le_trans (Vr_mono hle) (big_le E hE)
    rw [hW, Nat.add_mul, Nat.one_mul]
    omega
  obtain ⟨T, hT, hTv⟩ := rep_rung (k + 1) 2071 (by omega) (by omega) (Nat.le_refl _)
  have hQT := h3 T hT (by rw [hTv]; exact hsum 2071 rfl)
  refine ⟨c, h1, h2.ok, by rw [h2.rung]; omega, ?_, ?_, ?_⟩
  · intro E hE
    subst hE
    rw [h2.rung, ← hTv]
    exact Vr_mono hQT
  · intro j hj
    rw [h2.rung]
    by_cases e : j = k
    · subst e; omega
    · have := h.above j (by omega); omega
  · intro hz
    rw [h2.rung]
    have z1 := h.zero (fun j hj => hz j (by omega))
    have z2 := hz k (by omega)
    have := h3 0 (by omega) (by rw [z1, hW, z2, Vr_zero]; omega)
    omega

theorem sub_ok {x w : Nat} (hx : Ok x) (hw : Ok w) (hf : rung w < 9218868437227405312) (hle : rung w ≤ rung x) : ∃ c, floatBits .sub .f64 x w = some c ∧ Ok c ∧ (rung x = 0 → rung c = 0) := by
  obtain ⟨c, Q, h1, h2, h3⟩ := sub_nn hx hw hf hle
  exact ⟨c, h1, h2.ok, fun h => by rw [h2.rung]; exact h3 h⟩

theorem mul_ok {r t : Nat} (hr : Ok r) (ht : Ok t) (hR : rung r < 9218868437227405312) (hT : rung t < 9218868437227405312) : ∃ c, floatBits .mul .f64 r t = some c ∧ Ok c ∧ (rung r = 0 → rung c = 0) := by
  obtain ⟨c, Q, h1, h2, h3, _⟩ := mul_nn hr ht hR hT
  exact ⟨c, h1, h2.ok, fun h => by rw [h2.rung]; exact h3 h⟩

theorem ofInt_eq (n : Nat) : floatOfInt .f64 (n : Int) = double.write (.number false n 0) := by
  unfold floatOfInt FloatKind.nearest FloatKind.encode
  rw [show decide ((n : Int) < 0) = false by simp, show (n : Int).natAbs = n by simp]
  rfl

/-- THE EVEN SPREAD: y = r * n, g = int(y): g is 0 where n is, else below n; and g ≤ y < g + 1. -/
theorem even (r n : Nat) (hr : Ok r) (hR : rung r < 4607182418800017408) (hn : n ≤ 131072) :
    ∃ y g : Nat, floatBits .mul .f64 r (floatOfInt .f64 (n : Int)) = some y ∧ floatToIntVal .f64 y .i64 = some (g : Int) ∧ g ≤ n ∧ (0 < n → g < n) ∧
      (FloatKind.f64.format.order (floatOfInt .f64 (g : Int)) y = some .lt ∨ FloatKind.f64.format.order (floatOfInt .f64 (g : Int)) y = some .eq) ∧
      FloatKind.f64.format.order y (floatOfInt .f64 ((g + 1 : Nat) : Int)) = some .lt := by
  obtain ⟨D, hD⟩ : ∃ D, D = 1074 := ⟨_, rfl⟩
  have hp : 0 < 2 ^ D := Nat.two_pow_pos D
  have key : ∃ y Q, double.mul r (double.write (.number false n 0)) = some y ∧ Nn y Q ∧ Q < 9218868437227405312 ∧ (Vr Q < n * 2 ^ D ∨ n = 0 ∧ Q = 0) := by
    by_cases h0 : n = 0
    · subst h0
      obtain ⟨S, hS, hSi, hSv⟩ := ofNat_nn 0 D hD (by omega)
      have hS0 : S = 0 := by
        have := Vr_lt_iff 0 S
        rw [Vr_zero, hSv] at this
        omega
      obtain ⟨y, Q, h1, h2, _, h4⟩ := mul_nn hr hS (by omega) hSi
      exact ⟨y, Q, h1, h2, by have := h4 hS0; omega, .inr ⟨rfl, h4 hS0⟩⟩
    · obtain ⟨y, Q, h1, h2, h3, h4⟩ := mul_below r (rung r) n D hD hr hR (by omega) hn
      exact ⟨y, Q, h1, h2, h3, .inl h4⟩
  obtain ⟨y, Q, h1, h2, h3, h4⟩ := key
  have hgn : Vr Q / 2 ^ D ≤ n ∧ (0 < n → Vr Q / 2 ^ D < n) := by
    rcases h4 with h4 | ⟨h4, h5⟩
    · have := (Nat.div_lt_iff_lt_mul hp).2 h4
      omega
    · subst h5
      rw [Vr_zero, Nat.zero_div]
      omega
  have hti := toInt_nn D hD h2 h3
  have hlo : Vr Q / 2 ^ D * 2 ^ D ≤ Vr Q := Nat.div_mul_le_self _ _
  have hhi : Vr Q < (Vr Q / 2 ^ D + 1) * 2 ^ D := by
    have a := Nat.div_add_mod (Vr Q) (2 ^ D)
    have b := Nat.mod_lt (Vr Q) hp
    rw [Nat.add_mul, Nat.one_mul]
    rw [Nat.mul_comm] at a
    omega
  generalize Vr Q / 2 ^ D = g at *
  refine ⟨y, g, by rw [ofInt_eq]; exact h1, ?_, hgn.1, hgn.2, ?_, ?_⟩
  · unfold floatToIntVal
    have hd : FloatKind.f64.decode y = double.read y := rfl
    rw [hd, hti]
    have hmin : IntKind.i64.min ≤ (g : Int) ∧ (g : Int) ≤ IntKind.i64.max := by
      have a : IntKind.i64.min = -9223372036854775808 := by decide
      have b : IntKind.i64.max = 9223372036854775807 := by decide
      omega
    simp only
    rw [if_pos hmin]
  · obtain ⟨S, hS, hSi, hSv⟩ := ofNat_nn g D hD (by omega)
    rw [ofInt_eq]
    have hSQ : S ≤ Q := by
      by_cases h : S ≤ Q
      · exact h
      · have := Vr_lt (r := Q) (s := S) (by omega)
        omega
    have ho : FloatKind.f64.format.order (double.write (.number false g 0)) y = some (compare S Q) := order_nn hS h2
    rw [ho, cmp_nat]
    by_cases he : S = Q
    · right; rw [if_neg (by omega), if_pos he]
    · left; rw [if_pos (by omega)]
  · obtain ⟨S, hS, hSi, hSv⟩ := ofNat_nn (g + 1) D hD (by omega)
    rw [ofInt_eq]
    have ho : FloatKind.f64.format.order y (double.write (.number false (g + 1) 0)) = some (compare Q S) := order_nn h2 hS
    have hQS : Q < S := (Vr_lt_iff Q S).1 (by rw [hSv]; exact hhi)
    rw [ho, cmp_nat, if_pos hQS]

end Go.Proofs.Qxb6601637aMods.draw.Fl
