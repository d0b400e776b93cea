/-
  PLAIN: the parity model, and that stringEnd answers what it answers.
-/
import Derived.Test.Qxb6601502aModsPlain
namespace Go.Proofs.Qxb6601502aMods.strEnd.Plain

/-- How many backslashes stand right before place j. -/
def bs (t : Nat → Int) : Nat → Nat
  | 0 => 0
  | j + 1 => if t j = 92 then bs t j + 1 else 0

/-- That run has odd length. -/
def escB (t : Nat → Int) (j : Nat) : Bool := bs t j % 2 == 1

def msgl (t : Nat → Int) (n : Nat) (m : Int) (esc : Bool) : Nat → Nat → Nat
  | 0, _ => n
  | f + 1, j => if j < n then (if t j = m ∧ ¬ (esc = true ∧ escB t j = true) then j + 1 else msgl t n m esc f (j + 1)) else n

def mtpl (t : Nat → Int) (n : Nat) (m : Int) (esc : Bool) : Nat → Nat → Nat
  | 0, _ => n
  | f + 1, j => if j + 2 < n then (if t j = m ∧ t (j + 1) = m ∧ t (j + 2) = m ∧ ¬ (esc = true ∧ escB t j = true) then runE t n m n (j + 3) else mtpl t n m esc f (j + 1)) else n

/-- What the model answers. -/
def seMod (t : Nat → Int) (n s : Nat) : Nat :=
  if three t n s = true then mtpl t n (t s) (t s == 34) (n + 1) (s + 3) else msgl t n (t s) (t s == 34) (n + 1) (s + 1)

theorem seMod_pos (t : Nat → Int) (n s : Nat) (h : three t n s = true) : seMod t n s = mtpl t n (t s) (t s == 34) (n + 1) (s + 3) := by unfold seMod; rw [if_pos h]
theorem seMod_neg (t : Nat → Int) (n s : Nat) (h : ¬ three t n s = true) : seMod t n s = msgl t n (t s) (t s == 34) (n + 1) (s + 1) := by unfold seMod; rw [if_neg h]

theorem msgl_out (t : Nat → Int) (n : Nat) (m : Int) (esc : Bool) (f i : Nat) (h : n ≤ i) : msgl t n m esc f i = n := by
  cases f with
  | zero => rfl
  | succ f => simp only [msgl]; rw [if_neg (by omega)]

theorem mtpl_out (t : Nat → Int) (n : Nat) (m : Int) (esc : Bool) (f i : Nat) (h : n ≤ i + 2) : mtpl t n m esc f i = n := by
  cases f with
  | zero => rfl
  | succ f => simp only [mtpl]; rw [if_neg (by omega)]

theorem msgl_fuel (t : Nat → Int) (n : Nat) (m : Int) (esc : Bool) : ∀ (f g i : Nat), n ≤ i + f → n ≤ i + g → msgl t n m esc f i = msgl t n m esc g i := by
  intro f
  induction f with
  | zero => intro g i h _; rw [msgl_out _ _ _ _ _ _ (by omega), msgl_out _ _ _ _ _ _ (by omega)]
  | succ f ih =>
    intro g i h hg
    cases g with
    | zero => rw [msgl_out _ _ _ _ _ _ (by omega), msgl_out _ _ _ _ _ _ (by omega)]
    | succ g =>
      simp only [msgl]
      rw [ih g (i + 1) (by omega) (by omega)]

theorem mtpl_fuel (t : Nat → Int) (n : Nat) (m : Int) (esc : Bool) : ∀ (f g i : Nat), n ≤ i + f → n ≤ i + g → mtpl t n m esc f i = mtpl t n m esc g i := by
  intro f
  induction f with
  | zero => intro g i h _; rw [mtpl_out _ _ _ _ _ _ (by omega), mtpl_out _ _ _ _ _ _ (by omega)]
  | succ f ih =>
    intro g i h hg
    cases g with
    | zero => rw [mtpl_out _ _ _ _ _ _ (by omega), mtpl_out _ _ _ _ _ _ (by omega)]
    | succ g =>
      simp only [mtpl]
      rw [ih g (i + 1) (by omega) (by omega)]

/-! ### steps at the walks' fuel -/
theorem msgl_hit (t : Nat → Int) (n : Nat) (m : Int) (esc : Bool) (j : Nat) (hj : j < n) (h : t j = m ∧ ¬ (esc = true ∧ escB t j = true)) : msgl t n m esc (n + 1) j = j + 1 := by
  simp only [msgl]; rw [if_pos hj, if_pos h]
theorem msgl_miss (t : Nat → Int) (n : Nat) (m : Int) (esc : Bool) (j : Nat) (hj : j < n) (h : ¬ (t j = m ∧ ¬ (esc = true ∧ escB t j = true))) : msgl t n m esc (n + 1) j = msgl t n m esc (n + 1) (j + 1) := by
  rw [show msgl t n m esc (n + 1) j = msgl t n m esc n (j + 1) by simp only [msgl]; rw [if_pos hj, if_neg h]]
  exact msgl_fuel _ _ _ _ _ _ _ (by omega) (by omega)
theorem mtpl_hit (t : Nat → Int) (n : Nat) (m : Int) (esc : Bool) (j : Nat) (hj : j + 2 < n) (h : t j = m ∧ t (j + 1) = m ∧ t (j + 2) = m ∧ ¬ (esc = true ∧ escB t j = true)) : mtpl t n m esc (n + 1) j = runE t n m n (j + 3) := by
  simp only [mtpl]; rw [if_pos hj, if_pos h]
theorem mtpl_miss (t : Nat → Int) (n : Nat) (m : Int) (esc : Bool) (j : Nat) (hj : j + 2 < n) (h : ¬ (t j = m ∧ t (j + 1) = m ∧ t (j + 2) = m ∧ ¬ (esc = true ∧ escB t j = true))) : mtpl t n m esc (n + 1) j = mtpl t n m esc (n + 1) (j + 1) := by
  rw [show mtpl t n m esc (n + 1) j = mtpl t n m esc n (j + 1) by simp only [mtpl]; rw [if_pos hj, if_neg h]]
  exact mtpl_fuel _ _ _ _ _ _ _ (by omega) (by omega)

/-! ### the two roads agree -/
theorem bs_yes (t : Nat → Int) (j : Nat) (h : t j = 92) : bs t (j + 1) = bs t j + 1 := by simp only [bs]; rw [if_pos h]
theorem bs_no (t : Nat → Int) (j : Nat) (h : t j ≠ 92) : bs t (j + 1) = 0 := by simp only [bs]; rw [if_neg h]

theorem bs_two (t : Nat → Int) (i : Nat) (h : t i = 92) (he : bs t i % 2 = 0) : bs t (i + 2) % 2 = 0 := by
  by_cases h1 : t (i + 1) = 92
  · rw [bs_yes t (i + 1) h1, bs_yes t i h]; omega
  · rw [bs_no t (i + 1) h1]

theorem escB_even {t : Nat → Int} {j : Nat} (h : bs t j % 2 = 0) : escB t j = false := by simp [escB, h]
theorem escB_odd {t : Nat → Int} {j : Nat} (h : bs t j % 2 = 1) : escB t j = true := by simp [escB, h]

theorem sgl_msgl (t : Nat → Int) (n : Nat) (m : Int) (esc : Bool) : ∀ (f i g : Nat), n ≤ i + f → n ≤ i + g → (esc = true → m ≠ 92 ∧ bs t i % 2 = 0) → sgl t n m esc f i = msgl t n m esc g i := by
  intro f
  induction f with
  | zero => intro i g h _ _; rw [sgl_out _ _ _ _ _ _ (by omega), msgl_out _ _ _ _ _ _ (by omega)]
  | succ f ih =>
    intro i g h hg he
    by_cases hi : i < n
    · obtain ⟨g, rfl⟩ : ∃ g', g = g' + 1 := ⟨g - 1, by omega⟩
      by_cases hm : t i = m
      · have hne : ¬ (esc = true ∧ escB t i = true) := by
          rintro ⟨h1, h2⟩
          rw [escB_even (he h1).2] at h2
          cases h2
        simp only [sgl, msgl]
        rw [if_pos hi, if_pos hi, if_pos hm, if_pos ⟨hm, hne⟩]
      · have hr : msgl t n m esc (g + 1) i = msgl t n m esc g (i + 1) := by
          simp only [msgl]; rw [if_pos hi, if_neg (fun h => hm h.1)]
        rw [hr]
        by_cases hb : t i = 92 ∧ esc = true
        · have hl : sgl t n m esc (f + 1) i = sgl t n m esc f (i + 2) := by simp only [sgl]; rw [if_pos hi, if_neg hm, if_pos hb]
          rw [hl]
          have heven := (he hb.2).2
          by_cases hi1 : i + 1 < n
          · obtain ⟨g, rfl⟩ : ∃ g', g = g' + 1 := ⟨g - 1, by omega⟩
            have hodd : escB t (i + 1) = true := escB_odd (by rw [bs_yes t i hb.1]; omega)
            have hr2 : msgl t n m esc (g + 1) (i + 1) = msgl t n m esc g (i + 2) := by
              simp only [msgl]; rw [if_pos hi1, if_neg (fun h => h.2 ⟨hb.2, hodd⟩)]
            rw [hr2]
            exact ih (i + 2) g (by omega) (by omega) (fun h => ⟨(he h).1, bs_two t i hb.1 heven⟩)
          · rw [sgl_out _ _ _ _ _ _ (by omega), msgl_out _ _ _ _ _ _ (by omega)]
        · have hl : sgl t n m esc (f + 1) i = sgl t n m esc f (i + 1) := by simp only [sgl]; rw [if_pos hi, if_neg hm, if_neg hb]
          rw [hl]
          exact ih (i + 1) g (by omega) (by omega) (fun h => ⟨(he h).1, by rw [bs_no t i (fun h9 => hb ⟨h9, h⟩)]⟩)
    · rw [sgl_out _ _ _ _ _ _ (by omega), msgl_out _ _ _ _ _ _ (by omega)]

theorem run_three (t : Nat → Int) (n : Nat) (m : Int) (i : Nat) (hi : i < n) (hm : t i = m) : i + 3 ≤ runE t n m n i ↔ (i + 2 < n ∧ t (i + 1) = m ∧ t (i + 2) = m) := by
  obtain ⟨a, b, c, d⟩ := runE_is t n m n i (by omega) (by omega)
  constructor
  · intro h
    exact ⟨by omega, c _ (by omega) (by omega), c _ (by omega) (by omega)⟩
  · rintro ⟨h1, h2, h3⟩
    by_cases hlt : runE t n m n i < i + 3
    · refine absurd ?_ (d (by omega))
      rcases (show runE t n m n i = i ∨ runE t n m n i = i + 1 ∨ runE t n m n i = i + 2 by omega) with e | e | e <;> rw [e] <;> assumption
    · omega

theorem run_skip (t : Nat → Int) (n : Nat) (m : Int) (i : Nat) (hm : t i = m) (h : i + 2 < n ∧ t (i + 1) = m ∧ t (i + 2) = m) : runE t n m n i = runE t n m n (i + 3) := by
  rw [runE_step t n m i (by omega) hm, runE_step t n m (i + 1) (by omega) h.2.1, runE_step t n m (i + 2) (by omega) h.2.2]

theorem tpl_mtpl (t : Nat → Int) (n : Nat) (m : Int) (esc : Bool) : ∀ (f i g : Nat), n ≤ i + f → n ≤ i + g → (esc = true → m ≠ 92 ∧ bs t i % 2 = 0) → tpl t n m esc f i = mtpl t n m esc g i := by
  intro f
  induction f with
  | zero => intro i g h _ _; rw [tpl_out _ _ _ _ _ _ (by omega), mtpl_out _ _ _ _ _ _ (by omega)]
  | succ f ih =>
    intro i g h hg he
    by_cases hi : i < n
    · obtain ⟨g, rfl⟩ : ∃ g', g = g' + 1 := ⟨g - 1, by omega⟩
      by_cases hb : t i = 92 ∧ esc = true
      · have hl : tpl t n m esc (f + 1) i = tpl t n m esc f (i + 2) := by simp only [tpl]; rw [if_pos hi, if_pos hb]
        rw [hl]
        have heven := (he hb.2).2
        have hne : t i ≠ m := fun e => (he hb.2).1 (e.symm.trans hb.1)
        by_cases hi2 : i + 2 < n
        · have hr : mtpl t n m esc (g + 1) i = mtpl t n m esc g (i + 1) := by
            simp only [mtpl]; rw [if_pos hi2, if_neg (fun h => hne h.1)]
          rw [hr]
          obtain ⟨g, rfl⟩ : ∃ g', g = g' + 1 := ⟨g - 1, by omega⟩
          have hodd : escB t (i + 1) = true := escB_odd (by rw [bs_yes t i hb.1]; omega)
          rw [ih (i + 2) g (by omega) (by omega) (fun h => ⟨(he h).1, bs_two t i hb.1 heven⟩)]
          by_cases hi3 : i + 1 + 2 < n
          · simp only [mtpl]; rw [if_pos hi3, if_neg (fun h => h.2.2.2 ⟨hb.2, hodd⟩)]
          · rw [mtpl_out _ _ _ _ _ _ (by omega), mtpl_out _ _ _ _ _ _ (by omega)]
        · rw [tpl_out _ _ _ _ _ _ (by omega), mtpl_out _ _ _ _ _ _ (by omega)]
      · have henext : esc = true → m ≠ 92 ∧ bs t (i + 1) % 2 = 0 := fun h => ⟨(he h).1, by rw [bs_no t i (fun h9 => hb ⟨h9, h⟩)]⟩
        have hne : ¬ (esc = true ∧ escB t i = true) := by
          rintro ⟨h1, h2⟩
          rw [escB_even (he h1).2] at h2
          cases h2
        by_cases hm : t i = m
        · by_cases h3 : i + 3 ≤ runE t n m n i
          · have h3' := (run_three t n m i hi hm).1 h3
            have hl : tpl t n m esc (f + 1) i = runE t n m n i := by simp only [tpl]; rw [if_pos hi, if_neg hb, if_pos hm, if_pos h3]
            have hr : mtpl t n m esc (g + 1) i = runE t n m n (i + 3) := by
              simp only [mtpl]; rw [if_pos h3'.1, if_pos ⟨hm, h3'.2.1, h3'.2.2, hne⟩]
            rw [hl, hr, run_skip t n m i hm h3']
          · have hl : tpl t n m esc (f + 1) i = tpl t n m esc f (i + 1) := by simp only [tpl]; rw [if_pos hi, if_neg hb, if_pos hm, if_neg h3]
            rw [hl, ih (i + 1) g (by omega) (by omega) henext]
            by_cases hi2 : i + 2 < n
            · simp only [mtpl]; rw [if_pos hi2, if_neg (fun h => h3 ((run_three t n m i hi hm).2 ⟨hi2, h.2.1, h.2.2.1⟩))]
            · rw [mtpl_out _ _ _ _ _ _ (by omega), mtpl_out _ _ _ _ _ _ (by omega)]
        · have hl : tpl t n m esc (f + 1) i = tpl t n m esc f (i + 1) := by simp only [tpl]; rw [if_pos hi, if_neg hb, if_neg hm]
          rw [hl, ih (i + 1) g (by omega) (by omega) henext]
          by_cases hi2 : i + 2 < n
          · simp only [mtpl]; rw [if_pos hi2, if_neg (fun h => hm h.1)]
          · rw [mtpl_out _ _ _ _ _ _ (by omega), mtpl_out _ _ _ _ _ _ (by omega)]
    · rw [tpl_out _ _ _ _ _ _ (by omega), mtpl_out _ _ _ _ _ _ (by omega)]

theorem seEnd_seMod (t : Nat → Int) (n s : Nat) : seEnd t n s = seMod t n s := by
  have h34 : (t s == 34) = true → t s ≠ 92 := fun h h2 => by rw [h2] at h; exact absurd h (by decide)
  by_cases h3 : three t n s = true
  · rw [seEnd_pos t n s h3, seMod_pos t n s h3]
    simp only [three, decide_eq_true_eq] at h3
    refine tpl_mtpl t n (t s) (t s == 34) (n + 1) (s + 3) (n + 1) (by omega) (by omega) (fun h => ⟨h34 h, ?_⟩)
    rw [bs_no t (s + 2) (by rw [h3.2.2]; exact h34 h)]
  · rw [seEnd_neg t n s h3, seMod_neg t n s h3]
    refine sgl_msgl t n (t s) (t s == 34) (n + 1) (s + 1) (n + 1) (by omega) (by omega) (fun h => ⟨h34 h, ?_⟩)
    rw [bs_no t s (h34 h)]

end Go.Proofs.Qxb6601502aMods.strEnd.Plain
