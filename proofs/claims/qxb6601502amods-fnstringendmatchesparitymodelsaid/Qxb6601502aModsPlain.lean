/-
  PLAIN: what stringEnd and the parity model compute, and the two laws about them. No Go in sight.
  't i': the byte at place i; 'n': the text's length; 'm': the opening mark; 'esc': whether a backslash escapes.
-/
namespace Go.Proofs.Qxb6601502aMods.strEnd.Plain

/-- The loop of a string with one mark, from place i on, with fuel. -/
def sgl (t : Nat → Int) (n : Nat) (m : Int) (esc : Bool) : Nat → Nat → Nat
  | 0, _ => n
  | f + 1, i => if i < n then (if t i = m then i + 1 else if t i = 92 ∧ esc = true then sgl t n m esc f (i + 2) else sgl t n m esc f (i + 1)) else n

/-- The end of the run of marks that begins at place i. -/
def runE (t : Nat → Int) (n : Nat) (m : Int) : Nat → Nat → Nat
  | 0, i => i
  | f + 1, i => if i < n ∧ t i = m then runE t n m f (i + 1) else i

/-- The loop of a string with three marks. -/
def tpl (t : Nat → Int) (n : Nat) (m : Int) (esc : Bool) : Nat → Nat → Nat
  | 0, _ => n
  | f + 1, i => if i < n then (if t i = 92 ∧ esc = true then tpl t n m esc f (i + 2) else if t i = m then (if i + 3 ≤ runE t n m n i then runE t n m n i else tpl t n m esc f (i + 1)) else tpl t n m esc f (i + 1)) else n

/-- Three marks stand at s. -/
def three (t : Nat → Int) (n s : Nat) : Bool := decide (s + 2 < n ∧ t (s + 1) = t s ∧ t (s + 2) = t s)

/-- What stringEnd answers. -/
def seEnd (t : Nat → Int) (n s : Nat) : Nat :=
  if three t n s = true then tpl t n (t s) (t s == 34) (n + 1) (s + 3) else sgl t n (t s) (t s == 34) (n + 1) (s + 1)

/-! ### fuel does not matter once there is enough -/
theorem sgl_out (t : Nat → Int) (n : Nat) (m : Int) (esc : Bool) (f i : Nat) (h : n ≤ i) : sgl t n m esc f i = n := by
  cases f with
  | zero => rfl
  | succ f => simp only [sgl]; rw [if_neg (by omega)]

theorem tpl_out (t : Nat → Int) (n : Nat) (m : Int) (esc : Bool) (f i : Nat) (h : n ≤ i) : tpl t n m esc f i = n := by
  cases f with
  | zero => rfl
  | succ f => simp only [tpl]; rw [if_neg (by omega)]

theorem sgl_fuel (t : Nat → Int) (n : Nat) (m : Int) (esc : Bool) : ∀ (f g i : Nat), n ≤ i + f → n ≤ i + g → sgl t n m esc f i = sgl t n m esc g i := by
  intro f
  induction f with
  | zero => intro g i h _; rw [sgl_out _ _ _ _ _ _ (by omega), sgl_out _ _ _ _ _ _ (by omega)]
  | succ f ih =>
    intro g i h hg
    cases g with
    | zero => rw [sgl_out _ _ _ _ _ _ (by omega), sgl_out _ _ _ _ _ _ (by omega)]
    | succ g =>
      simp only [sgl]
      rw [ih g (i + 2) (by omega) (by omega), ih g (i + 1) (by omega) (by omega)]

theorem tpl_fuel (t : Nat → Int) (n : Nat) (m : Int) (esc : Bool) : ∀ (f g i : Nat), n ≤ i + f → n ≤ i + g → tpl t n m esc f i = tpl t n m esc g i := by
  intro f
  induction f with
  | zero => intro g i h _; rw [tpl_out _ _ _ _ _ _ (by omega), tpl_out _ _ _ _ _ _ (by omega)]
  | succ f ih =>
    intro g i h hg
    cases g with
    | zero => rw [tpl_out _ _ _ _ _ _ (by omega), tpl_out _ _ _ _ _ _ (by omega)]
    | succ g =>
      simp only [tpl]
      rw [ih g (i + 2) (by omega) (by omega), ih g (i + 1) (by omega) (by omega)]

theorem runE_fuel (t : Nat → Int) (n : Nat) (m : Int) : ∀ (f g i : Nat), n ≤ i + f → n ≤ i + g → runE t n m f i = runE t n m g i := by
  intro f
  induction f with
  | zero => intro g i h _; cases g with
    | zero => rfl
    | succ g => simp only [runE]; rw [if_neg (by omega)]
  | succ f ih =>
    intro g i h hg
    cases g with
    | zero => simp only [runE]; rw [if_neg (by omega)]
    | succ g => simp only [runE]; rw [ih g (i + 1) (by omega) (by omega)]

/-! ### steps of each loop, at the fuel that the walks carry -/
theorem runE_step (t : Nat → Int) (n : Nat) (m : Int) (i : Nat) (hi : i < n) (hm : t i = m) : runE t n m n i = runE t n m n (i + 1) := by
  cases n with
  | zero => omega
  | succ n =>
    rw [show runE t (n + 1) m (n + 1) i = runE t (n + 1) m n (i + 1) by simp only [runE]; rw [if_pos ⟨hi, hm⟩]]
    exact runE_fuel t (n + 1) m n (n + 1) (i + 1) (by omega) (by omega)

theorem runE_stop (t : Nat → Int) (n : Nat) (m : Int) (i : Nat) (h : ¬ (i < n ∧ t i = m)) : runE t n m n i = i := by
  cases n with
  | zero => rfl
  | succ n => simp only [runE]; rw [if_neg h]

/-- The run lies between i and n, and all of it are marks; behind it stands none. -/
theorem runE_is (t : Nat → Int) (n : Nat) (m : Int) : ∀ (f i : Nat), n ≤ i + f → i ≤ n → i ≤ runE t n m f i ∧ runE t n m f i ≤ n ∧ (∀ j, i ≤ j → j < runE t n m f i → t j = m) ∧ (runE t n m f i < n → t (runE t n m f i) ≠ m) := by
  intro f
  induction f with
  | zero =>
    intro i h hi
    simp only [runE]
    exact ⟨Nat.le_refl _, hi, fun j a b => by omega, fun h' => by omega⟩
  | succ f ih =>
    intro i h hi
    simp only [runE]
    by_cases hc : i < n ∧ t i = m
    · rw [if_pos hc]
      obtain ⟨a, b, c, d⟩ := ih (i + 1) (by omega) (by omega)
      refine ⟨by omega, b, fun j h1 h2 => ?_, d⟩
      by_cases e : j = i
      · rw [e]; exact hc.2
      · exact c j (by omega) h2
    · rw [if_neg hc]
      refine ⟨Nat.le_refl _, hi, fun j a b => by omega, fun h' e => hc ⟨h', e⟩⟩

/-- The run is found by what it is. -/
theorem runE_eq (t : Nat → Int) (n : Nat) (m : Int) (i r : Nat) (hir : i ≤ r) (hrn : r ≤ n) (hall : ∀ j, i ≤ j → j < r → t j = m) (hend : r < n → t r ≠ m) : runE t n m n i = r := by
  obtain ⟨a, b, c, d⟩ := runE_is t n m n i (by omega) (by omega)
  by_cases h1 : runE t n m n i < r
  · exact absurd (hall _ a h1) (d (by omega))
  · by_cases h2 : r < runE t n m n i
    · exact absurd (c r hir h2) (hend (by omega))
    · omega

/-! ### LAW: the end lies in (start, n]; short of n it closes by the mark; the text cut there gives the same end -/
theorem sgl_law (t : Nat → Int) (n : Nat) (m : Int) (esc : Bool) : ∀ (f i : Nat), n ≤ i + f →
    sgl t n m esc f i ≤ n ∧ (i ≤ sgl t n m esc f i ∨ sgl t n m esc f i = n) ∧ (sgl t n m esc f i < n → i < sgl t n m esc f i ∧ t (sgl t n m esc f i - 1) = m) ∧
    ∀ g, sgl t n m esc f i ≤ i + g → sgl t (sgl t n m esc f i) m esc g i = sgl t n m esc f i := by
  intro f
  induction f with
  | zero => intro i h; simp only [sgl]; exact ⟨Nat.le_refl _, .inr trivial, fun h => by omega, fun g _ => sgl_out _ _ _ _ _ _ (by omega)⟩
  | succ f ih =>
    intro i h
    by_cases hi : i < n
    · by_cases hm : t i = m
      · have e : sgl t n m esc (f + 1) i = i + 1 := by simp only [sgl]; rw [if_pos hi, if_pos hm]
        rw [e]
        refine ⟨by omega, .inl (by omega), fun _ => ⟨by omega, by simpa using hm⟩, fun g hg => ?_⟩
        cases g with
        | zero => omega
        | succ g => simp only [sgl]; rw [if_pos (by omega), if_pos hm]
      · by_cases hb : t i = 92 ∧ esc = true
        · have e : sgl t n m esc (f + 1) i = sgl t n m esc f (i + 2) := by simp only [sgl]; rw [if_pos hi, if_neg hm, if_pos hb]
          rw [e]
          obtain ⟨a, b, c, d⟩ := ih (i + 2) (by omega)
          refine ⟨a, by omega, fun h' => ⟨by have := (c h').1; omega, (c h').2⟩, fun g hg => ?_⟩
          cases g with
          | zero => omega
          | succ g =>
            rw [show sgl t (sgl t n m esc f (i + 2)) m esc (g + 1) i = sgl t (sgl t n m esc f (i + 2)) m esc g (i + 2) by
              simp only [sgl]; rw [if_pos (by omega), if_neg hm, if_pos hb]]
            exact d g (by omega)
        · have e : sgl t n m esc (f + 1) i = sgl t n m esc f (i + 1) := by simp only [sgl]; rw [if_pos hi, if_neg hm, if_neg hb]
          rw [e]
          obtain ⟨a, b, c, d⟩ := ih (i + 1) (by omega)
          refine ⟨a, by omega, fun h' => ⟨by have := (c h').1; omega, (c h').2⟩, fun g hg => ?_⟩
          cases g with
          | zero => omega
          | succ g =>
            rw [show sgl t (sgl t n m esc f (i + 1)) m esc (g + 1) i = sgl t (sgl t n m esc f (i + 1)) m esc g (i + 1) by
              simp only [sgl]; rw [if_pos (by omega), if_neg hm, if_neg hb]]
            exact d g (by omega)
    · rw [sgl_out _ _ _ _ _ _ (by omega)]
      exact ⟨Nat.le_refl _, .inr rfl, fun h => by omega, fun g _ => sgl_out _ _ _ _ _ _ (by omega)⟩

theorem runE_cut (t : Nat → Int) (n r : Nat) (m : Int) (i : Nat) (hi : i ≤ r) (hrn : r ≤ n) : runE t r m r i = min r (runE t n m n i) := by
  obtain ⟨a, b, c, d⟩ := runE_is t n m n i (by omega) (by omega)
  refine runE_eq t r m i _ (by omega) (by omega) (fun j h1 h2 => c j h1 (by omega)) (fun h => ?_)
  have e : min r (runE t n m n i) = runE t n m n i := by omega
  rw [e]
  exact d (by omega)

theorem tpl_law (t : Nat → Int) (n : Nat) (m : Int) (esc : Bool) : ∀ (f i : Nat), n ≤ i + f →
    tpl t n m esc f i ≤ n ∧ (i ≤ tpl t n m esc f i ∨ tpl t n m esc f i = n) ∧ (tpl t n m esc f i < n → i < tpl t n m esc f i ∧ t (tpl t n m esc f i - 1) = m) ∧
    ∀ g, tpl t n m esc f i ≤ i + g → tpl t (tpl t n m esc f i) m esc g i = tpl t n m esc f i := by
  intro f
  induction f with
  | zero => intro i h; simp only [tpl]; exact ⟨Nat.le_refl _, .inr trivial, fun h => by omega, fun g _ => tpl_out _ _ _ _ _ _ (by omega)⟩
  | succ f ih =>
    intro i h
    by_cases hi : i < n
    · by_cases hb : t i = 92 ∧ esc = true
      · have e : tpl t n m esc (f + 1) i = tpl t n m esc f (i + 2) := by simp only [tpl]; rw [if_pos hi, if_pos hb]
        rw [e]
        obtain ⟨a, b, c, d⟩ := ih (i + 2) (by omega)
        refine ⟨a, by omega, fun h' => ⟨by have := (c h').1; omega, (c h').2⟩, fun g hg => ?_⟩
        cases g with
        | zero => omega
        | succ g =>
          rw [show tpl t (tpl t n m esc f (i + 2)) m esc (g + 1) i = tpl t (tpl t n m esc f (i + 2)) m esc g (i + 2) by
            simp only [tpl]; rw [if_pos (by omega), if_pos hb]]
          exact d g (by omega)
      · by_cases hm : t i = m
        · obtain ⟨ra, rb, rc, rd⟩ := runE_is t n m n i (by omega) (by omega)
          by_cases h3 : i + 3 ≤ runE t n m n i
          · have e : tpl t n m esc (f + 1) i = runE t n m n i := by simp only [tpl]; rw [if_pos hi, if_neg hb, if_pos hm, if_pos h3]
            rw [e]
            refine ⟨rb, .inl ra, fun _ => ⟨by omega, rc _ (by omega) (by omega)⟩, fun g hg => ?_⟩
            cases g with
            | zero => omega
            | succ g =>
              have ec := runE_cut t n (runE t n m n i) m i ra rb
              rw [Nat.min_self] at ec
              simp only [tpl]; rw [if_pos (by omega), if_neg hb, if_pos hm, ec, if_pos h3]
          · have e : tpl t n m esc (f + 1) i = tpl t n m esc f (i + 1) := by simp only [tpl]; rw [if_pos hi, if_neg hb, if_pos hm, if_neg h3]
            rw [e]
            obtain ⟨a, b, c, d⟩ := ih (i + 1) (by omega)
            refine ⟨a, by omega, fun h' => ⟨by have := (c h').1; omega, (c h').2⟩, fun g hg => ?_⟩
            cases g with
            | zero => omega
            | succ g =>
              have ec := runE_cut t n (tpl t n m esc f (i + 1)) m i (by omega) a
              rw [show tpl t (tpl t n m esc f (i + 1)) m esc (g + 1) i = tpl t (tpl t n m esc f (i + 1)) m esc g (i + 1) by
                simp only [tpl]; rw [if_pos (by omega), if_neg hb, if_pos hm, ec, if_neg (by omega)]]
              exact d g (by omega)
        · have e : tpl t n m esc (f + 1) i = tpl t n m esc f (i + 1) := by simp only [tpl]; rw [if_pos hi, if_neg hb, if_neg hm]
          rw [e]
          obtain ⟨a, b, c, d⟩ := ih (i + 1) (by omega)
          refine ⟨a, by omega, fun h' => ⟨by have := (c h').1; omega, (c h').2⟩, fun g hg => ?_⟩
          cases g with
          | zero => omega
          | succ g =>
            rw [show tpl t (tpl t n m esc f (i + 1)) m esc (g + 1) i = tpl t (tpl t n m esc f (i + 1)) m esc g (i + 1) by
              simp only [tpl]; rw [if_pos (by omega), if_neg hb, if_neg hm]]
            exact d g (by omega)
    · rw [tpl_out _ _ _ _ _ _ (by omega)]
      exact ⟨Nat.le_refl _, .inr rfl, fun h => by omega, fun g _ => tpl_out _ _ _ _ _ _ (by omega)⟩

theorem seEnd_pos (t : Nat → Int) (n s : Nat) (h : three t n s = true) : seEnd t n s = tpl t n (t s) (t s == 34) (n + 1) (s + 3) := by unfold seEnd; rw [if_pos h]
theorem seEnd_neg (t : Nat → Int) (n s : Nat) (h : ¬ three t n s = true) : seEnd t n s = sgl t n (t s) (t s == 34) (n + 1) (s + 1) := by unfold seEnd; rw [if_neg h]

theorem seEnd_law (t : Nat → Int) (n s : Nat) (hs : s < n) :
    s < seEnd t n s ∧ seEnd t n s ≤ n ∧ (seEnd t n s < n → t (seEnd t n s - 1) = t s) ∧ seEnd t (seEnd t n s) s = seEnd t n s := by
  by_cases h3 : three t n s = true
  · have e : seEnd t n s = tpl t n (t s) (t s == 34) (n + 1) (s + 3) := seEnd_pos t n s h3
    obtain ⟨a, b, c, d⟩ := tpl_law t n (t s) (t s == 34) (n + 1) (s + 3) (by omega)
    rw [← e] at a b c d
    have h3' := h3
    simp only [three, decide_eq_true_eq] at h3'
    refine ⟨by omega, a, fun h => (c h).2, ?_⟩
    have h4 : three t (seEnd t n s) s = true := by
      simp only [three, decide_eq_true_eq]
      exact ⟨by omega, h3'.2⟩
    exact (seEnd_pos t _ s h4).trans (d _ (by omega))
  · have e : seEnd t n s = sgl t n (t s) (t s == 34) (n + 1) (s + 1) := seEnd_neg t n s h3
    obtain ⟨a, b, c, d⟩ := sgl_law t n (t s) (t s == 34) (n + 1) (s + 1) (by omega)
    rw [← e] at a b c d
    simp only [three, decide_eq_true_eq] at h3
    refine ⟨by omega, a, fun h => (c h).2, ?_⟩
    have h4 : ¬ three t (seEnd t n s) s = true := by
      simp only [three, decide_eq_true_eq]
      exact fun h => h3 ⟨by omega, h.2⟩
    exact (seEnd_neg t _ s h4).trans (d _ (by omega))

end Go.Proofs.Qxb6601502aMods.strEnd.Plain
