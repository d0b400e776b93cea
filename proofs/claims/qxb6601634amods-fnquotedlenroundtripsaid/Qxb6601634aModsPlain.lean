/-
  PLAIN: what quotedLen and the model zzQuotedEnd compute; that they agree; what quotedLen answers on a quoted text. No Go in sight.
  't i': the byte at place i; 'n': the text's length.
-/
namespace Go.Proofs.Qxb6601634aMods.quoted.Plain

/-- The loop of quotedLen from place i on, with fuel. -/
def ql (t : Nat → Int) (n : Nat) : Nat → Nat → Nat
  | 0, _ => n
  | f + 1, i => if i < n then (if t i = 92 then ql t n f (i + 2) else if t i = 34 then i + 1 else ql t n f (i + 1)) else n

theorem ql_out (t : Nat → Int) (n f i : Nat) (h : n ≤ i) : ql t n f i = n := by
  cases f with
  | zero => rfl
  | succ f => simp only [ql]; rw [if_neg (by omega)]

theorem ql_fuel (t : Nat → Int) (n : Nat) : ∀ (f g i : Nat), n ≤ i + f → n ≤ i + g → ql t n f i = ql t n g i := by
  intro f
  induction f with
  | zero => intro g i h _; rw [ql_out _ _ _ _ (by omega), ql_out _ _ _ _ (by omega)]
  | succ f ih =>
    intro g i h hg
    cases g with
    | zero => rw [ql_out _ _ _ _ (by omega), ql_out _ _ _ _ (by omega)]
    | succ g =>
      simp only [ql]
      rw [ih g (i + 2) (by omega) (by omega), ih g (i + 1) (by omega) (by omega)]

theorem ql_back (t : Nat → Int) (n i : Nat) (hi : i < n) (h : t i = 92) : ql t n (n + 1) i = ql t n (n + 1) (i + 2) := by
  rw [show ql t n (n + 1) i = ql t n n (i + 2) by simp only [ql]; rw [if_pos hi, if_pos h]]
  exact ql_fuel _ _ _ _ _ (by omega) (by omega)
theorem ql_quote (t : Nat → Int) (n i : Nat) (hi : i < n) (h : t i = 34) : ql t n (n + 1) i = i + 1 := by
  simp only [ql]; rw [if_pos hi, if_neg (by omega), if_pos h]
theorem ql_other (t : Nat → Int) (n i : Nat) (hi : i < n) (h : t i ≠ 92) (h2 : t i ≠ 34) : ql t n (n + 1) i = ql t n (n + 1) (i + 1) := by
  rw [show ql t n (n + 1) i = ql t n n (i + 1) by simp only [ql]; rw [if_pos hi, if_neg h, if_neg h2]]
  exact ql_fuel _ _ _ _ _ (by omega) (by omega)

/-- How many backslashes stand right before place j, counted back no further than place 1. -/
def bs (t : Nat → Int) : Nat → Nat
  | 0 => 0
  | j + 1 => if 1 ≤ j ∧ t j = 92 then bs t j + 1 else 0

theorem bs_yes (t : Nat → Int) (j : Nat) (h1 : 1 ≤ j) (h : t j = 92) : bs t (j + 1) = bs t j + 1 := by simp only [bs]; rw [if_pos ⟨h1, h⟩]
theorem bs_no (t : Nat → Int) (j : Nat) (h : t j ≠ 92) : bs t (j + 1) = 0 := by simp only [bs]; rw [if_neg (fun h' => h h'.2)]
theorem bs_one (t : Nat → Int) : bs t 1 = 0 := by simp [bs]

/-- The model's loop. -/
def qe (t : Nat → Int) (n : Nat) : Nat → Nat → Nat
  | 0, _ => n
  | f + 1, j => if j < n then (if t j = 34 ∧ bs t j % 2 = 0 then j + 1 else qe t n f (j + 1)) else n

theorem qe_out (t : Nat → Int) (n f i : Nat) (h : n ≤ i) : qe t n f i = n := by
  cases f with
  | zero => rfl
  | succ f => simp only [qe]; rw [if_neg (by omega)]

theorem qe_fuel (t : Nat → Int) (n : Nat) : ∀ (f g i : Nat), n ≤ i + f → n ≤ i + g → qe t n f i = qe t n g i := by
  intro f
  induction f with
  | zero => intro g i h _; rw [qe_out _ _ _ _ (by omega), qe_out _ _ _ _ (by omega)]
  | succ f ih =>
    intro g i h hg
    cases g with
    | zero => rw [qe_out _ _ _ _ (by omega), qe_out _ _ _ _ (by omega)]
    | succ g =>
      simp only [qe]
      rw [ih g (i + 1) (by omega) (by omega)]

theorem qe_hit (t : Nat → Int) (n j : Nat) (hj : j < n) (h : t j = 34 ∧ bs t j % 2 = 0) : qe t n (n + 1) j = j + 1 := by
  simp only [qe]; rw [if_pos hj, if_pos h]
theorem qe_miss (t : Nat → Int) (n j : Nat) (hj : j < n) (h : ¬ (t j = 34 ∧ bs t j % 2 = 0)) : qe t n (n + 1) j = qe t n (n + 1) (j + 1) := by
  rw [show qe t n (n + 1) j = qe t n n (j + 1) by simp only [qe]; rw [if_pos hj, if_neg h]]
  exact qe_fuel _ _ _ _ _ (by omega) (by omega)

theorem ql_qe (t : Nat → Int) (n : Nat) : ∀ (f i g : Nat), n ≤ i + f → n ≤ i + g → 1 ≤ i → bs t i % 2 = 0 → ql t n f i = qe t n g i := by
  intro f
  induction f with
  | zero => intro i g h _ _ _; rw [ql_out _ _ _ _ (by omega), qe_out _ _ _ _ (by omega)]
  | succ f ih =>
    intro i g h hg h1 he
    by_cases hi : i < n
    · obtain ⟨g, rfl⟩ : ∃ g', g = g' + 1 := ⟨g - 1, by omega⟩
      by_cases hb : t i = 92
      · have hl : ql t n (f + 1) i = ql t n f (i + 2) := by simp only [ql]; rw [if_pos hi, if_pos hb]
        have hr : qe t n (g + 1) i = qe t n g (i + 1) := by simp only [qe]; rw [if_pos hi, if_neg (by omega)]
        rw [hl, hr]
        by_cases hi1 : i + 1 < n
        · obtain ⟨g, rfl⟩ : ∃ g', g = g' + 1 := ⟨g - 1, by omega⟩
          have hodd : bs t (i + 1) = bs t i + 1 := bs_yes t i h1 hb
          have hr2 : qe t n (g + 1) (i + 1) = qe t n g (i + 2) := by simp only [qe]; rw [if_pos hi1, if_neg (by omega)]
          rw [hr2]
          refine ih (i + 2) g (by omega) (by omega) (by omega) ?_
          by_cases h2 : t (i + 1) = 92
          · rw [bs_yes t (i + 1) (by omega) h2, hodd]; omega
          · rw [bs_no t (i + 1) h2]
        · rw [ql_out _ _ _ _ (by omega), qe_out _ _ _ _ (by omega)]
      · by_cases hq : t i = 34
        · simp only [ql, qe]; rw [if_pos hi, if_neg hb, if_pos hq, if_pos hi, if_pos ⟨hq, he⟩]
        · have hl : ql t n (f + 1) i = ql t n f (i + 1) := by simp only [ql]; rw [if_pos hi, if_neg hb, if_neg hq]
          have hr : qe t n (g + 1) i = qe t n g (i + 1) := by simp only [qe]; rw [if_pos hi, if_neg (fun h => hq h.1)]
          rw [hl, hr]
          exact ih (i + 1) g (by omega) (by omega) (by omega) (by rw [bs_no t i hb])
    · rw [ql_out _ _ _ _ (by omega), qe_out _ _ _ _ (by omega)]

/-- LAW: quotedLen answers what the model answers. -/
theorem whole (t : Nat → Int) (n : Nat) : ql t n (n + 1) 1 = qe t n (n + 1) 1 :=
  ql_qe t n (n + 1) 1 (n + 1) (by omega) (by omega) (Nat.le_refl _) (by rw [bs_one])

/-! ### a text quoted JSON-style -/
/-- The hex digit of a number below 16. -/
def hexd (x : Int) : Int := if x < 10 then 48 + x else 87 + x

def enc (c : Int) : List Int :=
  if c = 34 ∨ c = 92 then [92, c] else if c < 32 then [92, 117, 48, 48, hexd (c / 16), hexd (c % 16)] else [c]

/-- The quoting of the first k bytes, its opening quote ahead of it. -/
def buf (t : Nat → Int) : Nat → List Int
  | 0 => [34]
  | k + 1 => buf t k ++ enc (t k)

theorem enc_len (c : Int) : 1 ≤ (enc c).length ∧ (enc c).length ≤ 6 := by
  unfold enc
  split
  · simp
  · split <;> simp

theorem buf_len (t : Nat → Int) (k : Nat) : k + 1 ≤ (buf t k).length ∧ (buf t k).length ≤ 6 * k + 1 := by
  induction k with
  | zero => simp [buf]
  | succ k ih =>
    have := enc_len (t k)
    simp only [buf, List.length_append]
    omega

/-- quotedLen passes over the quoting of one byte. -/
theorem ql_enc (L : List Int) (pre rest : List Int) (c : Int) (h0 : 0 ≤ c) (hL : L = pre ++ (enc c ++ rest)) :
    ql (fun i => L.getD i 0) L.length (L.length + 1) pre.length = ql (fun i => L.getD i 0) L.length (L.length + 1) (pre.length + (enc c).length) := by
  have hat : ∀ j, j < (enc c).length → L.getD (pre.length + j) 0 = (enc c).getD j 0 := by
    intro j hj
    rw [hL]
    simp only [List.getD_eq_getElem?_getD]
    rw [List.getElem?_append_right (by omega), List.getElem?_append_left (by omega)]
    congr 2
    omega
  have hlen : pre.length + (enc c).length ≤ L.length := by rw [hL]; simp
  unfold enc at hat hlen ⊢
  by_cases h1 : c = 34 ∨ c = 92
  · rw [if_pos h1] at hat hlen ⊢
    simp only [List.length_cons, List.length_nil] at hat hlen ⊢
    exact ql_back _ _ _ (by omega) (by simpa using hat 0 (by omega))
  · rw [if_neg h1] at hat hlen ⊢
    by_cases h2 : c < 32
    · rw [if_pos h2] at hat hlen ⊢
      simp only [List.length_cons, List.length_nil] at hat hlen ⊢
      have a0 := hat 0 (by omega)
      have a2 := hat 2 (by omega)
      have a3 := hat 3 (by omega)
      have a4 := hat 4 (by omega)
      have a5 := hat 5 (by omega)
      have d4 : hexd (c / 16) ≠ 92 ∧ hexd (c / 16) ≠ 34 := by unfold hexd; split <;> omega
      have d5 : hexd (c % 16) ≠ 92 ∧ hexd (c % 16) ≠ 34 := by unfold hexd; split <;> omega
      simp only [List.getD_cons_zero, List.getD_cons_succ, Nat.add_zero] at a0 a2 a3 a4 a5
      rw [ql_back _ _ _ (by omega) a0]
      rw [ql_other _ _ (pre.length + 2) (by omega) (by rw [a2]; decide) (by rw [a2]; decide)]
      rw [ql_other _ _ (pre.length + 2 + 1) (by omega) (by rw [show pre.length + 2 + 1 = pre.length + 3 by omega, a3]; decide) (by rw [show pre.length + 2 + 1 = pre.length + 3 by omega, a3]; decide)]
      rw [ql_other _ _ (pre.length + 2 + 1 + 1) (by omega) (by rw [show pre.length + 2 + 1 + 1 = pre.length + 4 by omega, a4]; exact d4.1) (by rw [show pre.length + 2 + 1 + 1 = pre.length + 4 by omega, a4]; exact d4.2)]
      rw [ql_other _ _ (pre.length + 2 + 1 + 1 + 1) (by omega) (by rw [show pre.length + 2 + 1 + 1 + 1 = pre.length + 5 by omega, a5]; exact d5.1) (by rw [show pre.length + 2 + 1 + 1 + 1 = pre.length + 5 by omega, a5]; exact d5.2)]
    · rw [if_neg h2] at hat hlen ⊢
      simp only [List.length_cons, List.length_nil] at hat hlen ⊢
      have a0 := hat 0 (by omega)
      simp only [List.getD_cons_zero, Nat.add_zero] at a0
      exact ql_other _ _ _ (by omega) (by rw [a0]; omega) (by rw [a0]; omega)

theorem buf_split (t : Nat → Int) (n : Nat) : ∀ d k, k + d = n → ∃ r, buf t n = buf t k ++ r := by
  intro d
  induction d with
  | zero => intro k h; exact ⟨[], by rw [List.append_nil, show k = n by omega]⟩
  | succ d ih =>
    intro k h
    obtain ⟨r, hr⟩ := ih (k + 1) (by omega)
    exact ⟨enc (t k) ++ r, by rw [hr]; simp [buf]⟩

/-- LAW: on the quoted text, whatever follows it, quotedLen answers its length. -/
theorem roundTrip (t : Nat → Int) (n : Nat) (h0 : ∀ i, i < n → 0 ≤ t i) (tail : List Int) :
    ql (fun i => (buf t n ++ 34 :: tail).getD i 0) (buf t n ++ 34 :: tail).length ((buf t n ++ 34 :: tail).length + 1) 1 = (buf t n).length + 1 := by
  have step : ∀ k, k ≤ n → ql (fun i => (buf t n ++ 34 :: tail).getD i 0) (buf t n ++ 34 :: tail).length ((buf t n ++ 34 :: tail).length + 1) 1 =
      ql (fun i => (buf t n ++ 34 :: tail).getD i 0) (buf t n ++ 34 :: tail).length ((buf t n ++ 34 :: tail).length + 1) (buf t k).length := by
    intro k
    induction k with
    | zero => intro _; rfl
    | succ k ih =>
      intro hk
      rw [ih (by omega)]
      obtain ⟨r, hr⟩ := buf_split t n (n - (k + 1)) (k + 1) (by omega)
      have := ql_enc (buf t n ++ 34 :: tail) (buf t k) (r ++ 34 :: tail) (t k) (h0 k (by omega)) (by rw [hr]; simp [buf])
      rw [this]
      simp [buf]
  rw [step n (Nat.le_refl _)]
  refine ql_quote _ _ _ (by simp) ?_
  simp

end Go.Proofs.Qxb6601634aMods.quoted.Plain
