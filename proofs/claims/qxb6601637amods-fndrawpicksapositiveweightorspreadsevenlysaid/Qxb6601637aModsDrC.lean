/-
  WALK: the law FnDrawPicksAPositiveWeightOrSpreadsEvenly (3).
-/
import Derived.Test.Qxb6601637aModsDrB
namespace Go.Proofs.Qxb6601637aMods.draw
open Go.RowKit Fl

set_option maxHeartbeats 400000 in
/-- Too long: true at once. -/
theorem law3_long (ao : Option Addr) (n c r : Nat) (w : World) (hn : n ≤ maxLen) (h : ¬ n ≤ 131072) :
    Calls Trym.prog 3 #[.slice ao n c, .float .f64 r] w fun e w' => e = .returned (.bool true) ∧ Below w.heap.size w w' := by
  have H := zz7 ao n c r w hn
  unfold maxLen at hn
  have hi : ¬ (n : Int) ≤ 131072 := by omega
  go_enter Trym.func3, Trym.ntmps3
  go_wp2_with fail
  refine H.mono ?_
  rintro e w' ⟨⟨q, rfl⟩, rfl⟩
  clear H
  cases q
  all_goals
    go_wp2_with fail
    go_ret
    exact ⟨rfl, Below.refl _ _⟩

set_option maxHeartbeats 400000 in
/-- r does not lie in [0, 1): true at once. -/
theorem law3_out (ao : Option Addr) (n c r : Nat) (w : World) (hn : n ≤ 131072)
    (h : ¬ ((FloatKind.f64.format.order r 0 = some .gt ∨ FloatKind.f64.format.order r 0 = some .eq) ∧ FloatKind.f64.format.order r 4607182418800017408 = some .lt)) :
    Calls Trym.prog 3 #[.slice ao n c, .float .f64 r] w fun e w' => e = .returned (.bool true) ∧ Below w.heap.size w w' := by
  have H := zz7 ao n c r w (by unfold maxLen; omega)
  by_cases hg : FloatKind.f64.format.order r 0 = some .gt ∨ FloatKind.f64.format.order r 0 = some .eq
  · have hl : (FloatKind.f64.format.order r 4607182418800017408 == some .lt) = false := by
      have : FloatKind.f64.format.order r 4607182418800017408 ≠ some .lt := fun e => h ⟨hg, e⟩
      simpa using this
    clear h
    rcases hg with hg | hg
    all_goals
      go_enter Trym.func3, Trym.ntmps3
      go_wp2_with fail
      refine H.mono ?_
      rintro e w' ⟨⟨q, rfl⟩, rfl⟩
      clear H
      cases q
      all_goals
        go_wp2_with fail
        go_ret
        exact ⟨rfl, Below.refl _ _⟩
  · clear h
    have g1 : (FloatKind.f64.format.order r 0 == some .gt) = false := by
      have : FloatKind.f64.format.order r 0 ≠ some .gt := fun e => hg (.inl e)
      simpa using this
    have g2 : (FloatKind.f64.format.order r 0 == some .eq) = false := by
      have : FloatKind.f64.format.order r 0 ≠ some .eq := fun e => hg (.inr e)
      simpa using this
    clear hg
    go_enter Trym.func3, Trym.ntmps3
    go_wp2_with fail
    refine H.mono ?_
    rintro e w' ⟨⟨q, rfl⟩, rfl⟩
    clear H
    cases q
    all_goals
      go_wp2_with fail
      go_ret
      exact ⟨rfl, Below.refl _ _⟩

set_option maxHeartbeats 2000000 in
theorem law3_zero (bt : Nat → Nat) (ao : Option Addr) (n c r : Nat) (w : World) (hn : n ≤ 131072) (hr : Ok r) (hr1 : rung r < 4607182418800017408) (hz : rung r = 0)
    (HF : Calls Trym.prog 8 #[.slice ao n c] w fun e w' => RetF n bt e ∧ w = w') (HD : Calls Trym.prog 9 #[.slice ao n c] w fun e w' => Cl w n bt e w') :
    Calls Trym.prog 3 #[.slice ao n c, .float .f64 r] w fun e w' => e = .returned (.bool true) ∧ Below w.heap.size w w' := by
  have H := zz7 ao n c r w (by unfold maxLen; omega)
  have e0 : FloatKind.f64.format.order r 0 = some .eq := order_eq hr ok_zero (by rw [hz, rung_zero])
  have e1 : FloatKind.f64.format.order r 4607182418800017408 = some .lt := order_lt hr (ok_const (by omega)).1 (by rw [(ok_const (b := 4607182418800017408) (by omega)).2]; exact hr1)
  have HZ : Hid (rung r = 0) := hz
  clear hz
  go_enter Trym.func3, Trym.ntmps3
  go_wp2_with fail
  refine H.mono ?_
  rintro e w' ⟨⟨q, rfl⟩, rfl⟩
  clear H
  cases q
  · go_wp2_with fail
    go_ret
    exact ⟨rfl, Below.refl _ _⟩
  go_wp2_with fail
  refine HF.mono ?_
  clear HF
  rintro e w' ⟨⟨q, rfl, hq⟩, rfl⟩
  cases q
  · clear hq
    go_wp2_with fail
    go_ret
    exact ⟨rfl, Below.refl _ _⟩
  have HW : Hid (∀ i, i < n → Wt (bt i)) := hq rfl
  clear hq
  go_wp2_with fail
  refine HD.mono ?_
  clear HD
  rintro e w1 ⟨a1, rfl, ha, hbel, hcell⟩
  have HA : Hid (0 < n → a1 = some ⟨w.heap.size, 0, none⟩) := fun h => by
    rcases ha with ⟨_, h0⟩ | ⟨h1, _⟩
    · omega
    · exact h1
  have HC1 : Hid (∀ i, i < n → w1.cell? ⟨w.heap.size, i, none⟩ = some (.float .f64 (bt i))) := hcell
  clear hcell ha
  go_wp2_with fail
  refine (zzdraw_any bt a1 w.heap.size n n r w1 hn HA.out hr hr1 HW.out HC1.out).mono ?_
  rintro e w2 ⟨⟨g, rfl, hgood⟩, rfl⟩
  have HG : Hid (Good bt n r g) := hgood
  clear hgood
  obtain ⟨y, g0, v1, v2, v3, v4, v5, v6⟩ := even r n hr hr1 hn
  have HE : Hid ((∀ i, i < n → rung (bt i) = 0) → g = g0) := fun hall => by
    obtain ⟨y', u1, u2⟩ := HG.out.1 hall
    rw [v1] at u1
    obtain rfl := Option.some.inj u1
    rw [v2] at u2
    have := Option.some.inj u2
    omega
  have HV3 : Hid (g0 ≤ n ∧ (0 < n → g0 < n)) := ⟨v3, v4⟩
  have HV5 : Hid (FloatKind.f64.format.order (floatOfInt .f64 (g0 : Int)) y = some .lt ∨ FloatKind.f64.format.order (floatOfInt .f64 (g0 : Int)) y = some .eq) := v5
  have HV6 : Hid (FloatKind.f64.format.order y (floatOfInt .f64 ((g0 + 1 : Nat) : Int)) = some .lt) := v6
  have hmul := fun (wx : World) => run_float_arith (P := Trym.prog) wx .mul 23 .f64 r (floatOfInt .f64 (n : Int)) y v1
  clear v1 v2 v3 v4 v5 v6
  by_cases hn0 : n = 0
  · -- no weights
    have hg : g = 0 := by
      have := HE.out (fun i hi => by omega)
      have := HV3.out.1
      omega
    subst hn0
    subst hg
    clear hmul
    go_wp2_with fail
    go_ret
    exact ⟨rfl, hbel⟩
  have hn1 : 0 < n := by omega
  clear hn0
  have hgn : g < n := by
    by_cases hall : ∀ i, i < n → rung (bt i) = 0
    · have := HE.out hall
      have := HV3.out.2 hn1
      omega
    · refine (HG.out.2 ?_).1
      apply Classical.byContradiction
      intro hne
      refine hall (fun j hj => ?_)
      by_cases h : rung (bt j) = 0
      · exact h
      · exact absurd ⟨j, hj, by omega⟩ hne
  have hnb : ((n : Int) == 0) = false := by simp; omega
  obtain rfl := HA.out hn1
  go_wp2_with fail
  go_loop [7, 8] (fun fv i => ∃ k : Nat, k ≤ n ∧ i = .int .i64 k ∧ fv = .int .i64 (-1) ∧ Hid (∀ j, j < k → rung (bt j) = 0)) (fun _ i => n - (intOf i).toNat)
  case atStart => exact ⟨0, Nat.zero_le _, rfl, rfl, fun j hj => by omega⟩
  case round =>
    obtain ⟨k, hk, rfl, rfl, HK⟩ := hrel
    by_cases hlt : k < n
    · have h1 := HC1.out k hlt
      have hwk := (HW.out k hlt).1
      by_cases hp : rung (bt k) = 0
      · have ho : FloatKind.f64.format.order (bt k) 0 = some .eq := order_eq hwk ok_zero (by rw [hp, rung_zero])
        have HK1 : Hid (∀ j, j < k + 1 → rung (bt j) = 0) := fun j hj => by
          by_cases e : j = k
          · subst e; exact hp
          · exact HK.out j (by omega)
        clear HK hp hwk hmul
        go_wp2_with fail
        go_round
        case rel => exact ⟨k + 1, by omega, by go_num, rfl, HK1⟩
        case measure => simp [intOf]; omega
      · -- the first weight above 0
        have ho : FloatKind.f64.format.order (bt k) 0 = some .gt := order_gt hwk ok_zero (by rw [rung_zero]; omega)
        have hG2 := HG.out.2 ⟨k, hlt, by omega⟩
        have h2 := HC1.out g hgn
        have hog : FloatKind.f64.format.order (bt g) 0 = some .gt := order_gt (HW.out g hgn).1 ok_zero (by rw [rung_zero]; exact hG2.2.1)
        have hkg : g = k := by
          have a := hG2.2.2 HZ.out
          by_cases c1 : g < k
          · have := HK.out g c1; have := hG2.2.1; omega
          · by_cases c2 : k < g
            · have := a k c2; omega
            · omega
        subst hkg
        clear HK hp hwk hmul hG2
        go_wp2_with fail
        go_ret
        exact ⟨ret_bool (by simp), hbel⟩
    · -- none is above 0
      obtain rfl : k = n := by omega
      have hgg := HE.out HK.out
      subst hgg
      clear HK hlt
      rcases HV5.out with ho5 | ho5
      all_goals
        have ho6 : FloatKind.f64.format.order y (floatOfInt .f64 ((g : Int) + 1)) = some .lt := by
          have h := HV6.out
          rw [show ((g + 1 : Nat) : Int) = (g : Int) + 1 by omega] at h
          exact h
        go_wp2_with fail
        go_ret
        exact ⟨rfl, hbel⟩

set_option maxHeartbeats 2000000 in
theorem law3_pos (bt : Nat → Nat) (ao : Option Addr) (n c r : Nat) (w : World) (hn : n ≤ 131072) (hr : Ok r) (hr1 : rung r < 4607182418800017408) (hz : rung r ≠ 0)
    (HF : Calls Trym.prog 8 #[.slice ao n c] w fun e w' => RetF n bt e ∧ w = w') (HD : Calls Trym.prog 9 #[.slice ao n c] w fun e w' => Cl w n bt e w') :
    Calls Trym.prog 3 #[.slice ao n c, .float .f64 r] w fun e w' => e = .returned (.bool true) ∧ Below w.heap.size w w' := by
  have H := zz7 ao n c r w (by unfold maxLen; omega)
  have e0 : FloatKind.f64.format.order r 0 = some .gt := order_gt hr ok_zero (by rw [rung_zero]; omega)
  have e1 : FloatKind.f64.format.order r 4607182418800017408 = some .lt := order_lt hr (ok_const (by omega)).1 (by rw [(ok_const (b := 4607182418800017408) (by omega)).2]; exact hr1)
  have HZ : Hid (rung r ≠ 0) := hz
  clear hz
  go_enter Trym.func3, Trym.ntmps3
  go_wp2_with fail
  refine H.mono ?_
  rintro e w' ⟨⟨q, rfl⟩, rfl⟩
  clear H
  cases q
  · go_wp2_with fail
    go_ret
    exact ⟨rfl, Below.refl _ _⟩
  go_wp2_with fail
  refine HF.mono ?_
  clear HF
  rintro e w' ⟨⟨q, rfl, hq⟩, rfl⟩
  cases q
  · clear hq
    go_wp2_with fail
    go_ret
    exact ⟨rfl, Below.refl _ _⟩
  have HW : Hid (∀ i, i < n → Wt (bt i)) := hq rfl
  clear hq
  go_wp2_with fail
  refine HD.mono ?_
  clear HD
  rintro e w1 ⟨a1, rfl, ha, hbel, hcell⟩
  have HA : Hid (0 < n → a1 = some ⟨w.heap.size, 0, none⟩) := fun h => by
    rcases ha with ⟨_, h0⟩ | ⟨h1, _⟩
    · omega
    · exact h1
  have HC1 : Hid (∀ i, i < n → w1.cell? ⟨w.heap.size, i, none⟩ = some (.float .f64 (bt i))) := hcell
  clear hcell ha
  go_wp2_with fail
  refine (zzdraw_any bt a1 w.heap.size n n r w1 hn HA.out hr hr1 HW.out HC1.out).mono ?_
  rintro e w2 ⟨⟨g, rfl, hgood⟩, rfl⟩
  have HG : Hid (Good bt n r g) := hgood
  clear hgood
  obtain ⟨y, g0, v1, v2, v3, v4, v5, v6⟩ := even r n hr hr1 hn
  have HE : Hid ((∀ i, i < n → rung (bt i) = 0) → g = g0) := fun hall => by
    obtain ⟨y', u1, u2⟩ := HG.out.1 hall
    rw [v1] at u1
    obtain rfl := Option.some.inj u1
    rw [v2] at u2
    have := Option.some.inj u2
    omega
  have HV3 : Hid (g0 ≤ n ∧ (0 < n → g0 < n)) := ⟨v3, v4⟩
  have HV5 : Hid (FloatKind.f64.format.order (floatOfInt .f64 (g0 : Int)) y = some .lt ∨ FloatKind.f64.format.order (floatOfInt .f64 (g0 : Int)) y = some .eq) := v5
  have HV6 : Hid (FloatKind.f64.format.order y (floatOfInt .f64 ((g0 + 1 : Nat) : Int)) = some .lt) := v6
  have hmul := fun (wx : World) => run_float_arith (P := Trym.prog) wx .mul 23 .f64 r (floatOfInt .f64 (n : Int)) y v1
  clear v1 v2 v3 v4 v5 v6
  by_cases hn0 : n = 0
  · -- no weights
    have hg : g = 0 := by
      have := HE.out (fun i hi => by omega)
      have := HV3.out.1
      omega
    subst hn0
    subst hg
    clear hmul
    go_wp2_with fail
    go_ret
    exact ⟨rfl, hbel⟩
  have hn1 : 0 < n := by omega
  clear hn0
  have hgn : g < n := by
    by_cases hall : ∀ i, i < n → rung (bt i) = 0
    · have := HE.out hall
      have := HV3.out.2 hn1
      omega
    · refine (HG.out.2 ?_).1
      apply Classical.byContradiction
      intro hne
      refine hall (fun j hj => ?_)
      by_cases h : rung (bt j) = 0
      · exact h
      · exact absurd ⟨j, hj, by omega⟩ hne
  have hnb : ((n : Int) == 0) = false := by simp; omega
  obtain rfl := HA.out hn1
  go_wp2_with fail
  go_loop [7, 8] (fun fv i => ∃ k : Nat, k ≤ n ∧ i = .int .i64 k ∧ fv = .int .i64 (-1) ∧ Hid (∀ j, j < k → rung (bt j) = 0)) (fun _ i => n - (intOf i).toNat)
  case atStart => exact ⟨0, Nat.zero_le _, rfl, rfl, fun j hj => by omega⟩
  case round =>
    obtain ⟨k, hk, rfl, rfl, HK⟩ := hrel
    by_cases hlt : k < n
    · have h1 := HC1.out k hlt
      have hwk := (HW.out k hlt).1
      by_cases hp : rung (bt k) = 0
      · have ho : FloatKind.f64.format.order (bt k) 0 = some .eq := order_eq hwk ok_zero (by rw [hp, rung_zero])
        have HK1 : Hid (∀ j, j < k + 1 → rung (bt j) = 0) := fun j hj => by
          by_cases e : j = k
          · subst e; exact hp
          · exact HK.out j (by omega)
        clear HK hp hwk hmul
        go_wp2_with fail
        go_round
        case rel => exact ⟨k + 1, by omega, by go_num, rfl, HK1⟩
        case measure => simp [intOf]; omega
      · -- the first weight above 0
        have ho : FloatKind.f64.format.order (bt k) 0 = some .gt := order_gt hwk ok_zero (by rw [rung_zero]; omega)
        have hG2 := HG.out.2 ⟨k, hlt, by omega⟩
        have h2 := HC1.out g hgn
        have hog : FloatKind.f64.format.order (bt g) 0 = some .gt := order_gt (HW.out g hgn).1 ok_zero (by rw [rung_zero]; exact hG2.2.1)
        clear HK hp hwk hmul hG2
        go_wp2_with fail
        go_ret
        exact ⟨rfl, hbel⟩
    · -- none is above 0
      obtain rfl : k = n := by omega
      have hgg := HE.out HK.out
      subst hgg
      clear HK hlt
      rcases HV5.out with ho5 | ho5
      all_goals
        have ho6 : FloatKind.f64.format.order y (floatOfInt .f64 ((g : Int) + 1)) = some .lt := by
          have h := HV6.out
          rw [show ((g + 1 : Nat) : Int) = (g : Int) + 1 by omega] at h
          exact h
        go_wp2_with fail
        go_ret
        exact ⟨rfl, hbel⟩

end Go.Proofs.Qxb6601637aMods.draw
