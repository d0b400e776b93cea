/-
  WALK: draw (23), ZZdraw (10).
-/
import Derived.Test.Qxb6601637aModsDrA
namespace Go.Proofs.Qxb6601637aMods.draw
open Go.RowKit Fl

/-- WHAT draw ANSWERS: where no weight is above 0: int(r * n); else a position whose weight is above 0, the first such where r is 0. -/
def Good (bt : Nat → Nat) (n r g : Nat) : Prop :=
  ((∀ i, i < n → rung (bt i) = 0) → ∃ y, floatBits .mul .f64 r (floatOfInt .f64 (n : Int)) = some y ∧ floatToIntVal .f64 y .i64 = some (g : Int)) ∧
  ((∃ i, i < n ∧ 0 < rung (bt i)) → g < n ∧ 0 < rung (bt g) ∧ (rung r = 0 → ∀ j, j < g → rung (bt j) = 0))

/-- An int came back that is such. -/
def RetG (bt : Nat → Nat) (n r : Nat) (e : Ending) : Prop := ∃ g : Nat, e = .returned (.int .i64 (g : Int)) ∧ Good bt n r g

set_option maxHeartbeats 1000000 in
theorem draw_any (bt : Nat → Nat) (ao : Option Addr) (b n c r : Nat) (w : World) (hn : n ≤ 131072) (hao : 0 < n → ao = some ⟨b, 0, none⟩)
    (hr : Ok r) (hr1 : rung r < 4607182418800017408) (hwt : ∀ i, i < n → Wt (bt i)) (hc : ∀ i, i < n → w.cell? ⟨b, i, none⟩ = some (.float .f64 (bt i))) :
    Calls Trym.prog 23 #[.slice ao n c, .float .f64 r] w fun e w' => RetG bt n r e ∧ w = w' := by
  have HC : Hid (∀ i, i < n → w.cell? ⟨b, i, none⟩ = some (.float .f64 (bt i))) := hc
  have HA : Hid (0 < n → ao = some ⟨b, 0, none⟩) := hao
  have HW : Hid (∀ i, i < n → Wt (bt i)) := hwt
  clear hc hao hwt
  go_enter Trym.func23, Trym.ntmps23
  go_wp2
  go_loop [5, 7, 14] (fun tv _ i => ∃ k tb : Nat, k ≤ n ∧ i = .int .i64 k ∧ tv = .float .f64 tb ∧ Sum (fun j => rung (bt j)) k tb) (fun _ _ i => n - (intOf i).toNat)
  case atStart => exact ⟨0, 0, Nat.zero_le _, rfl, rfl, Sum.start _⟩
  case round =>
    obtain ⟨k, tb, hk, rfl, rfl, hsum⟩ := hrel
    by_cases hlt : k < n
    · obtain rfl := HA.out (by omega)
      have h1 := HC.out k hlt
      have hwk := HW.out k hlt
      obtain ⟨tc, hadd, hsum2⟩ := hsum.step (wb := bt k) (by omega) hwk.1 rfl hwk.2
      have hrun := fun (wx : World) => run_float_arith (P := Trym.prog) wx .add 23 .f64 tb (bt k) tc hadd
      clear hwk hsum hadd
      go_wp2
      go_round
      case rel => exact ⟨k + 1, tc, by omega, by go_num, rfl, hsum2⟩
      case measure => simp [intOf]; omega
    · obtain rfl : k = n := by omega
      clear hlt hk
      by_cases hq : rung tb = 0
      · -- no weight above 0: the even spread
        have ho : FloatKind.f64.format.order tb 0 = some .eq := order_eq hsum.ok ok_zero (by rw [hq, rung_zero])
        have hall : ∀ i, i < k → rung (bt i) = 0 := fun i hi => by have := hsum.above i hi; omega
        obtain ⟨y, g, e1, e2, _⟩ := even r k hr hr1 hn
        have hg : Good bt k r g := ⟨fun _ => ⟨y, e1, e2⟩, fun ⟨i, hi, hp⟩ => by have := hall i hi; omega⟩
        have hmul := fun (wx : World) => run_float_arith (P := Trym.prog) wx .mul 23 .f64 r (floatOfInt .f64 (k : Int)) y e1
        have hcv := fun (wx : World) => run_convert_float_int (P := Trym.prog) wx 23 3 .f64 .i64 y g (by rw [Trym.underlying23]; rfl) Trym.underlying3 e2
        clear hsum hall e1 e2 hq HC HW
        go_wp2
        go_ret
        exact ⟨⟨g, rfl, hg⟩, rfl⟩
      · -- some weight is above 0
        have ho : FloatKind.f64.format.order tb 0 = some .gt := order_gt hsum.ok ok_zero (by rw [rung_zero]; omega)
        have hex : ∃ i, i < k ∧ 0 < rung (bt i) := by
          apply Classical.byContradiction
          intro hne
          refine hq (hsum.zero (fun j hj => ?_))
          by_cases h : rung (bt j) = 0
          · exact h
          · exact absurd ⟨j, hj, by omega⟩ hne
        obtain ⟨xb, hmul0, hxb, hx0⟩ := mul_ok hr hsum.ok (by omega) hsum.fin
        have hmul := fun (wx : World) => run_float_arith (P := Trym.prog) wx .mul 23 .f64 r tb xb hmul0
        have hk0 : 0 < k := by obtain ⟨i, hi, _⟩ := hex; omega
        obtain rfl := HA.out hk0
        have HEX : Hid (∃ i, i < k ∧ 0 < rung (bt i)) := hex
        have HX0 : Hid (rung r = 0 → rung xb = 0) := hx0
        clear hsum hmul0 hq hex hx0
        go_wp2
        clear hmul ho
        go_loop [8, 9, 10, 35] (fun xv _ _ i => ∃ j xb : Nat, j ≤ k ∧ i = .int .i64 j ∧ xv = .float .f64 xb ∧ Ok xb ∧ Hid (rung r = 0 → rung xb = 0) ∧ Hid (rung r = 0 → ∀ m, m < j → rung (bt m) = 0)) (fun _ _ _ i => k - (intOf i).toNat)
        case atStart => exact ⟨0, xb, Nat.zero_le _, rfl, rfl, hxb, HX0, fun _ m hm => by omega⟩
        case round =>
          clear hxb HX0
          obtain ⟨j, xb, hj, rfl, rfl, hxb, HX0, HZ⟩ := hrel
          by_cases hjk : j < k
          · have h1 := HC.out j hjk
            have hwj := HW.out j hjk
            by_cases hlt : rung xb < rung (bt j)
            · -- this one
              have ho : FloatKind.f64.format.order xb (bt j) = some .lt := order_lt hxb hwj.1 hlt
              have hg : Good bt k r j := ⟨fun h => by have := h j hjk; omega, fun _ => ⟨hjk, by omega, HZ.out⟩⟩
              clear hwj HX0 HZ hlt
              go_wp2
              go_ret
              exact ⟨⟨j, rfl, hg⟩, rfl⟩
            · have ho : FloatKind.f64.format.order xb (bt j) = some .gt ∨ FloatKind.f64.format.order xb (bt j) = some .eq := by
                by_cases he : rung xb = rung (bt j)
                · exact .inr (order_eq hxb hwj.1 he)
                · exact .inl (order_gt hxb hwj.1 (by omega))
              obtain ⟨xc, hs1, hs2, hs3⟩ := sub_ok hxb hwj.1 (by have := hwj.2; omega) (by omega)
              have hsub := fun (wx : World) => run_float_arith (P := Trym.prog) wx .sub 23 .f64 xb (bt j) xc hs1
              have HX1 : Hid (rung r = 0 → rung xc = 0) := fun h => hs3 (HX0.out h)
              have HZ1 : Hid (rung r = 0 → ∀ m, m < j + 1 → rung (bt m) = 0) := fun h m hm => by
                by_cases e : m = j
                · subst e; have := HX0.out h; omega
                · exact HZ.out h m (by omega)
              clear hwj HX0 HZ hlt hs1 hs3
              rcases ho with ho | ho
              all_goals
                go_wp2
                go_round
                case rel => exact ⟨j + 1, xc, by omega, by go_num, rfl, hs2, HX1, HZ1⟩
                case measure => simp [intOf]; omega
          · -- rounding left x at the end: the last weight above 0
            obtain rfl : j = k := by omega
            have hrne : rung r ≠ 0 := fun h => by
              obtain ⟨i, hi, hp⟩ := HEX.out
              have := HZ.out h i hi
              omega
            have HRN : Hid (rung r ≠ 0) := hrne
            clear HX0 HZ hrne hxb
            go_wp2
            go_loop [11] (fun lv => ∃ l : Nat, l < j ∧ lv = .int .i64 l ∧ Hid (∃ i, i ≤ l ∧ 0 < rung (bt i))) (fun lv => (intOf lv).toNat)
            case atStart => exact ⟨j - 1, by omega, by go_num, by obtain ⟨i, hi, hp⟩ := HEX.out; exact ⟨i, by omega, hp⟩⟩
            case round =>
              obtain ⟨l, hl, rfl, HL⟩ := hrel
              have h1 := HC.out l hl
              have hwl := HW.out l hl
              by_cases hz : rung (bt l) = 0
              · have ho : FloatKind.f64.format.order (bt l) 0 = some .eq := order_eq hwl.1 ok_zero (by rw [hz, rung_zero])
                have hl1 : 1 ≤ l := by
                  obtain ⟨i, hi, hp⟩ := HL.out
                  by_cases e : i = l
                  · subst e; omega
                  · omega
                have HL1 : Hid (∃ i, i ≤ l - 1 ∧ 0 < rung (bt i)) := by
                  obtain ⟨i, hi, hp⟩ := HL.out
                  refine ⟨i, ?_, hp⟩
                  by_cases e : i = l
                  · subst e; omega
                  · omega
                clear HL hz hwl
                go_wp2
                go_round
                case rel => exact ⟨l - 1, by omega, by go_num, HL1⟩
                case measure => simp [intOf]; omega
              · have ho : FloatKind.f64.format.order (bt l) 0 = some .gt := order_gt hwl.1 ok_zero (by rw [rung_zero]; omega)
                have hg : Good bt j r l := ⟨fun h => absurd (h l hl) hz, fun _ => ⟨hl, by omega, fun h => absurd h HRN.out⟩⟩
                clear HL hz hwl
                go_wp2
                go_ret
                exact ⟨⟨l, rfl, hg⟩, rfl⟩

set_option maxHeartbeats 400000 in
theorem zzdraw_any (bt : Nat → Nat) (ao : Option Addr) (b n c r : Nat) (w : World) (hn : n ≤ 131072) (hao : 0 < n → ao = some ⟨b, 0, none⟩)
    (hr : Ok r) (hr1 : rung r < 4607182418800017408) (hwt : ∀ i, i < n → Wt (bt i)) (hc : ∀ i, i < n → w.cell? ⟨b, i, none⟩ = some (.float .f64 (bt i))) :
    Calls Trym.prog 10 #[.slice ao n c, .float .f64 r] w fun e w' => RetG bt n r e ∧ w = w' := by
  have H := draw_any bt ao b n c r w hn hao hr hr1 hwt hc
  clear hao hwt hc
  go_enter Trym.func10, Trym.ntmps10
  go_wp2_with fail
  refine H.mono ?_
  rintro e w' ⟨⟨g, rfl, hg⟩, rfl⟩
  clear H
  go_wp2
  go_ret
  exact ⟨⟨g, rfl, hg⟩, rfl⟩

end Go.Proofs.Qxb6601637aMods.draw
