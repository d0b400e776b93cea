/-
  WALKS: zzBytes (7), zzg1Finite (8), zzg1CopyFloats (9).
-/
import Derived.Test.Qxb6601637aModsRows
import Derived.Test.Qxb6601637aModsFlE
import Derived.WalkKit
import Derived.WalkSpells
import Derived.WalkLawsBesides
namespace Go.Proofs.Qxb6601637aMods.draw
open Go.RowKit Fl

theorem info23 : (Trym.prog.info? 23).map (fun i => (i.zero, i.size, i.bytes)) = some (some (.float .f64 0), 1, 8) := by kernel_rfl

theorem ret_int {k : IntKind} {a b : Int} (h : a = b) : Ending.returned (.int k a) = .returned (.int k b) := by rw [h]
theorem ret_bool {a b : Bool} (h : a = b) : Ending.returned (.bool a) = .returned (.bool b) := by rw [h]

/-- A bool came back. -/
def RetB (e : Ending) : Prop := ∃ b, e = .returned (.bool b)

set_option maxHeartbeats 400000 in
theorem zz7 (ao : Option Addr) (n c r : Nat) (w : World) (hn : n ≤ maxLen) :
    Calls Trym.prog 7 #[.slice ao n c, .float .f64 r] w fun e w' => RetB e ∧ w = w' := by
  unfold maxLen at hn
  by_cases h : (n : Int) ≤ 1048576
  all_goals
    go_enter Trym.func7, Trym.ntmps7
    go_wp2
    go_ret
    exact ⟨⟨_, rfl⟩, rfl⟩

/-- A weight that the law takes: at least 0, at most 1e300. -/
def Wt (b : Nat) : Prop := Ok b ∧ rung b ≤ 9094988921128908188

/-- A bool came back; if it is true every weight is one that the law takes. -/
def RetF (n : Nat) (bt : Nat → Nat) (e : Ending) : Prop := ∃ f : Bool, e = .returned (.bool f) ∧ (f = true → ∀ i, i < n → Wt (bt i))

theorem big_ok : Ok 9094988921128908188 ∧ rung 9094988921128908188 = 9094988921128908188 := ok_const (by omega)

set_option maxHeartbeats 400000 in
theorem finite_any (bt : Nat → Nat) (ao : Option Addr) (b off n c : Nat) (w : World) (hn : n ≤ 131072) (hao : 0 < n → ao = some ⟨b, off, none⟩)
    (hwf : ∀ i, i < n → bt i < 18446744073709551616) (hc : ∀ i, i < n → w.cell? ⟨b, off + i, none⟩ = some (.float .f64 (bt i))) :
    Calls Trym.prog 8 #[.slice ao n c] w fun e w' => RetF n bt e ∧ w = w' := by
  have HC : Hid (∀ i, i < n → w.cell? ⟨b, off + i, none⟩ = some (.float .f64 (bt i))) := hc
  have HA : Hid (0 < n → ao = some ⟨b, off, none⟩) := hao
  have HW : Hid (∀ i, i < n → bt i < 18446744073709551616) := hwf
  clear hc hao hwf
  go_enter Trym.func8, Trym.ntmps8
  go_wp2
  go_loop [3, 4] (fun i _ => ∃ k : Nat, k ≤ n ∧ i = .int .i64 k ∧ Hid (∀ j, j < k → Wt (bt j))) (fun i _ => n - (intOf i).toNat)
  case atStart => exact ⟨0, Nat.zero_le _, rfl, fun j hj => by omega⟩
  case round =>
    obtain ⟨k, hk, rfl, HK⟩ := hrel
    by_cases hlt : k < n
    · obtain rfl := HA.out (by omega)
      have h1 := HC.out k hlt
      go_wp2
      · go_ret
        exact ⟨⟨false, rfl, fun h => by cases h⟩, rfl⟩
      · have h2 : ((!FloatKind.f64.format.order (bt k) 0 == some Ordering.gt) = false ∨ (!FloatKind.f64.format.order (bt k) 0 == some Ordering.eq) = false) ∧ ((!FloatKind.f64.format.order (bt k) 9094988921128908188 == some Ordering.lt) = false ∨ (!FloatKind.f64.format.order (bt k) 9094988921128908188 == some Ordering.eq) = false) := by assumption
        have hk1 : ∀ j, j < k + 1 → Wt (bt j) := fun j hj => by
          by_cases e : j = k
          · subst e
            simp only [Bool.not_eq_false', beq_iff_eq] at h2
            have ok := ok_of_order (HW.out j hlt) h2.1
            exact ⟨ok, by have := rung_le_of_order ok big_ok.1 h2.2; rwa [big_ok.2] at this⟩
          · exact HK.out j (by omega)
        go_round
        case rel => exact ⟨k + 1, by omega, by go_num, hk1⟩
        case measure => simp [intOf]; omega
      · go_ret
        exact ⟨⟨false, rfl, fun h => by cases h⟩, rfl⟩
    · obtain rfl : k = n := by omega
      go_wp2
      go_ret
      exact ⟨⟨true, rfl, fun _ => HK.out⟩, rfl⟩

/-- What the copy is: nil, or a new row of the same floats. -/
def Cl (w : World) (n : Nat) (bt : Nat → Nat) (e : Ending) (w' : World) : Prop :=
  ∃ ao, e = .returned (.slice ao n n) ∧ (ao = none ∧ n = 0 ∨ ao = some ⟨w.heap.size, 0, none⟩ ∧ w.heap.size < w'.heap.size) ∧
    Below w.heap.size w w' ∧ ∀ i, i < n → w'.cell? ⟨w.heap.size, i, none⟩ = some (.float .f64 (bt i))

set_option maxHeartbeats 400000 in
theorem copy_nil (bt : Nat → Nat) (w : World) :
    Calls Trym.prog 9 #[.slice none 0 0] w fun e w' => Cl w 0 bt e w' := by
  have heq := fun (wx : World) (ax : Option Addr) (nx cx : Nat) => Lib.run_eql_slice_nil (P := Trym.prog) wx 22 23 ax nx cx 0 0 Trym.underlying22
  go_enter Trym.func9, Trym.ntmps9
  go_wp2
  go_ret
  exact ⟨none, rfl, .inl ⟨rfl, rfl⟩, Below.refl _ _, fun i hi => by omega⟩

set_option maxHeartbeats 400000 in
theorem copy_some (bt : Nat → Nat) (x : Addr) (b off n c : Nat) (w : World) (hn : n ≤ 131072) (hx : 0 < n → x = ⟨b, off, none⟩)
    (hc : ∀ i, i < n → w.cell? ⟨b, off + i, none⟩ = some (.float .f64 (bt i))) :
    Calls Trym.prog 9 #[.slice (some x) n c] w fun e w' => Cl w n bt e w' := by
  obtain ⟨i0, hi, hz0, hz1, hz2⟩ := info_parts info23
  have heq := fun (wx : World) (ax : Option Addr) (nx cx : Nat) => Lib.run_eql_slice_nil (P := Trym.prog) wx 22 23 ax nx cx 0 0 Trym.underlying22
  have hst := fun (wx : World) (ax : Addr) (bx : Nat) (mx : Mode) => run_store Trym.prog wx ax (.float .f64 bx) mx rfl
  have HC : Hid (∀ i, i < n → w.cell? ⟨b, off + i, none⟩ = some (.float .f64 (bt i))) := hc
  have HX : Hid (0 < n → x = ⟨b, off, none⟩) := hx
  clear hc hx
  go_enter Trym.func9, Trym.ntmps9
  go_wp2_with (at_make; refine wpList_make_full _ rfl _ _ 22 rfl w.heap.size 23 i0 (.float .f64 0) 1 Trym.underlying22 hi hz0 hz1 _ _ _ _ n rfl rfl (by omega) (by omega) ?b2 ?b3 (Nat.le_refl _) ?_)
  case b2 => rw [hz2]; omega
  case b3 => unfold maxLen; omega
  intro w0 hown0 hgrow0
  go_wp2
  go_loopw [4] (fun i wr => ∃ (k : Nat) (xs : List Value), k ≤ n ∧ i = .int .i64 k ∧ wr.ownsRow w.heap.size 23 1 (.slice (some ⟨w.heap.size, 0, none⟩) n n) n xs ∧ (∀ j, j < k → xs[j]? = some (.float .f64 (bt j))) ∧ Below w.heap.size w wr)
    (fun i _ => n - (intOf i).toNat)
  case atStart => exact ⟨0, _, Nat.zero_le _, rfl, hown0, fun j hj => by omega, (Below.refl _ _).grown hgrow0 (Nat.le_refl _) (fun k h => by cases h)⟩
  case round =>
    obtain ⟨k, xs, hk, rfl, hown, hxs, hnx⟩ := hrel
    by_cases hlt : k < n
    · obtain rfl := HX.out (by omega)
      have hck := HC.out k hlt
      have hb : b < w.heap.size := World.block_lt_of_cell? w ⟨b, off + k, none⟩ hck
      have h1 : wr.cell? ⟨b, off + k, none⟩ = some (.float .f64 (bt k)) := (hnx.cell (by exact hb)).trans hck
      have hf := hown.frozenAt k
      have hlen : xs.length = n := by have := hown.1; omega
      obtain ⟨v, hv⟩ : ∃ v, wr.cell? ⟨w.heap.size, k, none⟩ = some v := by
        rw [hown.cellAt k (by omega)]
        exact ⟨_, List.getElem?_eq_getElem (by omega)⟩
      have R := hown.stored k (.float .f64 (bt k))
      have RB := hnx.setCell (p := ⟨w.heap.size, k, none⟩) (Nat.le_refl _) (.float .f64 (bt k))
      have hx2 : ∀ j, j < k + 1 → (xs.set k (.float .f64 (bt k)))[j]? = some (.float .f64 (bt j)) := by
        intro j hj
        rw [List.getElem?_set]
        by_cases e : k = j
        · subst e; simp [hlen, hlt]
        · rw [if_neg e]; exact hxs j (by omega)
      have HX2 : Hid (∀ j, j < k + 1 → (xs.set k (.float .f64 (bt k)))[j]? = some (.float .f64 (bt j))) := hx2
      clear hx2 hxs hck hown hnx
      go_wp2
      go_roundw
      case rel => exact ⟨k + 1, _, by omega, by go_num, R.1, HX2.out, RB⟩
      case measure => simp [intOf]; omega
    · obtain rfl : k = n := by omega
      go_wp2
      go_ret
      exact ⟨_, rfl, .inr ⟨rfl, (hown.lt _ rfl).2⟩, hnx, fun i hi => by rw [hown.cellAt i (by omega)]; exact hxs i hi⟩

end Go.Proofs.Qxb6601637aMods.draw
