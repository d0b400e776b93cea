/-
  WALK of tenancyB1CopyList (function 15).
-/
import Derived.Test.Qxb6601436aModsNonNilA
namespace Go.Proofs.Qxb6601436aMods.nonNilIdem
open Go.RowKit

theorem info9 : (Trym.prog.info? 9).map (fun i => (i.zero, i.size, i.bytes)) = some (some (.string ByteArray.empty), 1, 16) := by kernel_rfl

set_option maxHeartbeats 400000 in
theorem copy_nil (w : World) :
    Calls Trym.prog 15 #[.slice none 0 0] w fun e w' => e = .returned (.slice none 0 0) ∧ w = w' := by
  have heq := fun (wx : World) (ax : Option Addr) (nx cx : Nat) => Lib.run_eql_slice_nil (P := Trym.prog) wx 28 9 ax nx cx 0 0 Trym.underlying28
  go_enter Trym.func15, Trym.ntmps15
  go_wp2
  go_ret
  exact ⟨rfl, rfl⟩

/-- What the copy is: a new row of the same strings. -/
def Copied (w : World) (n : Nat) (ss : List ByteArray) (w' : World) : Prop :=
  Below w.heap.size w w' ∧ w.heap.size < w'.heap.size ∧ ∀ i, i < n → w'.cell? ⟨w.heap.size, i, none⟩ = some (.string (ss.getD i ByteArray.empty))

set_option maxHeartbeats 400000 in
theorem copy_zero (x : Addr) (c : Nat) (ss : List ByteArray) (w : World) :
    Calls Trym.prog 15 #[.slice (some x) 0 c] w fun e w' => e = .returned (.slice (some ⟨w.heap.size, 0, none⟩) 0 0) ∧ Copied w 0 ss w' := by
  obtain ⟨i0, hi, hz0, hz1, hz2⟩ := info_parts info9
  have heq := fun (wx : World) (ax : Option Addr) (nx cx : Nat) => Lib.run_eql_slice_nil (P := Trym.prog) wx 28 9 ax nx cx 0 0 Trym.underlying28
  go_enter Trym.func15, Trym.ntmps15
  go_wp2_with (at_make; refine wpList_make_full _ rfl _ _ 28 rfl w.heap.size 9 i0 (.string ByteArray.empty) 1 Trym.underlying28 hi hz0 hz1 _ _ _ _ 0 rfl rfl (by omega) (by omega) ?b2 ?b3 (Nat.le_refl _) ?_)
  case b2 => rw [hz2]; omega
  case b3 => unfold maxLen; omega
  intro w0 hown0 hgrow0
  go_wp2
  refine wp_loop_rounds 1 ?_
  rw [rounds_succ]
  go_wp2
  go_ret
  exact ⟨rfl, (Below.refl _ _).grown hgrow0 (Nat.le_refl _) (fun k h => by cases h), (hown0.lt _ rfl).2, fun i hi => by omega⟩

set_option maxHeartbeats 400000 in
theorem copy_any (b off n c : Nat) (ss : List ByteArray) (w : World) (hn : n ≤ 65536) (hb : b < w.heap.size)
    (hc : ∀ i, i < n → w.cell? ⟨b, off + i, none⟩ = some (.string (ss.getD i ByteArray.empty))) :
    Calls Trym.prog 15 #[.slice (some ⟨b, off, none⟩) n c] w fun e w' => e = .returned (.slice (some ⟨w.heap.size, 0, none⟩) n n) ∧ Copied w n ss w' := by
  obtain ⟨i0, hi, hz0, hz1, hz2⟩ := info_parts info9
  have heq := fun (wx : World) (ax : Option Addr) (nx cx : Nat) => Lib.run_eql_slice_nil (P := Trym.prog) wx 28 9 ax nx cx 0 0 Trym.underlying28
  go_enter Trym.func15, Trym.ntmps15
  go_wp2_with (at_make; refine wpList_make_full _ rfl _ _ 28 rfl w.heap.size 9 i0 (.string ByteArray.empty) 1 Trym.underlying28 hi hz0 hz1 _ _ _ _ n rfl rfl (by omega) (by omega) ?b2 ?b3 (Nat.le_refl _) ?_)
  case b2 => rw [hz2]; omega
  case b3 => unfold maxLen; omega
  intro w0 hown0 hgrow0
  go_wp2
  go_loopw [4] (fun i wr => ∃ (k : Nat) (xs : List Value), k ≤ n ∧ i = .int .i64 k ∧ wr.ownsRow w.heap.size 9 1 (.slice (some ⟨w.heap.size, 0, none⟩) n n) n xs ∧ (∀ j, j < k → xs[j]? = some (.string (ss.getD j ByteArray.empty))) ∧ Below w.heap.size w wr)
    (fun i _ => n - (intOf i).toNat)
  case atStart => exact ⟨0, _, Nat.zero_le _, rfl, hown0, fun j hj => by omega, (Below.refl _ _).grown hgrow0 (Nat.le_refl _) (fun k h => by cases h)⟩
  case round =>
    obtain ⟨k, xs, hk, rfl, hown, hxs, hnx⟩ := hrel
    by_cases hlt : k < n
    · have h1 : wr.cell? ⟨b, off + k, none⟩ = some (.string (ss.getD k ByteArray.empty)) := (hnx.cell (by exact hb)).trans (hc k hlt)
      have hf := hown.frozenAt k
      have hlen : xs.length = n := by have := hown.1; omega
      obtain ⟨v, hv⟩ : ∃ v, wr.cell? ⟨w.heap.size, k, none⟩ = some v := by
        rw [hown.cellAt k (by omega)]
        exact ⟨_, List.getElem?_eq_getElem (by omega)⟩
      have R := hown.stored k (.string (ss.getD k ByteArray.empty))
      have RB := hnx.setCell (p := ⟨w.heap.size, k, none⟩) (Nat.le_refl _) (.string (ss.getD k ByteArray.empty))
      have hx2 : ∀ j, j < k + 1 → (xs.set k (.string (ss.getD k ByteArray.empty)))[j]? = some (.string (ss.getD j ByteArray.empty)) := by
        intro j hj
        rw [List.getElem?_set]
        by_cases e : k = j
        · subst e; simp [hlen, hlt]
        · rw [if_neg e]; exact hxs j (by omega)
      have HX : Hid (∀ j, j < k + 1 → (xs.set k (.string (ss.getD k ByteArray.empty)))[j]? = some (.string (ss.getD j ByteArray.empty))) := hx2
      clear hx2 hxs hc hown hnx
      go_wp2
      go_roundw
      case rel => exact ⟨k + 1, _, by omega, by go_num, R.1, HX.out, RB⟩
      case measure => simp [intOf]; omega
    · have hkn : k = n := by omega
      subst hkn
      clear hc
      go_wp2
      go_ret
      exact ⟨rfl, hnx, (hown.lt _ rfl).2, fun i hi => by rw [hown.cellAt i (by omega)]; exact hxs i hi⟩

end Go.Proofs.Qxb6601436aMods.nonNilIdem
