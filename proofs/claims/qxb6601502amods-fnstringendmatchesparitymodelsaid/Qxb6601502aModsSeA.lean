/-
  WALKS: cloneBytes_b1 (15), stringEnd (26).
-/
import Derived.Test.Qxb6601502aModsRows
import Derived.Test.Qxb6601502aModsBytesLib
import Derived.Test.Qxb6601502aModsPlain
import Derived.WalkKit
import Derived.WalkSpells
import Derived.WalkLawsBesides
namespace Go.Proofs.Qxb6601502aMods.strEnd
open Go.RowKit Plain

theorem info5 : (Trym.prog.info? 5).map (fun i => (i.zero, i.size, i.bytes)) = some (some (.int .u8 0), 1, 1) := by kernel_rfl

/-- What the clone is: a new row of the same bytes. -/
def Copied (w : World) (n : Nat) (t : Nat → Int) (w' : World) : Prop :=
  Below w.heap.size w w' ∧ w.heap.size < w'.heap.size ∧ ∀ i, i < n → w'.cell? ⟨w.heap.size, i, none⟩ = some (.int .u8 (t i))

set_option maxHeartbeats 400000 in
theorem clone_any (t : Nat → Int) (b off n c : Nat) (w : World) (hn : n ≤ 1048576) (hb : b < w.heap.size)
    (hc : ∀ i, i < n → w.cell? ⟨b, off + i, none⟩ = some (.int .u8 (t i))) :
    Calls Trym.prog 15 #[.slice (some ⟨b, off, none⟩) n c] w fun e w' => e = .returned (.slice (some ⟨w.heap.size, 0, none⟩) n n) ∧ Copied w n t w' := by
  obtain ⟨i0, hi, hz0, hz1, hz2⟩ := info_parts info5
  have heq := fun (wx : World) (ax : Option Addr) (nx cx : Nat) => Lib.run_eql_slice_nil (P := Trym.prog) wx 23 5 ax nx cx 0 0 Trym.underlying23
  go_enter Trym.func15, Trym.ntmps15
  go_wp2_with (at_make; refine wpList_make_full _ rfl _ _ 23 rfl w.heap.size 5 i0 (.int .u8 0) 1 Trym.underlying23 hi hz0 hz1 _ _ _ _ n rfl rfl (by omega) (by omega) ?b2 ?b3 (Nat.le_refl _) ?_)
  case b2 => rw [hz2]; omega
  case b3 => unfold maxLen; omega
  intro w0 hown0 hgrow0
  go_wp2
  go_loopw [4] (fun i wr => ∃ (k : Nat) (xs : List Value), k ≤ n ∧ i = .int .i64 k ∧ wr.ownsRow w.heap.size 5 1 (.slice (some ⟨w.heap.size, 0, none⟩) n n) n xs ∧ (∀ j, j < k → xs[j]? = some (.int .u8 (t j))) ∧ Below w.heap.size w wr)
    (fun i _ => n - (intOf i).toNat)
  case atStart => exact ⟨0, _, Nat.zero_le _, rfl, hown0, fun j hj => by omega, (Below.refl _ _).grown hgrow0 (Nat.le_refl _) (fun k h => by cases h)⟩
  case round =>
    obtain ⟨k, xs, hk, rfl, hown, hxs, hnx⟩ := hrel
    by_cases hlt : k < n
    · have h1 : wr.cell? ⟨b, off + k, none⟩ = some (.int .u8 (t k)) := (hnx.cell (by exact hb)).trans (hc k hlt)
      have hf := hown.frozenAt k
      have hlen : xs.length = n := by have := hown.1; omega
      obtain ⟨v, hv⟩ : ∃ v, wr.cell? ⟨w.heap.size, k, none⟩ = some v := by
        rw [hown.cellAt k (by omega)]
        exact ⟨_, List.getElem?_eq_getElem (by omega)⟩
      have R := hown.stored k (.int .u8 (t k))
      have RB := hnx.setCell (p := ⟨w.heap.size, k, none⟩) (Nat.le_refl _) (.int .u8 (t k))
      have hx2 : ∀ j, j < k + 1 → (xs.set k (.int .u8 (t k)))[j]? = some (.int .u8 (t j)) := by
        intro j hj
        rw [List.getElem?_set]
        by_cases e : k = j
        · subst e; simp [hlen, hlt]
        · rw [if_neg e]; exact hxs j (by omega)
      have HX : Hid (∀ j, j < k + 1 → (xs.set k (.int .u8 (t k)))[j]? = some (.int .u8 (t j))) := hx2
      clear hx2 hxs hc hown hnx
      go_wp2
      go_roundw
      case rel => exact ⟨k + 1, _, by omega, by go_num, R.1, HX.out, RB⟩
      case measure => simp [intOf]; omega
    · have hkn : k = n := by omega
      subst hkn
      clear hc
      go_wp2
      go_ret
      exact ⟨rfl, hnx, (hown.lt _ rfl).2, fun i hi => by rw [hown.cellAt i (by omega)]; exact hxs i hi⟩

/-! ### what HasPrefix answers -/
theorem ofNat_inj {a b : Int} (ha : 0 ≤ a ∧ a ≤ 255) (hb : 0 ≤ b ∧ b ≤ 255) : (UInt8.ofNat a.toNat = UInt8.ofNat b.toNat) ↔ a = b := by
  constructor
  · intro h
    have := congrArg UInt8.toNat h
    simp only [UInt8.toNat_ofNat'] at this
    omega
  · intro h; rw [h]

def cellsFrom (t : Nat → Int) (n s : Nat) : List Int := (List.range (n - s)).map fun i => t (s + i)

theorem cellsFrom_length (t : Nat → Int) (n s : Nat) : (cellsFrom t n s).length = n - s := by simp [cellsFrom]

theorem cellsFrom_getD (t : Nat → Int) (n s i : Nat) (h : i < n - s) : (cellsFrom t n s).getD i 0 = t (s + i) := by
  simp [cellsFrom, h]

theorem prefix_three (t : Nat → Int) (n s : Nat) (hs : s < n) (ht : ∀ i, i < n → 0 ≤ t i ∧ t i ≤ 255) :
    Lib.hasPrefix (Lib.bytesOf (cellsFrom t n s)) (Lib.bytesOf [t s, t s, t s]) = three t n s := by
  rw [Bool.eq_iff_iff]
  unfold Lib.hasPrefix three
  rw [List.isPrefixOf_iff_prefix, List.prefix_iff_eq_take]
  simp only [Lib.bytesOf, List.map_cons, List.map_nil, List.length_cons, List.length_nil, cellsFrom, List.map_map, decide_eq_true_eq]
  by_cases h2 : s + 2 < n
  · obtain ⟨r, hr⟩ : ∃ r, n - s = r + 3 := ⟨n - s - 3, by omega⟩
    rw [hr]
    rw [show List.range (r + 3) = 0 :: 1 :: 2 :: (List.range r).map (· + 3) by
      rw [List.range_succ_eq_map, List.range_succ_eq_map, List.range_succ_eq_map]; simp]
    simp only [List.map_cons, List.take_succ_cons, List.take_zero, Function.comp, List.cons.injEq, and_true, Nat.add_zero, true_and]
    rw [ofNat_inj (ht s hs) (ht (s + 1) (by omega)), ofNat_inj (ht s hs) (ht (s + 2) h2)]
    constructor
    · intro h; exact ⟨h2, h.1.symm, h.2.symm⟩
    · intro h; exact ⟨h.2.1.symm, h.2.2.symm⟩
  · constructor
    · intro h
      have := congrArg List.length h
      simp at this
      omega
    · intro h; omega

end Go.Proofs.Qxb6601502aMods.strEnd
