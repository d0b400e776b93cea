/-
  WALKS of ZZnonNil (16) and of the law (5).
-/
import Derived.Test.Qxb6601436aModsNonNilB
import Derived.Deep.QuietTactic
import Derived.BigQuiet
import Derived.Lib.Builder
namespace Go.Proofs.Qxb6601436aMods.nonNilIdem
open Go.RowKit

set_option maxHeartbeats 400000 in
theorem nn_some (x : Addr) (n c : Nat) (w : World) :
    Calls Trym.prog 16 #[.slice (some x) n c] w fun e w' => e = .returned (.slice (some x) n c) ∧ w = w' := by
  have heq := fun (wx : World) (ax : Option Addr) (nx cx : Nat) => Lib.run_eql_slice_nil (P := Trym.prog) wx 28 9 ax nx cx 0 0 Trym.underlying28
  go_enter Trym.func16, Trym.ntmps16
  go_wp2
  go_ret
  exact ⟨rfl, rfl⟩

set_option maxHeartbeats 400000 in
theorem nn_nil (w : World) :
    Calls Trym.prog 16 #[.slice none 0 0] w fun e w' => e = .returned (.slice (some ⟨w.heap.size, 0, none⟩) 0 0) ∧ w' = w.alloc (.cells #[] 9) := by
  have heq := fun (wx : World) (ax : Option Addr) (nx cx : Nat) => Lib.run_eql_slice_nil (P := Trym.prog) wx 28 9 ax nx cx 0 0 Trym.underlying28
  go_enter Trym.func16, Trym.ntmps16
  go_wp2
  go_ret
  exact ⟨rfl, rfl⟩


set_option maxHeartbeats 1000000 in
/-- The tail of the law behind the copy: a list that is not nil. -/
theorem law_pos (b off n c : Nat) (ss : List ByteArray) (w : World) (hn : n ≤ maxLen) (hpos : 0 < n) (hb : b < w.heap.size)
    (hc : ∀ i, i < n → w.cell? ⟨b, off + i, none⟩ = some (.string (ss.getD i ByteArray.empty))) :
    Calls Trym.prog 5 #[.slice (some ⟨b, off, none⟩) n c] w fun e w' => e = .returned (.bool true) ∧ Below w.heap.size w w' := by
  have heq := fun (wx : World) (ax : Option Addr) (nx cx : Nat) => Lib.run_eql_slice_nil (P := Trym.prog) wx 28 9 ax nx cx 0 0 Trym.underlying28
  obtain ⟨i0, hi, _, _, _⟩ := info_parts info9
  have hneq := fun (wx : World) (ax : Addr) => Lib.run_neq_ptr_same (P := Trym.prog) wx (tp := 22) (te := 9) ax Trym.underlying22 hi
  go_enter Trym.func5, Trym.ntmps5
  go_wp2_with fail
  refine (bytes_any b off n c ss w hn hc).mono ?_
  rintro e w' ⟨⟨r, rfl⟩, rfl⟩
  cases r
  · go_wp2_with fail
    go_ret
    exact ⟨rfl, Below.refl _ _⟩
  go_wp2_with fail
  refine (list_any b off n c ss _ hn hc).mono ?_
  rintro e w' ⟨⟨r, rfl, hr⟩, rfl⟩
  by_cases hr0 : r < 0
  · go_wp2_with fail
    go_ret
    exact ⟨rfl, Below.refl _ _⟩
  have h65 := hr (by omega)
  clear hr
  go_wp2_with fail
  refine (copy_any b off n c ss _ h65 hb hc).mono ?_
  rintro e w1 ⟨rfl, hbel, hsz, hcell⟩
  go_wp2_with fail
  refine (nn_some _ _ _ _).mono ?_
  rintro e w' ⟨rfl, rfl⟩
  go_wp2_with fail
  refine (nn_some _ _ _ _).mono ?_
  rintro e w' ⟨rfl, rfl⟩
  have hl0 : (0 : Int) < (n : Int) := by omega
  go_wp2_with fail
  go_quiet (fail)
  go_wp2_with fail
  go_loopw [5] (fun i wr => ∃ (k q : Nat), k ≤ n ∧ i = .int .i64 k ∧ wr = w1.drewN q) (fun i _ => n - (intOf i).toNat)
  case atStart => exact ⟨0, _, Nat.zero_le _, rfl, rfl⟩
  case round =>
    obtain ⟨k, q, hk, rfl, rfl⟩ := hrel
    by_cases hlt : k < n
    · have h1 := hcell k hlt
      clear hcell hc
      go_wp2_with fail
      go_quiet (fail)
      go_wp2_with fail
      go_roundw
      case rel => exact ⟨k + 1, _, by omega, by go_num, rfl⟩
      case measure => simp [intOf]; omega
    · go_wp2
      go_ret
      exact ⟨rfl, below_drewN hbel q⟩

set_option maxHeartbeats 1000000 in
/-- An empty list that is not nil. -/
theorem law_zero (x : Addr) (c : Nat) (w : World) :
    Calls Trym.prog 5 #[.slice (some x) 0 c] w fun e w' => e = .returned (.bool true) ∧ Below w.heap.size w w' := by
  have heq := fun (wx : World) (ax : Option Addr) (nx cx : Nat) => Lib.run_eql_slice_nil (P := Trym.prog) wx 28 9 ax nx cx 0 0 Trym.underlying28
  go_enter Trym.func5, Trym.ntmps5
  go_wp2_with fail
  refine (bytes_zero (some x) c w).mono ?_
  rintro e w' ⟨⟨r, rfl⟩, rfl⟩
  cases r
  · go_wp2_with fail
    go_ret
    exact ⟨rfl, Below.refl _ _⟩
  go_wp2_with fail
  refine (list_zero (some x) c w).mono ?_
  rintro e w' ⟨rfl, rfl⟩
  go_wp2_with fail
  refine (copy_zero x c [] w).mono ?_
  rintro e w1 ⟨rfl, hbel, hsz, hcell⟩
  clear hcell
  go_wp2_with fail
  refine (nn_some _ _ _ _).mono ?_
  rintro e w' ⟨rfl, rfl⟩
  go_wp2_with fail
  refine (nn_some _ _ _ _).mono ?_
  rintro e w' ⟨rfl, rfl⟩
  go_wp2_with fail
  go_quiet (fail)
  go_wp2_with fail
  refine wp_loop_rounds 1 ?_
  rw [rounds_succ]
  go_wp2
  go_ret
  exact ⟨rfl, below_drewN hbel _⟩

set_option maxHeartbeats 1000000 in
/-- The nil list. -/
theorem law_nil (w : World) :
    Calls Trym.prog 5 #[.slice none 0 0] w fun e w' => e = .returned (.bool true) ∧ Below w.heap.size w w' := by
  have heq := fun (wx : World) (ax : Option Addr) (nx cx : Nat) => Lib.run_eql_slice_nil (P := Trym.prog) wx 28 9 ax nx cx 0 0 Trym.underlying28
  go_enter Trym.func5, Trym.ntmps5
  go_wp2_with fail
  refine (bytes_zero none 0 w).mono ?_
  rintro e w' ⟨⟨r, rfl⟩, rfl⟩
  cases r
  · go_wp2_with fail
    go_ret
    exact ⟨rfl, Below.refl _ _⟩
  go_wp2_with fail
  refine (list_zero none 0 w).mono ?_
  rintro e w' ⟨rfl, rfl⟩
  go_wp2_with fail
  refine (copy_nil w).mono ?_
  rintro e w1 ⟨rfl, rfl⟩
  go_wp2_with fail
  refine (nn_nil w).mono ?_
  rintro e w' ⟨rfl, rfl⟩
  go_wp2_with fail
  refine (nn_some _ _ _ _).mono ?_
  rintro e w' ⟨rfl, rfl⟩
  go_wp2_with fail
  go_quiet (fail)
  go_wp2_with fail
  refine wp_loop_rounds 1 ?_
  rw [rounds_succ]
  go_wp2
  go_ret
  exact ⟨rfl, below_drewN ((Below.refl _ _).alloc (Nat.le_refl _) _) _⟩

end Go.Proofs.Qxb6601436aMods.nonNilIdem
