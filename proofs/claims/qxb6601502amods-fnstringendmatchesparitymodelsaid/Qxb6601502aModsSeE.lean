/-
  WALKS: zzBytes (14) and the law FnStringEndMatchesParityModel (5).
-/
import Derived.Test.Qxb6601502aModsSeD
namespace Go.Proofs.Qxb6601502aMods.strEnd
open Go.RowKit Plain

set_option maxHeartbeats 400000 in
theorem zz14 (ao : Option Addr) (n c : Nat) (s : Int) (w : World) (hn : n ≤ maxLen) :
    Calls Trym.prog 14 #[.slice ao n c, .int .i64 s] w fun e w' => RetB e ∧ w = w' := by
  unfold maxLen at hn
  by_cases h : (n : Int) ≤ 1048576
  all_goals
    go_enter Trym.func14, Trym.ntmps14
    go_wp2
    go_ret
    exact ⟨⟨_, rfl⟩, rfl⟩

set_option maxHeartbeats 400000 in
/-- Too long: true at once. -/
theorem law5_long (ao : Option Addr) (n c : Nat) (s : Int) (w : World) (hn : n ≤ maxLen) (h : ¬ n ≤ 1048576) :
    Calls Trym.prog 5 #[.slice ao n c, .int .i64 s] w fun e w' => e = .returned (.bool true) ∧ Below w.heap.size w w' := by
  have H := zz14 ao n c s w hn
  unfold maxLen at hn
  have hi : ¬ (n : Int) ≤ 1048576 := by omega
  go_enter Trym.func5, Trym.ntmps5
  go_wp2_with fail
  refine H.mono ?_
  rintro e w' ⟨⟨r, rfl⟩, rfl⟩
  clear H
  cases r
  all_goals
    go_wp2_with fail
    go_ret
    exact ⟨rfl, Below.refl _ _⟩

set_option maxHeartbeats 400000 in
/-- The start lies outside the text: true at once. -/
theorem law5_out (ao : Option Addr) (n c : Nat) (s : Int) (w : World) (h : n ≤ 1048576) (hs : s < 0 ∨ (n : Int) ≤ s) :
    Calls Trym.prog 5 #[.slice ao n c, .int .i64 s] w fun e w' => e = .returned (.bool true) ∧ Below w.heap.size w w' := by
  have H := zz14 ao n c s w (by unfold maxLen; omega)
  rcases hs with hs | hs
  · go_enter Trym.func5, Trym.ntmps5
    go_wp2_with fail
    refine H.mono ?_
    rintro e w' ⟨⟨r, rfl⟩, rfl⟩
    clear H
    cases r
    all_goals
      go_wp2_with fail
      go_ret
      exact ⟨rfl, Below.refl _ _⟩
  · have hs0 : ¬ s < 0 := by omega
    go_enter Trym.func5, Trym.ntmps5
    go_wp2_with fail
    refine H.mono ?_
    rintro e w' ⟨⟨r, rfl⟩, rfl⟩
    clear H
    cases r
    all_goals
      go_wp2_with fail
      go_ret
      exact ⟨rfl, Below.refl _ _⟩

set_option maxHeartbeats 1000000 in
theorem law5_in (t : Nat → Int) (b off n c s : Nat) (w : World) (hn : n ≤ 1048576) (hs : s < n) (hb : b < w.heap.size)
    (ht : ∀ i, i < n → 0 ≤ t i ∧ t i ≤ 255) (hc : ∀ i, i < n → w.cell? ⟨b, off + i, none⟩ = some (.int .u8 (t i))) :
    Calls Trym.prog 5 #[.slice (some ⟨b, off, none⟩) n c, .int .i64 s] w fun e w' => e = .returned (.bool true) ∧ Below w.heap.size w w' := by
  have H := zz14 (some ⟨b, off, none⟩) n c s w (by unfold maxLen; omega)
  have HC := clone_any t b off n c w hn hb hc
  have HT : Hid (∀ i, i < n → 0 ≤ t i ∧ t i ≤ 255) := ht
  clear hc ht
  go_enter Trym.func5, Trym.ntmps5
  go_wp2_with fail
  refine H.mono ?_
  rintro e w' ⟨⟨r', rfl⟩, rfl⟩
  clear H
  cases r'
  · go_wp2_with fail
    go_ret
    exact ⟨rfl, Below.refl _ _⟩
  go_wp2_with fail
  refine HC.mono ?_
  clear HC
  rintro e w1 ⟨rfl, hbel, hsz, hcell⟩
  have HC1 : Hid (∀ i, i < n → w1.cell? ⟨w.heap.size, i, none⟩ = some (.int .u8 (t i))) := hcell
  clear hcell
  go_wp2_with fail
  refine (zzEnd t w.heap.size 0 n n s w1 hn (Nat.le_refl _) hs hsz HT.out (fun i hi => by rw [Nat.zero_add]; exact HC1.out i hi)).mono ?_
  rw [seEnd_seMod]
  rintro e w2 ⟨rfl, hbel2⟩
  have HC2 : Hid (∀ i, i < n → w2.cell? ⟨w.heap.size, i, none⟩ = some (.int .u8 (t i))) := fun i hi => (hbel2.cell (by exact hsz)).trans (HC1.out i hi)
  have hbw : Below w.heap.size w w2 := hbel.trans (hbel2.mono (by omega))
  clear HC1 hbel hbel2 hsz
  go_wp2_with fail
  refine (mod_any t w.heap.size 0 n n s w2 hn hs (fun i hi => by rw [Nat.zero_add]; exact HC2.out i hi)).mono ?_
  rintro e w3 ⟨rfl, rfl⟩
  clear HC2
  go_wp2_with fail
  go_ret
  exact ⟨ret_bool (by simp), hbw⟩

end Go.Proofs.Qxb6601502aMods.strEnd
