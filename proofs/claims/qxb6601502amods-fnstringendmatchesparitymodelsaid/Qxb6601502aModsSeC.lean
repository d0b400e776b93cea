/-
  WALKS: ZZstringEnd (16), zzBytes (18), and the law FnStringEndClosesAndIsPrefixStable (6).
-/
import Derived.Test.Qxb6601502aModsSeB
import Derived.Deep.QuietTactic
import Derived.BigQuiet
namespace Go.Proofs.Qxb6601502aMods.strEnd
open Go.RowKit Plain

/-- A bool came back. -/
def RetB (e : Ending) : Prop := ∃ b, e = .returned (.bool b)

set_option maxHeartbeats 400000 in
theorem zz18 (ao : Option Addr) (n c : Nat) (s : Int) (w : World) (hn : n ≤ maxLen) :
    Calls Trym.prog 18 #[.slice ao n c, .int .i64 s] w fun e w' => RetB e ∧ w = w' := by
  unfold maxLen at hn
  by_cases h : (n : Int) ≤ 1048576
  all_goals
    go_enter Trym.func18, Trym.ntmps18
    go_wp2
    go_ret
    exact ⟨⟨_, rfl⟩, rfl⟩

set_option maxHeartbeats 400000 in
theorem zzEnd (t : Nat → Int) (b off n c s : Nat) (w : World) (hn : n ≤ 1048576) (hnc : n ≤ c) (hs : s < n) (hb : b < w.heap.size)
    (ht : ∀ i, i < n → 0 ≤ t i ∧ t i ≤ 255) (hc : ∀ i, i < n → w.cell? ⟨b, off + i, none⟩ = some (.int .u8 (t i))) :
    Calls Trym.prog 16 #[.slice (some ⟨b, off, none⟩) n c, .int .i64 s] w fun e w' => e = .returned (.int .i64 (seEnd t n s : Nat)) ∧ Below w.heap.size w w' := by
  have H := end_any t b off n c s w hn hnc hs hb ht hc
  clear ht hc
  go_enter Trym.func16, Trym.ntmps16
  go_wp2_with fail
  refine H.mono ?_
  rintro e w' ⟨rfl, hbel⟩
  clear H
  go_wp2
  go_ret
  exact ⟨rfl, hbel⟩

set_option maxHeartbeats 400000 in
/-- Too long: true at once. -/
theorem law6_long (ao : Option Addr) (n c : Nat) (s : Int) (w : World) (hn : n ≤ maxLen) (h : ¬ n ≤ 1048576) :
    Calls Trym.prog 6 #[.slice ao n c, .int .i64 s] w fun e w' => e = .returned (.bool true) ∧ Below w.heap.size w w' := by
  have H := zz18 ao n c s w hn
  unfold maxLen at hn
  have hi : ¬ (n : Int) ≤ 1048576 := by omega
  go_enter Trym.func6, Trym.ntmps6
  go_wp2_with fail
  refine H.mono ?_
  rintro e w' ⟨⟨r, rfl⟩, rfl⟩
  clear H
  cases r
  all_goals
    go_wp2_with fail
    go_ret
    exact ⟨rfl, Below.refl _ _⟩

set_option maxHeartbeats 400000 in
/-- The start lies outside the text: true at once. -/
theorem law6_out (ao : Option Addr) (n c : Nat) (s : Int) (w : World) (h : n ≤ 1048576) (hs : s < 0 ∨ (n : Int) ≤ s) :
    Calls Trym.prog 6 #[.slice ao n c, .int .i64 s] w fun e w' => e = .returned (.bool true) ∧ Below w.heap.size w w' := by
  have H := zz18 ao n c s w (by unfold maxLen; omega)
  rcases hs with hs | hs
  · go_enter Trym.func6, Trym.ntmps6
    go_wp2_with fail
    refine H.mono ?_
    rintro e w' ⟨⟨r, rfl⟩, rfl⟩
    clear H
    cases r
    all_goals
      go_wp2_with fail
      go_ret
      exact ⟨rfl, Below.refl _ _⟩
  · have hs0 : ¬ s < 0 := by omega
    go_enter Trym.func6, Trym.ntmps6
    go_wp2_with fail
    refine H.mono ?_
    rintro e w' ⟨⟨r, rfl⟩, rfl⟩
    clear H
    cases r
    all_goals
      go_wp2_with fail
      go_ret
      exact ⟨rfl, Below.refl _ _⟩

set_option maxHeartbeats 1000000 in
theorem law6_in (t : Nat → Int) (b off n c s : Nat) (w : World) (hn : n ≤ 1048576) (hs : s < n) (hb : b < w.heap.size)
    (ht : ∀ i, i < n → 0 ≤ t i ∧ t i ≤ 255) (hc : ∀ i, i < n → w.cell? ⟨b, off + i, none⟩ = some (.int .u8 (t i))) :
    Calls Trym.prog 6 #[.slice (some ⟨b, off, none⟩) n c, .int .i64 s] w fun e w' => e = .returned (.bool true) ∧ Below w.heap.size w w' := by
  have H := zz18 (some ⟨b, off, none⟩) n c s w (by unfold maxLen; omega)
  have HC := clone_any t b off n c w hn hb hc
  have HT : Hid (∀ i, i < n → 0 ≤ t i ∧ t i ≤ 255) := ht
  obtain ⟨r, hr⟩ : ∃ r, r = seEnd t n s := ⟨_, rfl⟩
  have HL := seEnd_law t n s hs
  rw [← hr] at HL
  obtain ⟨l1, l2, l3, l4⟩ := HL
  have HR : Hid (seEnd t n s = r) := hr.symm
  have HL3 : Hid (r < n → t (r - 1) = t s) := l3
  have HL4 : Hid (seEnd t r s = r) := l4
  clear hc ht hr l3 l4
  go_enter Trym.func6, Trym.ntmps6
  go_wp2_with fail
  refine H.mono ?_
  rintro e w' ⟨⟨r', rfl⟩, rfl⟩
  clear H
  cases r'
  · go_wp2_with fail
    go_ret
    exact ⟨rfl, Below.refl _ _⟩
  go_wp2_with fail
  refine HC.mono ?_
  clear HC
  rintro e w1 ⟨rfl, hbel, hsz, hcell⟩
  have HC1 : Hid (∀ i, i < n → w1.cell? ⟨w.heap.size, i, none⟩ = some (.int .u8 (t i))) := hcell
  clear hcell
  go_wp2_with fail
  refine (zzEnd t w.heap.size 0 n n s w1 hn (Nat.le_refl _) hs hsz HT.out (fun i hi => by rw [Nat.zero_add]; exact HC1.out i hi)).mono ?_
  rw [HR.out]
  rintro e w2 ⟨rfl, hbel2⟩
  have HC2 : Hid (∀ i, i < n → w2.cell? ⟨w.heap.size, i, none⟩ = some (.int .u8 (t i))) := fun i hi => (hbel2.cell (by exact hsz)).trans (HC1.out i hi)
  have hsz2 : w.heap.size < w2.heap.size := Nat.lt_of_lt_of_le hsz hbel2.size
  have hbw : Below w.heap.size w w2 := hbel.trans (hbel2.mono (by omega))
  clear HC1 hbel hbel2 hsz HR
  have q1 : ¬ (r : Int) ≤ (s : Int) := by omega
  have q2 : (r : Int) ≤ (n : Int) := by omega
  by_cases hrn : r < n
  · have c1 : w2.cell? ⟨w.heap.size, r - 1, none⟩ = some (.int .u8 (t s)) := by rw [← HL3.out hrn]; exact HC2.out (r - 1) (by omega)
    have c2 : w2.cell? ⟨w.heap.size, s, none⟩ = some (.int .u8 (t s)) := HC2.out s hs
    go_wp2_with fail
    go_quiet (fail)
    go_wp2_with fail
    refine (zzEnd t w.heap.size 0 r n s (w2.drewN nq) (by omega) l2 l1 hsz2 (fun i hi => HT.out i (by omega)) (fun i hi => by rw [Nat.zero_add]; exact HC2.out i (by omega))).mono ?_
    rw [HL4.out]
    rintro e w3 ⟨rfl, hbel3⟩
    clear HC2 c1 c2
    go_wp2
    go_ret
    exact ⟨rfl, (below_drewN hbw nq).trans (hbel3.mono (Nat.le_of_lt hsz2))⟩
  · have hrl : ¬ (r : Int) < (n : Int) := by omega
    go_wp2_with fail
    go_quiet (fail)
    go_wp2_with fail
    refine (zzEnd t w.heap.size 0 r n s (w2.drewN nq) (by omega) l2 l1 hsz2 (fun i hi => HT.out i (by omega)) (fun i hi => by rw [Nat.zero_add]; exact HC2.out i (by omega))).mono ?_
    rw [HL4.out]
    rintro e w3 ⟨rfl, hbel3⟩
    clear HC2
    go_wp2
    go_ret
    exact ⟨rfl, (below_drewN hbw nq).trans (hbel3.mono (Nat.le_of_lt hsz2))⟩

end Go.Proofs.Qxb6601502aMods.strEnd
