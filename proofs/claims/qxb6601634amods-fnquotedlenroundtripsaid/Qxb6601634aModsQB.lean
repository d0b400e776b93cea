/-
  WALKS: zzQuotedEnd (12), zzBytes (10), and the law FnQuotedLenWhole (4).
-/
import Derived.Test.Qxb6601634aModsQA
namespace Go.Proofs.Qxb6601634aMods.quoted
open Go.RowKit Plain

set_option maxHeartbeats 1000000 in
theorem qe_any (t : Nat → Int) (ao : Option Addr) (b n c : Nat) (w : World) (hn : n ≤ 1048576) (hao : 0 < n → ao = some ⟨b, 0, none⟩)
    (hc : ∀ i, i < n → w.cell? ⟨b, i, none⟩ = some (.int .u8 (t i))) :
    Calls Trym.prog 12 #[.slice ao n c] w fun e w' => e = .returned (.int .i64 (qe t n (n + 1) 1 : Nat)) ∧ w = w' := by
  have HC : Hid (∀ i, i < n → w.cell? ⟨b, i, none⟩ = some (.int .u8 (t i))) := hc
  have HA : Hid (0 < n → ao = some ⟨b, 0, none⟩) := hao
  obtain ⟨R, hR⟩ : ∃ R, R = qe t n (n + 1) 1 := ⟨_, rfl⟩
  rw [← hR]
  have HR : Hid (R = qe t n (n + 1) 1) := hR
  clear hc hao hR
  go_enter Trym.func12, Trym.ntmps12
  go_wp2
  go_loop [3, 4, 5] (fun i _ _ => ∃ j : Nat, 1 ≤ j ∧ j ≤ n + 1 ∧ i = .int .i64 j ∧ Hid (R = qe t n (n + 1) j)) (fun i _ _ => n + 1 - (intOf i).toNat)
  case atStart => exact ⟨1, Nat.le_refl _, by omega, rfl, HR⟩
  case round =>
    obtain ⟨j, hj1, hj2, rfl, HK⟩ := hrel
    by_cases hlt : j < n
    · obtain rfl := HA.out (by omega)
      have h1 := HC.out j hlt
      by_cases hq : t j = 34
      · have hqb : (t j == 34) = true := by simpa using hq
        have hqn : (t j != 34) = false := by simpa using hq
        go_wp2
        clear hqb hqn h1
        go_loop [4, 5] (fun q p => ∃ (a : Nat) (m : Nat), m + a + 1 ≤ j ∧ p = .int .i64 a ∧ q = .int .i64 m ∧ Hid (bs t j = m + bs t (a + 1))) (fun _ p => (intOf p).toNat)
        case atStart => exact ⟨j - 1, 0, by omega, by go_num, rfl, by show bs t j = _; rw [show j - 1 + 1 = j by omega]; omega⟩
        case round =>
          obtain ⟨a, m, ha, rfl, rfl, HB⟩ := hrel
          by_cases ha1 : 1 ≤ a
          · have h2 := HC.out a (by omega)
            by_cases h92 : t a = 92
            · have h9b : (t a == 92) = true := by simpa using h92
              have hb2 : bs t j = (m + 1) + bs t a := by have := HB.out; rw [bs_yes t a ha1 h92] at this; omega
              have HB2 : Hid (bs t j = (m + 1) + bs t (a - 1 + 1)) := by rw [show a - 1 + 1 = a by omega]; exact hb2
              clear hb2 h92 HB HK hq
              go_wp2
              go_round
              case rel => exact ⟨a - 1, m + 1, by omega, by go_num, by go_num, HB2⟩
              case measure => simp [intOf]; omega
            · have h9b : (t a == 92) = false := by simpa using h92
              have HB2 : Hid (bs t j = m) := by have := HB.out; rw [bs_no t a h92] at this; exact this
              clear h92 HB
              by_cases he : m % 2 = 0
              · have hev : ((m : Int) % 2 == 0) = true := by simp; omega
                have HE : Hid (R = j + 1) := HK.out.trans (qe_hit t n j hlt ⟨hq, by rw [HB2.out]; exact he⟩)
                clear HK hq he HB2
                go_wp2
                go_ret
                exact ⟨ret_int (by rw [HE.out]; omega), rfl⟩
              · have hev : ((m : Int) % 2 == 0) = false := by simp; omega
                have HE : Hid (R = qe t n (n + 1) (j + 1)) := HK.out.trans (qe_miss t n j hlt (fun h => he (by rw [← HB2.out]; exact h.2)))
                clear HK hq he HB2
                go_wp2
                go_round
                case rel => exact ⟨j + 1, by omega, by omega, by go_num, HE⟩
                case measure => simp [intOf]; omega
          · obtain rfl : a = 0 := by omega
            have HB2 : Hid (bs t j = m) := by have := HB.out; rw [bs_one t] at this; exact this
            clear HB ha1
            by_cases he : m % 2 = 0
            · have hev : ((m : Int) % 2 == 0) = true := by simp; omega
              have HE : Hid (R = j + 1) := HK.out.trans (qe_hit t n j hlt ⟨hq, by rw [HB2.out]; exact he⟩)
              clear HK hq he HB2
              go_wp2
              go_ret
              exact ⟨ret_int (by rw [HE.out]; omega), rfl⟩
            · have hev : ((m : Int) % 2 == 0) = false := by simp; omega
              have HE : Hid (R = qe t n (n + 1) (j + 1)) := HK.out.trans (qe_miss t n j hlt (fun h => he (by rw [← HB2.out]; exact h.2)))
              clear HK hq he HB2
              go_wp2
              go_round
              case rel => exact ⟨j + 1, by omega, by omega, by go_num, HE⟩
              case measure => simp [intOf]; omega
      · have hqn : (t j != 34) = true := by simpa using hq
        have HE : Hid (R = qe t n (n + 1) (j + 1)) := HK.out.trans (qe_miss t n j hlt (fun h => hq h.1))
        clear HK hq
        go_wp2
        go_round
        case rel => exact ⟨j + 1, by omega, by omega, by go_num, HE⟩
        case measure => simp [intOf]; omega
    · have HE : Hid (R = n) := HK.out.trans (qe_out _ _ _ _ (by omega))
      clear HK
      go_wp2
      go_ret
      exact ⟨ret_int (by rw [HE.out]), rfl⟩

/-- A bool came back. -/
def RetB (e : Ending) : Prop := ∃ b, e = .returned (.bool b)

set_option maxHeartbeats 400000 in
theorem zz10 (ao : Option Addr) (n c : Nat) (w : World) (hn : n ≤ maxLen) :
    Calls Trym.prog 10 #[.slice ao n c] w fun e w' => RetB e ∧ w = w' := by
  unfold maxLen at hn
  by_cases h : (n : Int) ≤ 1048576
  all_goals
    go_enter Trym.func10, Trym.ntmps10
    go_wp2
    go_ret
    exact ⟨⟨_, rfl⟩, rfl⟩

set_option maxHeartbeats 400000 in
/-- Too long: true at once. -/
theorem law4_long (ao : Option Addr) (n c : Nat) (w : World) (hn : n ≤ maxLen) (h : ¬ n ≤ 65536) :
    Calls Trym.prog 4 #[.slice ao n c] w fun e w' => e = .returned (.bool true) ∧ Below w.heap.size w w' := by
  have H := zz10 ao n c w hn
  unfold maxLen at hn
  have hi : ¬ (n : Int) ≤ 65536 := by omega
  go_enter Trym.func4, Trym.ntmps4
  go_wp2_with fail
  refine H.mono ?_
  rintro e w' ⟨⟨r, rfl⟩, rfl⟩
  clear H
  cases r
  all_goals
    go_wp2_with fail
    go_ret
    exact ⟨rfl, Below.refl _ _⟩

set_option maxHeartbeats 1000000 in
theorem law4_in (t : Nat → Int) (ao : Option Addr) (n c : Nat) (w : World) (hn : n ≤ 65536) (HC : Calls Trym.prog 8 #[.slice ao n c] w fun e w' => Cl w n t e w') :
    Calls Trym.prog 4 #[.slice ao n c] w fun e w' => e = .returned (.bool true) ∧ Below w.heap.size w w' := by
  have H := zz10 ao n c w (by unfold maxLen; omega)
  go_enter Trym.func4, Trym.ntmps4
  go_wp2_with fail
  refine H.mono ?_
  rintro e w' ⟨⟨r', rfl⟩, rfl⟩
  clear H
  cases r'
  · go_wp2_with fail
    go_ret
    exact ⟨rfl, Below.refl _ _⟩
  go_wp2_with fail
  refine HC.mono ?_
  clear HC
  rintro e w1 ⟨a1, rfl, ha, hbel, hcell⟩
  have HA : Hid (0 < n → a1 = some ⟨w.heap.size, 0, none⟩) := fun h => by
    rcases ha with ⟨_, h0⟩ | ⟨h1, _⟩
    · omega
    · exact h1
  have HC1 : Hid (∀ i, i < n → w1.cell? ⟨w.heap.size, i, none⟩ = some (.int .u8 (t i))) := hcell
  clear hcell ha
  go_wp2_with fail
  refine (ql_any t a1 w.heap.size n n w1 (by omega) HA.out HC1.out).mono ?_
  rw [whole]
  rintro e w2 ⟨rfl, rfl⟩
  go_wp2_with fail
  refine (qe_any t a1 w.heap.size n n w1 (by omega) HA.out HC1.out).mono ?_
  rintro e w3 ⟨rfl, rfl⟩
  clear HC1 HA
  go_wp2_with fail
  go_ret
  exact ⟨ret_bool (by simp), hbel⟩

end Go.Proofs.Qxb6601634aMods.quoted
