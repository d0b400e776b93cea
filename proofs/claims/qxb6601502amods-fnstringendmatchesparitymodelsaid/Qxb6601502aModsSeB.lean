/-
  WALK: stringEnd (26).
-/
import Derived.Test.Qxb6601502aModsSeA
namespace Go.Proofs.Qxb6601502aMods.strEnd
open Go.RowKit Plain

theorem ret_int {k : IntKind} {a b : Int} (h : a = b) : Ending.returned (.int k a) = .returned (.int k b) := by rw [h]

set_option maxHeartbeats 1000000 in
theorem end_single (t : Nat → Int) (b off n c s : Nat) (w : World) (hn : n ≤ 1048576) (hnc : n ≤ c) (hs : s < n) (hb : b < w.heap.size)
    (ht : ∀ i, i < n → 0 ≤ t i ∧ t i ≤ 255) (hc : ∀ i, i < n → w.cell? ⟨b, off + i, none⟩ = some (.int .u8 (t i))) (h3 : three t n s = false) :
    Calls Trym.prog 26 #[.slice (some ⟨b, off, none⟩) n c, .int .i64 s] w fun e w' => e = .returned (.int .i64 (seEnd t n s : Nat)) ∧ Below w.heap.size w w' := by
  have hpre := prefix_three t n s hs ht
  rw [h3] at hpre
  have HP : Hid (Lib.hasPrefix (Lib.bytesOf (cellsFrom t n s)) (Lib.bytesOf [t s, t s, t s]) = false) := hpre
  have HR : Hid (seEnd t n s = sgl t n (t s) (t s == 34) (n + 1) (s + 1)) := seEnd_neg t n s (by simp [h3])
  have hcs := hc s hs
  clear hpre h3
  have HC : Hid (∀ i, i < n → w.cell? ⟨b, off + i, none⟩ = some (.int .u8 (t i))) := hc
  clear hc ht
  go_enter Trym.func26, Trym.ntmps26
  go_wp2_with fail
  have hbel := (Below.refl w.heap.size w).alloc (Nat.le_refl _) (Obj.cells #[Value.int IntKind.u8 (t s), Value.int IntKind.u8 (t s), Value.int IntKind.u8 (t s)] 5)
  obtain ⟨W, hW⟩ : ∃ W, W = w.alloc (Obj.cells #[Value.int IntKind.u8 (t s), Value.int IntKind.u8 (t s), Value.int IntKind.u8 (t s)] 5) := ⟨_, rfl⟩
  have g1 : ∀ i, i < n → W.cell? ⟨b, off + i, none⟩ = some (.int .u8 (t i)) := fun i hi => by rw [hW]; exact (hbel.cell (by exact hb)).trans (HC.out i hi)
  have g2 : ∀ i, i < 3 → W.cell? ⟨w.heap.size, 0 + i, none⟩ = some (.int .u8 ([t s, t s, t s].getD i 0)) := fun i hi => by
    rw [hW]
    match i, hi with
    | 0, _ => simp
    | 1, _ => simp
    | 2, _ => simp
  rw [← hW] at hbel ⊢
  clear hW
  refine (bytes_HasPrefix b (off + s) (n - s) (c - s) w.heap.size 0 3 3 (cellsFrom t n s) [t s, t s, t s] W (cellsFrom_length t n s) rfl (by omega) (fun i hi => by rw [cellsFrom_getD t n s i hi, Nat.add_assoc]; exact g1 (s + i) (by omega)) g2).mono ?_
  rw [HP.out]
  rintro e w' ⟨rfl, rfl⟩
  clear g2 HC hcs
  have G1 : Hid (∀ i, i < n → w'.cell? ⟨b, off + i, none⟩ = some (.int .u8 (t i))) := g1
  clear g1 HP
  go_wp2_with fail
  go_loop [9] (fun i => ∃ k : Nat, s + 1 ≤ k ∧ k ≤ n + 1 ∧ i = .int .i64 k ∧ Hid (seEnd t n s = sgl t n (t s) (t s == 34) (n + 1) k)) (fun i => n + 1 - (intOf i).toNat)
  case atStart => exact ⟨s + 1, Nat.le_refl _, by omega, by go_num, HR⟩
  case round =>
    obtain ⟨k, hk1, hk2, rfl, HK⟩ := hrel
    by_cases hlt : k < n
    · have h1 := G1.out k hlt
      by_cases hm : t k = t s
      · have hmb : (t k == t s) = true := by simpa using hm
        have HE : Hid (seEnd t n s = k + 1) := by rw [HK.out]; simp only [sgl]; rw [if_pos hlt, if_pos hm]; rfl
        clear hm HK
        go_wp2
        go_ret
        exact ⟨ret_int (by rw [HE.out]; omega), hbel⟩
      · have hmb : (t k == t s) = false := by simpa using hm
        by_cases h92 : t k = 92 ∧ (t s == 34) = true
        · obtain ⟨h9, he⟩ := h92
          have h9b : (t k == 92) = true := by simpa using h9
          have HE : Hid (seEnd t n s = sgl t n (t s) (t s == 34) (n + 1) (k + 2)) := by
            rw [HK.out, show sgl t n (t s) (t s == 34) (n + 1) k = sgl t n (t s) (t s == 34) n (k + 2) by simp only [sgl]; rw [if_pos hlt, if_neg hm, if_pos ⟨h9, he⟩]]
            exact sgl_fuel _ _ _ _ _ _ _ (by omega) (by omega)
          clear hm HK h9
          go_wp2
          go_round
          case rel => exact ⟨k + 2, by omega, by omega, by go_num, HE⟩
          case measure => simp [intOf]; omega
        · have HE : Hid (seEnd t n s = sgl t n (t s) (t s == 34) (n + 1) (k + 1)) := by
            rw [HK.out, show sgl t n (t s) (t s == 34) (n + 1) k = sgl t n (t s) (t s == 34) n (k + 1) by simp only [sgl]; rw [if_pos hlt, if_neg hm, if_neg h92]]
            exact sgl_fuel _ _ _ _ _ _ _ (by omega) (by omega)
          by_cases h9 : t k = 92
          · have h9b : (t k == 92) = true := by simpa using h9
            have he : (t s == 34) = false := by
              cases h : (t s == 34)
              · rfl
              · exact absurd ⟨h9, h⟩ h92
            clear hm HK h9 h92
            go_wp2
            go_round
            case rel => exact ⟨k + 1, by omega, by omega, by go_num, HE⟩
            case measure => simp [intOf]; omega
          · have h9b : (t k == 92) = false := by simpa using h9
            clear hm HK h9 h92
            go_wp2
            go_round
            case rel => exact ⟨k + 1, by omega, by omega, by go_num, HE⟩
            case measure => simp [intOf]; omega
    · have HE : Hid (seEnd t n s = n) := by rw [HK.out]; exact sgl_out _ _ _ _ _ _ (by omega)
      clear HK
      go_wp2
      go_ret
      exact ⟨ret_int (by rw [HE.out]), hbel⟩


set_option maxHeartbeats 1000000 in
theorem end_triple (t : Nat → Int) (b off n c s : Nat) (w : World) (hn : n ≤ 1048576) (hnc : n ≤ c) (hs : s < n) (hb : b < w.heap.size)
    (ht : ∀ i, i < n → 0 ≤ t i ∧ t i ≤ 255) (hc : ∀ i, i < n → w.cell? ⟨b, off + i, none⟩ = some (.int .u8 (t i))) (h3 : three t n s = true) :
    Calls Trym.prog 26 #[.slice (some ⟨b, off, none⟩) n c, .int .i64 s] w fun e w' => e = .returned (.int .i64 (seEnd t n s : Nat)) ∧ Below w.heap.size w w' := by
  have hpre := prefix_three t n s hs ht
  rw [h3] at hpre
  have HP : Hid (Lib.hasPrefix (Lib.bytesOf (cellsFrom t n s)) (Lib.bytesOf [t s, t s, t s]) = true) := hpre
  have HR : Hid (seEnd t n s = tpl t n (t s) (t s == 34) (n + 1) (s + 3)) := seEnd_pos t n s h3
  have hcs := hc s hs
  have h3n : s + 2 < n := by simp only [three, decide_eq_true_eq] at h3; exact h3.1
  clear hpre h3
  have HC : Hid (∀ i, i < n → w.cell? ⟨b, off + i, none⟩ = some (.int .u8 (t i))) := hc
  clear hc ht
  go_enter Trym.func26, Trym.ntmps26
  go_wp2_with fail
  have hbel := (Below.refl w.heap.size w).alloc (Nat.le_refl _) (Obj.cells #[Value.int IntKind.u8 (t s), Value.int IntKind.u8 (t s), Value.int IntKind.u8 (t s)] 5)
  obtain ⟨W, hW⟩ : ∃ W, W = w.alloc (Obj.cells #[Value.int IntKind.u8 (t s), Value.int IntKind.u8 (t s), Value.int IntKind.u8 (t s)] 5) := ⟨_, rfl⟩
  have g1 : ∀ i, i < n → W.cell? ⟨b, off + i, none⟩ = some (.int .u8 (t i)) := fun i hi => by rw [hW]; exact (hbel.cell (by exact hb)).trans (HC.out i hi)
  have g2 : ∀ i, i < 3 → W.cell? ⟨w.heap.size, 0 + i, none⟩ = some (.int .u8 ([t s, t s, t s].getD i 0)) := fun i hi => by
    rw [hW]
    match i, hi with
    | 0, _ => simp
    | 1, _ => simp
    | 2, _ => simp
  rw [← hW] at hbel ⊢
  clear hW
  refine (bytes_HasPrefix b (off + s) (n - s) (c - s) w.heap.size 0 3 3 (cellsFrom t n s) [t s, t s, t s] W (cellsFrom_length t n s) rfl (by omega) (fun i hi => by rw [cellsFrom_getD t n s i hi, Nat.add_assoc]; exact g1 (s + i) (by omega)) g2).mono ?_
  rw [HP.out]
  rintro e w' ⟨rfl, rfl⟩
  clear g2 HC hcs
  have G1 : Hid (∀ i, i < n → w'.cell? ⟨b, off + i, none⟩ = some (.int .u8 (t i))) := g1
  clear g1 HP
  go_wp2_with fail
  go_loop [7, 8] (fun i _ => ∃ k : Nat, s + 3 ≤ k ∧ k ≤ n + 1 ∧ i = .int .i64 k ∧ Hid (seEnd t n s = tpl t n (t s) (t s == 34) (n + 1) k)) (fun i _ => n + 1 - (intOf i).toNat)
  case atStart => exact ⟨s + 3, Nat.le_refl _, by omega, by go_num, HR⟩
  case round =>
    obtain ⟨k, hk1, hk2, rfl, HK⟩ := hrel
    by_cases hlt : k < n
    · have h1 := G1.out k hlt
      by_cases h92 : t k = 92 ∧ (t s == 34) = true
      · obtain ⟨h9, he⟩ := h92
        have h9b : (t k == 92) = true := by simpa using h9
        have HE : Hid (seEnd t n s = tpl t n (t s) (t s == 34) (n + 1) (k + 2)) := by
          rw [HK.out, show tpl t n (t s) (t s == 34) (n + 1) k = tpl t n (t s) (t s == 34) n (k + 2) by simp only [tpl]; rw [if_pos hlt, if_pos ⟨h9, he⟩]]
          exact tpl_fuel _ _ _ _ _ _ _ (by omega) (by omega)
        clear HK h9
        go_wp2
        go_round
        case rel => exact ⟨k + 2, by omega, by omega, by go_num, HE⟩
        case measure => simp [intOf]; omega
      · have ht9 : ((t k == 92) = true ∧ (t s == 34) = false) ∨ (t k == 92) = false := by
          cases h9 : (t k == 92)
          · exact .inr rfl
          · refine .inl ⟨rfl, ?_⟩
            cases h : (t s == 34)
            · rfl
            · exact absurd ⟨by simpa using h9, h⟩ h92
        by_cases hm : t k = t s
        · have hmb : (t k == t s) = true := by simpa using hm
          have HE : Hid (seEnd t n s = if k + 3 ≤ runE t n (t s) n k then runE t n (t s) n k else tpl t n (t s) (t s == 34) (n + 1) (k + 1)) := by
            show seEnd t n s = _
            rw [HK.out, show tpl t n (t s) (t s == 34) (n + 1) k = if k + 3 ≤ runE t n (t s) n k then runE t n (t s) n k else tpl t n (t s) (t s == 34) n (k + 1) by simp only [tpl]; rw [if_pos hlt, if_neg h92, if_pos hm]]
            rw [tpl_fuel t n (t s) (t s == 34) n (n + 1) (k + 1) (by omega) (by omega)]
          clear hm HK h92
          rcases ht9 with ⟨h9b, he⟩ | h9b
          all_goals
            go_wp2_with fail
            go_loop [8] (fun i => ∃ r : Nat, k ≤ r ∧ r ≤ n ∧ i = .int .i64 r ∧ Hid (runE t n (t s) n k = runE t n (t s) n r)) (fun i => n - (intOf i).toNat)
            case atStart => exact ⟨k, Nat.le_refl _, by omega, rfl, rfl⟩
            case round =>
              obtain ⟨r, hr1, hr2, rfl, HRun⟩ := hrel
              by_cases hrn : r < n
              · have h2 := G1.out r hrn
                by_cases hrm : t r = t s
                · have hrb : (t r == t s) = true := by simpa using hrm
                  have HRun2 : Hid (runE t n (t s) n k = runE t n (t s) n (r + 1)) := HRun.out.trans (runE_step t n (t s) r hrn hrm)
                  clear hrm HRun
                  go_wp2
                  go_round
                  case rel => exact ⟨r + 1, by omega, by omega, by go_num, HRun2⟩
                  case measure => simp [intOf]; omega
                · have hrb : (t r == t s) = false := by simpa using hrm
                  have HRun2 : Hid (runE t n (t s) n k = r) := HRun.out.trans (runE_stop t n (t s) r (fun h => hrm h.2))
                  clear hrm HRun
                  by_cases h3r : 3 ≤ r - k
                  · have h3i : (3 : Int) ≤ (r : Int) - (k : Int) := by omega
                    go_wp2
                    go_ret
                    exact ⟨ret_int (by rw [HE.out, HRun2.out, if_pos (by omega)]), hbel⟩
                  · have h3i : ¬ (3 : Int) ≤ (r : Int) - (k : Int) := by omega
                    go_wp2
                    go_round
                    case rel => exact ⟨k + 1, by omega, by omega, by go_num, by show seEnd t n s = _; rw [HE.out, HRun2.out, if_neg (by omega)]; try rw [he]⟩
                    case measure => simp [intOf]; omega
              · have HRun2 : Hid (runE t n (t s) n k = r) := HRun.out.trans (runE_stop t n (t s) r (fun h => hrn h.1))
                clear HRun
                by_cases h3r : 3 ≤ r - k
                · have h3i : (3 : Int) ≤ (r : Int) - (k : Int) := by omega
                  go_wp2
                  go_ret
                  exact ⟨ret_int (by rw [HE.out, HRun2.out, if_pos (by omega)]), hbel⟩
                · have h3i : ¬ (3 : Int) ≤ (r : Int) - (k : Int) := by omega
                  go_wp2
                  go_round
                  case rel => exact ⟨k + 1, by omega, by omega, by go_num, by show seEnd t n s = _; rw [HE.out, HRun2.out, if_neg (by omega)]; try rw [he]⟩
                  case measure => simp [intOf]; omega
        · have hmb : (t k == t s) = false := by simpa using hm
          have HE : Hid (seEnd t n s = tpl t n (t s) (t s == 34) (n + 1) (k + 1)) := by
            rw [HK.out, show tpl t n (t s) (t s == 34) (n + 1) k = tpl t n (t s) (t s == 34) n (k + 1) by simp only [tpl]; rw [if_pos hlt, if_neg h92, if_neg hm]]
            exact tpl_fuel _ _ _ _ _ _ _ (by omega) (by omega)
          clear hm HK h92
          rcases ht9 with ⟨h9b, he⟩ | h9b
          all_goals
            go_wp2
            go_round
            case rel => exact ⟨k + 1, by omega, by omega, by go_num, HE⟩
            case measure => simp [intOf]; omega
    · have HE : Hid (seEnd t n s = n) := by rw [HK.out]; exact tpl_out _ _ _ _ _ _ (by omega)
      clear HK
      go_wp2
      go_ret
      exact ⟨ret_int (by rw [HE.out]), hbel⟩

theorem end_any (t : Nat → Int) (b off n c s : Nat) (w : World) (hn : n ≤ 1048576) (hnc : n ≤ c) (hs : s < n) (hb : b < w.heap.size)
    (ht : ∀ i, i < n → 0 ≤ t i ∧ t i ≤ 255) (hc : ∀ i, i < n → w.cell? ⟨b, off + i, none⟩ = some (.int .u8 (t i))) :
    Calls Trym.prog 26 #[.slice (some ⟨b, off, none⟩) n c, .int .i64 s] w fun e w' => e = .returned (.int .i64 (seEnd t n s : Nat)) ∧ Below w.heap.size w w' := by
  cases h3 : three t n s
  · exact end_single t b off n c s w hn hnc hs hb ht hc h3
  · exact end_triple t b off n c s w hn hnc hs hb ht hc h3

end Go.Proofs.Qxb6601502aMods.strEnd
