/-
  WALKS: seEscaped_b1 (27), seModel_b1 (17).
-/
import Derived.Test.Qxb6601502aModsSeC
import Derived.Test.Qxb6601502aModsPlainB
namespace Go.Proofs.Qxb6601502aMods.strEnd
open Go.RowKit Plain

theorem ret_bool {a b : Bool} (h : a = b) : Ending.returned (.bool a) = .returned (.bool b) := by rw [h]

set_option maxHeartbeats 400000 in
theorem esc_any (t : Nat → Int) (b off n c j : Nat) (w : World) (hn : n ≤ 1048576) (hj : j < n)
    (hc : ∀ i, i < n → w.cell? ⟨b, off + i, none⟩ = some (.int .u8 (t i))) :
    Calls Trym.prog 27 #[.slice (some ⟨b, off, none⟩) n c, .int .i64 j] w fun e w' => e = .returned (.bool (escB t j)) ∧ w = w' := by
  have HC : Hid (∀ i, i < n → w.cell? ⟨b, off + i, none⟩ = some (.int .u8 (t i))) := hc
  clear hc
  go_enter Trym.func27, Trym.ntmps27
  go_wp2
  go_loop [5] (fun i => ∃ k : Nat, k ≤ j ∧ i = .int .i64 k ∧ Hid (bs t j = (j - k) + bs t k)) (fun i => (intOf i).toNat)
  case atStart => exact ⟨j, Nat.le_refl _, rfl, by show bs t j = _; omega⟩
  case round =>
    obtain ⟨k, hk, rfl, HK⟩ := hrel
    by_cases hk0 : k = 0
    · subst hk0
      have HE : Hid (escB t j = (((j : Int) - (0 : Int)) % 2 == 1)) := by
        show escB t j = _
        have := HK.out
        simp only [bs] at this
        unfold escB
        rw [this, Bool.eq_iff_iff]
        simp
        omega
      clear HK
      go_wp2
      go_ret
      exact ⟨ret_bool (by rw [HE.out]; simp), rfl⟩
    · obtain ⟨q, rfl⟩ : ∃ q, k = q + 1 := ⟨k - 1, by omega⟩
      have h1 := HC.out q (by omega)
      by_cases h92 : t q = 92
      · have h9b : (t q == 92) = true := by simpa using h92
        have HE : Hid (bs t j = (j - q) + bs t q) := by
          have := HK.out
          rw [bs_yes t q h92] at this
          show bs t j = _
          omega
        clear HK h92 hk0
        go_wp2
        go_round
        case rel => exact ⟨q, by omega, by go_num, HE⟩
        case measure => simp [intOf]
      · have h9b : (t q == 92) = false := by simpa using h92
        have HE : Hid (escB t j = (((j : Int) - ((q : Int) + 1)) % 2 == 1)) := by
          show escB t j = _
          have := HK.out
          rw [bs_no t q h92] at this
          unfold escB
          rw [this, Bool.eq_iff_iff]
          simp
          omega
        clear HK h92 hk0
        go_wp2
        go_ret
        exact ⟨ret_bool (by rw [HE.out]), rfl⟩

set_option maxHeartbeats 1000000 in
theorem mod_single (t : Nat → Int) (b off n c s : Nat) (w : World) (hn : n ≤ 1048576) (hs : s < n)
    (hc : ∀ i, i < n → w.cell? ⟨b, off + i, none⟩ = some (.int .u8 (t i))) (h3 : three t n s = false) :
    Calls Trym.prog 17 #[.slice (some ⟨b, off, none⟩) n c, .int .i64 s] w fun e w' => e = .returned (.int .i64 (seMod t n s : Nat)) ∧ w = w' := by
  have HR : Hid (seMod t n s = msgl t n (t s) (t s == 34) (n + 1) (s + 1)) := seMod_neg t n s (by simp [h3])
  have hcs := hc s hs
  have HEsc : ∀ j : Nat, j < n → Calls Trym.prog 27 #[.slice (some ⟨b, off, none⟩) n c, .int .i64 j] w fun e w' => e = .returned (.bool (escB t j)) ∧ w = w' := fun j hj => esc_any t b off n c j w hn hj hc
  have HX : Hid (∀ j : Nat, j < n → Calls Trym.prog 27 #[.slice (some ⟨b, off, none⟩) n c, .int .i64 j] w fun e w' => e = .returned (.bool (escB t j)) ∧ w = w') := HEsc
  have HC : Hid (∀ i, i < n → w.cell? ⟨b, off + i, none⟩ = some (.int .u8 (t i))) := hc
  have hd : ¬ (s + 2 < n) ∨ (s + 2 < n ∧ (t (s + 1) == t s) = false) ∨ (s + 2 < n ∧ (t (s + 1) == t s) = true ∧ (t (s + 2) == t s) = false) := by
    simp only [three, decide_eq_false_iff_not] at h3
    by_cases a : s + 2 < n
    · by_cases b : t (s + 1) = t s
      · by_cases c : t (s + 2) = t s
        · exact absurd ⟨a, b, c⟩ h3
        · exact .inr (.inr ⟨a, by simpa using b, by simpa using c⟩)
      · exact .inr (.inl ⟨a, by simpa using b⟩)
    · exact .inl a
  have c1 : s + 2 < n → w.cell? ⟨b, off + (s + 1), none⟩ = some (.int .u8 (t (s + 1))) := fun h => hc (s + 1) (by omega)
  have c2 : s + 2 < n → w.cell? ⟨b, off + (s + 2), none⟩ = some (.int .u8 (t (s + 2))) := fun h => hc (s + 2) h
  clear HEsc hc h3
  go_enter Trym.func17, Trym.ntmps17
  rcases hd with hd | ⟨hd, e1⟩ | ⟨hd, e1, e2⟩
  · clear c1 c2
    go_wp2_with fail
    go_loop [10] (fun i => ∃ k : Nat, s + 1 ≤ k ∧ k ≤ n ∧ i = .int .i64 k ∧ Hid (seMod t n s = msgl t n (t s) (t s == 34) (n + 1) k)) (fun i => n - (intOf i).toNat)
    case atStart => exact ⟨s + 1, Nat.le_refl _, by omega, by go_num, HR⟩
    case round =>
      obtain ⟨k, hk1, hk2, rfl, HK⟩ := hrel
      by_cases hlt : k < n
      · have h1 := HC.out k hlt
        have H27 := HX.out k hlt
        by_cases hm : t k = t s
        · have hmb : (t k == t s) = true := by simpa using hm
          cases he : (t s == 34)
          · have HE : Hid (seMod t n s = k + 1) := HK.out.trans (msgl_hit t n (t s) (t s == 34) k hlt ⟨hm, fun h => by rw [he] at h; cases h.1⟩)
            clear HK hm
            go_wp2_with fail
            go_ret
            exact ⟨ret_int (by rw [HE.out]; omega), rfl⟩
          · cases hb : escB t k
            · have HE : Hid (seMod t n s = k + 1) := HK.out.trans (msgl_hit t n (t s) (t s == 34) k hlt ⟨hm, fun h => by rw [hb] at h; cases h.2⟩)
              clear HK hm
              go_wp2_with fail
              refine H27.mono ?_
              rintro e w' ⟨rfl, rfl⟩
              clear H27
              rw [hb]
              go_wp2_with fail
              go_ret
              exact ⟨ret_int (by rw [HE.out]; omega), rfl⟩
            · have HE : Hid (seMod t n s = msgl t n (t s) (t s == 34) (n + 1) (k + 1)) := HK.out.trans (msgl_miss t n (t s) (t s == 34) k hlt (fun h => h.2 ⟨he, hb⟩))
              clear HK hm
              go_wp2_with fail
              refine H27.mono ?_
              rintro e w' ⟨rfl, rfl⟩
              clear H27
              rw [hb]
              go_wp2_with fail
              go_round
              case rel => exact ⟨k + 1, by omega, by omega, by go_num, by have := HE.out; rw [he] at this; exact this⟩
              case measure => simp [intOf]; omega
        · have hmb : (t k == t s) = false := by simpa using hm
          have HE : Hid (seMod t n s = msgl t n (t s) (t s == 34) (n + 1) (k + 1)) := HK.out.trans (msgl_miss t n (t s) (t s == 34) k hlt (fun h => hm h.1))
          clear HK hm H27
          go_wp2_with fail
          go_round
          case rel => exact ⟨k + 1, by omega, by omega, by go_num, HE⟩
          case measure => simp [intOf]; omega
      · have HE : Hid (seMod t n s = n) := HK.out.trans (msgl_out _ _ _ _ _ _ (by omega))
        clear HK
        go_wp2_with fail
        go_ret
        exact ⟨ret_int (by rw [HE.out]), rfl⟩
  · have c1' := c1 hd
    clear c1 c2
    go_wp2_with fail
    go_loop [10] (fun i => ∃ k : Nat, s + 1 ≤ k ∧ k ≤ n ∧ i = .int .i64 k ∧ Hid (seMod t n s = msgl t n (t s) (t s == 34) (n + 1) k)) (fun i => n - (intOf i).toNat)
    case atStart => exact ⟨s + 1, Nat.le_refl _, by omega, by go_num, HR⟩
    case round =>
      obtain ⟨k, hk1, hk2, rfl, HK⟩ := hrel
      by_cases hlt : k < n
      · have h1 := HC.out k hlt
        have H27 := HX.out k hlt
        by_cases hm : t k = t s
        · have hmb : (t k == t s) = true := by simpa using hm
          cases he : (t s == 34)
          · have HE : Hid (seMod t n s = k + 1) := HK.out.trans (msgl_hit t n (t s) (t s == 34) k hlt ⟨hm, fun h => by rw [he] at h; cases h.1⟩)
            clear HK hm
            go_wp2_with fail
            go_ret
            exact ⟨ret_int (by rw [HE.out]; omega), rfl⟩
          · cases hb : escB t k
            · have HE : Hid (seMod t n s = k + 1) := HK.out.trans (msgl_hit t n (t s) (t s == 34) k hlt ⟨hm, fun h => by rw [hb] at h; cases h.2⟩)
              clear HK hm
              go_wp2_with fail
              refine H27.mono ?_
              rintro e w' ⟨rfl, rfl⟩
              clear H27
              rw [hb]
              go_wp2_with fail
              go_ret
              exact ⟨ret_int (by rw [HE.out]; omega), rfl⟩
            · have HE : Hid (seMod t n s = msgl t n (t s) (t s == 34) (n + 1) (k + 1)) := HK.out.trans (msgl_miss t n (t s) (t s == 34) k hlt (fun h => h.2 ⟨he, hb⟩))
              clear HK hm
              go_wp2_with fail
              refine H27.mono ?_
              rintro e w' ⟨rfl, rfl⟩
              clear H27
              rw [hb]
              go_wp2_with fail
              go_round
              case rel => exact ⟨k + 1, by omega, by omega, by go_num, by have := HE.out; rw [he] at this; exact this⟩
              case measure => simp [intOf]; omega
        · have hmb : (t k == t s) = false := by simpa using hm
          have HE : Hid (seMod t n s = msgl t n (t s) (t s == 34) (n + 1) (k + 1)) := HK.out.trans (msgl_miss t n (t s) (t s == 34) k hlt (fun h => hm h.1))
          clear HK hm H27
          go_wp2_with fail
          go_round
          case rel => exact ⟨k + 1, by omega, by omega, by go_num, HE⟩
          case measure => simp [intOf]; omega
      · have HE : Hid (seMod t n s = n) := HK.out.trans (msgl_out _ _ _ _ _ _ (by omega))
        clear HK
        go_wp2_with fail
        go_ret
        exact ⟨ret_int (by rw [HE.out]), rfl⟩
  · have c1' := c1 hd
    have c2' := c2 hd
    clear c1 c2
    go_wp2_with fail
    go_loop [10] (fun i => ∃ k : Nat, s + 1 ≤ k ∧ k ≤ n ∧ i = .int .i64 k ∧ Hid (seMod t n s = msgl t n (t s) (t s == 34) (n + 1) k)) (fun i => n - (intOf i).toNat)
    case atStart => exact ⟨s + 1, Nat.le_refl _, by omega, by go_num, HR⟩
    case round =>
      obtain ⟨k, hk1, hk2, rfl, HK⟩ := hrel
      by_cases hlt : k < n
      · have h1 := HC.out k hlt
        have H27 := HX.out k hlt
        by_cases hm : t k = t s
        · have hmb : (t k == t s) = true := by simpa using hm
          cases he : (t s == 34)
          · have HE : Hid (seMod t n s = k + 1) := HK.out.trans (msgl_hit t n (t s) (t s == 34) k hlt ⟨hm, fun h => by rw [he] at h; cases h.1⟩)
            clear HK hm
            go_wp2_with fail
            go_ret
            exact ⟨ret_int (by rw [HE.out]; omega), rfl⟩
          · cases hb : escB t k
            · have HE : Hid (seMod t n s = k + 1) := HK.out.trans (msgl_hit t n (t s) (t s == 34) k hlt ⟨hm, fun h => by rw [hb] at h; cases h.2⟩)
              clear HK hm
              go_wp2_with fail
              refine H27.mono ?_
              rintro e w' ⟨rfl, rfl⟩
              clear H27
              rw [hb]
              go_wp2_with fail
              go_ret
              exact ⟨ret_int (by rw [HE.out]; omega), rfl⟩
            · have HE : Hid (seMod t n s = msgl t n (t s) (t s == 34) (n + 1) (k + 1)) := HK.out.trans (msgl_miss t n (t s) (t s == 34) k hlt (fun h => h.2 ⟨he, hb⟩))
              clear HK hm
              go_wp2_with fail
              refine H27.mono ?_
              rintro e w' ⟨rfl, rfl⟩
              clear H27
              rw [hb]
              go_wp2_with fail
              go_round
              case rel => exact ⟨k + 1, by omega, by omega, by go_num, by have := HE.out; rw [he] at this; exact this⟩
              case measure => simp [intOf]; omega
        · have hmb : (t k == t s) = false := by simpa using hm
          have HE : Hid (seMod t n s = msgl t n (t s) (t s == 34) (n + 1) (k + 1)) := HK.out.trans (msgl_miss t n (t s) (t s == 34) k hlt (fun h => hm h.1))
          clear HK hm H27
          go_wp2_with fail
          go_round
          case rel => exact ⟨k + 1, by omega, by omega, by go_num, HE⟩
          case measure => simp [intOf]; omega
      · have HE : Hid (seMod t n s = n) := HK.out.trans (msgl_out _ _ _ _ _ _ (by omega))
        clear HK
        go_wp2_with fail
        go_ret
        exact ⟨ret_int (by rw [HE.out]), rfl⟩

set_option maxHeartbeats 1000000 in
set_option maxRecDepth 100000 in
theorem mod_triple (t : Nat → Int) (b off n c s : Nat) (w : World) (hn : n ≤ 1048576) (hs : s < n)
    (hc : ∀ i, i < n → w.cell? ⟨b, off + i, none⟩ = some (.int .u8 (t i))) (h3 : three t n s = true) :
    Calls Trym.prog 17 #[.slice (some ⟨b, off, none⟩) n c, .int .i64 s] w fun e w' => e = .returned (.int .i64 (seMod t n s : Nat)) ∧ w = w' := by
  have HR : Hid (seMod t n s = mtpl t n (t s) (t s == 34) (n + 1) (s + 3)) := seMod_pos t n s h3
  have hcs := hc s hs
  have HX : Hid (∀ j : Nat, j < n → Calls Trym.prog 27 #[.slice (some ⟨b, off, none⟩) n c, .int .i64 j] w fun e w' => e = .returned (.bool (escB t j)) ∧ w = w') := fun j hj => esc_any t b off n c j w hn hj hc
  have HC : Hid (∀ i, i < n → w.cell? ⟨b, off + i, none⟩ = some (.int .u8 (t i))) := hc
  have h3' : s + 2 < n ∧ t (s + 1) = t s ∧ t (s + 2) = t s := by simpa only [three, decide_eq_true_eq] using h3
  have hd := h3'.1
  have e1 : (t (s + 1) == t s) = true := by simpa using h3'.2.1
  have e2 : (t (s + 2) == t s) = true := by simpa using h3'.2.2
  have c1 := hc (s + 1) (by omega)
  have c2 := hc (s + 2) (by omega)
  clear hc h3 h3'
  go_enter Trym.func17, Trym.ntmps17
  go_wp2_with fail
  clear c1 c2 e1 e2 hcs
  go_loop [8, 9] (fun i _ => ∃ k : Nat, s + 3 ≤ k ∧ k ≤ n ∧ i = .int .i64 k ∧ Hid (seMod t n s = mtpl t n (t s) (t s == 34) (n + 1) k)) (fun i _ => n - (intOf i).toNat)
  case atStart => exact ⟨s + 3, Nat.le_refl _, by omega, by go_num, HR⟩
  case round =>
    obtain ⟨k, hk1, hk2, rfl, HK⟩ := hrel
    by_cases hlt : k + 2 < n
    · have h1 := HC.out k (by omega)
      have h2 := HC.out (k + 1) (by omega)
      have h3 := HC.out (k + 2) (by omega)
      have H27 := HX.out k (by omega)
      by_cases hm : t k = t s
      · have hmb : (t k == t s) = true := by simpa using hm
        by_cases hm1 : t (k + 1) = t s
        · have hmb1 : (t (k + 1) == t s) = true := by simpa using hm1
          by_cases hm2 : t (k + 2) = t s
          · have hmb2 : (t (k + 2) == t s) = true := by simpa using hm2
            cases he : (t s == 34)
            · have HE : Hid (seMod t n s = runE t n (t s) n (k + 3)) := HK.out.trans (mtpl_hit t n (t s) (t s == 34) k hlt ⟨hm, hm1, hm2, fun h => by rw [he] at h; cases h.1⟩)
              clear HK hm hm1 hm2 H27
              go_wp2_with fail
              clear h1 h2 h3 hmb hmb1 hmb2
              go_loop [9] (fun i => ∃ r : Nat, k + 3 ≤ r ∧ r ≤ n ∧ i = .int .i64 r ∧ Hid (seMod t n s = runE t n (t s) n r)) (fun i => n - (intOf i).toNat)
              case atStart => exact ⟨k + 3, Nat.le_refl _, by omega, by go_num, HE⟩
              case round =>
                obtain ⟨r, hr1, hr2, rfl, HRun⟩ := hrel
                clear HE
                by_cases hrn : r < n
                · have hr3 := HC.out r hrn
                  by_cases hrm : t r = t s
                  · have hrb : (t r == t s) = true := by simpa using hrm
                    have HRun2 : Hid (seMod t n s = runE t n (t s) n (r + 1)) := HRun.out.trans (runE_step t n (t s) r hrn hrm)
                    clear hrm HRun
                    go_wp2_with fail
                    go_round
                    case rel => exact ⟨r + 1, by omega, by omega, by go_num, HRun2⟩
                    case measure => simp [intOf]; omega
                  · have hrb : (t r == t s) = false := by simpa using hrm
                    have HRun2 : Hid (seMod t n s = r) := HRun.out.trans (runE_stop t n (t s) r (fun h => hrm h.2))
                    clear hrm HRun
                    go_wp2_with fail
                    go_ret
                    exact ⟨ret_int (by rw [HRun2.out]), rfl⟩
                · have HRun2 : Hid (seMod t n s = r) := HRun.out.trans (runE_stop t n (t s) r (fun h => hrn h.1))
                  clear HRun
                  go_wp2_with fail
                  go_ret
                  exact ⟨ret_int (by rw [HRun2.out]), rfl⟩
            · cases hb : escB t k
              · have HE : Hid (seMod t n s = runE t n (t s) n (k + 3)) := HK.out.trans (mtpl_hit t n (t s) (t s == 34) k hlt ⟨hm, hm1, hm2, fun h => by rw [hb] at h; cases h.2⟩)
                clear HK hm hm1 hm2
                go_wp2_with fail
                refine H27.mono ?_
                rintro e w' ⟨rfl, rfl⟩
                clear H27
                rw [hb]
                go_wp2_with fail
                clear h1 h2 h3 hmb hmb1 hmb2
                go_loop [9] (fun i => ∃ r : Nat, k + 3 ≤ r ∧ r ≤ n ∧ i = .int .i64 r ∧ Hid (seMod t n s = runE t n (t s) n r)) (fun i => n - (intOf i).toNat)
                case atStart => exact ⟨k + 3, Nat.le_refl _, by omega, by go_num, HE⟩
                case round =>
                  obtain ⟨r, hr1, hr2, rfl, HRun⟩ := hrel
                  clear HE
                  by_cases hrn : r < n
                  · have hr3 := HC.out r hrn
                    by_cases hrm : t r = t s
                    · have hrb : (t r == t s) = true := by simpa using hrm
                      have HRun2 : Hid (seMod t n s = runE t n (t s) n (r + 1)) := HRun.out.trans (runE_step t n (t s) r hrn hrm)
                      clear hrm HRun
                      go_wp2_with fail
                      go_round
                      case rel => exact ⟨r + 1, by omega, by omega, by go_num, HRun2⟩
                      case measure => simp [intOf]; omega
                    · have hrb : (t r == t s) = false := by simpa using hrm
                      have HRun2 : Hid (seMod t n s = r) := HRun.out.trans (runE_stop t n (t s) r (fun h => hrm h.2))
                      clear hrm HRun
                      go_wp2_with fail
                      go_ret
                      exact ⟨ret_int (by rw [HRun2.out]), rfl⟩
                  · have HRun2 : Hid (seMod t n s = r) := HRun.out.trans (runE_stop t n (t s) r (fun h => hrn h.1))
                    clear HRun
                    go_wp2_with fail
                    go_ret
                    exact ⟨ret_int (by rw [HRun2.out]), rfl⟩
              · have HE : Hid (seMod t n s = mtpl t n (t s) (t s == 34) (n + 1) (k + 1)) := HK.out.trans (mtpl_miss t n (t s) (t s == 34) k hlt (fun h => h.2.2.2 ⟨he, hb⟩))
                clear HK hm hm1 hm2
                go_wp2_with fail
                refine H27.mono ?_
                rintro e w' ⟨rfl, rfl⟩
                clear H27
                rw [hb]
                go_wp2_with fail
                go_round
                case rel => exact ⟨k + 1, by omega, by omega, by go_num, by have := HE.out; rw [he] at this; exact this⟩
                case measure => simp [intOf]; omega
          · have hmb2 : (t (k + 2) == t s) = false := by simpa using hm2
            have HE : Hid (seMod t n s = mtpl t n (t s) (t s == 34) (n + 1) (k + 1)) := HK.out.trans (mtpl_miss t n (t s) (t s == 34) k hlt (fun h => hm2 h.2.2.1))
            clear HK hm hm1 hm2 H27
            go_wp2_with fail
            go_round
            case rel => exact ⟨k + 1, by omega, by omega, by go_num, HE⟩
            case measure => simp [intOf]; omega
        · have hmb1 : (t (k + 1) == t s) = false := by simpa using hm1
          have HE : Hid (seMod t n s = mtpl t n (t s) (t s == 34) (n + 1) (k + 1)) := HK.out.trans (mtpl_miss t n (t s) (t s == 34) k hlt (fun h => hm1 h.2.1))
          clear HK hm hm1 H27
          go_wp2_with fail
          go_round
          case rel => exact ⟨k + 1, by omega, by omega, by go_num, HE⟩
          case measure => simp [intOf]; omega
      · have hmb : (t k == t s) = false := by simpa using hm
        have HE : Hid (seMod t n s = mtpl t n (t s) (t s == 34) (n + 1) (k + 1)) := HK.out.trans (mtpl_miss t n (t s) (t s == 34) k hlt (fun h => hm h.1))
        clear HK hm H27
        go_wp2_with fail
        go_round
        case rel => exact ⟨k + 1, by omega, by omega, by go_num, HE⟩
        case measure => simp [intOf]; omega
    · have HE : Hid (seMod t n s = n) := HK.out.trans (mtpl_out _ _ _ _ _ _ (by omega))
      clear HK
      go_wp2_with fail
      go_ret
      exact ⟨ret_int (by rw [HE.out]), rfl⟩

theorem mod_any (t : Nat → Int) (b off n c s : Nat) (w : World) (hn : n ≤ 1048576) (hs : s < n)
    (hc : ∀ i, i < n → w.cell? ⟨b, off + i, none⟩ = some (.int .u8 (t i))) :
    Calls Trym.prog 17 #[.slice (some ⟨b, off, none⟩) n c, .int .i64 s] w fun e w' => e = .returned (.int .i64 (seMod t n s : Nat)) ∧ w = w' := by
  cases h3 : three t n s
  · exact mod_single t b off n c s w hn hs hc h3
  · exact mod_triple t b off n c s w hn hs hc h3

end Go.Proofs.Qxb6601502aMods.strEnd
