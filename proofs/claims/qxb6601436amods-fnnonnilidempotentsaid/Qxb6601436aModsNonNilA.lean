/-
  WALKS of the callees of FnNonNilIdempotent.
-/
import Derived.Test.Qxb6601436aModsRows
import Derived.WalkKit
import Derived.WalkSpells
import Derived.WalkLawsBesides
namespace Go.Proofs.Qxb6601436aMods.nonNilIdem
open Go.RowKit

/-- A bool came back. -/
def RetB (e : Ending) : Prop := ∃ b, e = .returned (.bool b)
/-- An int came back; one that is not negative tells that the list is short. -/
def RetI (n : Nat) (e : Ending) : Prop := ∃ r : Int, e = .returned (.int .i64 r) ∧ (0 ≤ r → n ≤ 65536)

set_option maxHeartbeats 400000 in
theorem bytes_zero (ao : Option Addr) (c : Nat) (w : World) :
    Calls Trym.prog 13 #[.slice ao 0 c] w fun e w' => RetB e ∧ w = w' := by
  go_enter Trym.func13, Trym.ntmps13
  go_wp2
  refine wp_loop_rounds 1 ?_
  rw [rounds_succ]
  go_wp2
  go_ret
  exact ⟨⟨_, rfl⟩, rfl⟩

set_option maxHeartbeats 400000 in
theorem bytes_any (b off n c : Nat) (ss : List ByteArray) (w : World) (hn : n ≤ maxLen)
    (hc : ∀ i, i < n → w.cell? ⟨b, off + i, none⟩ = some (.string (ss.getD i ByteArray.empty))) :
    Calls Trym.prog 13 #[.slice (some ⟨b, off, none⟩) n c] w fun e w' => RetB e ∧ w = w' := by
  unfold maxLen at hn
  go_enter Trym.func13, Trym.ntmps13
  go_wp2
  · go_ret
    exact ⟨⟨_, rfl⟩, rfl⟩
  go_loop [3, 4] (fun s i => ∃ (k : Nat) (m : Int), k ≤ n ∧ i = .int .i64 k ∧ s = .int .i64 m) (fun _ i => n - (intOf i).toNat)
  case atStart => exact ⟨0, _, Nat.zero_le _, rfl, rfl⟩
  case round =>
    obtain ⟨k, m, hk, rfl, rfl⟩ := hrel
    by_cases hlt : k < n
    · have h1 := hc k hlt
      clear hc
      go_wp2
      · go_ret
        exact ⟨⟨_, rfl⟩, rfl⟩
      · go_ret
        exact ⟨⟨_, rfl⟩, rfl⟩
      go_round
      case rel => exact ⟨k + 1, _, by omega, by go_num, rfl⟩
      case measure => simp [intOf]; omega
    · go_wp2
      go_ret
      exact ⟨⟨_, rfl⟩, rfl⟩

set_option maxHeartbeats 400000 in
theorem list_zero (ao : Option Addr) (c : Nat) (w : World) :
    Calls Trym.prog 14 #[.slice ao 0 c] w fun e w' => e = .returned (.int .i64 0) ∧ w = w' := by
  go_enter Trym.func14, Trym.ntmps14
  go_wp2
  refine wp_loop_rounds 1 ?_
  rw [rounds_succ]
  go_wp2
  go_ret
  exact ⟨rfl, rfl⟩

set_option maxHeartbeats 400000 in
theorem list_any (b off n c : Nat) (ss : List ByteArray) (w : World) (hn : n ≤ maxLen)
    (hc : ∀ i, i < n → w.cell? ⟨b, off + i, none⟩ = some (.string (ss.getD i ByteArray.empty))) :
    Calls Trym.prog 14 #[.slice (some ⟨b, off, none⟩) n c] w fun e w' => RetI n e ∧ w = w' := by
  unfold maxLen at hn
  by_cases h65 : n ≤ 65536
  · go_enter Trym.func14, Trym.ntmps14
    go_wp2
    go_loop [3, 4] (fun s i => ∃ (k : Nat) (m : Int), k ≤ n ∧ i = .int .i64 k ∧ s = .int .i64 m) (fun _ i => n - (intOf i).toNat)
    case atStart => exact ⟨0, _, Nat.zero_le _, rfl, rfl⟩
    case round =>
      obtain ⟨k, m, hk, rfl, rfl⟩ := hrel
      by_cases hlt : k < n
      · have h1 := hc k hlt
        clear hc
        go_wp2
        · go_ret
          exact ⟨⟨_, rfl, fun _ => h65⟩, rfl⟩
        go_round
        case rel => exact ⟨k + 1, _, by omega, by go_num, rfl⟩
        case measure => simp [intOf]; omega
      · go_wp2
        go_ret
        exact ⟨⟨_, rfl, fun _ => h65⟩, rfl⟩
  · go_enter Trym.func14, Trym.ntmps14
    go_wp2
    go_ret
    exact ⟨⟨_, rfl, fun h => by omega⟩, rfl⟩

end Go.Proofs.Qxb6601436aMods.nonNilIdem
