/-
  bytes.Equal (38) and bytes.HasPrefix (32): the kit's shelf contracts as its contract.sh lays them for this program, under this seat's names.
-/
import Derived.Test.Qxb6601502aModsChecked
import Derived.Lib.Strings
import Derived.Lib.Slices
import Derived.Lib.Walk
import Derived.Lib.Bytes
namespace Go.Proofs.Qxb6601502aMods.strEnd

set_option maxHeartbeats 1000000 in
/-- bytes.Equal: whether the bytes of the one are the bytes of the other; the world is as it was. -/
theorem bytes_Equal (v1 v2 : Value) (xs ys : List Int) (w : World)
    (h1 : (convert 23 9 v1).run Trym.prog w = .ok (.string (strOfNums xs)) w) (h2 : (convert 23 9 v2).run Trym.prog w = .ok (.string (strOfNums ys)) w) :
    Calls Trym.prog 38 #[v1, v2] w fun e w' => e = .returned (.bool (Lib.bytesOf xs == Lib.bytesOf ys)) ∧ w' = w := by
  rw [← Lib.strOfNums_toList, ← Lib.strOfNums_toList]
  go_enter Trym.func38, Trym.ntmps38
  go_wp2
  go_ret
  exact ⟨rfl, rfl⟩

set_option maxHeartbeats 1000000 in
/-- bytes.HasPrefix, its callee bytes.Equal met by its contract. -/
theorem bytes_HasPrefix (b1 o1 n c b2 o2 m d : Nat) (xs ys : List Int) (w : World) (hx : xs.length = n) (hy : ys.length = m) (hnc : n ≤ c)
    (hc1 : ∀ i, i < n → w.cell? ⟨b1, o1 + i, none⟩ = some (.int .u8 (xs.getD i 0))) (hc2 : ∀ i, i < m → w.cell? ⟨b2, o2 + i, none⟩ = some (.int .u8 (ys.getD i 0))) :
    Calls Trym.prog 32 #[.slice (some ⟨b1, o1, none⟩) n c, .slice (some ⟨b2, o2, none⟩) m d] w fun e w' => e = .returned (.bool (Lib.hasPrefix (Lib.bytesOf xs) (Lib.bytesOf ys))) ∧ w' = w := by
  rw [← Lib.bytes_hasPrefix, hx, hy]
  have g2 := run_convert_bytes_arg (P := Trym.prog) w 23 5 Trym.underlying23 Trym.underlying5 b2 o2 m d ys hy hc2 9 Trym.underlying9
  have g1 : m ≤ n → (convert 23 9 (.slice (some ⟨b1, o1, none⟩) m c)).run Trym.prog w = .ok (.string (strOfNums (xs.take m))) w := fun h =>
    run_convert_bytes_arg (P := Trym.prog) w 23 5 Trym.underlying23 Trym.underlying5 b1 o1 m c (xs.take m) (by simp; omega) (fun i hi => by rw [Lib.getD_take _ _ _ hi]; exact hc1 i (by omega)) 9 Trym.underlying9
  go_enter Trym.func32, Trym.ntmps32
  go_wp2_with (go_at_call 38; refine (bytes_Equal _ _ (xs.take m) ys _ (g1 (by assumption)) g2).mono ?_; rintro e w' ⟨rfl, rfl⟩)
  · have h : m ≤ n := by assumption
    go_ret
    refine ⟨?_, rfl⟩
    rw [decide_eq_true h, Bool.true_and]
    rfl
  · have h : ¬ m ≤ n := by assumption
    go_ret
    refine ⟨?_, rfl⟩
    rw [decide_eq_false h, Bool.false_and]
    rfl

end Go.Proofs.Qxb6601502aMods.strEnd
