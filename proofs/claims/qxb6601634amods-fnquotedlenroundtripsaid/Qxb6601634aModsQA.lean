/-
  WALKS: zzCloneBytes (8), quotedLen (16), ZZquotedLen (11).
-/
import Derived.Test.Qxb6601634aModsRows
import Derived.Test.Qxb6601634aModsPlain
import Derived.WalkKit
import Derived.WalkSpells
import Derived.WalkLawsBesides
import Derived.Laws.CopyOwn
namespace Go.Proofs.Qxb6601634aMods.quoted
open Go.RowKit Plain

theorem info5 : (Trym.prog.info? 5).map (fun i => (i.zero, i.size, i.bytes)) = some (some (.int .u8 0), 1, 1) := by kernel_rfl
theorem size5 : (Trym.prog.info? 5).map (·.size) = some 1 := by kernel_rfl

theorem ret_int {k : IntKind} {a b : Int} (h : a = b) : Ending.returned (.int k a) = .returned (.int k b) := by rw [h]
theorem ret_bool {a b : Bool} (h : a = b) : Ending.returned (.bool a) = .returned (.bool b) := by rw [h]

/-- The row that a made slice owns, whole. -/
theorem row_of {w : World} {base g n : Nat} {e : TypeId} {xs : List Value} (h : w.ownsRow base e 1 (.slice (some ⟨g, 0, none⟩) n n) n xs) :
    w.heap[g]? = some (.cells xs.toArray e (0, 0)) ∧ xs.length = n := by
  obtain ⟨h1, h2⟩ := h
  rcases h2 with ⟨h, _⟩ | ⟨g', cap, cur, hv, _, hh, _, _, hcs, htake⟩
  · simp at h
  · simp only [Value.slice.injEq, Option.some.injEq, Addr.mk.injEq, and_true, true_and] at hv
    obtain ⟨rfl, rfl⟩ := hv
    have : cur.toList = xs := by
      rw [← htake]
      exact (List.take_of_length_le (by rw [Array.length_toList, hcs]; exact Nat.le_refl _)).symm
    rw [← this]
    exact ⟨by simpa using hh, by simp [hcs]⟩

/-- The bytes as cells. -/
def cellsOf (t : Nat → Int) (n : Nat) : List Value := (List.range n).map fun i => .int .u8 (t i)
theorem cellsOf_length (t : Nat → Int) (n : Nat) : (cellsOf t n).length = n := by simp [cellsOf]
theorem cellsOf_at (t : Nat → Int) (n i : Nat) (h : i < n) : (cellsOf t n)[i]? = some (.int .u8 (t i)) := by simp [cellsOf, h]
theorem cellsOf_some (t : Nat → Int) (n i : Nat) (v : Value) (h : (cellsOf t n)[i]? = some v) : i < n ∧ v = .int .u8 (t i) := by
  have hi : i < n := by
    have := (List.getElem?_eq_some_iff.1 h).1
    rwa [cellsOf_length] at this
  rw [cellsOf_at t n i hi] at h
  exact ⟨hi, (Option.some.inj h).symm⟩
theorem cellsOf_one (t : Nat → Int) (n : Nat) : ∀ v ∈ cellsOf t n, v.oneCell' = true := by
  intro v hv
  obtain ⟨_, _, rfl⟩ := List.mem_map.1 hv
  rfl

/-- What the clone is: nil, or a new row of the same bytes. -/
def Cl (w : World) (n : Nat) (t : Nat → Int) (e : Ending) (w' : World) : Prop :=
  ∃ ao, e = .returned (.slice ao n n) ∧ (ao = none ∧ n = 0 ∨ ao = some ⟨w.heap.size, 0, none⟩ ∧ w.heap.size < w'.heap.size) ∧
    Below w.heap.size w w' ∧ ∀ i, i < n → w'.cell? ⟨w.heap.size, i, none⟩ = some (.int .u8 (t i))

set_option maxHeartbeats 400000 in
theorem clone_nil (t : Nat → Int) (w : World) :
    Calls Trym.prog 8 #[.slice none 0 0] w fun e w' => Cl w 0 t e w' := by
  have heq := fun (wx : World) (ax : Option Addr) (nx cx : Nat) => Lib.run_eql_slice_nil (P := Trym.prog) wx 22 5 ax nx cx 0 0 Trym.underlying22
  go_enter Trym.func8, Trym.ntmps8
  go_wp2
  go_ret
  exact ⟨none, rfl, .inl ⟨rfl, rfl⟩, Below.refl _ _, fun i hi => by omega⟩

set_option maxHeartbeats 400000 in
theorem clone_some (t : Nat → Int) (x : Addr) (n c : Nat) (w : World) (hn : n ≤ 1048576)
    (hc : ∀ i, i < n → w.cell? (x.add i) = some (.int .u8 (t i))) :
    Calls Trym.prog 8 #[.slice (some x) n c] w fun e w' => Cl w n t e w' := by
  obtain ⟨i0, hi, hz0, hz1, hz2⟩ := info_parts info5
  have heq := fun (wx : World) (ax : Option Addr) (nx cx : Nat) => Lib.run_eql_slice_nil (P := Trym.prog) wx 22 5 ax nx cx 0 0 Trym.underlying22
  go_enter Trym.func8, Trym.ntmps8
  go_wp2_with (at_make; refine wpList_make_full _ rfl _ _ 22 rfl w.heap.size 5 i0 (.int .u8 0) 1 Trym.underlying22 hi hz0 hz1 _ _ _ _ n rfl rfl (by omega) (by omega) ?b2 ?b3 (Nat.le_refl _) ?_)
  case b2 => rw [hz2]; omega
  case b3 => unfold maxLen; omega
  intro w0 hown0 hgrow0
  obtain ⟨xs, hrow, hxl⟩ : ∃ xs : List Value, w0.heap[w.heap.size]? = some (.cells xs.toArray 5 (0, 0)) ∧ xs.length = n := ⟨_, row_of hown0⟩
  have hbel : Below w.heap.size w w0 := (Below.refl _ _).grown hgrow0 (Nat.le_refl _) (fun k h => by cases h)
  have hlt := (hown0.lt _ rfl).2
  clear hown0 hgrow0
  have hrun := run_copy_row (P := Trym.prog) w0 22 22 3 5 w.heap.size 0 n n x n c xs.toArray 5 (cellsOf t n) Trym.underlying22 size5 hrow
    (by rw [cellsOf_length]; exact (Nat.min_self n).symm) (fun j v hj => by obtain ⟨h1, rfl⟩ := cellsOf_some t n j v hj; exact (hbel.cell (World.block_lt_of_cell? w _ (hc j h1))).trans (hc j h1)) (by simp [cellsOf_length, hxl]) (cellsOf_one t n)
  have eR : xs.take 0 ++ cellsOf t n ++ xs.drop (0 + (cellsOf t n).length) = cellsOf t n := by
    rw [List.drop_eq_nil_of_le (by rw [cellsOf_length]; omega)]
    simp
  rw [show xs.toArray.toList = xs from rfl, eR] at hrun
  clear eR hc
  go_wp2
  go_ret
  refine ⟨_, rfl, .inr ⟨rfl, by simpa [World.setRow] using hlt⟩, below_setRow hbel (Nat.le_refl _) _, fun i hi => ?_⟩
  rw [cell_of_row _ w.heap.size i (cellsOf t n).toArray 5 (0, 0) (setRow_heap w0 w.heap.size _ _ 5 _ hrow)]
  simpa using cellsOf_at t n i hi

set_option maxHeartbeats 400000 in
theorem ql_any (t : Nat → Int) (ao : Option Addr) (b n c : Nat) (w : World) (hn : n ≤ 1048576) (hao : 0 < n → ao = some ⟨b, 0, none⟩)
    (hc : ∀ i, i < n → w.cell? ⟨b, i, none⟩ = some (.int .u8 (t i))) :
    Calls Trym.prog 11 #[.slice ao n c] w fun e w' => e = .returned (.int .i64 (ql t n (n + 1) 1 : Nat)) ∧ w = w' := by
  have HC : Hid (∀ i, i < n → w.cell? ⟨b, i, none⟩ = some (.int .u8 (t i))) := hc
  have HA : Hid (0 < n → ao = some ⟨b, 0, none⟩) := hao
  obtain ⟨R, hR⟩ : ∃ R, R = ql t n (n + 1) 1 := ⟨_, rfl⟩
  rw [← hR]
  have HR : Hid (R = ql t n (n + 1) 1) := hR
  clear hc hao hR
  go_enter Trym.func11, Trym.ntmps11
  go_wp2
  go_loop [3] (fun i => ∃ k : Nat, 1 ≤ k ∧ k ≤ n + 1 ∧ i = .int .i64 k ∧ Hid (R = ql t n (n + 1) k)) (fun i => n + 1 - (intOf i).toNat)
  case atStart => exact ⟨1, Nat.le_refl _, by omega, rfl, HR⟩
  case round =>
    obtain ⟨k, hk1, hk2, rfl, HK⟩ := hrel
    by_cases hlt : k < n
    · obtain rfl := HA.out (by omega)
      have h1 := HC.out k hlt
      by_cases hb : t k = 92
      · have hbb : (t k == 92) = true := by simpa using hb
        have HE : Hid (R = ql t n (n + 1) (k + 2)) := HK.out.trans (ql_back t n k hlt hb)
        clear HK hb
        go_wp2
        go_round
        case rel => exact ⟨k + 2, by omega, by omega, by go_num, HE⟩
        case measure => simp [intOf]; omega
      · have hbb : (t k == 92) = false := by simpa using hb
        by_cases hq : t k = 34
        · have hqb : (t k == 34) = true := by simpa using hq
          have HE : Hid (R = k + 1) := HK.out.trans (ql_quote t n k hlt hq)
          clear HK hb hq
          go_wp2
          go_ret
          exact ⟨ret_int (by rw [HE.out]; omega), rfl⟩
        · have hqb : (t k == 34) = false := by simpa using hq
          have HE : Hid (R = ql t n (n + 1) (k + 1)) := HK.out.trans (ql_other t n k hlt hb hq)
          clear HK hb hq
          go_wp2
          go_round
          case rel => exact ⟨k + 1, by omega, by omega, by go_num, HE⟩
          case measure => simp [intOf]; omega
    · have HE : Hid (R = n) := HK.out.trans (ql_out _ _ _ _ (by omega))
      clear HK
      go_wp2
      go_ret
      exact ⟨ret_int (by rw [HE.out]), rfl⟩

end Go.Proofs.Qxb6601634aMods.quoted
