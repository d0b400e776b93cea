/-
  THE PROOF OF Rows.FnDrawPicksAPositiveWeightOrSpreadsEvenlySaid: the frame after the kit's shell for slices, with a slice of floats opened.
-/
import Derived.Test.Qxb6601637aModsRows
import Derived.Test.Qxb6601637aModsDrC
import Derived.WalkKit
import Derived.ProofKit
import Derived.OpenShut
import Derived.ShutString
import Derived.ChangeOld
import Derived.Below
namespace Go.Proofs.Qxb6601637aMods.fnDrawPicksAPositiveWeightOrSpreadsEvenly
open Go.ChangeShapes Go.WideShapes Go.ChangeAt Go.RowKit
set_option linter.unusedVariables false

theorem own : ownKnob Trym.prog.godebug = none := by kernel_rfl
theorem laidOut : laidOutB Trym.prog = true := by kernel_rfl
theorem cells23 : Trym.prog.cellsOf 23 = 1 := by kernel_rfl

section
variable {H : Type} {enc : TypeId × Value → H} {P : Program} {w : World} {base : Nat} {spare : Nat → Bool} {held : Bool}

theorem trod_float {t : TypeId} {k : FloatKind} {fuel : Nat} {cs : List Value} {x : DataW H × List MemPlace} (ht : P.underlying t = some (.float k)) (h : DataW.trod enc P w base spare held fuel t cs = some x) :
    ∃ b : Nat, cs = [.float k b] ∧ (Lit.float k b).wf = true := by
  cases fuel with
  | zero => simp [DataW.trod] at h
  | succ n =>
    unfold DataW.trod at h
    rw [ht] at h
    split at h <;> simp_all

/-- A slice of floats among the arguments: nil, or each of its elements is a float. -/
theorem open_floats {t e : TypeId} {k : FloatKind} {fuel : Nat} {cs : List Value} {x : DataW H × List MemPlace} (ht : P.underlying t = some (.slice e)) (he : P.underlying e = some (.float k)) (hc : P.cellsOf e = 1)
    (h : DataW.trod enc P w base spare held fuel t cs = some x) :
    cs = [.slice none 0 0] ∨
    ∃ (a : Addr) (len cap : Nat), cs = [.slice (some a) len cap] ∧ len ≤ cap ∧ cap ≤ maxLen ∧ ∀ i, i < len → ∃ b : Nat, w.cell? (a.add i) = some (.float k b) ∧ (Lit.float k b).wf = true := by
  rcases DataW.trod_slice ht h with h0 | ⟨a, len, cap, elems, rest, n, _, rfl, rfl, hb, hl, hm, hlen, hel, hsp, hns⟩
  · exact .inl h0.1
  right
  refine ⟨a, len, cap, rfl, hl, hm, fun i hi => ?_⟩
  have hb' := hel i hi
  rw [List.getElem?_eq_getElem (by omega), hc, Nat.mul_one, Option.bind_eq_some_iff] at hb'
  obtain ⟨cs', hcs, hy⟩ := hb'
  obtain ⟨v, rfl, hw⟩ := trod_float he hy
  exact ⟨v, cell_of_cells?_one hcs, hw⟩
end

/-- WHAT THE WALK IS TOLD OF A SLICE OF FLOATS THAT CAME IN. -/
def IsRow (w : World) (a : Option Addr) (len cap : Nat) (bt : Nat → Nat) : Prop :=
  (a = none ∧ len = 0 ∧ cap = 0) ∨
  ∃ x, a = some x ∧ len ≤ cap ∧ cap ≤ maxLen ∧ (∀ i, i < len → w.cell? (x.add i) = some (.float .f64 (bt i)) ∧ bt i < 18446744073709551616)

theorem wf_lt {b : Nat} (h : (Lit.float .f64 b).wf = true) : b < 18446744073709551616 := by
  simp only [Lit.wf, decide_eq_true_eq] at h
  exact h

theorem walk (a0 : Option Addr) (len0 cap0 : Nat) (bt : Nat → Nat) (r : Nat) (w : World) (w0 : IsRow w a0 len0 cap0 bt) (w1 : r < 18446744073709551616) :
    Calls Trym.prog 3 #[.slice a0 len0 cap0, .float .f64 r] w fun e w' => e = .returned (.bool true) ∧ Below w.heap.size w w' := by
  have hmax : len0 ≤ maxLen := by
    rcases w0 with ⟨_, rfl, _⟩ | ⟨x, _, hl, hm, _⟩
    · exact Nat.zero_le _
    · omega
  by_cases h17 : len0 ≤ 131072
  · by_cases hr : (FloatKind.f64.format.order r 0 = some .gt ∨ FloatKind.f64.format.order r 0 = some .eq) ∧ FloatKind.f64.format.order r 4607182418800017408 = some .lt
    · have ok := draw.Fl.ok_of_order w1 hr.1
      have hr1 : draw.Fl.rung r < 4607182418800017408 := by
        have := draw.Fl.rung_lt_of_order ok (draw.Fl.ok_const (b := 4607182418800017408) (by omega)).1 hr.2
        rwa [(draw.Fl.ok_const (b := 4607182418800017408) (by omega)).2] at this
      have HF : Calls Trym.prog 8 #[.slice a0 len0 cap0] w (fun e w' => draw.RetF len0 bt e ∧ w = w') ∧ Calls Trym.prog 9 #[.slice a0 len0 cap0] w fun e w' => draw.Cl w len0 bt e w' := by
        rcases w0 with ⟨rfl, rfl, rfl⟩ | ⟨x, rfl, hl, hm, hc⟩
        · exact ⟨draw.finite_any bt none 0 0 0 0 w h17 (fun h => by omega) (fun i hi => by omega) (fun i hi => by omega), draw.copy_nil bt w⟩
        · obtain ⟨b, off, spot⟩ := x
          have hspot : 0 < len0 → spot = none := fun h => by simpa [Addr.add] using World.cell?_spot (hc 0 h).1
          have hx : 0 < len0 → (⟨b, off, spot⟩ : Addr) = ⟨b, off, none⟩ := fun h => by rw [hspot h]
          have hc' : ∀ i, i < len0 → w.cell? ⟨b, off + i, none⟩ = some (.float .f64 (bt i)) := fun i hi => by
            have := (hc i hi).1
            rw [hspot (by omega), add_plain] at this
            exact this
          exact ⟨draw.finite_any bt (some ⟨b, off, spot⟩) b off len0 cap0 w h17 (fun h => by rw [hx h]) (fun i hi => (hc i hi).2) hc', draw.copy_some bt ⟨b, off, spot⟩ b off len0 cap0 w h17 hx hc'⟩
      by_cases hz : draw.Fl.rung r = 0
      · exact draw.law3_zero bt a0 len0 cap0 r w h17 ok hr1 hz HF.1 HF.2
      · exact draw.law3_pos bt a0 len0 cap0 r w h17 ok hr1 hz HF.1 HF.2
    · exact draw.law3_out a0 len0 cap0 r w h17 hr
  · exact draw.law3_long a0 len0 cap0 r w hmax h17

set_option maxRecDepth 100000 in
theorem lifted (os : Os) (started : os.Started) (H : Type) (enc : TypeId × Value → H) :
    ReturnsInHanded {} Trym.checked os 3 .any (Rows.fnDrawPicksAPositiveWeightOrSpreadsEvenlySpec.pre6 enc Trym.prog Trym.f3 Rows.fnDrawPicksAPositiveWeightOrSpreadsEvenlyRow.domain false) (Rows.fnDrawPicksAPositiveWeightOrSpreadsEvenlySpec.post enc Trym.prog Trym.f3 false true false false) := by
  refine returnsInHanded_of_change (C := Trym.checked) own started (by kernel_rfl) Trym.func3
    (ChangeSpec.witness6 (enc := enc) (C := Trym.checked) false ⟨#[], #[.slice none 0 0, .float .f64 0], []⟩ 8 (by kernel_rfl) (by kernel_rfl) (by kernel_rfl) (by kernel_rfl)) ?_
  intro W base args ds gs before hval0 hW hcnd _
  have hval : ∀ (j : Nat) t v, Trym.f3.params[j]? = some t → args[j]? = some v → Value.okWide Trym.prog W .any base t v := hval0
  have hW' := hW
  obtain ⟨p, q, hA0, hV, rfl, hfz, hnd⟩ := hW
  have hA : DataW.TrodAll enc Trym.prog W 0 (fun _ => true) true Trym.f3.params.toList args.toList ds p := hA0
  rw [Trym.params3] at hA hval
  obtain ⟨v0, vs0, d0, ds0, p0, q0, hargs, rfl, rfl, h0, r0⟩ := trodAll_cons hA
  obtain ⟨v1, vs1, d1, ds1, p1, q1, rfl, rfl, rfl, h1, r1⟩ := trodAll_cons r0
  obtain ⟨rfl, rfl, rfl⟩ := trodAll_nil r1
  obtain rfl : args = #[v0, v1] := by cases args; simp_all
  obtain ⟨rfl, rfl⟩ := trodVars_none hV
  obtain ⟨a0, len0, cap0, rfl⟩ := okWide_slice Trym.underlying22 (hval 0 22 v0 rfl rfl)
  have k0 := h0
  have lt0 : ∀ x ∈ p0, x.block < W.heap.size := by obtain ⟨m, hm⟩ := k0; exact DataW.trod_lt m _ _ _ hm
  obtain ⟨z0, w0⟩ : ∃ bt, IsRow W a0 len0 cap0 bt := by
    obtain ⟨fuel, hf⟩ := h0
    rcases open_floats Trym.underlying22 Trym.underlying23 cells23 hf with hcs | ⟨x, l, c, hcs, hl, hm, hcell⟩
    · simp [Value.cells] at hcs
      obtain ⟨rfl, rfl, rfl⟩ := hcs
      exact ⟨fun _ => 0, .inl ⟨rfl, rfl, rfl⟩⟩
    · simp [Value.cells] at hcs
      obtain ⟨rfl, rfl, rfl⟩ := hcs
      refine ⟨fun i => match W.cell? (x.add i) with | some (.float _ b) => b | _ => 0, .inr ⟨_, rfl, hl, hm, fun i hi => ?_⟩⟩
      obtain ⟨b, hb, hw⟩ := hcell i hi
      simp only [hb]
      exact ⟨trivial, wf_lt hw⟩
  obtain ⟨r, rfl, rfl, rfl, w1⟩ := open_float Trym.underlying23 (hval 1 23 v1 rfl rfl) h1
  clear hA0 hval0
  refine (walk a0 len0 cap0 z0 r W w0 (wf_lt w1)).mono fun e W' ⟨he, bel⟩ => ?_
  subst he
  exact ⟨_, rfl, _, _, _, [], _, [], hW', trodAll_mk1 (shut_bool Trym.underlying4 _), (trodAll_cons_mk (Below.trod laidOut (by kernel_rfl) (of_decide_eq_true (by kernel_rfl)) k0 bel lt0) (trodAll_cons_mk (shut_float Trym.underlying23 w1) trodAll_mk0)), rfl, bel.frame _, fun h => by cases h⟩

theorem over : Rows.fnDrawPicksAPositiveWeightOrSpreadsEvenlyRow.holds Trym.pinned (OpenSpec.ofChange Rows.fnDrawPicksAPositiveWeightOrSpreadsEvenlySpec) :=
  OpenClaim.holds_of_wide 3 Trym.f3 rfl rfl rfl rfl rfl rfl rfl ⟨rfl, rfl, rfl, rfl, rfl⟩ rfl rfl rfl rfl rfl (by kernel_rfl) Trym.func3 (by kernel_rfl)
    (of_decide_eq_true (by kernel_rfl)) (by unfold Func.isWrapper; first | (rw [if_pos (by decide +kernel)]; kernel_rfl) | (rw [if_neg (by decide +kernel)]; exact ⟨rfl, rfl⟩))
    (fun os started H enc _ => lifted os started H enc)

/-- THE STATEMENT -/
theorem proved : Rows.FnDrawPicksAPositiveWeightOrSpreadsEvenlySaid := over
#print axioms proved
end Go.Proofs.Qxb6601637aMods.fnDrawPicksAPositiveWeightOrSpreadsEvenly
