/-
  No cell of these rows narrows 'for every input' (looked for: loops, veiled, ifaces, maps, wideKeys, modest, calm, conditions, laid).
  DERIVED. THE GIVEN ROWS OF THIS SEAT. 3 by the template 'for every input the law returns true; each argument reads behind the call as it read before'; 0 by the template 'total and deterministic' (their statements: Qxb6601436aModsTotals.lean).
  GIVEN WITH THE SEED: the statements are not yours to turn. If you find one false, say at which input.
  Laid BY PROGRAM, IN A SANDBOX (cutbox-rows.mjs): the forced cells as the released guide's own fill.sh prints them over the translation 25e2cd9786a850af… (all of the seat's roots in one cut). By AI agents, Wed Nov 11 2026. No macro, syntax, notation, axiom, sorry.
-/
import Derived.Test.Qxb6601436aModsChecked
import GoSem.Claim
import GoSem.ClaimJoined
import GoSem.ClaimMapViews
import Derived.JoinedTies
import Derived.KernelRfl
namespace Go.Proofs.Qxb6601436aMods
/- THE CELL 'sum', in the pinned program and in every row, IS THE sha256 OF THE DUMP (.gsa) THAT Qxb6601436aModsProg.lean LOADS. Nothing in Lean hashes anything: it is a label: what it is worth is what the hold of that sum in a sandbox is worth. -/
noncomputable def Trym.pinned : Pinned := { name := "qxb6601436amods", sum := "25e2cd9786a850af250bc5465bcf4a82bbb0fec9fc6b63a01e9ec7d0fa9207b9", checked := Trym.checked }
namespace Rows
def none {H : Type} : Left H := { results := [], args := [] }

/-- 'zzlaws_internal_tenancy_b1.FnClientChangeEventsSplit': WHATEVER THE INPUT: true; the input reads as it did. -/
def fnClientChangeEventsSplitSpec : ChangeSpec := { name := "fnClientChangeEventsSplit", fn := fun _ => fun
  | [d1, d2, d3, d4, d5, d6] => { results := [.lit (.bool true)], args := [d1, d2, d3, d4, d5, d6] }
  | _ => none }
def fnClientChangeEventsSplitRow : OpenClaim := { program := "qxb6601436amods", sum := "25e2cd9786a850af250bc5465bcf4a82bbb0fec9fc6b63a01e9ec7d0fa9207b9", func := "example.com/aeacus/aeacus/zzlaws_internal_tenancy_b1.FnClientChangeEventsSplit", spec := "fnClientChangeEventsSplit", make := .lifted ["publicsums"], apart := false }
def FnClientChangeEventsSplitSaid : Prop := fnClientChangeEventsSplitRow.holds Trym.pinned (OpenSpec.ofChange fnClientChangeEventsSplitSpec)

/-- ITS FALSE NEIGHBOUR: 'it returns false'. Refute it at one input. -/
def fnClientChangeEventsSplitWrong : ChangeSpec := { name := "fnClientChangeEventsSplit", fn := fun _ => fun
  | [d1, d2, d3, d4, d5, d6] => { results := [.lit (.bool false)], args := [d1, d2, d3, d4, d5, d6] }
  | _ => none }
def FnClientChangeEventsSplitWrongFalsely : Prop := fnClientChangeEventsSplitRow.holds Trym.pinned (OpenSpec.ofChange fnClientChangeEventsSplitWrong)

/-- 'zzlaws_internal_tenancy_b1.FnAdminRegistrationFreshGrants': WHATEVER THE INPUT: true; the input reads as it did. -/
def fnAdminRegistrationFreshGrantsSpec : ChangeSpec := { name := "fnAdminRegistrationFreshGrants", fn := fun _ => fun
  | [d1, d2] => { results := [.lit (.bool true)], args := [d1, d2] }
  | _ => none }
def fnAdminRegistrationFreshGrantsRow : OpenClaim := { program := "qxb6601436amods", sum := "25e2cd9786a850af250bc5465bcf4a82bbb0fec9fc6b63a01e9ec7d0fa9207b9", func := "example.com/aeacus/aeacus/zzlaws_internal_tenancy_b1.FnAdminRegistrationFreshGrants", spec := "fnAdminRegistrationFreshGrants", make := .lifted ["publicsums"], apart := false }
def FnAdminRegistrationFreshGrantsSaid : Prop := fnAdminRegistrationFreshGrantsRow.holds Trym.pinned (OpenSpec.ofChange fnAdminRegistrationFreshGrantsSpec)

/-- ITS FALSE NEIGHBOUR: 'it returns false'. Refute it at one input. -/
def fnAdminRegistrationFreshGrantsWrong : ChangeSpec := { name := "fnAdminRegistrationFreshGrants", fn := fun _ => fun
  | [d1, d2] => { results := [.lit (.bool false)], args := [d1, d2] }
  | _ => none }
def FnAdminRegistrationFreshGrantsWrongFalsely : Prop := fnAdminRegistrationFreshGrantsRow.holds Trym.pinned (OpenSpec.ofChange fnAdminRegistrationFreshGrantsWrong)

/-- 'zzlaws_internal_tenancy_b1.FnNonNilIdempotent': WHATEVER THE INPUT: true; the input reads as it did. -/
def fnNonNilIdempotentSpec : ChangeSpec := { name := "fnNonNilIdempotent", fn := fun _ => fun
  | [d] => { results := [.lit (.bool true)], args := [d] }
  | _ => none }
def fnNonNilIdempotentRow : OpenClaim := { program := "qxb6601436amods", sum := "25e2cd9786a850af250bc5465bcf4a82bbb0fec9fc6b63a01e9ec7d0fa9207b9", func := "example.com/aeacus/aeacus/zzlaws_internal_tenancy_b1.FnNonNilIdempotent", spec := "fnNonNilIdempotent", make := .lifted ["publicsums"], apart := false }
def FnNonNilIdempotentSaid : Prop := fnNonNilIdempotentRow.holds Trym.pinned (OpenSpec.ofChange fnNonNilIdempotentSpec)

/-- ITS FALSE NEIGHBOUR: 'it returns false'. Refute it at one input. -/
def fnNonNilIdempotentWrong : ChangeSpec := { name := "fnNonNilIdempotent", fn := fun _ => fun
  | [d] => { results := [.lit (.bool false)], args := [d] }
  | _ => none }
def FnNonNilIdempotentWrongFalsely : Prop := fnNonNilIdempotentRow.holds Trym.pinned (OpenSpec.ofChange fnNonNilIdempotentWrong)

end Rows
end Go.Proofs.Qxb6601436aMods
