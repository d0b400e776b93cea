/-
  No cell of these rows narrows 'for every input' (looked for: loops, veiled, ifaces, maps, wideKeys, modest, calm, conditions, laid).
  DERIVED. THE GIVEN ROWS OF THIS SEAT. 4 by the template 'for every input the law returns true; each argument reads behind the call as it read before'; 0 by the template 'total and deterministic' (their statements: Qxb6601637aModsTotals.lean).
  GIVEN WITH THE SEED: the statements are not yours to turn. If you find one false, say at which input.
  Laid BY PROGRAM, IN A SANDBOX (cutbox-rows.mjs): the forced cells as the released guide's own fill.sh prints them over the translation 847e5dd0ca014340… (all of the seat's roots in one cut). By AI agents, Wed Nov 11 2026. No macro, syntax, notation, axiom, sorry.
-/
import Derived.Test.Qxb6601637aModsChecked
import GoSem.Claim
import GoSem.ClaimJoined
import GoSem.ClaimMapViews
import Derived.JoinedTies
import Derived.KernelRfl
namespace Go.Proofs.Qxb6601637aMods
/- THE CELL 'sum', in the pinned program and in every row, IS THE sha256 OF THE DUMP (.gsa) THAT Qxb6601637aModsProg.lean LOADS. Nothing in Lean hashes anything: it is a label: what it is worth is what the hold of that sum in a sandbox is worth. -/
noncomputable def Trym.pinned : Pinned := { name := "qxb6601637amods", sum := "847e5dd0ca0143408f639093955f88c3382980d71d9056c453d17e21497d0022", checked := Trym.checked }
namespace Rows
def none {H : Type} : Left H := { results := [], args := [] }

/-- 'zzlaws_internal_governance_b1.FnDrawPicksAPositiveWeightOrSpreadsEvenly': WHATEVER THE INPUT: true; the input reads as it did. -/
def fnDrawPicksAPositiveWeightOrSpreadsEvenlySpec : ChangeSpec := { name := "fnDrawPicksAPositiveWeightOrSpreadsEvenly", fn := fun _ => fun
  | [d1, d2] => { results := [.lit (.bool true)], args := [d1, d2] }
  | _ => none }
def fnDrawPicksAPositiveWeightOrSpreadsEvenlyRow : OpenClaim := { program := "qxb6601637amods", sum := "847e5dd0ca0143408f639093955f88c3382980d71d9056c453d17e21497d0022", func := "example.com/abrel/abrel/zzlaws_internal_governance_b1.FnDrawPicksAPositiveWeightOrSpreadsEvenly", spec := "fnDrawPicksAPositiveWeightOrSpreadsEvenly", make := .lifted ["publicsums"], apart := false }
def FnDrawPicksAPositiveWeightOrSpreadsEvenlySaid : Prop := fnDrawPicksAPositiveWeightOrSpreadsEvenlyRow.holds Trym.pinned (OpenSpec.ofChange fnDrawPicksAPositiveWeightOrSpreadsEvenlySpec)

/-- ITS FALSE NEIGHBOUR: 'it returns false'. Refute it at one input. -/
def fnDrawPicksAPositiveWeightOrSpreadsEvenlyWrong : ChangeSpec := { name := "fnDrawPicksAPositiveWeightOrSpreadsEvenly", fn := fun _ => fun
  | [d1, d2] => { results := [.lit (.bool false)], args := [d1, d2] }
  | _ => none }
def FnDrawPicksAPositiveWeightOrSpreadsEvenlyWrongFalsely : Prop := fnDrawPicksAPositiveWeightOrSpreadsEvenlyRow.holds Trym.pinned (OpenSpec.ofChange fnDrawPicksAPositiveWeightOrSpreadsEvenlyWrong)

/-- 'zzlaws_internal_governance_b1.FnDrawMonotoneInR': WHATEVER THE INPUT: true; the input reads as it did. -/
def fnDrawMonotoneInRSpec : ChangeSpec := { name := "fnDrawMonotoneInR", fn := fun _ => fun
  | [d1, d2, d3] => { results := [.lit (.bool true)], args := [d1, d2, d3] }
  | _ => none }
def fnDrawMonotoneInRRow : OpenClaim := { program := "qxb6601637amods", sum := "847e5dd0ca0143408f639093955f88c3382980d71d9056c453d17e21497d0022", func := "example.com/abrel/abrel/zzlaws_internal_governance_b1.FnDrawMonotoneInR", spec := "fnDrawMonotoneInR", make := .lifted ["publicsums"], apart := false }
def FnDrawMonotoneInRSaid : Prop := fnDrawMonotoneInRRow.holds Trym.pinned (OpenSpec.ofChange fnDrawMonotoneInRSpec)

/-- ITS FALSE NEIGHBOUR: 'it returns false'. Refute it at one input. -/
def fnDrawMonotoneInRWrong : ChangeSpec := { name := "fnDrawMonotoneInR", fn := fun _ => fun
  | [d1, d2, d3] => { results := [.lit (.bool false)], args := [d1, d2, d3] }
  | _ => none }
def FnDrawMonotoneInRWrongFalsely : Prop := fnDrawMonotoneInRRow.holds Trym.pinned (OpenSpec.ofChange fnDrawMonotoneInRWrong)

/-- 'zzlaws_internal_governance_b1.FnHeldToIsFilterByIDs': WHATEVER THE INPUT: true; the input reads as it did. -/
def fnHeldToIsFilterByIDsSpec : ChangeSpec := { name := "fnHeldToIsFilterByIDs", fn := fun _ => fun
  | [d1, d2, d3, d4, d5, d6] => { results := [.lit (.bool true)], args := [d1, d2, d3, d4, d5, d6] }
  | _ => none }
def fnHeldToIsFilterByIDsRow : OpenClaim := { program := "qxb6601637amods", sum := "847e5dd0ca0143408f639093955f88c3382980d71d9056c453d17e21497d0022", func := "example.com/abrel/abrel/zzlaws_internal_governance_b1.FnHeldToIsFilterByIDs", spec := "fnHeldToIsFilterByIDs", make := .lifted ["publicsums"], apart := false }
def FnHeldToIsFilterByIDsSaid : Prop := fnHeldToIsFilterByIDsRow.holds Trym.pinned (OpenSpec.ofChange fnHeldToIsFilterByIDsSpec)

/-- ITS FALSE NEIGHBOUR: 'it returns false'. Refute it at one input. -/
def fnHeldToIsFilterByIDsWrong : ChangeSpec := { name := "fnHeldToIsFilterByIDs", fn := fun _ => fun
  | [d1, d2, d3, d4, d5, d6] => { results := [.lit (.bool false)], args := [d1, d2, d3, d4, d5, d6] }
  | _ => none }
def FnHeldToIsFilterByIDsWrongFalsely : Prop := fnHeldToIsFilterByIDsRow.holds Trym.pinned (OpenSpec.ofChange fnHeldToIsFilterByIDsWrong)

/-- 'zzlaws_internal_governance_b1.FnHeldToRestrictionsCommuteAndSettle': WHATEVER THE INPUT: true; the input reads as it did. -/
def fnHeldToRestrictionsCommuteAndSettleSpec : ChangeSpec := { name := "fnHeldToRestrictionsCommuteAndSettle", fn := fun _ => fun
  | [d1, d2, d3, d4, d5, d6, d7] => { results := [.lit (.bool true)], args := [d1, d2, d3, d4, d5, d6, d7] }
  | _ => none }
def fnHeldToRestrictionsCommuteAndSettleRow : OpenClaim := { program := "qxb6601637amods", sum := "847e5dd0ca0143408f639093955f88c3382980d71d9056c453d17e21497d0022", func := "example.com/abrel/abrel/zzlaws_internal_governance_b1.FnHeldToRestrictionsCommuteAndSettle", spec := "fnHeldToRestrictionsCommuteAndSettle", make := .lifted ["publicsums"], apart := false }
def FnHeldToRestrictionsCommuteAndSettleSaid : Prop := fnHeldToRestrictionsCommuteAndSettleRow.holds Trym.pinned (OpenSpec.ofChange fnHeldToRestrictionsCommuteAndSettleSpec)

/-- ITS FALSE NEIGHBOUR: 'it returns false'. Refute it at one input. -/
def fnHeldToRestrictionsCommuteAndSettleWrong : ChangeSpec := { name := "fnHeldToRestrictionsCommuteAndSettle", fn := fun _ => fun
  | [d1, d2, d3, d4, d5, d6, d7] => { results := [.lit (.bool false)], args := [d1, d2, d3, d4, d5, d6, d7] }
  | _ => none }
def FnHeldToRestrictionsCommuteAndSettleWrongFalsely : Prop := fnHeldToRestrictionsCommuteAndSettleRow.holds Trym.pinned (OpenSpec.ofChange fnHeldToRestrictionsCommuteAndSettleWrong)

end Rows
end Go.Proofs.Qxb6601637aMods
