/-
  No cell of these rows narrows 'for every input' (looked for: loops, veiled, ifaces, maps, wideKeys, modest, calm, conditions, laid).
  DERIVED. THE GIVEN ROWS OF THIS SEAT. 4 by the template 'for every input the law returns true; each argument reads behind the call as it read before'; 0 by the template 'total and deterministic' (their statements: Qxb6601634aModsTotals.lean).
  GIVEN WITH THE SEED: the statements are not yours to turn. If you find one false, say at which input.
  Laid BY PROGRAM, IN A SANDBOX (cutbox-rows.mjs): the forced cells as the released guide's own fill.sh prints them over the translation b77fedbad24d19d2… (all of the seat's roots in one cut). By AI agents, Wed Nov 11 2026. No macro, syntax, notation, axiom, sorry.
-/
import Derived.Test.Qxb6601634aModsChecked
import GoSem.Claim
import GoSem.ClaimJoined
import GoSem.ClaimMapViews
import Derived.JoinedTies
import Derived.KernelRfl
namespace Go.Proofs.Qxb6601634aMods
/- THE CELL 'sum', in the pinned program and in every row, IS THE sha256 OF THE DUMP (.gsa) THAT Qxb6601634aModsProg.lean LOADS. Nothing in Lean hashes anything: it is a label: what it is worth is what the hold of that sum in a sandbox is worth. -/
noncomputable def Trym.pinned : Pinned := { name := "qxb6601634amods", sum := "b77fedbad24d19d29cc59011f812817243d084479914bec33e56c016fb18d358", checked := Trym.checked }
namespace Rows
def none {H : Type} : Left H := { results := [], args := [] }

/-- 'zzlaws_manifest_b1.FnCutDocumentEndExtends': WHATEVER THE INPUT: true; the input reads as it did. -/
def fnCutDocumentEndExtendsSpec : ChangeSpec := { name := "fnCutDocumentEndExtends", fn := fun _ => fun
  | [d1, d2] => { results := [.lit (.bool true)], args := [d1, d2] }
  | _ => none }
def fnCutDocumentEndExtendsRow : OpenClaim := { program := "qxb6601634amods", sum := "b77fedbad24d19d29cc59011f812817243d084479914bec33e56c016fb18d358", func := "example.com/meshwright/meshwright/zzlaws_manifest_b1.FnCutDocumentEndExtends", spec := "fnCutDocumentEndExtends", inPlace := ["internal/bytealg.IndexByteString"], make := .lifted ["publicsums"], apart := false }
def FnCutDocumentEndExtendsSaid : Prop := fnCutDocumentEndExtendsRow.holds Trym.pinned (OpenSpec.ofChange fnCutDocumentEndExtendsSpec)

/-- ITS FALSE NEIGHBOUR: 'it returns false'. Refute it at one input. -/
def fnCutDocumentEndExtendsWrong : ChangeSpec := { name := "fnCutDocumentEndExtends", fn := fun _ => fun
  | [d1, d2] => { results := [.lit (.bool false)], args := [d1, d2] }
  | _ => none }
def FnCutDocumentEndExtendsWrongFalsely : Prop := fnCutDocumentEndExtendsRow.holds Trym.pinned (OpenSpec.ofChange fnCutDocumentEndExtendsWrong)

/-- 'zzlaws_manifest_b1.FnQuotedLenWhole': WHATEVER THE INPUT: true; the input reads as it did. -/
def fnQuotedLenWholeSpec : ChangeSpec := { name := "fnQuotedLenWhole", fn := fun _ => fun
  | [d] => { results := [.lit (.bool true)], args := [d] }
  | _ => none }
def fnQuotedLenWholeRow : OpenClaim := { program := "qxb6601634amods", sum := "b77fedbad24d19d29cc59011f812817243d084479914bec33e56c016fb18d358", func := "example.com/meshwright/meshwright/zzlaws_manifest_b1.FnQuotedLenWhole", spec := "fnQuotedLenWhole", make := .lifted ["publicsums"], apart := false }
def FnQuotedLenWholeSaid : Prop := fnQuotedLenWholeRow.holds Trym.pinned (OpenSpec.ofChange fnQuotedLenWholeSpec)

/-- ITS FALSE NEIGHBOUR: 'it returns false'. Refute it at one input. -/
def fnQuotedLenWholeWrong : ChangeSpec := { name := "fnQuotedLenWhole", fn := fun _ => fun
  | [d] => { results := [.lit (.bool false)], args := [d] }
  | _ => none }
def FnQuotedLenWholeWrongFalsely : Prop := fnQuotedLenWholeRow.holds Trym.pinned (OpenSpec.ofChange fnQuotedLenWholeWrong)

/-- 'zzlaws_manifest_b1.FnQuotedLenRoundTrip': WHATEVER THE INPUT: true; the input reads as it did. -/
def fnQuotedLenRoundTripSpec : ChangeSpec := { name := "fnQuotedLenRoundTrip", fn := fun _ => fun
  | [d1, d2] => { results := [.lit (.bool true)], args := [d1, d2] }
  | _ => none }
def fnQuotedLenRoundTripRow : OpenClaim := { program := "qxb6601634amods", sum := "b77fedbad24d19d29cc59011f812817243d084479914bec33e56c016fb18d358", func := "example.com/meshwright/meshwright/zzlaws_manifest_b1.FnQuotedLenRoundTrip", spec := "fnQuotedLenRoundTrip", make := .lifted ["publicsums"], apart := false }
def FnQuotedLenRoundTripSaid : Prop := fnQuotedLenRoundTripRow.holds Trym.pinned (OpenSpec.ofChange fnQuotedLenRoundTripSpec)

/-- ITS FALSE NEIGHBOUR: 'it returns false'. Refute it at one input. -/
def fnQuotedLenRoundTripWrong : ChangeSpec := { name := "fnQuotedLenRoundTrip", fn := fun _ => fun
  | [d1, d2] => { results := [.lit (.bool false)], args := [d1, d2] }
  | _ => none }
def FnQuotedLenRoundTripWrongFalsely : Prop := fnQuotedLenRoundTripRow.holds Trym.pinned (OpenSpec.ofChange fnQuotedLenRoundTripWrong)

/-- 'zzlaws_manifest_b1.FnQuotedLenClosedIgnoresRest': WHATEVER THE INPUT: true; the input reads as it did. -/
def fnQuotedLenClosedIgnoresRestSpec : ChangeSpec := { name := "fnQuotedLenClosedIgnoresRest", fn := fun _ => fun
  | [d1, d2] => { results := [.lit (.bool true)], args := [d1, d2] }
  | _ => none }
def fnQuotedLenClosedIgnoresRestRow : OpenClaim := { program := "qxb6601634amods", sum := "b77fedbad24d19d29cc59011f812817243d084479914bec33e56c016fb18d358", func := "example.com/meshwright/meshwright/zzlaws_manifest_b1.FnQuotedLenClosedIgnoresRest", spec := "fnQuotedLenClosedIgnoresRest", make := .lifted ["publicsums"], apart := false }
def FnQuotedLenClosedIgnoresRestSaid : Prop := fnQuotedLenClosedIgnoresRestRow.holds Trym.pinned (OpenSpec.ofChange fnQuotedLenClosedIgnoresRestSpec)

/-- ITS FALSE NEIGHBOUR: 'it returns false'. Refute it at one input. -/
def fnQuotedLenClosedIgnoresRestWrong : ChangeSpec := { name := "fnQuotedLenClosedIgnoresRest", fn := fun _ => fun
  | [d1, d2] => { results := [.lit (.bool false)], args := [d1, d2] }
  | _ => none }
def FnQuotedLenClosedIgnoresRestWrongFalsely : Prop := fnQuotedLenClosedIgnoresRestRow.holds Trym.pinned (OpenSpec.ofChange fnQuotedLenClosedIgnoresRestWrong)

end Rows
end Go.Proofs.Qxb6601634aMods
