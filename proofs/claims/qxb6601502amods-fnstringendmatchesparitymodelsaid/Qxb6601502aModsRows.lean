/-
  No cell of these rows narrows 'for every input' (looked for: loops, veiled, ifaces, maps, wideKeys, modest, calm, conditions, laid).
  DERIVED. THE GIVEN ROWS OF THIS SEAT. 7 by the template 'for every input the law returns true; each argument reads behind the call as it read before'; 0 by the template 'total and deterministic' (their statements: Qxb6601502aModsTotals.lean).
  GIVEN WITH THE SEED: the statements are not yours to turn. If you find one false, say at which input.
  Laid BY PROGRAM, IN A SANDBOX (cutbox-rows.mjs): the forced cells as the released guide's own fill.sh prints them over the translation 26fbb9e8c2e45bb3… (all of the seat's roots in one cut). By AI agents, Wed Nov 11 2026. No macro, syntax, notation, axiom, sorry.
-/
import Derived.Test.Qxb6601502aModsChecked
import GoSem.Claim
import GoSem.ClaimJoined
import GoSem.ClaimMapViews
import Derived.JoinedTies
import Derived.KernelRfl
namespace Go.Proofs.Qxb6601502aMods
/- THE CELL 'sum', in the pinned program and in every row, IS THE sha256 OF THE DUMP (.gsa) THAT Qxb6601502aModsProg.lean LOADS. Nothing in Lean hashes anything: it is a label: what it is worth is what the hold of that sum in a sandbox is worth. -/
noncomputable def Trym.pinned : Pinned := { name := "qxb6601502amods", sum := "26fbb9e8c2e45bb3f72057ac2e59c011d483d50f09bc065bc4af6ac92dccfbe7", checked := Trym.checked }
namespace Rows
def none {H : Type} : Left H := { results := [], args := [] }

/-- 'zzlaws_pkg_config_b1.FnIsServiceTypeMatchesGrammar': WHATEVER THE INPUT: true; the input reads as it did. -/
def fnIsServiceTypeMatchesGrammarSpec : ChangeSpec := { name := "fnIsServiceTypeMatchesGrammar", fn := fun _ => fun
  | [d] => { results := [.lit (.bool true)], args := [d] }
  | _ => none }
def fnIsServiceTypeMatchesGrammarRow : OpenClaim := { program := "qxb6601502amods", sum := "26fbb9e8c2e45bb3f72057ac2e59c011d483d50f09bc065bc4af6ac92dccfbe7", func := "example.com/portloom/portloom/zzlaws_pkg_config_b1.FnIsServiceTypeMatchesGrammar", spec := "fnIsServiceTypeMatchesGrammar", inPlace := ["internal/bytealg.IndexByteString", "internal/bytealg.IndexString"], named := ["internal/bytealg.MaxLen"], make := .lifted ["publicsums"], apart := false }
def FnIsServiceTypeMatchesGrammarSaid : Prop := fnIsServiceTypeMatchesGrammarRow.holds Trym.pinned (OpenSpec.ofChange fnIsServiceTypeMatchesGrammarSpec)

/-- ITS FALSE NEIGHBOUR: 'it returns false'. Refute it at one input. -/
def fnIsServiceTypeMatchesGrammarWrong : ChangeSpec := { name := "fnIsServiceTypeMatchesGrammar", fn := fun _ => fun
  | [d] => { results := [.lit (.bool false)], args := [d] }
  | _ => none }
def FnIsServiceTypeMatchesGrammarWrongFalsely : Prop := fnIsServiceTypeMatchesGrammarRow.holds Trym.pinned (OpenSpec.ofChange fnIsServiceTypeMatchesGrammarWrong)

/-- 'zzlaws_pkg_config_b1.FnIsServiceTypeReversalInvariant': WHATEVER THE INPUT: true; the input reads as it did. -/
def fnIsServiceTypeReversalInvariantSpec : ChangeSpec := { name := "fnIsServiceTypeReversalInvariant", fn := fun _ => fun
  | [d] => { results := [.lit (.bool true)], args := [d] }
  | _ => none }
def fnIsServiceTypeReversalInvariantRow : OpenClaim := { program := "qxb6601502amods", sum := "26fbb9e8c2e45bb3f72057ac2e59c011d483d50f09bc065bc4af6ac92dccfbe7", func := "example.com/portloom/portloom/zzlaws_pkg_config_b1.FnIsServiceTypeReversalInvariant", spec := "fnIsServiceTypeReversalInvariant", inPlace := ["internal/bytealg.IndexByteString", "internal/bytealg.IndexString"], named := ["internal/bytealg.MaxLen"], make := .lifted ["publicsums"], apart := false }
def FnIsServiceTypeReversalInvariantSaid : Prop := fnIsServiceTypeReversalInvariantRow.holds Trym.pinned (OpenSpec.ofChange fnIsServiceTypeReversalInvariantSpec)

/-- ITS FALSE NEIGHBOUR: 'it returns false'. Refute it at one input. -/
def fnIsServiceTypeReversalInvariantWrong : ChangeSpec := { name := "fnIsServiceTypeReversalInvariant", fn := fun _ => fun
  | [d] => { results := [.lit (.bool false)], args := [d] }
  | _ => none }
def FnIsServiceTypeReversalInvariantWrongFalsely : Prop := fnIsServiceTypeReversalInvariantRow.holds Trym.pinned (OpenSpec.ofChange fnIsServiceTypeReversalInvariantWrong)

/-- 'zzlaws_pkg_config_b1.FnStringEndMatchesParityModel': WHATEVER THE INPUT: true; the input reads as it did. -/
def fnStringEndMatchesParityModelSpec : ChangeSpec := { name := "fnStringEndMatchesParityModel", fn := fun _ => fun
  | [d1, d2] => { results := [.lit (.bool true)], args := [d1, d2] }
  | _ => none }
def fnStringEndMatchesParityModelRow : OpenClaim := { program := "qxb6601502amods", sum := "26fbb9e8c2e45bb3f72057ac2e59c011d483d50f09bc065bc4af6ac92dccfbe7", func := "example.com/portloom/portloom/zzlaws_pkg_config_b1.FnStringEndMatchesParityModel", spec := "fnStringEndMatchesParityModel", make := .lifted ["publicsums"], apart := false }
def FnStringEndMatchesParityModelSaid : Prop := fnStringEndMatchesParityModelRow.holds Trym.pinned (OpenSpec.ofChange fnStringEndMatchesParityModelSpec)

/-- ITS FALSE NEIGHBOUR: 'it returns false'. Refute it at one input. -/
def fnStringEndMatchesParityModelWrong : ChangeSpec := { name := "fnStringEndMatchesParityModel", fn := fun _ => fun
  | [d1, d2] => { results := [.lit (.bool false)], args := [d1, d2] }
  | _ => none }
def FnStringEndMatchesParityModelWrongFalsely : Prop := fnStringEndMatchesParityModelRow.holds Trym.pinned (OpenSpec.ofChange fnStringEndMatchesParityModelWrong)

/-- 'zzlaws_pkg_config_b1.FnStringEndClosesAndIsPrefixStable': WHATEVER THE INPUT: true; the input reads as it did. -/
def fnStringEndClosesAndIsPrefixStableSpec : ChangeSpec := { name := "fnStringEndClosesAndIsPrefixStable", fn := fun _ => fun
  | [d1, d2] => { results := [.lit (.bool true)], args := [d1, d2] }
  | _ => none }
def fnStringEndClosesAndIsPrefixStableRow : OpenClaim := { program := "qxb6601502amods", sum := "26fbb9e8c2e45bb3f72057ac2e59c011d483d50f09bc065bc4af6ac92dccfbe7", func := "example.com/portloom/portloom/zzlaws_pkg_config_b1.FnStringEndClosesAndIsPrefixStable", spec := "fnStringEndClosesAndIsPrefixStable", make := .lifted ["publicsums"], apart := false }
def FnStringEndClosesAndIsPrefixStableSaid : Prop := fnStringEndClosesAndIsPrefixStableRow.holds Trym.pinned (OpenSpec.ofChange fnStringEndClosesAndIsPrefixStableSpec)

/-- ITS FALSE NEIGHBOUR: 'it returns false'. Refute it at one input. -/
def fnStringEndClosesAndIsPrefixStableWrong : ChangeSpec := { name := "fnStringEndClosesAndIsPrefixStable", fn := fun _ => fun
  | [d1, d2] => { results := [.lit (.bool false)], args := [d1, d2] }
  | _ => none }
def FnStringEndClosesAndIsPrefixStableWrongFalsely : Prop := fnStringEndClosesAndIsPrefixStableRow.holds Trym.pinned (OpenSpec.ofChange fnStringEndClosesAndIsPrefixStableWrong)

/-- 'zzlaws_pkg_config_b1.FnTooDeepShallowPassesAndLineInRange': WHATEVER THE INPUT: true; the input reads as it did. -/
def fnTooDeepShallowPassesAndLineInRangeSpec : ChangeSpec := { name := "fnTooDeepShallowPassesAndLineInRange", fn := fun _ => fun
  | [d] => { results := [.lit (.bool true)], args := [d] }
  | _ => none }
def fnTooDeepShallowPassesAndLineInRangeRow : OpenClaim := { program := "qxb6601502amods", sum := "26fbb9e8c2e45bb3f72057ac2e59c011d483d50f09bc065bc4af6ac92dccfbe7", func := "example.com/portloom/portloom/zzlaws_pkg_config_b1.FnTooDeepShallowPassesAndLineInRange", spec := "fnTooDeepShallowPassesAndLineInRange", inPlace := ["internal/bytealg.IndexByte", "internal/bytealg.Count", "internal/bytealg.Index"], named := ["internal/bytealg.MaxLen"], make := .lifted ["publicsums"], apart := false }
def FnTooDeepShallowPassesAndLineInRangeSaid : Prop := fnTooDeepShallowPassesAndLineInRangeRow.holds Trym.pinned (OpenSpec.ofChange fnTooDeepShallowPassesAndLineInRangeSpec)

/-- ITS FALSE NEIGHBOUR: 'it returns false'. Refute it at one input. -/
def fnTooDeepShallowPassesAndLineInRangeWrong : ChangeSpec := { name := "fnTooDeepShallowPassesAndLineInRange", fn := fun _ => fun
  | [d] => { results := [.lit (.bool false)], args := [d] }
  | _ => none }
def FnTooDeepShallowPassesAndLineInRangeWrongFalsely : Prop := fnTooDeepShallowPassesAndLineInRangeRow.holds Trym.pinned (OpenSpec.ofChange fnTooDeepShallowPassesAndLineInRangeWrong)

/-- 'zzlaws_pkg_config_b1.FnTooDeepFaultSurvivesExtension': WHATEVER THE INPUT: true; the input reads as it did. -/
def fnTooDeepFaultSurvivesExtensionSpec : ChangeSpec := { name := "fnTooDeepFaultSurvivesExtension", fn := fun _ => fun
  | [d1, d2] => { results := [.lit (.bool true)], args := [d1, d2] }
  | _ => none }
def fnTooDeepFaultSurvivesExtensionRow : OpenClaim := { program := "qxb6601502amods", sum := "26fbb9e8c2e45bb3f72057ac2e59c011d483d50f09bc065bc4af6ac92dccfbe7", func := "example.com/portloom/portloom/zzlaws_pkg_config_b1.FnTooDeepFaultSurvivesExtension", spec := "fnTooDeepFaultSurvivesExtension", inPlace := ["internal/bytealg.IndexByte", "internal/bytealg.Count", "internal/bytealg.Index"], named := ["internal/bytealg.MaxLen"], make := .lifted ["publicsums"], apart := false }
def FnTooDeepFaultSurvivesExtensionSaid : Prop := fnTooDeepFaultSurvivesExtensionRow.holds Trym.pinned (OpenSpec.ofChange fnTooDeepFaultSurvivesExtensionSpec)

/-- ITS FALSE NEIGHBOUR: 'it returns false'. Refute it at one input. -/
def fnTooDeepFaultSurvivesExtensionWrong : ChangeSpec := { name := "fnTooDeepFaultSurvivesExtension", fn := fun _ => fun
  | [d1, d2] => { results := [.lit (.bool false)], args := [d1, d2] }
  | _ => none }
def FnTooDeepFaultSurvivesExtensionWrongFalsely : Prop := fnTooDeepFaultSurvivesExtensionRow.holds Trym.pinned (OpenSpec.ofChange fnTooDeepFaultSurvivesExtensionWrong)

/-- 'zzlaws_pkg_config_b1.FnTooDeepCommentLineShiftsByOne': WHATEVER THE INPUT: true; the input reads as it did. -/
def fnTooDeepCommentLineShiftsByOneSpec : ChangeSpec := { name := "fnTooDeepCommentLineShiftsByOne", fn := fun _ => fun
  | [d1, d2] => { results := [.lit (.bool true)], args := [d1, d2] }
  | _ => none }
def fnTooDeepCommentLineShiftsByOneRow : OpenClaim := { program := "qxb6601502amods", sum := "26fbb9e8c2e45bb3f72057ac2e59c011d483d50f09bc065bc4af6ac92dccfbe7", func := "example.com/portloom/portloom/zzlaws_pkg_config_b1.FnTooDeepCommentLineShiftsByOne", spec := "fnTooDeepCommentLineShiftsByOne", inPlace := ["internal/bytealg.IndexByte", "internal/bytealg.Count", "internal/bytealg.Index"], named := ["internal/bytealg.MaxLen"], make := .lifted ["publicsums"], apart := false }
def FnTooDeepCommentLineShiftsByOneSaid : Prop := fnTooDeepCommentLineShiftsByOneRow.holds Trym.pinned (OpenSpec.ofChange fnTooDeepCommentLineShiftsByOneSpec)

/-- ITS FALSE NEIGHBOUR: 'it returns false'. Refute it at one input. -/
def fnTooDeepCommentLineShiftsByOneWrong : ChangeSpec := { name := "fnTooDeepCommentLineShiftsByOne", fn := fun _ => fun
  | [d1, d2] => { results := [.lit (.bool false)], args := [d1, d2] }
  | _ => none }
def FnTooDeepCommentLineShiftsByOneWrongFalsely : Prop := fnTooDeepCommentLineShiftsByOneRow.holds Trym.pinned (OpenSpec.ofChange fnTooDeepCommentLineShiftsByOneWrong)

end Rows
end Go.Proofs.Qxb6601502aMods
