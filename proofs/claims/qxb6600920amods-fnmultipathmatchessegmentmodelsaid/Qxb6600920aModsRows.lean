/-
  No cell of these rows narrows 'for every input' (looked for: loops, veiled, ifaces, maps, wideKeys, modest, calm, conditions, laid).
  DERIVED. THE GIVEN ROWS OF THIS SEAT. 5 by the template 'for every input the law returns true; each argument reads behind the call as it read before'; 0 by the template 'total and deterministic' (their statements: Qxb6600920aModsTotals.lean).
  GIVEN WITH THE SEED: the statements are not yours to turn. If you find one false, say at which input.
  Laid BY PROGRAM, IN A SANDBOX (cutbox-rows.mjs): the forced cells as the released guide's own fill.sh prints them over the translation 695f603790da74ab… (all of the seat's roots in one cut). By AI agents, Wed Nov 11 2026. No macro, syntax, notation, axiom, sorry.
-/
import Derived.Test.Qxb6600920aModsChecked
import GoSem.Claim
import GoSem.ClaimJoined
import GoSem.ClaimMapViews
import Derived.JoinedTies
import Derived.KernelRfl
namespace Go.Proofs.Qxb6600920aMods
/- THE CELL 'sum', in the pinned program and in every row, IS THE sha256 OF THE DUMP (.gsa) THAT Qxb6600920aModsProg.lean LOADS. Nothing in Lean hashes anything: it is a label: what it is worth is what the hold of that sum in a sandbox is worth. -/
noncomputable def Trym.pinned : Pinned := { name := "qxb6600920amods", sum := "695f603790da74ab6608589f57c9df0206001840ecbd802fed59773a822eb867", checked := Trym.checked }
namespace Rows
def none {H : Type} : Left H := { results := [], args := [] }

/-- 'zzlaws_internal_selector_b1.FnGroupEndDecidedByItsPrefix': WHATEVER THE INPUT: true; the input reads as it did. -/
def fnGroupEndDecidedByItsPrefixSpec : ChangeSpec := { name := "fnGroupEndDecidedByItsPrefix", fn := fun _ => fun
  | [d1, d2] => { results := [.lit (.bool true)], args := [d1, d2] }
  | _ => none }
def fnGroupEndDecidedByItsPrefixRow : OpenClaim := { program := "qxb6600920amods", sum := "695f603790da74ab6608589f57c9df0206001840ecbd802fed59773a822eb867", func := "example.com/keen-warden/keen-warden/zzlaws_internal_selector_b1.FnGroupEndDecidedByItsPrefix", spec := "fnGroupEndDecidedByItsPrefix", make := .lifted ["publicsums"], apart := false }
def FnGroupEndDecidedByItsPrefixSaid : Prop := fnGroupEndDecidedByItsPrefixRow.holds Trym.pinned (OpenSpec.ofChange fnGroupEndDecidedByItsPrefixSpec)

/-- ITS FALSE NEIGHBOUR: 'it returns false'. Refute it at one input. -/
def fnGroupEndDecidedByItsPrefixWrong : ChangeSpec := { name := "fnGroupEndDecidedByItsPrefix", fn := fun _ => fun
  | [d1, d2] => { results := [.lit (.bool false)], args := [d1, d2] }
  | _ => none }
def FnGroupEndDecidedByItsPrefixWrongFalsely : Prop := fnGroupEndDecidedByItsPrefixRow.holds Trym.pinned (OpenSpec.ofChange fnGroupEndDecidedByItsPrefixWrong)

/-- 'zzlaws_internal_selector_b1.FnGroupEndWrappedGrowsByTwo': WHATEVER THE INPUT: true; the input reads as it did. -/
def fnGroupEndWrappedGrowsByTwoSpec : ChangeSpec := { name := "fnGroupEndWrappedGrowsByTwo", fn := fun _ => fun
  | [d1, d2, d3] => { results := [.lit (.bool true)], args := [d1, d2, d3] }
  | _ => none }
def fnGroupEndWrappedGrowsByTwoRow : OpenClaim := { program := "qxb6600920amods", sum := "695f603790da74ab6608589f57c9df0206001840ecbd802fed59773a822eb867", func := "example.com/keen-warden/keen-warden/zzlaws_internal_selector_b1.FnGroupEndWrappedGrowsByTwo", spec := "fnGroupEndWrappedGrowsByTwo", make := .lifted ["publicsums"], apart := false }
def FnGroupEndWrappedGrowsByTwoSaid : Prop := fnGroupEndWrappedGrowsByTwoRow.holds Trym.pinned (OpenSpec.ofChange fnGroupEndWrappedGrowsByTwoSpec)

/-- ITS FALSE NEIGHBOUR: 'it returns false'. Refute it at one input. -/
def fnGroupEndWrappedGrowsByTwoWrong : ChangeSpec := { name := "fnGroupEndWrappedGrowsByTwo", fn := fun _ => fun
  | [d1, d2, d3] => { results := [.lit (.bool false)], args := [d1, d2, d3] }
  | _ => none }
def FnGroupEndWrappedGrowsByTwoWrongFalsely : Prop := fnGroupEndWrappedGrowsByTwoRow.holds Trym.pinned (OpenSpec.ofChange fnGroupEndWrappedGrowsByTwoWrong)

/-- 'zzlaws_internal_selector_b1.FnMultipathMatchesSegmentModel': WHATEVER THE INPUT: true; the input reads as it did. -/
def fnMultipathMatchesSegmentModelSpec : ChangeSpec := { name := "fnMultipathMatchesSegmentModel", fn := fun _ => fun
  | [d] => { results := [.lit (.bool true)], args := [d] }
  | _ => none }
def fnMultipathMatchesSegmentModelRow : OpenClaim := { program := "qxb6600920amods", sum := "695f603790da74ab6608589f57c9df0206001840ecbd802fed59773a822eb867", func := "example.com/keen-warden/keen-warden/zzlaws_internal_selector_b1.FnMultipathMatchesSegmentModel", spec := "fnMultipathMatchesSegmentModel", make := .lifted ["publicsums"], apart := false }
def FnMultipathMatchesSegmentModelSaid : Prop := fnMultipathMatchesSegmentModelRow.holds Trym.pinned (OpenSpec.ofChange fnMultipathMatchesSegmentModelSpec)

/-- ITS FALSE NEIGHBOUR: 'it returns false'. Refute it at one input. -/
def fnMultipathMatchesSegmentModelWrong : ChangeSpec := { name := "fnMultipathMatchesSegmentModel", fn := fun _ => fun
  | [d] => { results := [.lit (.bool false)], args := [d] }
  | _ => none }
def FnMultipathMatchesSegmentModelWrongFalsely : Prop := fnMultipathMatchesSegmentModelRow.holds Trym.pinned (OpenSpec.ofChange fnMultipathMatchesSegmentModelWrong)

/-- 'zzlaws_internal_selector_b1.FnMultipathSplitsWhatWasJoined': WHATEVER THE INPUT: true; the input reads as it did. -/
def fnMultipathSplitsWhatWasJoinedSpec : ChangeSpec := { name := "fnMultipathSplitsWhatWasJoined", fn := fun _ => fun
  | [d1, d2, d3] => { results := [.lit (.bool true)], args := [d1, d2, d3] }
  | _ => none }
def fnMultipathSplitsWhatWasJoinedRow : OpenClaim := { program := "qxb6600920amods", sum := "695f603790da74ab6608589f57c9df0206001840ecbd802fed59773a822eb867", func := "example.com/keen-warden/keen-warden/zzlaws_internal_selector_b1.FnMultipathSplitsWhatWasJoined", spec := "fnMultipathSplitsWhatWasJoined", make := .lifted ["publicsums"], apart := false }
def FnMultipathSplitsWhatWasJoinedSaid : Prop := fnMultipathSplitsWhatWasJoinedRow.holds Trym.pinned (OpenSpec.ofChange fnMultipathSplitsWhatWasJoinedSpec)

/-- ITS FALSE NEIGHBOUR: 'it returns false'. Refute it at one input. -/
def fnMultipathSplitsWhatWasJoinedWrong : ChangeSpec := { name := "fnMultipathSplitsWhatWasJoined", fn := fun _ => fun
  | [d1, d2, d3] => { results := [.lit (.bool false)], args := [d1, d2, d3] }
  | _ => none }
def FnMultipathSplitsWhatWasJoinedWrongFalsely : Prop := fnMultipathSplitsWhatWasJoinedRow.holds Trym.pinned (OpenSpec.ofChange fnMultipathSplitsWhatWasJoinedWrong)

/-- 'zzlaws_internal_selector_b1.FnMultipathLengthAgreesWithGroupEnd': WHATEVER THE INPUT: true; the input reads as it did. -/
def fnMultipathLengthAgreesWithGroupEndSpec : ChangeSpec := { name := "fnMultipathLengthAgreesWithGroupEnd", fn := fun _ => fun
  | [d] => { results := [.lit (.bool true)], args := [d] }
  | _ => none }
def fnMultipathLengthAgreesWithGroupEndRow : OpenClaim := { program := "qxb6600920amods", sum := "695f603790da74ab6608589f57c9df0206001840ecbd802fed59773a822eb867", func := "example.com/keen-warden/keen-warden/zzlaws_internal_selector_b1.FnMultipathLengthAgreesWithGroupEnd", spec := "fnMultipathLengthAgreesWithGroupEnd", make := .lifted ["publicsums"], apart := false }
def FnMultipathLengthAgreesWithGroupEndSaid : Prop := fnMultipathLengthAgreesWithGroupEndRow.holds Trym.pinned (OpenSpec.ofChange fnMultipathLengthAgreesWithGroupEndSpec)

/-- ITS FALSE NEIGHBOUR: 'it returns false'. Refute it at one input. -/
def fnMultipathLengthAgreesWithGroupEndWrong : ChangeSpec := { name := "fnMultipathLengthAgreesWithGroupEnd", fn := fun _ => fun
  | [d] => { results := [.lit (.bool false)], args := [d] }
  | _ => none }
def FnMultipathLengthAgreesWithGroupEndWrongFalsely : Prop := fnMultipathLengthAgreesWithGroupEndRow.holds Trym.pinned (OpenSpec.ofChange fnMultipathLengthAgreesWithGroupEndWrong)

end Rows
end Go.Proofs.Qxb6600920aMods
