/-
  No cell of these rows narrows 'for every input' (looked for: loops, veiled, ifaces, maps, wideKeys, modest, calm, conditions, laid).
  DERIVED. THE GIVEN ROWS OF THIS SEAT. 5 by the template 'for every input the law returns true; each argument reads behind the call as it read before'; 0 by the template 'total and deterministic' (their statements: Qxb6612263aModsTotals.lean).
  GIVEN WITH THE SEED: the statements are not yours to turn. If you find one false, say at which input.
  Laid BY PROGRAM, IN A SANDBOX (cutbox-rows.mjs): the forced cells as the released guide's own fill.sh prints them over the translation 9cb357d36be41b42… (all of the seat's roots in one cut). By AI agents, Wed Nov 11 2026. No macro, syntax, notation, axiom, sorry.
-/
import Derived.Test.Qxb6612263aModsChecked
import GoSem.Claim
import GoSem.ClaimJoined
import GoSem.ClaimMapViews
import Derived.JoinedTies
import Derived.KernelRfl
namespace Go.Proofs.Qxb6612263aMods
/- THE CELL 'sum', in the pinned program and in every row, IS THE sha256 OF THE DUMP (.gsa) THAT Qxb6612263aModsProg.lean LOADS. Nothing in Lean hashes anything: it is a label: what it is worth is what the hold of that sum in a sandbox is worth. -/
noncomputable def Trym.pinned : Pinned := { name := "qxb6612263amods", sum := "9cb357d36be41b4205dfa92cbafeaa4dd65894b34647ebc4c3e245c9e0fb5773", checked := Trym.checked }
namespace Rows
def none {H : Type} : Left H := { results := [], args := [] }

/-- 'zzlaws_root_b1.FnAppendHeaderReadsBack': WHATEVER THE INPUT: true; the input reads as it did. -/
def fnAppendHeaderReadsBackSpec : ChangeSpec := { name := "fnAppendHeaderReadsBack", fn := fun _ => fun
  | [d1, d2, d3] => { results := [.lit (.bool true)], args := [d1, d2, d3] }
  | _ => none }
def fnAppendHeaderReadsBackRow : OpenClaim := { program := "qxb6612263amods", sum := "9cb357d36be41b4205dfa92cbafeaa4dd65894b34647ebc4c3e245c9e0fb5773", func := "example.com/kinbook/zzlaws_root_b1.FnAppendHeaderReadsBack", spec := "fnAppendHeaderReadsBack", make := .lifted ["publicsums"], apart := false }
def FnAppendHeaderReadsBackSaid : Prop := fnAppendHeaderReadsBackRow.holds Trym.pinned (OpenSpec.ofChange fnAppendHeaderReadsBackSpec)

/-- ITS FALSE NEIGHBOUR: 'it returns false'. Refute it at one input. -/
def fnAppendHeaderReadsBackWrong : ChangeSpec := { name := "fnAppendHeaderReadsBack", fn := fun _ => fun
  | [d1, d2, d3] => { results := [.lit (.bool false)], args := [d1, d2, d3] }
  | _ => none }
def FnAppendHeaderReadsBackWrongFalsely : Prop := fnAppendHeaderReadsBackRow.holds Trym.pinned (OpenSpec.ofChange fnAppendHeaderReadsBackWrong)

/-- 'zzlaws_root_b1.FnAppendHeaderForeignNetworkRefused': WHATEVER THE INPUT: true; the input reads as it did. -/
def fnAppendHeaderForeignNetworkRefusedSpec : ChangeSpec := { name := "fnAppendHeaderForeignNetworkRefused", fn := fun _ => fun
  | [d1, d2, d3, d4] => { results := [.lit (.bool true)], args := [d1, d2, d3, d4] }
  | _ => none }
def fnAppendHeaderForeignNetworkRefusedRow : OpenClaim := { program := "qxb6612263amods", sum := "9cb357d36be41b4205dfa92cbafeaa4dd65894b34647ebc4c3e245c9e0fb5773", func := "example.com/kinbook/zzlaws_root_b1.FnAppendHeaderForeignNetworkRefused", spec := "fnAppendHeaderForeignNetworkRefused", make := .lifted ["publicsums"], apart := false }
def FnAppendHeaderForeignNetworkRefusedSaid : Prop := fnAppendHeaderForeignNetworkRefusedRow.holds Trym.pinned (OpenSpec.ofChange fnAppendHeaderForeignNetworkRefusedSpec)

/-- ITS FALSE NEIGHBOUR: 'it returns false'. Refute it at one input. -/
def fnAppendHeaderForeignNetworkRefusedWrong : ChangeSpec := { name := "fnAppendHeaderForeignNetworkRefused", fn := fun _ => fun
  | [d1, d2, d3, d4] => { results := [.lit (.bool false)], args := [d1, d2, d3, d4] }
  | _ => none }
def FnAppendHeaderForeignNetworkRefusedWrongFalsely : Prop := fnAppendHeaderForeignNetworkRefusedRow.holds Trym.pinned (OpenSpec.ofChange fnAppendHeaderForeignNetworkRefusedWrong)

/-- 'zzlaws_root_b1.FnAllZeroIsOrOfBytes': WHATEVER THE INPUT: true; the input reads as it did. -/
def fnAllZeroIsOrOfBytesSpec : ChangeSpec := { name := "fnAllZeroIsOrOfBytes", fn := fun _ => fun
  | [d] => { results := [.lit (.bool true)], args := [d] }
  | _ => none }
def fnAllZeroIsOrOfBytesRow : OpenClaim := { program := "qxb6612263amods", sum := "9cb357d36be41b4205dfa92cbafeaa4dd65894b34647ebc4c3e245c9e0fb5773", func := "example.com/kinbook/zzlaws_root_b1.FnAllZeroIsOrOfBytes", spec := "fnAllZeroIsOrOfBytes", unfollowed := true, recurses := true, make := .lifted ["publicsums"], apart := false }
def FnAllZeroIsOrOfBytesSaid : Prop := fnAllZeroIsOrOfBytesRow.holds Trym.pinned (OpenSpec.ofChange fnAllZeroIsOrOfBytesSpec)

/-- ITS FALSE NEIGHBOUR: 'it returns false'. Refute it at one input. -/
def fnAllZeroIsOrOfBytesWrong : ChangeSpec := { name := "fnAllZeroIsOrOfBytes", fn := fun _ => fun
  | [d] => { results := [.lit (.bool false)], args := [d] }
  | _ => none }
def FnAllZeroIsOrOfBytesWrongFalsely : Prop := fnAllZeroIsOrOfBytesRow.holds Trym.pinned (OpenSpec.ofChange fnAllZeroIsOrOfBytesWrong)

/-- 'zzlaws_root_b1.FnAllZeroOneStrayByte': WHATEVER THE INPUT: true; the input reads as it did. -/
def fnAllZeroOneStrayByteSpec : ChangeSpec := { name := "fnAllZeroOneStrayByte", fn := fun _ => fun
  | [d1, d2, d3] => { results := [.lit (.bool true)], args := [d1, d2, d3] }
  | _ => none }
def fnAllZeroOneStrayByteRow : OpenClaim := { program := "qxb6612263amods", sum := "9cb357d36be41b4205dfa92cbafeaa4dd65894b34647ebc4c3e245c9e0fb5773", func := "example.com/kinbook/zzlaws_root_b1.FnAllZeroOneStrayByte", spec := "fnAllZeroOneStrayByte", unfollowed := true, recurses := true, make := .lifted ["publicsums"], apart := false }
def FnAllZeroOneStrayByteSaid : Prop := fnAllZeroOneStrayByteRow.holds Trym.pinned (OpenSpec.ofChange fnAllZeroOneStrayByteSpec)

/-- ITS FALSE NEIGHBOUR: 'it returns false'. Refute it at one input. -/
def fnAllZeroOneStrayByteWrong : ChangeSpec := { name := "fnAllZeroOneStrayByte", fn := fun _ => fun
  | [d1, d2, d3] => { results := [.lit (.bool false)], args := [d1, d2, d3] }
  | _ => none }
def FnAllZeroOneStrayByteWrongFalsely : Prop := fnAllZeroOneStrayByteRow.holds Trym.pinned (OpenSpec.ofChange fnAllZeroOneStrayByteWrong)

/-- 'zzlaws_root_b1.FnCookieMessageRoundTrip': WHATEVER THE INPUT: true; the input reads as it did. -/
def fnCookieMessageRoundTripSpec : ChangeSpec := { name := "fnCookieMessageRoundTrip", fn := fun _ => fun
  | [d1, d2, d3, d4] => { results := [.lit (.bool true)], args := [d1, d2, d3, d4] }
  | _ => none }
def fnCookieMessageRoundTripRow : OpenClaim := { program := "qxb6612263amods", sum := "9cb357d36be41b4205dfa92cbafeaa4dd65894b34647ebc4c3e245c9e0fb5773", func := "example.com/kinbook/zzlaws_root_b1.FnCookieMessageRoundTrip", spec := "fnCookieMessageRoundTrip", make := .lifted ["publicsums"], apart := false }
def FnCookieMessageRoundTripSaid : Prop := fnCookieMessageRoundTripRow.holds Trym.pinned (OpenSpec.ofChange fnCookieMessageRoundTripSpec)

/-- ITS FALSE NEIGHBOUR: 'it returns false'. Refute it at one input. -/
def fnCookieMessageRoundTripWrong : ChangeSpec := { name := "fnCookieMessageRoundTrip", fn := fun _ => fun
  | [d1, d2, d3, d4] => { results := [.lit (.bool false)], args := [d1, d2, d3, d4] }
  | _ => none }
def FnCookieMessageRoundTripWrongFalsely : Prop := fnCookieMessageRoundTripRow.holds Trym.pinned (OpenSpec.ofChange fnCookieMessageRoundTripWrong)

end Rows
end Go.Proofs.Qxb6612263aMods
