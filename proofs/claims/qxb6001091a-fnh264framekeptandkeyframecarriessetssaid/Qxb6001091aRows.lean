/-
  No cell of these rows narrows 'for every input' (looked for: loops, veiled, ifaces, maps, wideKeys, modest, calm, conditions, laid).
  DERIVED. THE GIVEN ROWS OF THIS SEAT. 8 by the template 'for every input the law returns true; each argument reads behind the call as it read before'; 0 by the template 'total and deterministic' (their statements: Qxb6001091aTotals.lean).
  GIVEN WITH THE SEED: the statements are not yours to turn. If you find one false, say at which input.
  Laid BY PROGRAM, IN A SANDBOX (cutbox-rows.mjs): the forced cells as the released guide's own fill.sh prints them over the translation 0012bf19bda326ca… (all of the seat's roots in one cut). By AI agents, Wed Nov 11 2026. No macro, syntax, notation, axiom, sorry.
-/
import Derived.Test.Qxb6001091aChecked
import GoSem.Claim
import GoSem.ClaimJoined
import GoSem.ClaimMapViews
import Derived.JoinedTies
import Derived.KernelRfl
namespace Go.Proofs.Qxb6001091a
/- THE CELL 'sum', in the pinned program and in every row, IS THE sha256 OF THE DUMP (.gsa) THAT Qxb6001091aProg.lean LOADS. Nothing in Lean hashes anything: it is a label: what it is worth is what the hold of that sum in a sandbox is worth. -/
noncomputable def Try.pinned : Pinned := { name := "qxb6001091a", sum := "0012bf19bda326ca20283680d2db7fd9812b93fe7336b2d400a944a287aa1060", checked := Try.checked }
namespace Rows
def none {H : Type} : Left H := { results := [], args := [] }

/-- 'zzlaws_rtppayload_b1.FnVP9KeyframeSizeRoundTrip': WHATEVER THE INPUT: true; the input reads as it did. -/
def fnVP9KeyframeSizeRoundTripSpec : ChangeSpec := { name := "fnVP9KeyframeSizeRoundTrip", fn := fun _ => fun
  | [d1, d2, d3, d4, d5, d6] => { results := [.lit (.bool true)], args := [d1, d2, d3, d4, d5, d6] }
  | _ => none }
def fnVP9KeyframeSizeRoundTripRow : OpenClaim := { program := "qxb6001091a", sum := "0012bf19bda326ca20283680d2db7fd9812b93fe7336b2d400a944a287aa1060", func := "example.com/tributary/tributary/zzlaws_rtppayload_b1.FnVP9KeyframeSizeRoundTrip", spec := "fnVP9KeyframeSizeRoundTrip", apart := false }
def FnVP9KeyframeSizeRoundTripSaid : Prop := fnVP9KeyframeSizeRoundTripRow.holds Try.pinned (OpenSpec.ofChange fnVP9KeyframeSizeRoundTripSpec)

/-- ITS FALSE NEIGHBOUR: 'it returns false'. Refute it at one input. -/
def fnVP9KeyframeSizeRoundTripWrong : ChangeSpec := { name := "fnVP9KeyframeSizeRoundTrip", fn := fun _ => fun
  | [d1, d2, d3, d4, d5, d6] => { results := [.lit (.bool false)], args := [d1, d2, d3, d4, d5, d6] }
  | _ => none }
def FnVP9KeyframeSizeRoundTripWrongFalsely : Prop := fnVP9KeyframeSizeRoundTripRow.holds Try.pinned (OpenSpec.ofChange fnVP9KeyframeSizeRoundTripWrong)

/-- 'zzlaws_rtppayload_b1.FnVP9KeyframeSizeBoundsAndRefusal': WHATEVER THE INPUT: true; the input reads as it did. -/
def fnVP9KeyframeSizeBoundsAndRefusalSpec : ChangeSpec := { name := "fnVP9KeyframeSizeBoundsAndRefusal", fn := fun _ => fun
  | [d] => { results := [.lit (.bool true)], args := [d] }
  | _ => none }
def fnVP9KeyframeSizeBoundsAndRefusalRow : OpenClaim := { program := "qxb6001091a", sum := "0012bf19bda326ca20283680d2db7fd9812b93fe7336b2d400a944a287aa1060", func := "example.com/tributary/tributary/zzlaws_rtppayload_b1.FnVP9KeyframeSizeBoundsAndRefusal", spec := "fnVP9KeyframeSizeBoundsAndRefusal", apart := false }
def FnVP9KeyframeSizeBoundsAndRefusalSaid : Prop := fnVP9KeyframeSizeBoundsAndRefusalRow.holds Try.pinned (OpenSpec.ofChange fnVP9KeyframeSizeBoundsAndRefusalSpec)

/-- ITS FALSE NEIGHBOUR: 'it returns false'. Refute it at one input. -/
def fnVP9KeyframeSizeBoundsAndRefusalWrong : ChangeSpec := { name := "fnVP9KeyframeSizeBoundsAndRefusal", fn := fun _ => fun
  | [d] => { results := [.lit (.bool false)], args := [d] }
  | _ => none }
def FnVP9KeyframeSizeBoundsAndRefusalWrongFalsely : Prop := fnVP9KeyframeSizeBoundsAndRefusalRow.holds Try.pinned (OpenSpec.ofChange fnVP9KeyframeSizeBoundsAndRefusalWrong)

/-- 'zzlaws_rtppayload_b1.FnVP9KeyframeSizeIgnoresTrailingBytes': WHATEVER THE INPUT: true; the input reads as it did. -/
def fnVP9KeyframeSizeIgnoresTrailingBytesSpec : ChangeSpec := { name := "fnVP9KeyframeSizeIgnoresTrailingBytes", fn := fun _ => fun
  | [d1, d2] => { results := [.lit (.bool true)], args := [d1, d2] }
  | _ => none }
def fnVP9KeyframeSizeIgnoresTrailingBytesRow : OpenClaim := { program := "qxb6001091a", sum := "0012bf19bda326ca20283680d2db7fd9812b93fe7336b2d400a944a287aa1060", func := "example.com/tributary/tributary/zzlaws_rtppayload_b1.FnVP9KeyframeSizeIgnoresTrailingBytes", spec := "fnVP9KeyframeSizeIgnoresTrailingBytes", apart := false }
def FnVP9KeyframeSizeIgnoresTrailingBytesSaid : Prop := fnVP9KeyframeSizeIgnoresTrailingBytesRow.holds Try.pinned (OpenSpec.ofChange fnVP9KeyframeSizeIgnoresTrailingBytesSpec)

/-- ITS FALSE NEIGHBOUR: 'it returns false'. Refute it at one input. -/
def fnVP9KeyframeSizeIgnoresTrailingBytesWrong : ChangeSpec := { name := "fnVP9KeyframeSizeIgnoresTrailingBytes", fn := fun _ => fun
  | [d1, d2] => { results := [.lit (.bool false)], args := [d1, d2] }
  | _ => none }
def FnVP9KeyframeSizeIgnoresTrailingBytesWrongFalsely : Prop := fnVP9KeyframeSizeIgnoresTrailingBytesRow.holds Try.pinned (OpenSpec.ofChange fnVP9KeyframeSizeIgnoresTrailingBytesWrong)

/-- 'zzlaws_rtppayload_b1.FnH264FrameKeptAndKeyframeCarriesSets': WHATEVER THE INPUT: true; the input reads as it did. -/
def fnH264FrameKeptAndKeyframeCarriesSetsSpec : ChangeSpec := { name := "fnH264FrameKeptAndKeyframeCarriesSets", fn := fun _ => fun
  | [d1, d2, d3] => { results := [.lit (.bool true)], args := [d1, d2, d3] }
  | _ => none }
def fnH264FrameKeptAndKeyframeCarriesSetsRow : OpenClaim := { program := "qxb6001091a", sum := "0012bf19bda326ca20283680d2db7fd9812b93fe7336b2d400a944a287aa1060", func := "example.com/tributary/tributary/zzlaws_rtppayload_b1.FnH264FrameKeptAndKeyframeCarriesSets", spec := "fnH264FrameKeptAndKeyframeCarriesSets", apart := false }
def FnH264FrameKeptAndKeyframeCarriesSetsSaid : Prop := fnH264FrameKeptAndKeyframeCarriesSetsRow.holds Try.pinned (OpenSpec.ofChange fnH264FrameKeptAndKeyframeCarriesSetsSpec)

/-- ITS FALSE NEIGHBOUR: 'it returns false'. Refute it at one input. -/
def fnH264FrameKeptAndKeyframeCarriesSetsWrong : ChangeSpec := { name := "fnH264FrameKeptAndKeyframeCarriesSets", fn := fun _ => fun
  | [d1, d2, d3] => { results := [.lit (.bool false)], args := [d1, d2, d3] }
  | _ => none }
def FnH264FrameKeptAndKeyframeCarriesSetsWrongFalsely : Prop := fnH264FrameKeptAndKeyframeCarriesSetsRow.holds Try.pinned (OpenSpec.ofChange fnH264FrameKeptAndKeyframeCarriesSetsWrong)

/-- 'zzlaws_rtppayload_b1.FnH264WithParameterSetsIdempotent': WHATEVER THE INPUT: true; the input reads as it did. -/
def fnH264WithParameterSetsIdempotentSpec : ChangeSpec := { name := "fnH264WithParameterSetsIdempotent", fn := fun _ => fun
  | [d1, d2, d3] => { results := [.lit (.bool true)], args := [d1, d2, d3] }
  | _ => none }
def fnH264WithParameterSetsIdempotentRow : OpenClaim := { program := "qxb6001091a", sum := "0012bf19bda326ca20283680d2db7fd9812b93fe7336b2d400a944a287aa1060", func := "example.com/tributary/tributary/zzlaws_rtppayload_b1.FnH264WithParameterSetsIdempotent", spec := "fnH264WithParameterSetsIdempotent", apart := false }
def FnH264WithParameterSetsIdempotentSaid : Prop := fnH264WithParameterSetsIdempotentRow.holds Try.pinned (OpenSpec.ofChange fnH264WithParameterSetsIdempotentSpec)

/-- ITS FALSE NEIGHBOUR: 'it returns false'. Refute it at one input. -/
def fnH264WithParameterSetsIdempotentWrong : ChangeSpec := { name := "fnH264WithParameterSetsIdempotent", fn := fun _ => fun
  | [d1, d2, d3] => { results := [.lit (.bool false)], args := [d1, d2, d3] }
  | _ => none }
def FnH264WithParameterSetsIdempotentWrongFalsely : Prop := fnH264WithParameterSetsIdempotentRow.holds Try.pinned (OpenSpec.ofChange fnH264WithParameterSetsIdempotentWrong)

/-- 'zzlaws_rtppayload_b1.FnAACGASpecificFrameSamplesAndFields': WHATEVER THE INPUT: true; the input reads as it did. -/
def fnAACGASpecificFrameSamplesAndFieldsSpec : ChangeSpec := { name := "fnAACGASpecificFrameSamplesAndFields", fn := fun _ => fun
  | [d1, d2, d3, d4, d5, d6, d7, d8] => { results := [.lit (.bool true)], args := [d1, d2, d3, d4, d5, d6, d7, d8] }
  | _ => none }
def fnAACGASpecificFrameSamplesAndFieldsRow : OpenClaim := { program := "qxb6001091a", sum := "0012bf19bda326ca20283680d2db7fd9812b93fe7336b2d400a944a287aa1060", func := "example.com/tributary/tributary/zzlaws_rtppayload_b1.FnAACGASpecificFrameSamplesAndFields", spec := "fnAACGASpecificFrameSamplesAndFields", apart := false }
def FnAACGASpecificFrameSamplesAndFieldsSaid : Prop := fnAACGASpecificFrameSamplesAndFieldsRow.holds Try.pinned (OpenSpec.ofChange fnAACGASpecificFrameSamplesAndFieldsSpec)

/-- ITS FALSE NEIGHBOUR: 'it returns false'. Refute it at one input. -/
def fnAACGASpecificFrameSamplesAndFieldsWrong : ChangeSpec := { name := "fnAACGASpecificFrameSamplesAndFields", fn := fun _ => fun
  | [d1, d2, d3, d4, d5, d6, d7, d8] => { results := [.lit (.bool false)], args := [d1, d2, d3, d4, d5, d6, d7, d8] }
  | _ => none }
def FnAACGASpecificFrameSamplesAndFieldsWrongFalsely : Prop := fnAACGASpecificFrameSamplesAndFieldsRow.holds Try.pinned (OpenSpec.ofChange fnAACGASpecificFrameSamplesAndFieldsWrong)

/-- 'zzlaws_rtppayload_b1.FnAACGASpecificIgnoresTrailingBytes': WHATEVER THE INPUT: true; the input reads as it did. -/
def fnAACGASpecificIgnoresTrailingBytesSpec : ChangeSpec := { name := "fnAACGASpecificIgnoresTrailingBytes", fn := fun _ => fun
  | [d1, d2, d3, d4] => { results := [.lit (.bool true)], args := [d1, d2, d3, d4] }
  | _ => none }
def fnAACGASpecificIgnoresTrailingBytesRow : OpenClaim := { program := "qxb6001091a", sum := "0012bf19bda326ca20283680d2db7fd9812b93fe7336b2d400a944a287aa1060", func := "example.com/tributary/tributary/zzlaws_rtppayload_b1.FnAACGASpecificIgnoresTrailingBytes", spec := "fnAACGASpecificIgnoresTrailingBytes", apart := false }
def FnAACGASpecificIgnoresTrailingBytesSaid : Prop := fnAACGASpecificIgnoresTrailingBytesRow.holds Try.pinned (OpenSpec.ofChange fnAACGASpecificIgnoresTrailingBytesSpec)

/-- ITS FALSE NEIGHBOUR: 'it returns false'. Refute it at one input. -/
def fnAACGASpecificIgnoresTrailingBytesWrong : ChangeSpec := { name := "fnAACGASpecificIgnoresTrailingBytes", fn := fun _ => fun
  | [d1, d2, d3, d4] => { results := [.lit (.bool false)], args := [d1, d2, d3, d4] }
  | _ => none }
def FnAACGASpecificIgnoresTrailingBytesWrongFalsely : Prop := fnAACGASpecificIgnoresTrailingBytesRow.holds Try.pinned (OpenSpec.ofChange fnAACGASpecificIgnoresTrailingBytesWrong)

/-- 'zzlaws_rtppayload_b1.FnAACGASpecificBitsConsumed': WHATEVER THE INPUT: true; the input reads as it did. -/
def fnAACGASpecificBitsConsumedSpec : ChangeSpec := { name := "fnAACGASpecificBitsConsumed", fn := fun _ => fun
  | [d1, d2, d3] => { results := [.lit (.bool true)], args := [d1, d2, d3] }
  | _ => none }
def fnAACGASpecificBitsConsumedRow : OpenClaim := { program := "qxb6001091a", sum := "0012bf19bda326ca20283680d2db7fd9812b93fe7336b2d400a944a287aa1060", func := "example.com/tributary/tributary/zzlaws_rtppayload_b1.FnAACGASpecificBitsConsumed", spec := "fnAACGASpecificBitsConsumed", apart := false }
def FnAACGASpecificBitsConsumedSaid : Prop := fnAACGASpecificBitsConsumedRow.holds Try.pinned (OpenSpec.ofChange fnAACGASpecificBitsConsumedSpec)

/-- ITS FALSE NEIGHBOUR: 'it returns false'. Refute it at one input. -/
def fnAACGASpecificBitsConsumedWrong : ChangeSpec := { name := "fnAACGASpecificBitsConsumed", fn := fun _ => fun
  | [d1, d2, d3] => { results := [.lit (.bool false)], args := [d1, d2, d3] }
  | _ => none }
def FnAACGASpecificBitsConsumedWrongFalsely : Prop := fnAACGASpecificBitsConsumedRow.holds Try.pinned (OpenSpec.ofChange fnAACGASpecificBitsConsumedWrong)

end Rows
end Go.Proofs.Qxb6001091a
