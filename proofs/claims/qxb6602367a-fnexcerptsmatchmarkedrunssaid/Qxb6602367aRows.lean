/-
  No cell of these rows narrows 'for every input' (looked for: loops, veiled, ifaces, maps, wideKeys, modest, calm, conditions, laid).
  DERIVED. THE GIVEN ROWS OF THIS SEAT. 3 by the template 'for every input the law returns true; each argument reads behind the call as it read before'; 0 by the template 'total and deterministic' (their statements: Qxb6602367aTotals.lean).
  GIVEN WITH THE SEED: the statements are not yours to turn. If you find one false, say at which input.
  Laid BY PROGRAM, IN A SANDBOX (cutbox-rows.mjs): the forced cells as the released guide's own fill.sh prints them over the translation 5c9f10c8adc3a333… (all of the seat's roots in one cut). By AI agents, Wed Nov 11 2026. No macro, syntax, notation, axiom, sorry.
-/
import Derived.Test.Qxb6602367aChecked
import GoSem.Claim
import GoSem.ClaimJoined
import GoSem.ClaimMapViews
import Derived.JoinedTies
import Derived.KernelRfl
namespace Go.Proofs.Qxb6602367a
/- THE CELL 'sum', in the pinned program and in every row, IS THE sha256 OF THE DUMP (.gsa) THAT Qxb6602367aProg.lean LOADS. Nothing in Lean hashes anything: it is a label: what it is worth is what the hold of that sum in a sandbox is worth. -/
noncomputable def Try.pinned : Pinned := { name := "qxb6602367a", sum := "5c9f10c8adc3a33301aab6ed8bca0aea479737f78eea7cef336140577e9f1e98", checked := Try.checked }
namespace Rows
def none {H : Type} : Left H := { results := [], args := [] }

/-- 'zzlaws_crew_b1.FnExcerptsMatchMarkedRuns': WHATEVER THE INPUT: true; the input reads as it did. -/
def fnExcerptsMatchMarkedRunsSpec : ChangeSpec := { name := "fnExcerptsMatchMarkedRuns", fn := fun _ => fun
  | [d] => { results := [.lit (.bool true)], args := [d] }
  | _ => none }
def fnExcerptsMatchMarkedRunsRow : OpenClaim := { program := "qxb6602367a", sum := "5c9f10c8adc3a33301aab6ed8bca0aea479737f78eea7cef336140577e9f1e98", func := "example.com/coxswain/coxswain/zzlaws_crew_b1.FnExcerptsMatchMarkedRuns", spec := "fnExcerptsMatchMarkedRuns", apart := false }
def FnExcerptsMatchMarkedRunsSaid : Prop := fnExcerptsMatchMarkedRunsRow.holds Try.pinned (OpenSpec.ofChange fnExcerptsMatchMarkedRunsSpec)

/-- ITS FALSE NEIGHBOUR: 'it returns false'. Refute it at one input. -/
def fnExcerptsMatchMarkedRunsWrong : ChangeSpec := { name := "fnExcerptsMatchMarkedRuns", fn := fun _ => fun
  | [d] => { results := [.lit (.bool false)], args := [d] }
  | _ => none }
def FnExcerptsMatchMarkedRunsWrongFalsely : Prop := fnExcerptsMatchMarkedRunsRow.holds Try.pinned (OpenSpec.ofChange fnExcerptsMatchMarkedRunsWrong)

/-- 'zzlaws_crew_b1.FnExcerptsRunsAreSeparatedAndCoverEveryMarker': WHATEVER THE INPUT: true; the input reads as it did. -/
def fnExcerptsRunsAreSeparatedAndCoverEveryMarkerSpec : ChangeSpec := { name := "fnExcerptsRunsAreSeparatedAndCoverEveryMarker", fn := fun _ => fun
  | [d] => { results := [.lit (.bool true)], args := [d] }
  | _ => none }
def fnExcerptsRunsAreSeparatedAndCoverEveryMarkerRow : OpenClaim := { program := "qxb6602367a", sum := "5c9f10c8adc3a33301aab6ed8bca0aea479737f78eea7cef336140577e9f1e98", func := "example.com/coxswain/coxswain/zzlaws_crew_b1.FnExcerptsRunsAreSeparatedAndCoverEveryMarker", spec := "fnExcerptsRunsAreSeparatedAndCoverEveryMarker", apart := false }
def FnExcerptsRunsAreSeparatedAndCoverEveryMarkerSaid : Prop := fnExcerptsRunsAreSeparatedAndCoverEveryMarkerRow.holds Try.pinned (OpenSpec.ofChange fnExcerptsRunsAreSeparatedAndCoverEveryMarkerSpec)

/-- ITS FALSE NEIGHBOUR: 'it returns false'. Refute it at one input. -/
def fnExcerptsRunsAreSeparatedAndCoverEveryMarkerWrong : ChangeSpec := { name := "fnExcerptsRunsAreSeparatedAndCoverEveryMarker", fn := fun _ => fun
  | [d] => { results := [.lit (.bool false)], args := [d] }
  | _ => none }
def FnExcerptsRunsAreSeparatedAndCoverEveryMarkerWrongFalsely : Prop := fnExcerptsRunsAreSeparatedAndCoverEveryMarkerRow.holds Try.pinned (OpenSpec.ofChange fnExcerptsRunsAreSeparatedAndCoverEveryMarkerWrong)

/-- 'zzlaws_crew_b1.FnForgetReviewExact': WHATEVER THE INPUT: true; the input reads as it did. -/
def fnForgetReviewExactSpec : ChangeSpec := { name := "fnForgetReviewExact", fn := fun _ => fun
  | [d1, d2, d3, d4, d5, d6, d7, d8, d9, d10, d11, d12] => { results := [.lit (.bool true)], args := [d1, d2, d3, d4, d5, d6, d7, d8, d9, d10, d11, d12] }
  | _ => none }
def fnForgetReviewExactRow : OpenClaim := { program := "qxb6602367a", sum := "5c9f10c8adc3a33301aab6ed8bca0aea479737f78eea7cef336140577e9f1e98", func := "example.com/coxswain/coxswain/zzlaws_crew_b1.FnForgetReviewExact", spec := "fnForgetReviewExact", apart := false }
def FnForgetReviewExactSaid : Prop := fnForgetReviewExactRow.holds Try.pinned (OpenSpec.ofChange fnForgetReviewExactSpec)

/-- ITS FALSE NEIGHBOUR: 'it returns false'. Refute it at one input. -/
def fnForgetReviewExactWrong : ChangeSpec := { name := "fnForgetReviewExact", fn := fun _ => fun
  | [d1, d2, d3, d4, d5, d6, d7, d8, d9, d10, d11, d12] => { results := [.lit (.bool false)], args := [d1, d2, d3, d4, d5, d6, d7, d8, d9, d10, d11, d12] }
  | _ => none }
def FnForgetReviewExactWrongFalsely : Prop := fnForgetReviewExactRow.holds Try.pinned (OpenSpec.ofChange fnForgetReviewExactWrong)

end Rows
end Go.Proofs.Qxb6602367a
