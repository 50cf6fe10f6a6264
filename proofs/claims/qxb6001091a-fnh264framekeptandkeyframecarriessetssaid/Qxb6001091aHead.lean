/-
  Closed facts of this seat's program that every row asks. Run by the kernel as they stand, three of them decode the long string of the cut's head (a minute and 10 GB each); here the string is opened by a theorem instead.
-/
import Derived.Test.Qxb6001091aRows
import Derived.WalkKit
import Derived.ProofKit
namespace Go.Proofs.Qxb6001091a.Head

theorem made_of (P : Program) (rest : List (List Char)) (hr : (behindMainWord (wordsSigns P.initOrder.toList)) = "cut".toList :: rest) : P.make = some .cut := by
  unfold Program.make
  rw [hr]
  show _ = some Make.cut
  kernel_rfl
theorem lifts_of (P : Program) (rest : List (List Char)) (hr : (behindMainWord (wordsSigns P.initOrder.toList)) = "cut".toList :: rest) : P.liftsFinal = false := by
  unfold Program.liftsFinal Program.headLifts
  rw [hr]
  show _ = false
  kernel_rfl
theorem may_of (P : Program) (rest : List (List Char)) (hr : (behindMainWord (wordsSigns P.initOrder.toList)) = "cut".toList :: rest) (h1 : P.laysLater = false) (h2 : P.bearsReflect = false) (h3 : P.doorRows = []) : P.mayEnter = true := by
  unfold Program.mayEnter
  rw [hr]
  simp only [h1, h2, Program.doorFits, h3]
  show _ = true
  kernel_rfl

set_option maxRecDepth 1000000 in
theorem words : ∃ rest, (behindMainWord (wordsSigns Try.prog.initOrder.toList)) = "cut".toList :: rest := by
  have h := (rfl : Try.prog.initOrder = String.ofList _)
  have h2 := (congrArg String.toList h).trans String.toList_ofList
  rw [h2]
  exact ⟨_, rfl⟩
theorem laysLater : Try.prog.laysLater = false := by kernel_rfl
theorem bearsReflect : Try.prog.bearsReflect = false := by kernel_rfl
theorem doorRows : Try.prog.doorRows = [] := by kernel_rfl
theorem made : Try.prog.make = some .cut := by
  obtain ⟨rest, hr⟩ := words
  exact made_of Try.prog rest hr
theorem liftsFinal : Try.prog.liftsFinal = false := by
  obtain ⟨rest, hr⟩ := words
  exact lifts_of Try.prog rest hr
theorem mayEnter : Try.prog.mayEnter = true := by
  obtain ⟨rest, hr⟩ := words
  exact may_of Try.prog rest hr laysLater bearsReflect doorRows
end Go.Proofs.Qxb6001091a.Head
