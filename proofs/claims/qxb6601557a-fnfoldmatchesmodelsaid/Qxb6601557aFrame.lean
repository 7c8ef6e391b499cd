/-
  What every law's frame shares. By an AI agent.
-/
import Derived.Test.Qxb6601557aRows
import Derived.Test.Qxb6601557aBase
namespace Go.Proofs.Qxb6601557a
set_option linter.unusedVariables false
open Go.RowKit

/-- a law's end: true, and nothing that was there has turned. -/
structure Fine (W : World) (e : Ending) (w' : World) : Prop where
  ret : e = .returned (.bool true)
  ext : Ext (fun _ => False) W w'

theorem ownF : ownKnob Try.prog.godebug = none := by kernel_rfl
theorem laidF : laidOutB Try.prog = true := by kernel_rfl
theorem bytesF3 : Try.prog.bytesOf 3 = 8 := by kernel_rfl
theorem bytesF4 : Try.prog.bytesOf 4 = 1 := by kernel_rfl
theorem bytesF24 : Try.prog.bytesOf 24 = 24 := by kernel_rfl
theorem bytesF39 : Try.prog.bytesOf 39 = 1 := by kernel_rfl
end Go.Proofs.Qxb6601557a
