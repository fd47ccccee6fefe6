/-
  THE ROWS: closed facts of the program that laws.FnFetchedWhole's row asks.
-/
import Derived.Test.YtjbbapodcngnaaaGreatDoorRows
import Derived.JoinedCond
import Derived.KernelRfl
set_option linter.all false
namespace Go.Proofs.YtjbbapodcngnaaaGreatDoor
theorem named4 : Tryz.prog.funcNamed "given.example/pub-redelivery/laws.FnFetchedWhole" = some 4 := by kernel_rfl
theorem closed4 : joinedFacts Tryz.prog 4 Tryz.f4 (OpenSpec.ofChange Rows.fnFetchedWholeSpec).bare Rows.fnFetchedWholeRow = true := by kernel_rfl
end Go.Proofs.YtjbbapodcngnaaaGreatDoor
