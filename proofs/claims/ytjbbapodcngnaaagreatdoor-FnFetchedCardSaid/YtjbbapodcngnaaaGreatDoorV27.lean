/-
  THE ROWS: closed facts of the program that laws.FnFetched's row asks.
-/
import Derived.Test.YtjbbapodcngnaaaGreatDoorRows
import Derived.JoinedCond
import Derived.KernelRfl
set_option linter.all false
namespace Go.Proofs.YtjbbapodcngnaaaGreatDoor
theorem named3 : Tryz.prog.funcNamed "given.example/pub-redelivery/laws.FnFetched" = some 3 := by kernel_rfl
theorem closed3 : joinedFacts Tryz.prog 3 Tryz.f3 (OpenSpec.ofChange Rows.fnFetchedSpec).bare Rows.fnFetchedRow = true := by kernel_rfl
end Go.Proofs.YtjbbapodcngnaaaGreatDoor
