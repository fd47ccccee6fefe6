/-
  THE CARDS: the program's looks are on.
-/
import Derived.Test.YtjbbapodcngnaaaGreatDoorCards
import Derived.KernelRfl
set_option linter.all false
namespace Go.Proofs.YtjbbapodcngnaaaGreatDoor
theorem looksOn : true = Tryz.pinned.checked.prog.looks [] := by kernel_rfl
end Go.Proofs.YtjbbapodcngnaaaGreatDoor
