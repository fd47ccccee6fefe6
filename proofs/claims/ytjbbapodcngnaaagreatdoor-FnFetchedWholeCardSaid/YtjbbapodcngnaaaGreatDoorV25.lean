/-
  THE CARD: laws.FnFetched returns true for every input and leaves its arguments as they were.
-/
import Derived.Test.YtjbbapodcngnaaaGreatDoorV24
set_option linter.all false
namespace Go.Proofs.YtjbbapodcngnaaaGreatDoor
open Go.ChangeShapes Go.WideShapes Go.ChangeAt Go.RowKit

/-- arguments of a witness -/
def zMail : Value := .agg #[.slice none 0 0, .int .i64 0, .string (Go.Eng.mkS []), .string (Go.Eng.mkS []), .string (Go.Eng.mkS []), .string (Go.Eng.mkS []), .string (Go.Eng.mkS []), .string (Go.Eng.mkS []), .slice none 0 0]
def zSec : Value := .agg #[.slice none 0 0, .string (Go.Eng.mkS []), .slice none 0 0, .bool false, .bool false, .slice none 0 0]
noncomputable abbrev lw (os : Os) : World := World.laidAll Tryz.prog os LL
theorem laid_fits (os : Os) : (World.holding Tryz.prog os ⟨#[], #[], []⟩).layFits Tryz.prog LL [] = true := by kernel_rfl
theorem laid_ifaces (os : Os) : (World.holding Tryz.prog os ⟨#[], #[], []⟩).layIfaces Tryz.prog LL (World.laidAll Tryz.prog os LL) = true := by kernel_rfl
theorem laid_met (os : Os) (args : Array Value) : laidMetH Tryz.prog LL ((lw os).forCall (fun _ _ => 0) ⟨#[], args, []⟩).memory := by
  rw [MakeChecks.laidMetH_plain _ _ _ (by kernel_rfl)]
  exact laidMet_laidAll args (laid_fits os) (laid_ifaces os)
theorem lw_vars (os : Os) (args : Array Value) : ((lw os).forCall (fun _ _ => 0) ⟨#[], args, []⟩).variablesZipB Tryz.prog = true := by kernel_rfl
theorem lw_rest (os : Os) (args : Array Value) : (((lw os).forCall (fun _ _ => 0) ⟨#[], args, []⟩).heap.toList.drop Tryz.prog.globals.size).take ((begin Tryz.prog (fun _ _ => 0) default).world.heap.size - Tryz.prog.globals.size) =
    (begin Tryz.prog (fun _ _ => 0) default).world.heap.toList.drop Tryz.prog.globals.size := by kernel_rfl
end Go.Proofs.YtjbbapodcngnaaaGreatDoor
