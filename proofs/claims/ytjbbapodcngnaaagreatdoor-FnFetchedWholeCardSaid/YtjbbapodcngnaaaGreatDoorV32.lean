/-
  THE CARD: laws.FnFetchedWhole returns true for every input and leaves its arguments as they were.
  Conditions: those of the given row alone (what its cells say: the listed package-level variables as the program lays them).
-/
import Derived.Test.YtjbbapodcngnaaaGreatDoorV30
import Derived.Test.YtjbbapodcngnaaaGreatDoorV31
import Derived.Test.YtjbbapodcngnaaaGreatDoorV28
set_option linter.all false
namespace Go.Proofs.YtjbbapodcngnaaaGreatDoor
open Go.ChangeShapes Go.WideShapes Go.ChangeAt Go.RowKit
theorem said4 : Rows.FnFetchedWholeSaid :=
  OpenClaim.holds_of_cond 4 Tryz.f4 rfl rfl rfl rfl rfl rfl rfl ⟨rfl, rfl, rfl, rfl, rfl⟩ rfl rfl rfl rfl rfl named4 Tryz.func4 closed4
    (of_decide_eq_true (by kernel_rfl)) (by unfold Func.isWrapper; first | (rw [if_pos (by decide +kernel)]; kernel_rfl) | (rw [if_neg (by decide +kernel)]; exact ⟨rfl, rfl⟩))
    (fun os started H enc _ F => by rw [OpenClaim.pre_eq_preRow]; exact lifted4 os started H enc F)
theorem plain4 (f : FuncId) (fn : Func) (hf : Tryz.pinned.checked.prog.funcNamed "given.example/pub-redelivery/laws.FnFetchedWhole" = some f) (hfn : Tryz.pinned.checked.prog.funcs[f]? = some fn) :
    true = Tryz.pinned.checked.prog.looks [] ∧ ∀ (j : Nat) t, fn.params[j]? = some t → Tryz.pinned.checked.prog.wantsStandIn t = false := by
  obtain rfl : f = 4 := Option.some.inj (named4.symm.trans hf) |>.symm
  obtain rfl : fn = Tryz.f4 := (Option.some.inj (Tryz.func4.symm.trans hfn)).symm
  refine ⟨looksOn, fun j t ht => ?_⟩
  rw [Tryz.params4] at ht
  obtain rfl : t = 25 := by simpa using Array.mem_of_getElem? ht
  exact (show Tryz.prog.wantsStandIn 25 = false by kernel_rfl)
theorem card4 : Rows.FnFetchedWholeCardSaid :=
  Claim7.holds_tied_plain_at .later [] _ _ _ _ said4 (fun _ h => by cases h) (by kernel_rfl) (fun _ h => by cases h) fnFetchedWhole_row_tie rfl ⟨rfl, rfl⟩ (by kernel_rfl) rfl plain4 (by kernel_rfl)
end Go.Proofs.YtjbbapodcngnaaaGreatDoor
