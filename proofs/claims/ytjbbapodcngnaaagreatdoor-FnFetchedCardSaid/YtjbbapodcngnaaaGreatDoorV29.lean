/-
  THE CARD: laws.FnFetched returns true for every input and leaves its arguments as they were.
  Conditions: those of the given row alone (what its cells say: the listed package-level variables as the program lays them).
-/
import Derived.Test.YtjbbapodcngnaaaGreatDoorV26
import Derived.Test.YtjbbapodcngnaaaGreatDoorV27
import Derived.Test.YtjbbapodcngnaaaGreatDoorV28
set_option linter.all false
namespace Go.Proofs.YtjbbapodcngnaaaGreatDoor
open Go.ChangeShapes Go.WideShapes Go.ChangeAt Go.RowKit
theorem said3 : Rows.FnFetchedSaid :=
  OpenClaim.holds_of_cond 3 Tryz.f3 rfl rfl rfl rfl rfl rfl rfl ⟨rfl, rfl, rfl, rfl, rfl⟩ rfl rfl rfl rfl rfl named3 Tryz.func3 closed3
    (of_decide_eq_true (by kernel_rfl)) (by unfold Func.isWrapper; first | (rw [if_pos (by decide +kernel)]; kernel_rfl) | (rw [if_neg (by decide +kernel)]; exact ⟨rfl, rfl⟩))
    (fun os started H enc _ F => by rw [OpenClaim.pre_eq_preRow]; exact lifted3 os started H enc F)
theorem plain3 (f : FuncId) (fn : Func) (hf : Tryz.pinned.checked.prog.funcNamed "given.example/pub-redelivery/laws.FnFetched" = some f) (hfn : Tryz.pinned.checked.prog.funcs[f]? = some fn) :
    true = Tryz.pinned.checked.prog.looks [] ∧ ∀ (j : Nat) t, fn.params[j]? = some t → Tryz.pinned.checked.prog.wantsStandIn t = false := by
  obtain rfl : f = 3 := Option.some.inj (named3.symm.trans hf) |>.symm
  obtain rfl : fn = Tryz.f3 := (Option.some.inj (Tryz.func3.symm.trans hfn)).symm
  refine ⟨looksOn, fun j t ht => ?_⟩
  rw [Tryz.params3] at ht
  rcases (by simpa using Array.mem_of_getElem? ht : t = 25 ∨ t = 29) with rfl | rfl
  · exact (show Tryz.prog.wantsStandIn 25 = false by kernel_rfl)
  · exact (show Tryz.prog.wantsStandIn 29 = false by kernel_rfl)
theorem card3 : Rows.FnFetchedCardSaid :=
  Claim7.holds_tied_plain_at .later [] _ _ _ _ said3 (fun _ h => by cases h) (by kernel_rfl) (fun _ h => by cases h) fnFetched_row_tie rfl ⟨rfl, rfl⟩ (by kernel_rfl) rfl plain3 (by kernel_rfl)
end Go.Proofs.YtjbbapodcngnaaaGreatDoor
