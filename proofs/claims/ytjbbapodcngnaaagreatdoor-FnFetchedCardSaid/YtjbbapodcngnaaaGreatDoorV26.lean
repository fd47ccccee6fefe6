/-
  THE CARD: laws.FnFetched returns true for every input and leaves its arguments as they were.
-/
import Derived.Test.YtjbbapodcngnaaaGreatDoorV25
set_option linter.all false
namespace Go.Proofs.YtjbbapodcngnaaaGreatDoor
open Go.ChangeShapes Go.WideShapes Go.ChangeAt Go.RowKit

theorem ok3 (os : Os) : Input.okWideB Tryz.prog ((lw os).forCall (fun _ _ => 0) ⟨#[], #[zMail, zSec], []⟩) 3 ⟨#[], #[zMail, zSec], []⟩ = true := by kernel_rfl
theorem reads3 (os : Os) {H : Type} (enc : TypeId × Value → H) : (DataW.whole enc Tryz.prog ((lw os).forCall (fun _ _ => 0) ⟨#[], #[zMail, zSec], []⟩).memory Tryz.f3.params.toList Rows.fnFetchedSpec.vars false #[zMail, zSec].toList 8).isSome = true := by kernel_rfl
theorem sized3 (os : Os) {H : Type} (enc : TypeId × Value → H) : (OpenSpec.ofChange Rows.fnFetchedSpec).bare.sizedB enc Tryz.prog Tryz.f3 false ((lw os).forCall (fun _ _ => 0) ⟨#[], #[zMail, zSec], []⟩).memory #[zMail, zSec] 8 = true := by kernel_rfl
set_option maxRecDepth 100000 in
theorem lifted3 (os : Os) (started : os.Started) (H : Type) (enc : TypeId × Value → H) (F : Stop.Interp) :
    ReturnsInHanded {} Tryz.checked os 3 .any ((OpenSpec.ofChange Rows.fnFetchedSpec).preRow enc Tryz.prog Tryz.f3 Rows.fnFetchedRow.domain false Rows.fnFetchedRow.laid) (((OpenSpec.ofChange Rows.fnFetchedSpec).at F).post enc Tryz.prog Tryz.f3 false true false false) := by
  obtain ⟨x, hx⟩ := Option.isSome_iff_exists.1 (reads3 os enc)
  refine returnsInHanded_of_row (C := Tryz.checked) (s := OpenSpec.ofChange Rows.fnFetchedSpec) own started (by kernel_rfl) Tryz.func3
    ⟨lw os, fun _ _ => 0, ⟨#[], #[zMail, zSec], []⟩, World.laidAll_os _ _ _, World.shaped_of_ZipB (lw_vars os _) (lw_rest os _), (Input.okWide_of_okWideB (base := 0) (ok3 os)).1, (Input.okWide_of_okWideB (ok3 os)).2,
      OpenSpec.preRow_of_cond 8 hx rfl (fun k hk => by cases hk) (sized3 os enc) (laid_met os _), by
      simp only [Assume.holds]
      exact ⟨by simp, by simp, fun _ => Modest.zero, by simp, by simp⟩⟩ ?_
  intro W base args ds gs before hval hW _ _ _ hL _ _
  exact contract3 H enc W base args ds gs before hval hW hL
end Go.Proofs.YtjbbapodcngnaaaGreatDoor
