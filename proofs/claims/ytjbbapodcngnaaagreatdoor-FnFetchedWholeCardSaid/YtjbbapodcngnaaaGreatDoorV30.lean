/-
  THE CARD: laws.FnFetchedWhole returns true for every input and leaves its argument as they were.
-/
import Derived.Test.YtjbbapodcngnaaaGreatDoorV25
set_option linter.all false
namespace Go.Proofs.YtjbbapodcngnaaaGreatDoor
open Go.ChangeShapes Go.WideShapes Go.ChangeAt Go.RowKit

theorem ok4 (os : Os) : Input.okWideB Tryz.prog ((lw os).forCall (fun _ _ => 0) ⟨#[], #[zMail], []⟩) 4 ⟨#[], #[zMail], []⟩ = true := by kernel_rfl
theorem reads4 (os : Os) {H : Type} (enc : TypeId × Value → H) : (DataW.whole enc Tryz.prog ((lw os).forCall (fun _ _ => 0) ⟨#[], #[zMail], []⟩).memory Tryz.f4.params.toList Rows.fnFetchedWholeSpec.vars false #[zMail].toList 8).isSome = true := by kernel_rfl
theorem sized4 (os : Os) {H : Type} (enc : TypeId × Value → H) : (OpenSpec.ofChange Rows.fnFetchedWholeSpec).bare.sizedB enc Tryz.prog Tryz.f4 false ((lw os).forCall (fun _ _ => 0) ⟨#[], #[zMail], []⟩).memory #[zMail] 8 = true := by kernel_rfl
set_option maxRecDepth 100000 in
theorem lifted4 (os : Os) (started : os.Started) (H : Type) (enc : TypeId × Value → H) (F : Stop.Interp) :
    ReturnsInHanded {} Tryz.checked os 4 .any ((OpenSpec.ofChange Rows.fnFetchedWholeSpec).preRow enc Tryz.prog Tryz.f4 Rows.fnFetchedWholeRow.domain false Rows.fnFetchedWholeRow.laid) (((OpenSpec.ofChange Rows.fnFetchedWholeSpec).at F).post enc Tryz.prog Tryz.f4 false true false false) := by
  obtain ⟨x, hx⟩ := Option.isSome_iff_exists.1 (reads4 os enc)
  refine returnsInHanded_of_row (C := Tryz.checked) (s := OpenSpec.ofChange Rows.fnFetchedWholeSpec) own started (by kernel_rfl) Tryz.func4
    ⟨lw os, fun _ _ => 0, ⟨#[], #[zMail], []⟩, World.laidAll_os _ _ _, World.shaped_of_ZipB (lw_vars os _) (lw_rest os _), (Input.okWide_of_okWideB (base := 0) (ok4 os)).1, (Input.okWide_of_okWideB (ok4 os)).2,
      OpenSpec.preRow_of_cond 8 hx rfl (fun k hk => by cases hk) (sized4 os enc) (laid_met os _), by
      simp only [Assume.holds]
      exact ⟨by simp, by simp, fun _ => Modest.zero, by simp, by simp⟩⟩ ?_
  intro W base args ds gs before hval hW _ _ _ hL _ _
  exact contract4 H enc W base args ds gs before hval hW hL
end Go.Proofs.YtjbbapodcngnaaaGreatDoor
