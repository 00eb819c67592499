/- The row of the law FnEquivalent, whole: for every list of small numbers, every order and every depth it returns true and its arguments read as before. Condition: the listed package variables read as start-up lays them. -/
import Derived.Test.YtpigmadopflfkaaGreatDoorRwC
namespace Go.Proofs.YtpigmadopflfkaaGreatDoor
open Go.ChangeShapes Go.WideShapes Go.ChangeAt Go.RowKit

theorem row_closed : joinedFacts Tryz.pinned.checked.prog 3 Tryz.f3 Rows.fnEquivalentSpec Rows.fnEquivalentRow = true := by
  unfold joinedFacts
  rw [row_in, row_un, row_re, row_na]
  kernel_rfl
theorem row_holds : Rows.FnEquivalentSaid :=
  OpenClaim.holds_of_wide 3 Tryz.f3 rfl rfl rfl rfl rfl rfl rfl ⟨rfl, rfl, rfl, rfl, rfl⟩ rfl rfl rfl rfl rfl (by kernel_rfl) Tryz.func3 row_closed
    (of_decide_eq_true (by kernel_rfl)) (by unfold Func.isWrapper; first | (rw [if_pos (by decide +kernel)]; kernel_rfl) | (rw [if_neg (by decide +kernel)]; exact ⟨rfl, rfl⟩))
    (fun os started H enc _ => lifted os started H enc)
end Go.Proofs.YtpigmadopflfkaaGreatDoor
