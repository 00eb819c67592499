/- Closed facts of the row of the law FnEquivalent: what its code reaches. No conditions. -/
import Derived.Test.YtpigmadopflfkaaGreatDoorRwB
namespace Go.Proofs.YtpigmadopflfkaaGreatDoor
open Go.ChangeShapes Go.WideShapes Go.ChangeAt Go.RowKit

theorem row_in : (Rows.fnEquivalentRow.inPlace == Tryz.pinned.checked.prog.inPlace 3) = true := by kernel_rfl
theorem row_un : (Rows.fnEquivalentRow.unfollowed == Tryz.pinned.checked.prog.unfollowed 3) = true := by kernel_rfl
theorem row_re : (Rows.fnEquivalentRow.recurses == Tryz.pinned.checked.prog.recurses 3) = true := by kernel_rfl
theorem row_na : (Rows.fnEquivalentRow.named == Tryz.pinned.checked.prog.varsNamed 3) = true := by kernel_rfl
end Go.Proofs.YtpigmadopflfkaaGreatDoor
