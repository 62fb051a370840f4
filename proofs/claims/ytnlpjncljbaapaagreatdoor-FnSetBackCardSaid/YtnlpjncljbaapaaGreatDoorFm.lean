/- The facts of FnSetBack's row that the kernel counts out. -/
import Derived.Test.YtnlpjncljbaapaaGreatDoorRw
namespace Go.Proofs.YtnlpjncljbaapaaGreatDoor
open Go Go.ChangeShapes Go.WideShapes Go.ChangeAt Go.RowKit Go.Joins

theorem back_c1 : (Rows.fnSetBackRow.inPlace == Tryz.prog.inPlace 8) = true := by kernel_rfl
theorem back_c2 : (Rows.fnSetBackRow.unfollowed == Tryz.prog.unfollowed 8) = true := by kernel_rfl
theorem back_c3 : (Rows.fnSetBackRow.recurses == Tryz.prog.recurses 8) = true := by kernel_rfl
theorem back_c4 : (Rows.fnSetBackRow.named == Tryz.prog.varsNamed 8) = true := by kernel_rfl
theorem back_closed : joinedFacts Tryz.prog 8 Tryz.f8 Rows.fnSetBackSpec Rows.fnSetBackRow = true := by
  unfold joinedFacts
  rw [back_c1, back_c2, back_c3, back_c4]
  kernel_rfl
end Go.Proofs.YtnlpjncljbaapaaGreatDoor
