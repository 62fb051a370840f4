/- The facts of FnSetRead's row that the kernel counts out. -/
import Derived.Test.YtnlpjncljbaapaaGreatDoorRw
namespace Go.Proofs.YtnlpjncljbaapaaGreatDoor
open Go Go.ChangeShapes Go.WideShapes Go.ChangeAt Go.RowKit Go.Joins

theorem read_c1 : (Rows.fnSetReadRow.inPlace == Tryz.prog.inPlace 6) = true := by kernel_rfl
theorem read_c2 : (Rows.fnSetReadRow.unfollowed == Tryz.prog.unfollowed 6) = true := by kernel_rfl
theorem read_c3 : (Rows.fnSetReadRow.recurses == Tryz.prog.recurses 6) = true := by kernel_rfl
theorem read_c4 : (Rows.fnSetReadRow.named == Tryz.prog.varsNamed 6) = true := by kernel_rfl
theorem read_closed : joinedFacts Tryz.prog 6 Tryz.f6 Rows.fnSetReadSpec Rows.fnSetReadRow = true := by
  unfold joinedFacts
  rw [read_c1, read_c2, read_c3, read_c4]
  kernel_rfl
end Go.Proofs.YtnlpjncljbaapaaGreatDoor
