/- The facts of FnSetWritten's row that the kernel counts out. -/
import Derived.Test.YtnlpjncljbaapaaGreatDoorRw
namespace Go.Proofs.YtnlpjncljbaapaaGreatDoor
open Go Go.ChangeShapes Go.WideShapes Go.ChangeAt Go.RowKit Go.Joins

theorem written_c1 : (Rows.fnSetWrittenRow.inPlace == Tryz.prog.inPlace 7) = true := by kernel_rfl
theorem written_c2 : (Rows.fnSetWrittenRow.unfollowed == Tryz.prog.unfollowed 7) = true := by kernel_rfl
theorem written_c3 : (Rows.fnSetWrittenRow.recurses == Tryz.prog.recurses 7) = true := by kernel_rfl
theorem written_c4 : (Rows.fnSetWrittenRow.named == Tryz.prog.varsNamed 7) = true := by kernel_rfl
theorem written_closed : joinedFacts Tryz.prog 7 Tryz.f7 Rows.fnSetWrittenSpec Rows.fnSetWrittenRow = true := by
  unfold joinedFacts
  rw [written_c1, written_c2, written_c3, written_c4]
  kernel_rfl
end Go.Proofs.YtnlpjncljbaapaaGreatDoor
