/- The facts of FnSetOrder's row that the kernel counts out. -/
import Derived.Test.YtnlpjncljbaapaaGreatDoorRw
namespace Go.Proofs.YtnlpjncljbaapaaGreatDoor
open Go Go.ChangeShapes Go.WideShapes Go.ChangeAt Go.RowKit Go.Joins

theorem order_c1 : (Rows.fnSetOrderRow.inPlace == Tryz.prog.inPlace 5) = true := by kernel_rfl
theorem order_c2 : (Rows.fnSetOrderRow.unfollowed == Tryz.prog.unfollowed 5) = true := by kernel_rfl
theorem order_c3 : (Rows.fnSetOrderRow.recurses == Tryz.prog.recurses 5) = true := by kernel_rfl
theorem order_c4 : (Rows.fnSetOrderRow.named == Tryz.prog.varsNamed 5) = true := by kernel_rfl
theorem order_closed : joinedFacts Tryz.prog 5 Tryz.f5 Rows.fnSetOrderSpec Rows.fnSetOrderRow = true := by
  unfold joinedFacts
  rw [order_c1, order_c2, order_c3, order_c4]
  kernel_rfl
end Go.Proofs.YtnlpjncljbaapaaGreatDoor
