/-
  FnBagBack's row: the closed facts.
-/
import Derived.Test.YtpgookhdffklkaaGreatDoorZWitn
namespace Go.Proofs.YtpgookhdffklkaaGreatDoor
open Go.ChangeShapes Go.WideShapes Go.ChangeAt Go.RowKit
theorem inPlace3 : (Rows.fnBagBackRow.inPlace == Tryz.prog.inPlace 3) = true := by kernel_rfl
theorem unfollowed3 : (Rows.fnBagBackRow.unfollowed == Tryz.prog.unfollowed 3) = true := by kernel_rfl
theorem recurses3 : (Rows.fnBagBackRow.recurses == Tryz.prog.recurses 3) = true := by kernel_rfl
theorem named3 : (Rows.fnBagBackRow.named == Tryz.prog.varsNamed 3) = true := by kernel_rfl
set_option maxRecDepth 100000 in
theorem closed3 : joinedFacts Tryz.prog 3 Tryz.f3 (OpenSpec.ofChange Rows.fnBagBackSpec).bare Rows.fnBagBackRow = true := by
  unfold joinedFacts
  rw [inPlace3, unfollowed3, recurses3, named3]
  kernel_rfl
end Go.Proofs.YtpgookhdffklkaaGreatDoor
