/-
  FnBagMade's row: the closed facts.
-/
import Derived.Test.YtpgookhdffklkaaGreatDoorZWitn
namespace Go.Proofs.YtpgookhdffklkaaGreatDoor
open Go.ChangeShapes Go.WideShapes Go.ChangeAt Go.RowKit
theorem inPlace4 : (Rows.fnBagMadeRow.inPlace == Tryz.prog.inPlace 4) = true := by kernel_rfl
theorem unfollowed4 : (Rows.fnBagMadeRow.unfollowed == Tryz.prog.unfollowed 4) = true := by kernel_rfl
theorem recurses4 : (Rows.fnBagMadeRow.recurses == Tryz.prog.recurses 4) = true := by kernel_rfl
theorem named4 : (Rows.fnBagMadeRow.named == Tryz.prog.varsNamed 4) = true := by kernel_rfl
set_option maxRecDepth 100000 in
theorem closed4 : joinedFacts Tryz.prog 4 Tryz.f4 (OpenSpec.ofChange Rows.fnBagMadeSpec).bare Rows.fnBagMadeRow = true := by
  unfold joinedFacts
  rw [inPlace4, unfollowed4, recurses4, named4]
  kernel_rfl
end Go.Proofs.YtpgookhdffklkaaGreatDoor
