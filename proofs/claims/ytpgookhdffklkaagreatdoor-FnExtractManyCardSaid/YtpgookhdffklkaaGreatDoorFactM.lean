/-
  FnExtractMany's row: the closed facts.
-/
import Derived.Test.YtpgookhdffklkaaGreatDoorWitn
namespace Go.Proofs.YtpgookhdffklkaaGreatDoor
open Go.ChangeShapes Go.WideShapes Go.ChangeAt Go.RowKit

theorem inPlace8 : (Rows.fnExtractManyRow.inPlace == Tryz.prog.inPlace 8) = true := by kernel_rfl
theorem unfollowed8 : (Rows.fnExtractManyRow.unfollowed == Tryz.prog.unfollowed 8) = true := by kernel_rfl
theorem recurses8 : (Rows.fnExtractManyRow.recurses == Tryz.prog.recurses 8) = true := by kernel_rfl
theorem named8 : (Rows.fnExtractManyRow.named == Tryz.prog.varsNamed 8) = true := by kernel_rfl
set_option maxRecDepth 100000 in
theorem closed8 : joinedFacts Tryz.prog 8 Tryz.f8 (OpenSpec.ofChange Rows.fnExtractManySpec).bare Rows.fnExtractManyRow = true := by
  unfold joinedFacts
  rw [inPlace8, unfollowed8, recurses8, named8]
  kernel_rfl
end Go.Proofs.YtpgookhdffklkaaGreatDoor
