/-
  FnExtractNone's row: the closed facts.
-/
import Derived.Test.YtpgookhdffklkaaGreatDoorWitn
namespace Go.Proofs.YtpgookhdffklkaaGreatDoor
open Go.ChangeShapes Go.WideShapes Go.ChangeAt Go.RowKit

theorem inPlace6 : (Rows.fnExtractNoneRow.inPlace == Tryz.prog.inPlace 6) = true := by kernel_rfl
theorem unfollowed6 : (Rows.fnExtractNoneRow.unfollowed == Tryz.prog.unfollowed 6) = true := by kernel_rfl
theorem recurses6 : (Rows.fnExtractNoneRow.recurses == Tryz.prog.recurses 6) = true := by kernel_rfl
theorem named6 : (Rows.fnExtractNoneRow.named == Tryz.prog.varsNamed 6) = true := by kernel_rfl
set_option maxRecDepth 100000 in
theorem closed6 : joinedFacts Tryz.prog 6 Tryz.f6 (OpenSpec.ofChange Rows.fnExtractNoneSpec).bare Rows.fnExtractNoneRow = true := by
  unfold joinedFacts
  rw [inPlace6, unfollowed6, recurses6, named6]
  kernel_rfl
end Go.Proofs.YtpgookhdffklkaaGreatDoor
