/-
  FnExtractBaggage's row: the closed facts.
-/
import Derived.Test.YtpgookhdffklkaaGreatDoorWitn
namespace Go.Proofs.YtpgookhdffklkaaGreatDoor
open Go.ChangeShapes Go.WideShapes Go.ChangeAt Go.RowKit

theorem inPlace5 : (Rows.fnExtractBaggageRow.inPlace == Tryz.prog.inPlace 5) = true := by kernel_rfl
theorem unfollowed5 : (Rows.fnExtractBaggageRow.unfollowed == Tryz.prog.unfollowed 5) = true := by kernel_rfl
theorem recurses5 : (Rows.fnExtractBaggageRow.recurses == Tryz.prog.recurses 5) = true := by kernel_rfl
theorem named5 : (Rows.fnExtractBaggageRow.named == Tryz.prog.varsNamed 5) = true := by kernel_rfl
set_option maxRecDepth 100000 in
theorem closed5 : joinedFacts Tryz.prog 5 Tryz.f5 (OpenSpec.ofChange Rows.fnExtractBaggageSpec).bare Rows.fnExtractBaggageRow = true := by
  unfold joinedFacts
  rw [inPlace5, unfollowed5, recurses5, named5]
  kernel_rfl
end Go.Proofs.YtpgookhdffklkaaGreatDoor
