/-
  FnInjectBaggage's row: the closed facts.
-/
import Derived.Test.YtpgookhdffklkaaGreatDoorWitn
namespace Go.Proofs.YtpgookhdffklkaaGreatDoor
open Go.ChangeShapes Go.WideShapes Go.ChangeAt Go.RowKit

theorem inPlace7 : (Rows.fnInjectBaggageRow.inPlace == Tryz.prog.inPlace 7) = true := by kernel_rfl
theorem unfollowed7 : (Rows.fnInjectBaggageRow.unfollowed == Tryz.prog.unfollowed 7) = true := by kernel_rfl
theorem recurses7 : (Rows.fnInjectBaggageRow.recurses == Tryz.prog.recurses 7) = true := by kernel_rfl
theorem named7 : (Rows.fnInjectBaggageRow.named == Tryz.prog.varsNamed 7) = true := by kernel_rfl
set_option maxRecDepth 100000 in
theorem closed7 : joinedFacts Tryz.prog 7 Tryz.f7 (OpenSpec.ofChange Rows.fnInjectBaggageSpec).bare Rows.fnInjectBaggageRow = true := by
  unfold joinedFacts
  rw [inPlace7, unfollowed7, recurses7, named7]
  kernel_rfl
end Go.Proofs.YtpgookhdffklkaaGreatDoor
