/-
  Entries as they come in.
-/
import Derived.Test.YtpgookhdffklkaaGreatDoorMJ
import Derived.Test.YtpgookhdffklkaaGreatDoorZWitn
namespace Go.Proofs.YtpgookhdffklkaaGreatDoor
open Go.ChangeShapes Go.WideShapes Go.ChangeAt Go.RowKit
theorem list_of {α : Type} {P : Nat → α → Prop} (n : Nat) (h : ∀ i, i < n → ∃ x, P i x) : ∃ l : List α, l.length = n ∧ ∀ i (hi : i < l.length), P i l[i] := by
  induction n with
  | zero => exact ⟨[], rfl, fun i hi => by simp at hi⟩
  | succ n ih =>
    obtain ⟨l, h1, h2⟩ := ih (fun i hi => h i (by omega))
    obtain ⟨x, hx⟩ := h n (by omega)
    refine ⟨l ++ [x], by simp [h1], fun i hi => ?_⟩
    rw [List.length_append] at hi
    simp only [List.length_cons, List.length_nil] at hi
    by_cases hlt : i < l.length
    · rw [List.getElem_append_left hlt]; exact h2 i hlt
    · have e : i = n := by omega
      subst e
      rw [List.getElem_append_right (by omega)]
      simpa [h1] using hx
theorem str_len {s : ByteArray} (h : s.size ≤ maxLen) : s.data.toList.length ≤ 9223372036854775807 := by
  have e : s.data.toList.length = s.size := by rw [Array.length_toList]; rfl
  unfold maxLen at h
  omega
section
variable {H : Type} {enc : TypeId × Value → H} {W : World}
end
end Go.Proofs.YtpgookhdffklkaaGreatDoor
