/-
  Entries as they come in.
-/
import Derived.Test.YtpgookhdffklkaaGreatDoorWitn
import Derived.Test.YtpgookhdffklkaaGreatDoorSpecB
import Derived.Test.YtpgookhdffklkaaGreatDoorCanon
namespace Go.Proofs.YtpgookhdffklkaaGreatDoor
open Go.ChangeShapes Go.WideShapes Go.ChangeAt Go.RowKit

theorem cells64 : Tryz.prog.cellsOf 64 = 2 := by kernel_rfl
theorem list_of {α : Type} {P : Nat → α → Prop} (n : Nat) (h : ∀ i, i < n → ∃ x, P i x) : ∃ l : List α, l.length = n ∧ ∀ i (hi : i < l.length), P i l[i] := by
  induction n with
  | zero => exact ⟨[], rfl, fun i hi => by simp at hi⟩
  | succ n ih =>
    obtain ⟨l, h1, h2⟩ := ih (fun i hi => h i (by omega))
    obtain ⟨x, hx⟩ := h n (by omega)
    refine ⟨l ++ [x], by simp [h1], fun i hi => ?_⟩
    rw [List.length_append] at hi
    simp only [List.length_cons, List.length_nil] at hi
    by_cases hlt : i < l.length
    · rw [List.getElem_append_left hlt]; exact h2 i hlt
    · have e : i = n := by omega
      subst e
      rw [List.getElem_append_right (by omega)]
      simpa [h1] using hx
theorem fields64 : ∃ fs, Tryz.prog.underlying 64 = some (.struct fs) ∧ (fs[0]?).map (fun f => (f.type, f.offset)) = some (9, 0) ∧ (fs[1]?).map (fun f => (f.type, f.offset)) = some (9, 1) := ⟨_, Tryz.underlying64, rfl, rfl⟩
theorem str_len {s : ByteArray} (h : s.size ≤ maxLen) : s.data.toList.length ≤ 9223372036854775807 := by
  have e : s.data.toList.length = s.size := by rw [Array.length_toList]; rfl
  unfold maxLen at h
  omega
section
variable {H : Type} {enc : TypeId × Value → H} {W : World}
theorem open_ent {m : Nat} {cs : List Value} {y : DataW H × List MemPlace} (h : DataW.trod enc Tryz.prog W 0 (fun _ => true) true m 64 cs = some y) : ∃ x : En, cs[0]? = some (.string (bs x.1)) ∧ cs[1]? = some (.string (bs x.2)) ∧ x.1.length ≤ 9223372036854775807 ∧ x.2.length ≤ 9223372036854775807 := by
  obtain ⟨fs, hu, h0, h1⟩ := fields64
  obtain ⟨f0, hf0, e0⟩ := Option.map_eq_some_iff.1 h0
  obtain ⟨f1, hf1, e1⟩ := Option.map_eq_some_iff.1 h1
  obtain ⟨xs, n, rfl, hx, hlen, hxl, hel⟩ := DataW.trod_struct hu h
  have s0 := hel 0 f0 hf0
  have s1 := hel 1 f1 hf1
  simp only [Prod.mk.injEq] at e0 e1
  rw [e0.1, e0.2, cells9] at s0
  rw [e1.1, e1.2, cells9] at s1
  have l0 := (Array.getElem?_eq_some_iff.1 hf0).1
  have l1 := (Array.getElem?_eq_some_iff.1 hf1).1
  rw [List.getElem?_eq_getElem (by omega)] at s0
  rw [List.getElem?_eq_getElem (by omega)] at s1
  obtain ⟨a, ha, -, hsa⟩ := DataW.trod_string Tryz.underlying9 s0
  obtain ⟨b, hb, -, hsb⟩ := DataW.trod_string Tryz.underlying9 s1
  refine ⟨(a.data.toList, b.data.toList), ?_, ?_, ?_, ?_⟩
  · rw [bs_of]; exact at_of_take1 ha
  · rw [bs_of]; exact at_of_take1 hb
  · exact str_len hsa
  · exact str_len hsb
theorem open_ents {fuel len cap : Nat} {a0 : Option Addr} {x : DataW H × List MemPlace} (hf : DataW.trod enc Tryz.prog W 0 (fun _ => true) true fuel 49 [.slice a0 len cap] = some x) : ∃ l : List En, RowE W (.slice a0 len cap) l := by
  rcases DataW.trod_slice Tryz.underlying49 hf with ⟨hcs, -⟩ | ⟨a, len', cap', elems, rest, n, -, hcs, -, -, hl, hm, hlen, hel, -⟩
  · simp only [List.cons.injEq, Value.slice.injEq, and_true] at hcs
    obtain ⟨rfl, rfl, rfl⟩ := hcs
    exact ⟨[], ⟨none, 0, rfl, Nat.le_refl _, by simp [maxLen], fun h => absurd rfl h⟩, fun x hx => by cases hx⟩
  · simp only [List.cons.injEq, Value.slice.injEq, and_true] at hcs
    obtain ⟨rfl, rfl, rfl⟩ := hcs
    have h1 : ∀ i, i < len → ∃ x : En, W.cell? ((a.add (i * 2)).add 0) = some (.string (bs x.1)) ∧ W.cell? ((a.add (i * 2)).add 1) = some (.string (bs x.2)) ∧ x.1.length ≤ 9223372036854775807 ∧ x.2.length ≤ 9223372036854775807 := fun i hi => by
      have h2 := hel i hi
      rw [cells64, List.getElem?_eq_getElem (by omega)] at h2
      obtain ⟨cs, hcs, h3⟩ := Option.bind_eq_some_iff.1 h2
      obtain ⟨-, hn, hc⟩ := World.cells?_some hcs
      obtain ⟨x, x0, x1, x2, x3⟩ := open_ent h3
      exact ⟨x, (hc 0 (by omega)).trans x0, (hc 1 (by omega)).trans x1, x2, x3⟩
    obtain ⟨l, hll, hlp⟩ := list_of len h1
    refine ⟨l, ⟨some a, cap, by rw [hll], by omega, hm, fun hx => ?_⟩, fun x hx => ?_⟩
    · have h0 : 0 < l.length := by
        rcases Nat.eq_zero_or_pos l.length with e | e
        · exact absurd (by rw [List.eq_nil_of_length_eq_zero e]; rfl) hx
        · exact e
      obtain ⟨b, off, spot⟩ := a
      have hspot : spot = none := by simpa [Addr.add] using World.cell?_spot (hlp 0 h0).1
      subst hspot
      have h2 := (hlp 0 h0).1
      rw [add_off, add_off] at h2
      refine ⟨b, off, rfl, ?_, fun j u hj => ?_⟩
      · unfold World.cell? at h2
        split at h2
        · rename_i hb; exact lt_of_heap hb
        · cases h2
      · have hjl : j < (l.flatMap encE).length := (List.getElem?_eq_some_iff.1 hj).1
        rw [flat_len encE 2 encE_len] at hjl
        have hi : j / 2 < l.length := by omega
        have h3 := flat_get encE 2 encE_len l (j / 2) (j % 2) hi (by omega)
        have h4 : j / 2 * 2 + j % 2 = j := by omega
        rw [h4, hj] at h3
        obtain ⟨p0, p1, -, -⟩ := hlp (j / 2) hi
        rw [add_off, add_off] at p0 p1
        rcases Nat.mod_two_eq_zero_or_one j with e | e
        · rw [e] at h3 h4
          rw [show off + j = off + j / 2 * 2 + 0 by omega, p0]
          exact h3.symm
        · rw [e] at h3 h4
          rw [show off + j = off + j / 2 * 2 + 1 by omega, p1]
          exact h3.symm
    · obtain ⟨i, hi, rfl⟩ := List.getElem_of_mem hx
      exact (hlp i hi).2.2
end
end Go.Proofs.YtpgookhdffklkaaGreatDoor
