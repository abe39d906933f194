/-
  Members of spec as they come in.
-/
import Derived.Test.YtpgookhdffklkaaGreatDoorMG
import Derived.Test.YtpgookhdffklkaaGreatDoorZEnts
namespace Go.Proofs.YtpgookhdffklkaaGreatDoor
open Go.ChangeShapes Go.WideShapes Go.ChangeAt Go.RowKit
theorem cells27 : Tryz.prog.cellsOf 27 = 1 := by kernel_rfl
theorem cells29 : Tryz.prog.cellsOf 29 = 3 := by kernel_rfl
theorem cells34 : Tryz.prog.cellsOf 34 = 3 := by kernel_rfl
theorem fields34b : ∃ fs, Tryz.prog.underlying 34 = some (.struct fs) ∧ (fs[0]?).map (fun f => (f.type, f.offset)) = some (9, 0) ∧ (fs[1]?).map (fun f => (f.type, f.offset)) = some (4, 1) ∧ (fs[2]?).map (fun f => (f.type, f.offset)) = some (9, 2) := ⟨_, Tryz.underlying34, rfl, rfl, rfl⟩
theorem fields29b : ∃ fs, Tryz.prog.underlying 29 = some (.struct fs) ∧ (fs[0]?).map (fun f => (f.type, f.offset)) = some (9, 0) ∧ (fs[1]?).map (fun f => (f.type, f.offset)) = some (9, 1) ∧ (fs[2]?).map (fun f => (f.type, f.offset)) = some (27, 2) := ⟨_, Tryz.underlying29, rfl, rfl, rfl⟩
/-- Elements that lie side by side are a row. -/
theorem open_row {α : Type} {P : α → Prop} (en : α → List Value) (k : Nat) (hk : 0 < k) (hen : ∀ x, (en x).length = k) {W : World} {a : Addr} {len cap : Nat} (hl : len ≤ cap) (hm : cap ≤ maxLen)
    (h1 : ∀ i, i < len → ∃ x : α, (∀ (z : Nat) u, (en x)[z]? = some u → W.cell? ((a.add (i * k)).add z) = some u) ∧ P x) :
    ∃ l : List α, ArgV W (.slice (some a) len cap) l.length (l.flatMap en) ∧ ∀ x ∈ l, P x := by
  obtain ⟨l, hll, hlp⟩ := list_of len h1
  refine ⟨l, ⟨some a, cap, by rw [hll], by omega, hm, fun hx => ?_⟩, fun x hx => ?_⟩
  · have h0 : 0 < l.length := by
      rcases Nat.eq_zero_or_pos l.length with e | e
      · exact absurd (by rw [List.eq_nil_of_length_eq_zero e]; rfl) hx
      · exact e
    have hz : 0 < (en l[0]).length := by rw [hen]; exact hk
    have hc0 := (hlp 0 h0).1 0 _ (List.getElem?_eq_getElem hz)
    obtain ⟨b, off, spot⟩ := a
    have hspot : spot = none := by simpa [Addr.add] using World.cell?_spot hc0
    subst hspot
    have h2 := hc0
    rw [add_off, add_off] at h2
    refine ⟨b, off, rfl, ?_, fun j u hj => ?_⟩
    · unfold World.cell? at h2
      split at h2
      · rename_i hb; exact lt_of_heap hb
      · cases h2
    · have hjl : j < (l.flatMap en).length := (List.getElem?_eq_some_iff.1 hj).1
      rw [flat_len en k hen] at hjl
      have hi : j / k < l.length := Nat.div_lt_of_lt_mul (by rw [Nat.mul_comm]; exact hjl)
      have h3 := flat_get en k hen l (j / k) (j % k) hi (Nat.mod_lt _ hk)
      have h4 : j / k * k + j % k = j := by rw [Nat.mul_comm]; exact Nat.div_add_mod j k
      rw [h4, hj] at h3
      have p0 := (hlp (j / k) hi).1 (j % k) u h3.symm
      rw [add_off, add_off] at p0
      rw [show off + j = off + j / k * k + j % k by omega]
      exact p0
  · obtain ⟨i, hi, rfl⟩ := List.getElem_of_mem hx
    exact (hlp i hi).2
section
variable {H : Type} {enc : TypeId × Value → H} {W : World}
theorem open_prop {m : Nat} {cs : List Value} {y : DataW H × List MemPlace} (h : DataW.trod enc Tryz.prog W 0 (fun _ => true) true m 34 cs = some y) : ∃ p : Pr, (∀ (z : Nat) u, (encI p)[z]? = some u → cs[z]? = some u) ∧ p.k.length ≤ 9223372036854775807 ∧ p.v.length ≤ 9223372036854775807 := by
  obtain ⟨fs, hu, h0, h1, h2⟩ := fields34b
  obtain ⟨f0, hf0, e0⟩ := Option.map_eq_some_iff.1 h0
  obtain ⟨f1, hf1, e1⟩ := Option.map_eq_some_iff.1 h1
  obtain ⟨f2, hf2, e2⟩ := Option.map_eq_some_iff.1 h2
  obtain ⟨xs, n, rfl, hx, hlen, hxl, hel⟩ := DataW.trod_struct hu h
  have s0 := hel 0 f0 hf0
  have s1 := hel 1 f1 hf1
  have s2 := hel 2 f2 hf2
  simp only [Prod.mk.injEq] at e0 e1 e2
  rw [e0.1, e0.2, cells9] at s0
  rw [e1.1, e1.2, cells4] at s1
  rw [e2.1, e2.2, cells9] at s2
  have l0 := (Array.getElem?_eq_some_iff.1 hf0).1
  have l1 := (Array.getElem?_eq_some_iff.1 hf1).1
  have l2 := (Array.getElem?_eq_some_iff.1 hf2).1
  rw [List.getElem?_eq_getElem (by omega)] at s0
  rw [List.getElem?_eq_getElem (by omega)] at s1
  rw [List.getElem?_eq_getElem (by omega)] at s2
  obtain ⟨a, ha, -, hsa⟩ := DataW.trod_string Tryz.underlying9 s0
  obtain ⟨c, hc, -⟩ := DataW.trod_bool Tryz.underlying4 s1
  obtain ⟨b, hb, -, hsb⟩ := DataW.trod_string Tryz.underlying9 s2
  refine ⟨⟨a.data.toList, c, b.data.toList⟩, fun z u hz => ?_, str_len hsa, str_len hsb⟩
  simp only [encI, bs_of] at hz
  match z, hz with
  | 0, hz => rw [← hz]; exact at_of_take1 ha
  | 1, hz => rw [← hz]; exact at_of_take1 hc
  | 2, hz => rw [← hz]; exact at_of_take1 hb
  | z + 3, hz => simp at hz
theorem open_props {fuel len cap : Nat} {a0 : Option Addr} {x : DataW H × List MemPlace} (hf : DataW.trod enc Tryz.prog W 0 (fun _ => true) true fuel 27 [.slice a0 len cap] = some x) : ∃ ps : List Pr, RowP W (.slice a0 len cap) ps := by
  rcases DataW.trod_slice Tryz.underlying27 hf with ⟨hcs, -⟩ | ⟨a, len', cap', elems, rest, n, -, hcs, -, -, hl, hm, hlen, hel, -⟩
  · simp only [List.cons.injEq, Value.slice.injEq, and_true] at hcs
    obtain ⟨rfl, rfl, rfl⟩ := hcs
    exact ⟨[], ⟨none, 0, rfl, Nat.le_refl _, by simp [maxLen], fun h => absurd rfl h⟩, fun x hx => by cases hx⟩
  · simp only [List.cons.injEq, Value.slice.injEq, and_true] at hcs
    obtain ⟨rfl, rfl, rfl⟩ := hcs
    exact open_row encI 3 (by decide) (fun _ => rfl) hl hm fun i hi => by
      have h2 := hel i hi
      rw [cells34, List.getElem?_eq_getElem (by omega)] at h2
      obtain ⟨cs, hcs, h3⟩ := Option.bind_eq_some_iff.1 h2
      obtain ⟨-, hn, hc⟩ := World.cells?_some hcs
      obtain ⟨p, p1, p2⟩ := open_prop h3
      refine ⟨p, fun z u hz => ?_, p2⟩
      have hz3 : z < 3 := (List.getElem?_eq_some_iff.1 hz).1
      exact (hc z hz3).trans (p1 z u hz)
theorem open_mem {m : Nat} {cs : List Value} {y : DataW H × List MemPlace} (h : DataW.trod enc Tryz.prog W 0 (fun _ => true) true m 29 cs = some y) : ∃ x : MA, (∀ (z : Nat) u, (encA x)[z]? = some u → cs[z]? = some u) ∧ RowP W (.slice x.2.1 x.1.ps.length x.2.2) x.1.ps ∧ x.1.k.length ≤ 9223372036854775807 ∧ x.1.v.length ≤ 9223372036854775807 := by
  obtain ⟨fs, hu, h0, h1, h2⟩ := fields29b
  obtain ⟨f0, hf0, e0⟩ := Option.map_eq_some_iff.1 h0
  obtain ⟨f1, hf1, e1⟩ := Option.map_eq_some_iff.1 h1
  obtain ⟨f2, hf2, e2⟩ := Option.map_eq_some_iff.1 h2
  obtain ⟨xs, n, rfl, hx, hlen, hxl, hel⟩ := DataW.trod_struct hu h
  have s0 := hel 0 f0 hf0
  have s1 := hel 1 f1 hf1
  have s2 := hel 2 f2 hf2
  simp only [Prod.mk.injEq] at e0 e1 e2
  rw [e0.1, e0.2, cells9] at s0
  rw [e1.1, e1.2, cells9] at s1
  rw [e2.1, e2.2, cells27] at s2
  have l0 := (Array.getElem?_eq_some_iff.1 hf0).1
  have l1 := (Array.getElem?_eq_some_iff.1 hf1).1
  have l2 := (Array.getElem?_eq_some_iff.1 hf2).1
  rw [List.getElem?_eq_getElem (by omega)] at s0
  rw [List.getElem?_eq_getElem (by omega)] at s1
  rw [List.getElem?_eq_getElem (by omega)] at s2
  obtain ⟨a, ha, -, hsa⟩ := DataW.trod_string Tryz.underlying9 s0
  obtain ⟨b, hb, -, hsb⟩ := DataW.trod_string Tryz.underlying9 s1
  have key : ∃ A len cap, (cs.drop 2).take 1 = [.slice A len cap] := by
    rcases DataW.trod_slice Tryz.underlying27 s2 with ⟨hcs3, -⟩ | ⟨a3, len3, cap3, _, _, _, -, hcs3, -⟩
    · exact ⟨_, _, _, hcs3⟩
    · exact ⟨_, _, _, hcs3⟩
  obtain ⟨A, len, cap, hc⟩ := key
  rw [hc] at s2
  obtain ⟨ps, hps⟩ := open_props s2
  obtain ⟨A', c', hv, _⟩ := hps.1
  injection hv with _ hn _
  subst hn
  refine ⟨(⟨a.data.toList, b.data.toList, ps⟩, A, cap), fun z u hz => ?_, hps, str_len hsa, str_len hsb⟩
  simp only [encA, bs_of] at hz
  match z, hz with
  | 0, hz => rw [← hz]; exact at_of_take1 ha
  | 1, hz => rw [← hz]; exact at_of_take1 hb
  | 2, hz => rw [← hz]; exact at_of_take1 hc
  | z + 3, hz => simp at hz
theorem open_bags {fuel len cap : Nat} {a0 : Option Addr} {x : DataW H × List MemPlace} (hf : DataW.trod enc Tryz.prog W 0 (fun _ => true) true fuel 22 [.slice a0 len cap] = some x) : ∃ ml : List MA, RowB W (.slice a0 len cap) ml := by
  rcases DataW.trod_slice Tryz.underlying22 hf with ⟨hcs, -⟩ | ⟨a, len', cap', elems, rest, n, -, hcs, -, -, hl, hm, hlen, hel, -⟩
  · simp only [List.cons.injEq, Value.slice.injEq, and_true] at hcs
    obtain ⟨rfl, rfl, rfl⟩ := hcs
    exact ⟨[], ⟨none, 0, rfl, Nat.le_refl _, by simp [maxLen], fun h => absurd rfl h⟩, fun x hx => by cases hx⟩
  · simp only [List.cons.injEq, Value.slice.injEq, and_true] at hcs
    obtain ⟨rfl, rfl, rfl⟩ := hcs
    exact open_row encA 3 (by decide) (fun _ => rfl) hl hm fun i hi => by
      have h2 := hel i hi
      rw [cells29, List.getElem?_eq_getElem (by omega)] at h2
      obtain ⟨cs, hcs, h3⟩ := Option.bind_eq_some_iff.1 h2
      obtain ⟨-, hn, hc⟩ := World.cells?_some hcs
      obtain ⟨p, p1, p2⟩ := open_mem h3
      refine ⟨p, fun z u hz => ?_, p2⟩
      have hz3 : z < 3 := (List.getElem?_eq_some_iff.1 hz).1
      exact (hc z hz3).trans (p1 z u hz)
end
end Go.Proofs.YtpgookhdffklkaaGreatDoor
