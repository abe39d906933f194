/-
  propagation: the canonical name of a header of small letters.
-/
import Derived.Test.YtpgookhdffklkaaGreatDoorLeafE
import Derived.Test.YtpgookhdffklkaaGreatDoorMapS
import Derived.Laws.IdiomStrings
namespace Go.Proofs.YtpgookhdffklkaaGreatDoor
open Go.RowKit

theorem add_off (b off j : Nat) : (⟨b, off, none⟩ : Addr).add j = ⟨b, off + j, none⟩ := by
  unfold Addr.add
  split
  · rename_i h0; rw [h0]; rfl
  · rfl

/-! ### zzCanonical of small letters -/
def BagKey : List UInt8 := [66, 97, 103, 103, 97, 103, 101]
def canonL : List UInt8 → List UInt8
  | [] => []
  | c :: r => UInt8.ofNat (c.toNat - 32) :: r
theorem canonL_len (l : List UInt8) : (canonL l).length = l.length := by cases l <;> rfl
theorem canonL_0 (l : List UInt8) (h : 0 < l.length) (h1 : 97 ≤ l[0].toNat) : ((canonL l)[0]'(by rw [canonL_len]; exact h)).toNat = l[0].toNat - 32 := by
  cases l with
  | nil => simp at h
  | cons c r =>
    have := c.toNat_lt
    simp only [canonL, List.getElem_cons_zero] at *
    rw [UInt8.toNat_ofNat']
    omega
theorem canonL_s (l : List UInt8) (k : Nat) (h : k < l.length) (h0 : 0 < k) : (canonL l)[k]'(by rw [canonL_len]; exact h) = l[k] := by
  cases l with
  | nil => simp at h
  | cons c r =>
    cases k with
    | zero => omega
    | succ k => simp [canonL]
/-- Cells that hold a text, whatever mark the block bears. -/
def TxC (w : World) (g : Nat) (l : List UInt8) : Prop := (∀ j (h : j < l.length), w.cell? ⟨g, j, none⟩ = some (.int .u8 l[j].toNat)) ∧ w.frozen? ⟨g, 0, none⟩ = false
theorem run_bytes_tx (w : World) (l : List UInt8) (h0 : 0 < l.length) : ∃ c w', (convert 9 131 (.string (bs l))).run Tryz.prog w = .ok (.slice (some ⟨w.heap.size, 0, none⟩) l.length c) w' ∧ TxC w' w.heap.size l ∧ Below w.heap.size w w' ∧ w.heap.size < w'.heap.size := by
  have h := run_bytes_of_string (P := Tryz.prog) w 9 131 5 (bs l) Tryz.underlying9 Tryz.underlying131 Tryz.underlying5
  rw [bs_size] at h
  refine ⟨_, _, h, ⟨fun j hj => ?_, ?_⟩, ?_, ?_⟩
  · have := World.cell?_alloc_mark w.drew (bytesRow (bs l) (grownCap w l.length 0 5)) 5 ((bytesRow (bs l) (grownCap w l.length 0 5)).size, (bytesRow (bs l) (grownCap w l.length 0 5)).size + 1) j
    refine this.trans ?_
    unfold bytesRow
    rw [Array.getElem?_append_left (by simp [bs]; exact hj)]
    simp [bs, hj]
  · have e : (w.drew.alloc (.cells (bytesRow (bs l) (grownCap w l.length 0 5)) 5 ((bytesRow (bs l) (grownCap w l.length 0 5)).size, (bytesRow (bs l) (grownCap w l.length 0 5)).size + 1))).heap[w.heap.size]? = some (.cells (bytesRow (bs l) (grownCap w l.length 0 5)) 5 ((bytesRow (bs l) (grownCap w l.length 0 5)).size, (bytesRow (bs l) (grownCap w l.length 0 5)).size + 1)) := heap_alloc_new w.drew _
    have hs : 0 < (bytesRow (bs l) (grownCap w l.length 0 5)).size := by
      have : (bs l).data.size = l.length := by simp [bs]
      simp only [bytesRow, Array.size_append, Array.size_map, this]
      omega
    unfold World.frozen?
    rw [e]
    simp only [Bool.and_eq_false_iff, decide_eq_false_iff_not]
    left
    omega
  · exact ((Below.refl w.heap.size w).drew).alloc (Nat.le_refl _) _
  · show _ < (w.heap.push _).size
    simp

theorem TxC.low {w : World} {g : Nat} {l : List UInt8} (h : TxC w g l) (h0 : 0 < l.length) (h1 : 97 ≤ l[0].toNat) : TxC (w.setCell ⟨g, 0, none⟩ (.int .u8 ((l[0].toNat : Int) - 32))) g (canonL l) := by
  refine ⟨fun j hj => ?_, by rw [World.frozen?_setCell]; exact h.2⟩
  rw [canonL_len] at hj
  by_cases hj0 : j = 0
  · subst hj0
    rw [World.cell?_setCell_same _ _ _ (h.1 0 h0), canonL_0 l h0 h1, Int.ofNat_sub (by omega)]
    rfl
  · rw [World.cell?_setCell_other _ _ _ _ (by intro e; injection e with _ e2; exact hj0 e2.symm), canonL_s l j hj (by omega)]
    exact h.1 j hj

set_option maxRecDepth 100000 in
set_option maxHeartbeats 4000000 in
theorem canon_low (l : List UInt8) (h0 : 0 < l.length) (hs : l.length ≤ 1000) (hl : ∀ k (h : k < l.length), 97 ≤ l[k].toNat ∧ l[k].toNat ≤ 122) (w : World) :
    Calls Tryz.prog 278 #[.string (bs l)] w fun e w' => e = .returned (.string (bs (canonL l))) ∧ Below w.heap.size w w' := by
  obtain ⟨c0, w1, hcv, htx, hb1, hsz1⟩ := run_bytes_tx w l h0
  have HL := Lib.hid hl
  have HT := Lib.hid htx
  have HB1 := Lib.hid hb1
  clear hl htx hb1
  go_enter Tryz.func278, Tryz.ntmps278
  go_wp2
  go_loop [3, 4, 41] (fun i _ _ => ∃ k : Nat, k ≤ l.length ∧ i = .int .i64 k) (fun i _ _ => l.length - (intOf i).toNat)
  case atStart => exact ⟨0, Nat.zero_le _, rfl⟩
  case round =>
    obtain ⟨k, hk, rfl⟩ := hrel
    by_cases hlt : k < l.length
    · obtain ⟨h1, h2⟩ := HL.out k hlt
      have h3 : (97 : Int) ≤ (l[k].toNat : Int) := by omega
      have h4 : (l[k].toNat : Int) ≤ 122 := by omega
      go_wp2
      exact ⟨⟨k + 1, by omega, by go_num⟩, by simp [intOf]; omega⟩
    · go_wp2
      go_loopw [6, 7, 8, 62] (fun up _ _ i wr => ∃ k : Nat, k ≤ l.length ∧ i = .int .i64 k ∧ ((k = 0 ∧ up = .bool true ∧ TxC wr w.heap.size l) ∨ (0 < k ∧ up = .bool false ∧ TxC wr w.heap.size (canonL l))) ∧ Below w.heap.size w wr) (fun _ _ _ i _ => l.length - (intOf i).toNat)
      case atStart => exact ⟨0, Nat.zero_le _, rfl, Or.inl ⟨rfl, rfl, HT.out⟩, HB1.out⟩
      case round =>
        obtain ⟨k, hk, rfl, hcase, hb⟩ := hrel
        have HB := Lib.hid hb
        clear hb
        rcases hcase with ⟨hk0, rfl, htx⟩ | ⟨hk0, rfl, htx⟩
        · obtain ⟨h1, h2⟩ := HL.out 0 h0
          have h3 : (97 : Int) ≤ (l[0].toNat : Int) := by omega
          have h4 : (l[0].toNat : Int) ≤ 122 := by omega
          have h5 : ((l[0].toNat : Int) == 45) = false := by simp; omega
          have hc := htx.1 0 h0
          have hf := htx.2
          have HX := Lib.hid htx
          clear htx
          subst hk0
          go_wp2
          exact ⟨⟨1, by omega, by go_num, Or.inr ⟨by omega, rfl, by have z := TxC.low HX.out h0 h1; exact z⟩, HB.out.setCell (Nat.le_refl _) _⟩, by simp [intOf]; omega⟩
        · by_cases hlt : k < l.length
          · obtain ⟨h1, h2⟩ := HL.out k hlt
            have h3 : (97 : Int) ≤ (l[k].toNat : Int) := by omega
            have h4 : (l[k].toNat : Int) ≤ 122 := by omega
            have h5 : ((l[k].toNat : Int) == 45) = false := by simp; omega
            have hc := htx.1 k (by rw [canonL_len]; exact hlt)
            rw [canonL_s l k hlt hk0] at hc
            have HX := Lib.hid htx
            clear htx
            go_wp2
            exact ⟨⟨k + 1, by omega, by go_num, Or.inr ⟨by omega, rfl, HX.out⟩, HB.out⟩, by simp [intOf]; omega⟩
          · have e : k = l.length := by omega
            subst e
            have hcv2 := run_convert_bytes_back (P := Tryz.prog) wr 131 9 5 ⟨w.heap.size, 0, none⟩ c0 (canonL l) Tryz.underlying131 Tryz.underlying5 Tryz.underlying9 (fun j hj => by
              rw [add_off, Nat.zero_add]
              exact htx.1 j hj)
            rw [canonL_len] at hcv2
            clear htx
            go_wp2
            go_ret
            exact ⟨rfl, HB.out⟩
theorem canon_bag (w : World) : Calls Tryz.prog 278 #[.string (bs [98, 97, 103, 103, 97, 103, 101])] w fun e w' => e = .returned (.string (bs BagKey)) ∧ Below w.heap.size w w' :=
  canon_low [98, 97, 103, 103, 97, 103, 101] (by decide) (by decide) (by decide) w
end Go.Proofs.YtpgookhdffklkaaGreatDoor
