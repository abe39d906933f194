/-
  spec and laws: tokens; the sizes of entries.
-/
import Derived.Test.YtpgookhdffklkaaGreatDoorLeafG
import Derived.Test.YtpgookhdffklkaaGreatDoorImplA
import Derived.Lib.SlBytesConst
namespace Go.Proofs.YtpgookhdffklkaaGreatDoor
open Go.RowKit

set_option maxRecDepth 100000 in
set_option maxHeartbeats 1000000 in
theorem indexB_any (g c0 : Nat) (l : List UInt8) (c : UInt8) (w : World) (hb : ∀ j (h : j < l.length), w.cell? ⟨g, j, none⟩ = some (.int .u8 l[j].toNat)) (hs : l.length ≤ 1000) :
    Calls Tryz.prog 224 #[.slice (some ⟨g, 0, none⟩) l.length c0, .int .u8 c.toNat] w fun e w' => ∃ i : Int, e = .returned (.int .i64 i) ∧ (c ∈ l → 0 ≤ i) ∧ (c ∉ l → i = -1) ∧ w = w' := by
  have HBk := Lib.hid hb
  clear hb
  go_enter Tryz.func224, Tryz.ntmps224
  go_wp2
  go_loop [5, 8] (fun _ i => ∃ k : Nat, k ≤ l.length ∧ i = .int .i64 k ∧ c ∉ l.take k) (fun _ i => l.length - (intOf i).toNat)
  case atStart => exact ⟨0, Nat.zero_le _, rfl, by simp⟩
  case round =>
    obtain ⟨k, hk, rfl, hn⟩ := hrel
    have HN := Lib.hid hn
    clear hn
    by_cases hlt : k < l.length
    · have hc : w.cell? ⟨g, k, none⟩ = some (.int .u8 l[k].toNat) := HBk.out k hlt
      by_cases he : c = l[k]
      · have h1 : ((c.toNat : Int) == (l[k].toNat : Int)) = true := by rw [← he]; simp
        have HE := Lib.hid he
        clear he
        go_wp2
        go_ret
        exact ⟨_, rfl, fun _ => by omega, fun h => absurd (by rw [HE.out]; exact List.getElem_mem hlt) h, rfl⟩
      · have h1 : ((c.toNat : Int) == (l[k].toNat : Int)) = false := by
          simp only [beq_eq_false_iff_ne, ne_eq]
          intro e
          exact he (UInt8.toNat_inj.1 (by omega))
        have HE := Lib.hid he
        clear he
        go_wp2
        refine ⟨⟨k + 1, by omega, by go_num, ?_⟩, by simp [intOf]; omega⟩
        rw [List.take_succ_eq_append_getElem hlt]
        simp only [List.mem_append, List.mem_singleton, not_or]
        exact ⟨HN.out, HE.out⟩
    · have e : k = l.length := by omega
      subst e
      rw [List.take_of_length_le (Nat.le_refl _)] at HN
      go_wp2
      go_ret
      exact ⟨-1, rfl, fun h => absurd h HN.out, fun _ => rfl, rfl⟩
theorem containsB_any (g c0 : Nat) (l : List UInt8) (c : UInt8) (w : World) (hb : ∀ j (h : j < l.length), w.cell? ⟨g, j, none⟩ = some (.int .u8 l[j].toNat)) (hs : l.length ≤ 1000) :
    Calls Tryz.prog 163 #[.slice (some ⟨g, 0, none⟩) l.length c0, .int .u8 c.toNat] w fun e w' => e = .returned (.bool (decide (c ∈ l))) ∧ w = w' := by
  have C := fun W h => Lib.hid (indexB_any g c0 l c W h hs)
  have HBk := Lib.hid hb
  clear hb
  by_cases hm : c ∈ l
  · rw [decide_eq_true hm]
    have HM := Lib.hid hm
    clear hm
    go_enter Tryz.func163, Tryz.ntmps163
    go_wp2_with (go_at_call 224; (with_reducible refine (C _ HBk.out).out.mono ?_); rintro e w1 ⟨i, rfl, h1, h2, rfl⟩; have h3 := h1 HM.out; clear h1 h2)
    go_ret
    exact ⟨rfl, rfl⟩
  · rw [decide_eq_false hm]
    have HM := Lib.hid hm
    clear hm
    go_enter Tryz.func163, Tryz.ntmps163
    go_wp2_with (go_at_call 224; (with_reducible refine (C _ HBk.out).out.mono ?_); rintro e w1 ⟨i, rfl, h1, h2, rfl⟩; have h3 : i = -1 := h2 HM.out; clear h1 h2; subst h3)
    go_ret
    exact ⟨rfl, rfl⟩

set_option maxRecDepth 100000 in
set_option maxHeartbeats 2000000 in
theorem headerSign_any (c : UInt8) (w : World) : Calls Tryz.prog 101 #[.int .u8 c.toNat] w fun e w' => e = .returned (.bool (keyB c)) ∧ Below w.heap.size w w' := by
  have C := fun g W h => Lib.hid (containsB_any g 15 punct c W h (by decide))
  have HBk := Lib.hid (show ∀ j (h : j < punct.length), (w.alloc (.cells (byts punct).toArray 5 (15, 16))).cell? ⟨w.heap.size, j, none⟩ = some (.int .u8 punct[j].toNat) from fun j h => by
    rw [World.cell?_alloc_mark]
    simp [byts, h])
  have h8 := c.toNat_lt
  have HK := Lib.hid (keyB_mem c)
  have hcv := fun (W : World) (C : Array Value) (n q : Nat) => Lib.run_convert_bytes_const (P := Tryz.prog) W 131 5 C n q Tryz.underlying131 Tryz.underlying5
  cases hm : decide (c ∈ punct)
  all_goals rw [hm] at C
  all_goals rw [hm] at HK
  all_goals clear hm
  all_goals go_enter Tryz.func101, Tryz.ntmps101
  all_goals go_wp2_with (go_at_call 163; (refine (C _ _ (by exact HBk.out)).out.mono ?_); rintro e w1 ⟨rfl, rfl⟩)
  all_goals go_ret
  all_goals refine ⟨ret_bool (by rw [HK.out]; first | rfl | (simp; done) | (simp; omega) | (simp; grind)), ?_⟩
  all_goals first | exact Below.refl _ _ | exact (Below.refl _ _).alloc (Nat.le_refl _) _
end Go.Proofs.YtpgookhdffklkaaGreatDoor
