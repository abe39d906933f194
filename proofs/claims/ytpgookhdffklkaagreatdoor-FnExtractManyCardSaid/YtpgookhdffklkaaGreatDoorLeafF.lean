/-
  The texts of properties and members by the reference: token, octet, encoded, made, PropertyText.
-/
import Derived.Test.YtpgookhdffklkaaGreatDoorLeafE
import Derived.Test.YtpgookhdffklkaaGreatDoorShelf
namespace Go.Proofs.YtpgookhdffklkaaGreatDoor
open Go.RowKit

/-- IndexByte, asked whether the byte is there. -/
theorem indexByte_mem (l : List UInt8) (c : UInt8) : (c ∈ l → 0 ≤ Lib.indexByte l c) ∧ (c ∉ l → Lib.indexByte l c = -1) := by
  induction l with
  | nil => simp [Lib.indexByte]
  | cons b t ih =>
    simp only [Lib.indexByte]
    by_cases hb : b = c
    · subst hb; simp
    · have hb' : (b == c) = false := by simpa using hb
      simp only [hb', Bool.false_eq_true, if_false]
      constructor
      · intro hm
        have hm' : c ∈ t := by
          rcases List.mem_cons.1 hm with h | h
          · exact absurd h.symm hb
          · exact h
        have h0 := ih.1 hm'
        rw [if_neg (by simp; omega)]
        omega
      · intro hm
        have := ih.2 (fun h => hm (List.mem_cons_of_mem _ h))
        rw [this]; rfl
theorem indexByte_yes (l : List UInt8) (c : UInt8) (w : World) (h : c ∈ l) :
    Calls Tryz.prog 77 #[.string (bs l), .int .u8 c.toNat] w fun e w' => ∃ i : Int, e = .returned (.int .i64 i) ∧ 0 ≤ i ∧ w = w' := by
  refine (Tryz.strings_IndexByte (bs l) (c.toNat : Int) w).mono fun e w' ⟨he, hw⟩ => ⟨_, he, ?_, hw.symm⟩
  simpa using (indexByte_mem l c).1 h
theorem indexByte_no (l : List UInt8) (c : UInt8) (w : World) (h : c ∉ l) :
    Calls Tryz.prog 77 #[.string (bs l), .int .u8 c.toNat] w fun e w' => ∃ i : Int, e = .returned (.int .i64 i) ∧ i < 0 ∧ w = w' := by
  refine (Tryz.strings_IndexByte (bs l) (c.toNat : Int) w).mono fun e w' ⟨he, hw⟩ => ⟨_, he, ?_, hw.symm⟩
  have := (indexByte_mem l c).2 h
  simp only [bs_toList, Int.toNat_natCast, Nat.toUInt8_eq, UInt8.ofNat_toNat]
  omega

theorem valB_mem (c : UInt8) : valB c = (decide (32 < c.toNat) && decide (c.toNat < 127) && !decide (c ∈ ([34, 44, 59, 92] : List UInt8))) := by
  have : ∀ n : Fin 256, valB (UInt8.ofNat n.val) = (decide (32 < (UInt8.ofNat n.val).toNat) && decide ((UInt8.ofNat n.val).toNat < 127) && !decide (UInt8.ofNat n.val ∈ ([34, 44, 59, 92] : List UInt8))) := by decide +kernel
  have h := this ⟨c.toNat, c.toNat_lt⟩
  simpa using h
set_option maxRecDepth 100000 in
set_option maxHeartbeats 400000 in
theorem octet_any (c : UInt8) (w : World) :
    Calls Tryz.prog 78 #[.int .u8 c.toNat] w fun e w' => e = .returned (.bool (valB c)) ∧ w = w' := by
  have hlt := c.toNat_lt
  rw [valB_mem]
  by_cases hm : c ∈ ([34, 44, 59, 92] : List UInt8)
  · have C := fun W => Lib.hid (indexByte_yes [34, 44, 59, 92] c W hm)
    rw [decide_eq_true hm]
    clear hm
    go_enter Tryz.func78, Tryz.ntmps78
    go_wp2_with (go_at_call 77; (refine (C _).out.mono ?_); rintro e w' ⟨i, rfl, hi, rfl⟩)
    all_goals go_ret
    all_goals refine ⟨ret_bool ?_, rfl⟩
    all_goals simp
    all_goals omega
  · have C := fun W => Lib.hid (indexByte_no [34, 44, 59, 92] c W hm)
    rw [decide_eq_false hm]
    clear hm
    go_enter Tryz.func78, Tryz.ntmps78
    go_wp2_with (go_at_call 77; (refine (C _).out.mono ?_); rintro e w' ⟨i, rfl, hi, rfl⟩)
    all_goals go_ret
    all_goals refine ⟨ret_bool ?_, rfl⟩
    all_goals simp
    all_goals grind

def punct : List UInt8 := [33, 35, 36, 37, 38, 39, 42, 43, 45, 46, 94, 95, 96, 124, 126]
theorem keyB_mem (c : UInt8) : keyB c = ((decide (97 ≤ c.toNat) && decide (c.toNat ≤ 122)) || (decide (65 ≤ c.toNat) && decide (c.toNat ≤ 90)) || (decide (48 ≤ c.toNat) && decide (c.toNat ≤ 57)) || decide (c ∈ punct)) := by
  have : ∀ n : Fin 256, keyB (UInt8.ofNat n.val) = ((decide (97 ≤ (UInt8.ofNat n.val).toNat) && decide ((UInt8.ofNat n.val).toNat ≤ 122)) || (decide (65 ≤ (UInt8.ofNat n.val).toNat) && decide ((UInt8.ofNat n.val).toNat ≤ 90)) || (decide (48 ≤ (UInt8.ofNat n.val).toNat) && decide ((UInt8.ofNat n.val).toNat ≤ 57)) || decide (UInt8.ofNat n.val ∈ punct)) := by decide +kernel
  have h := this ⟨c.toNat, c.toNat_lt⟩
  simpa using h
theorem not_all_key {l : List UInt8} {k : Nat} (h : k < l.length) (h2 : keyB l[k] = false) : tok l = false := by
  unfold tok; rw [all_false keyB l k h h2]; simp

set_option maxHeartbeats 1000000 in
theorem token_any (l : List UInt8) (w : World) (hs : l.length ≤ 4611686018427387904) :
    Calls Tryz.prog 38 #[.string (bs l)] w fun e w' => e = .returned (.bool (tok l)) ∧ w = w' := by
  have HS := Lib.hid hs
  go_enter Tryz.func38, Tryz.ntmps38
  go_wp2
  go_loop [3, 4, 7] (fun _ _ i => ∃ k : Nat, k ≤ l.length ∧ i = .int .i64 k ∧ (l.take k).all keyB = true) (fun _ _ i => l.length - (intOf i).toNat)
  case atStart => exact ⟨0, Nat.zero_le _, rfl, by simp⟩
  case round =>
    obtain ⟨k, hk, rfl, hall⟩ := hrel
    have HA := Lib.hid hall; clear hall
    by_cases hlt : k < l.length
    · have hlt8 := l[k].toNat_lt
      by_cases hm : l[k] ∈ punct
      · have C := fun W => Lib.hid (indexByte_yes punct l[k] W hm)
        have hb : keyB l[k] = true := by rw [keyB_mem, decide_eq_true hm]; simp
        have HF := Lib.hid (all_take_succ keyB l k hlt HA.out hb)
        clear hb hm
        go_wp2_with (go_at_call 77; (refine (C _).out.mono ?_); rintro e w' ⟨i, rfl, hi, rfl⟩)
        all_goals exact ⟨⟨k + 1, by omega, by go_num, HF.out⟩, by simp [intOf]; omega⟩
      · have C := fun W => Lib.hid (indexByte_no punct l[k] W hm)
        cases hb : keyB l[k]
        · have HF := Lib.hid (not_all_key hlt hb)
          rw [keyB_mem, decide_eq_false hm] at hb
          simp only [Bool.or_false, Bool.or_eq_false_iff, Bool.and_eq_false_iff, decide_eq_false_iff_not] at hb
          obtain ⟨⟨h1, h2⟩, h3⟩ := hb
          clear hm
          go_wp2_with (go_at_call 77; (refine (C _).out.mono ?_); rintro e w' ⟨i, rfl, hi, rfl⟩)
          all_goals (first | (go_ret; exact ⟨ret_bool HF.out.symm, rfl⟩) | (exfalso; omega) | (exfalso; rename_i hx; simp at hx; omega))
        · have HF := Lib.hid (all_take_succ keyB l k hlt HA.out hb)
          rw [keyB_mem, decide_eq_false hm] at hb
          simp only [Bool.or_false, Bool.or_eq_true, Bool.and_eq_true, decide_eq_true_eq] at hb
          clear hm
          go_wp2_with (go_at_call 77; (refine (C _).out.mono ?_); rintro e w' ⟨i, rfl, hi, rfl⟩)
          all_goals (first | exact ⟨⟨k + 1, by omega, by go_num, HF.out⟩, by simp [intOf]; omega⟩ | (exfalso; omega) | (exfalso; rename_i hx; simp at hx; omega))
    · have HF := Lib.hid (show l.all keyB = true by have := HA.out; rwa [List.take_of_length_le (by omega)] at this)
      go_wp2
      go_ret
      refine ⟨ret_bool ?_, rfl⟩
      rw [tok, HF.out]
      cases l <;> rfl
end Go.Proofs.YtpgookhdffklkaaGreatDoor
