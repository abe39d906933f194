/-
  The texts of properties and members by the reference: token, octet, encoded, made, PropertyText.
  The reference's encoded, made, MakeProperty, PropertyText.
-/
import Derived.Test.YtpgookhdffklkaaGreatDoorMA
import Derived.Test.YtpgookhdffklkaaGreatDoorZShelf
namespace Go.Proofs.YtpgookhdffklkaaGreatDoor
open Go.RowKit
/-- IndexByte, asked whether the byte is there. -/
theorem indexByte_mem (l : List UInt8) (c : UInt8) : (c ∈ l → 0 ≤ Lib.indexByte l c) ∧ (c ∉ l → Lib.indexByte l c = -1) := by
  induction l with
  | nil => simp [Lib.indexByte]
  | cons b t ih =>
    simp only [Lib.indexByte]
    by_cases hb : b = c
    · subst hb; simp
    · have hb' : (b == c) = false := by simpa using hb
      simp only [hb', Bool.false_eq_true, if_false]
      constructor
      · intro hm
        have hm' : c ∈ t := by
          rcases List.mem_cons.1 hm with h | h
          · exact absurd h.symm hb
          · exact h
        have h0 := ih.1 hm'
        rw [if_neg (by simp; omega)]
        omega
      · intro hm
        have := ih.2 (fun h => hm (List.mem_cons_of_mem _ h))
        rw [this]; rfl
theorem indexByte_yes (l : List UInt8) (c : UInt8) (w : World) (h : c ∈ l) :
    Calls Tryz.prog 77 #[.string (bs l), .int .u8 c.toNat] w fun e w' => ∃ i : Int, e = .returned (.int .i64 i) ∧ 0 ≤ i ∧ w = w' := by
  refine (Tryz.strings_IndexByte (bs l) (c.toNat : Int) w).mono fun e w' ⟨he, hw⟩ => ⟨_, he, ?_, hw.symm⟩
  simpa using (indexByte_mem l c).1 h
theorem indexByte_no (l : List UInt8) (c : UInt8) (w : World) (h : c ∉ l) :
    Calls Tryz.prog 77 #[.string (bs l), .int .u8 c.toNat] w fun e w' => ∃ i : Int, e = .returned (.int .i64 i) ∧ i < 0 ∧ w = w' := by
  refine (Tryz.strings_IndexByte (bs l) (c.toNat : Int) w).mono fun e w' ⟨he, hw⟩ => ⟨_, he, ?_, hw.symm⟩
  have := (indexByte_mem l c).2 h
  simp only [bs_toList, Int.toNat_natCast, Nat.toUInt8_eq, UInt8.ofNat_toNat]
  omega
theorem valB_mem (c : UInt8) : valB c = (decide (32 < c.toNat) && decide (c.toNat < 127) && !decide (c ∈ ([34, 44, 59, 92] : List UInt8))) := by
  have : ∀ n : Fin 256, valB (UInt8.ofNat n.val) = (decide (32 < (UInt8.ofNat n.val).toNat) && decide ((UInt8.ofNat n.val).toNat < 127) && !decide (UInt8.ofNat n.val ∈ ([34, 44, 59, 92] : List UInt8))) := by decide +kernel
  have h := this ⟨c.toNat, c.toNat_lt⟩
  simpa using h
set_option maxRecDepth 100000 in
set_option maxHeartbeats 400000 in
theorem octet_any (c : UInt8) (w : World) :
    Calls Tryz.prog 78 #[.int .u8 c.toNat] w fun e w' => e = .returned (.bool (valB c)) ∧ w = w' := by
  have hlt := c.toNat_lt
  rw [valB_mem]
  by_cases hm : c ∈ ([34, 44, 59, 92] : List UInt8)
  · have C := fun W => Lib.hid (indexByte_yes [34, 44, 59, 92] c W hm)
    rw [decide_eq_true hm]
    clear hm
    go_enter Tryz.func78, Tryz.ntmps78
    go_wp2_with (go_at_call 77; (refine (C _).out.mono ?_); rintro e w' ⟨i, rfl, hi, rfl⟩)
    all_goals go_ret
    all_goals refine ⟨ret_bool ?_, rfl⟩
    all_goals simp
    all_goals omega
  · have C := fun W => Lib.hid (indexByte_no [34, 44, 59, 92] c W hm)
    rw [decide_eq_false hm]
    clear hm
    go_enter Tryz.func78, Tryz.ntmps78
    go_wp2_with (go_at_call 77; (refine (C _).out.mono ?_); rintro e w' ⟨i, rfl, hi, rfl⟩)
    all_goals go_ret
    all_goals refine ⟨ret_bool ?_, rfl⟩
    all_goals simp
    all_goals grind
def punct : List UInt8 := [33, 35, 36, 37, 38, 39, 42, 43, 45, 46, 94, 95, 96, 124, 126]
theorem keyB_mem (c : UInt8) : keyB c = ((decide (97 ≤ c.toNat) && decide (c.toNat ≤ 122)) || (decide (65 ≤ c.toNat) && decide (c.toNat ≤ 90)) || (decide (48 ≤ c.toNat) && decide (c.toNat ≤ 57)) || decide (c ∈ punct)) := by
  have : ∀ n : Fin 256, keyB (UInt8.ofNat n.val) = ((decide (97 ≤ (UInt8.ofNat n.val).toNat) && decide ((UInt8.ofNat n.val).toNat ≤ 122)) || (decide (65 ≤ (UInt8.ofNat n.val).toNat) && decide ((UInt8.ofNat n.val).toNat ≤ 90)) || (decide (48 ≤ (UInt8.ofNat n.val).toNat) && decide ((UInt8.ofNat n.val).toNat ≤ 57)) || decide (UInt8.ofNat n.val ∈ punct)) := by decide +kernel
  have h := this ⟨c.toNat, c.toNat_lt⟩
  simpa using h
theorem not_all_key {l : List UInt8} {k : Nat} (h : k < l.length) (h2 : keyB l[k] = false) : tok l = false := by
  unfold tok; rw [all_false keyB l k h h2]; simp
set_option maxHeartbeats 1000000 in
theorem token_any (l : List UInt8) (w : World) (hs : l.length ≤ 4611686018427387904) :
    Calls Tryz.prog 38 #[.string (bs l)] w fun e w' => e = .returned (.bool (tok l)) ∧ w = w' := by
  have HS := Lib.hid hs
  go_enter Tryz.func38, Tryz.ntmps38
  go_wp2
  go_loop [3, 4, 7] (fun _ _ i => ∃ k : Nat, k ≤ l.length ∧ i = .int .i64 k ∧ (l.take k).all keyB = true) (fun _ _ i => l.length - (intOf i).toNat)
  case atStart => exact ⟨0, Nat.zero_le _, rfl, by simp⟩
  case round =>
    obtain ⟨k, hk, rfl, hall⟩ := hrel
    have HA := Lib.hid hall; clear hall
    by_cases hlt : k < l.length
    · have hlt8 := l[k].toNat_lt
      by_cases hm : l[k] ∈ punct
      · have C := fun W => Lib.hid (indexByte_yes punct l[k] W hm)
        have hb : keyB l[k] = true := by rw [keyB_mem, decide_eq_true hm]; simp
        have HF := Lib.hid (all_take_succ keyB l k hlt HA.out hb)
        clear hb hm
        go_wp2_with (go_at_call 77; (refine (C _).out.mono ?_); rintro e w' ⟨i, rfl, hi, rfl⟩)
        all_goals exact ⟨⟨k + 1, by omega, by go_num, HF.out⟩, by simp [intOf]; omega⟩
      · have C := fun W => Lib.hid (indexByte_no punct l[k] W hm)
        cases hb : keyB l[k]
        · have HF := Lib.hid (not_all_key hlt hb)
          rw [keyB_mem, decide_eq_false hm] at hb
          simp only [Bool.or_false, Bool.or_eq_false_iff, Bool.and_eq_false_iff, decide_eq_false_iff_not] at hb
          obtain ⟨⟨h1, h2⟩, h3⟩ := hb
          clear hm
          go_wp2_with (go_at_call 77; (refine (C _).out.mono ?_); rintro e w' ⟨i, rfl, hi, rfl⟩)
          all_goals (first | (go_ret; exact ⟨ret_bool HF.out.symm, rfl⟩) | (exfalso; omega) | (exfalso; rename_i hx; simp at hx; omega))
        · have HF := Lib.hid (all_take_succ keyB l k hlt HA.out hb)
          rw [keyB_mem, decide_eq_false hm] at hb
          simp only [Bool.or_false, Bool.or_eq_true, Bool.and_eq_true, decide_eq_true_eq] at hb
          clear hm
          go_wp2_with (go_at_call 77; (refine (C _).out.mono ?_); rintro e w' ⟨i, rfl, hi, rfl⟩)
          all_goals (first | exact ⟨⟨k + 1, by omega, by go_num, HF.out⟩, by simp [intOf]; omega⟩ | (exfalso; omega) | (exfalso; rename_i hx; simp at hx; omega))
    · have HF := Lib.hid (show l.all keyB = true by have := HA.out; rwa [List.take_of_length_le (by omega)] at this)
      go_wp2
      go_ret
      refine ⟨ret_bool ?_, rfl⟩
      rw [tok, HF.out]
      cases l <;> rfl
end Go.Proofs.YtpgookhdffklkaaGreatDoor

namespace Go.Proofs.YtpgookhdffklkaaGreatDoor
open Go.RowKit
theorem n37 : (((37 : UInt8).toNat : Nat) : Int) = 37 := rfl
theorem and15 (n : Nat) (h : n < 256) : bits BinOp.and IntKind.u8 (n : Int) 15 = (n : Int) % 16 := by
  have : ∀ m : Fin 256, bits BinOp.and IntKind.u8 (m.val : Int) 15 = (m.val : Int) % 16 := by decide +kernel
  exact this ⟨n, h⟩
theorem conv_lit {w : World} {g : Nat} {T : TypeId} (l : List UInt8) (n : Nat) (hn : n = l.length) (h : Blk w g T (byts l).toArray) :
    (convert 131 9 (.slice (some ⟨g, 0, none⟩) n n)).run Tryz.prog w = .ok (.string (bs l)) w := by
  subst hn
  have := run_convert_bytes_arg (P := Tryz.prog) w 131 5 Tryz.underlying131 Tryz.underlying5 g 0 l.length l.length (l.map fun c => (c.toNat : Int)) (by simp) (fun i hi => by
    rw [Nat.zero_add, h.cell i]
    simp [byts, List.getD, hi]) 9 Tryz.underlying9
  rwa [strOfNums_bs] at this
set_option maxRecDepth 100000 in
set_option maxHeartbeats 1000000 in
theorem encoded_any (l : List UInt8) (w : World) (hs : l.length ≤ 1000000) :
    Calls Tryz.prog 39 #[.string (bs l)] w fun e w' => e = .returned (.string (bs (encL l))) ∧ Below w.heap.size w w' := by
  go_enter Tryz.func39, Tryz.ntmps39
  go_wp2
  go_loopw [3, 4, 5, 8] (fun o _ _ i wr => ∃ k : Nat, k ≤ l.length ∧ i = .int .i64 k ∧ o = .string (bs (encL (l.take k))) ∧ Below w.heap.size w wr) (fun _ _ _ i _ => l.length - (intOf i).toNat)
  case atStart => exact ⟨0, Nat.zero_le _, rfl, rfl, Below.refl _ _⟩
  case round =>
    obtain ⟨k, hk, rfl, rfl, hb⟩ := hrel
    have HB := Lib.hid hb; clear hb
    by_cases hlt : k < l.length
    · have hlt8 := l[k].toNat_lt
      have hle : (encL (l.take k)).length ≤ 3000000 := by have := encL_len (l.take k); have := escN_le (l.take k); rw [List.length_take] at *; omega
      have HS := Lib.hid (encL_snoc l k hlt)
      have C := fun W => Lib.hid (octet_any l[k] W)
      cases hb : escB l[k]
      · have h37 := esc_37 hb
        have hv : valB l[k] = true := by simp [escB] at hb; exact hb.2
        have he1 := Lib.hid (show enc1 l[k] = [l[k]] by simp [enc1, hb])
        rw [hv] at C
        clear hb hv
        have hcv := conv_lit (w := wr.alloc (.cells (byts [l[k]]).toArray 5)) (g := wr.heap.size) (T := 5) [l[k]] 1 rfl (Blk.new _ _ _)
        simp only [byts, List.map_cons, List.map_nil] at hcv
        go_wp2_with (go_at_call 78; (refine (C _).out.mono ?_); rintro e w' ⟨rfl, rfl⟩)
        exact ⟨⟨k + 1, by omega, by go_num, by rw [HS.out, he1.out], HB.out.alloc HB.out.size _⟩, by simp [intOf]; omega⟩
      · have he1 := Lib.hid (show enc1 l[k] = [37, hexD (l[k].toNat / 16), hexD (l[k].toNat % 16)] by simp [enc1, hb])
        have hcv := conv_lit (w := (wr.alloc (.cells (byts [37, hexD (l[k].toNat / 16), hexD (l[k].toNat % 16)]).toArray 5)).drew) (g := wr.heap.size) (T := 5) [37, hexD (l[k].toNat / 16), hexD (l[k].toNat % 16)] 3 rfl ((Blk.new _ _ _).drew)
        simp only [byts, List.map_cons, List.map_nil, n37] at hcv
        have hx1 := hexAt (l[k].toNat / 16) (by omega) (by show _ < 16; omega)
        have hx2 := hexAt (l[k].toNat % 16) (by omega) (by show _ < 16; omega)
        have h15 := and15 l[k].toNat hlt8
        have hq5 : ((l[k].toNat : Int) % 16).toNat = l[k].toNat % 16 := by omega
        have hq6 : ((l[k].toNat : Int) / 16).toNat = l[k].toNat / 16 := by omega
        have hq1 : (0 : Int) ≤ (l[k].toNat : Int) / 16 := by omega
        have hq2 : (l[k].toNat : Int) / 16 < 16 := by omega
        have hq3 : (0 : Int) ≤ (l[k].toNat : Int) % 16 := by omega
        have hq4 : (l[k].toNat : Int) % 16 < 16 := by omega
        cases hv : valB l[k]
        · rw [hv] at C
          clear hb hv
          go_wp2_with (go_at_call 78; (refine (C _).out.mono ?_); rintro e w' ⟨rfl, rfl⟩)
          go_region
          all_goals go_wp2
          all_goals exact ⟨⟨k + 1, by omega, by go_num, by rw [HS.out, he1.out], (HB.out.alloc HB.out.size _).drew⟩, by simp [intOf]; omega⟩
        · have h37 : ((l[k].toNat : Int) != 37) = false := by
            simp [escB, hv] at hb; simp [hb]
          rw [hv] at C
          clear hb hv
          go_wp2_with (go_at_call 78; (refine (C _).out.mono ?_); rintro e w' ⟨rfl, rfl⟩)
          go_region
          all_goals go_wp2
          all_goals exact ⟨⟨k + 1, by omega, by go_num, by rw [HS.out, he1.out], (HB.out.alloc HB.out.size _).drew⟩, by simp [intOf]; omega⟩
    · have e : k = l.length := by omega
      subst e
      have HZ := Lib.hid (show encL (l.take l.length) = encL l by rw [List.take_of_length_le (Nat.le_refl _)])
      go_wp2
      go_ret
      exact ⟨ret_str HZ.out, HB.out⟩
theorem valid_any (l : List UInt8) (w : World) (hE : Env w) (hs : l.length ≤ 1000000) :
    Calls Tryz.prog 74 #[.string (bs l)] w fun e w' => e = .returned (.bool (Lib.validD l)) ∧ Below w.heap.size w w' := by
  have := Tryz.utf8_ValidString (bs l) w (by simp; omega) hE.utf
  simpa using this
/-- Whether a key and a value may be made into a member or a property. -/
def okB (k v : List UInt8) : Bool := !k.isEmpty && Lib.validD k && Lib.validD v
set_option maxRecDepth 100000 in
set_option maxHeartbeats 1000000 in
theorem made_raw (k v : List UInt8) (w : World) (hE : Env w) (hk : k.length ≤ 1000000) (hv : v.length ≤ 1000000) :
    Calls Tryz.prog 36 #[.int .u8 0, .string (bs k), .string (bs v)] w fun e w' => e = .returned (.tuple #[.string (bs v), .bool (okB k v)]) ∧ Below w.heap.size w w' := by
  have C1 := fun W h => Lib.hid (valid_any k W h hk)
  have C2 := fun W h => Lib.hid (valid_any v W h hv)
  have HE := Lib.hid hE
  by_cases h0 : k = []
  · subst h0
    clear hE
    go_enter Tryz.func36, Tryz.ntmps36
    go_wp2
    go_ret2
    exact ⟨rfl, Below.refl _ _⟩
  · have hd : (k == []) = false := by simpa using h0
    have he : k.isEmpty = false := by simpa using h0
    have HD := Lib.hid (show okB k v = (Lib.validD k && Lib.validD v) by unfold okB; rw [he]; rfl)
    clear hE h0 he
    cases hvk : Lib.validD k
    · rw [hvk] at C1 HD
      clear hvk
      go_enter Tryz.func36, Tryz.ntmps36
      go_wp2_with (go_at_call 74; (with_reducible refine (C1 _ HE.out).out.mono ?_); rintro e w1 ⟨rfl, hb1⟩)
      go_ret2
      exact ⟨by rw [HD.out]; rfl, hb1⟩
    · rw [hvk] at C1 HD
      clear hvk
      go_enter Tryz.func36, Tryz.ntmps36
      go_wp2_with (first | (go_at_call 74; (with_reducible refine (C1 _ HE.out).out.mono ?_); rintro e w1 ⟨rfl, hb1⟩; have HB1 := Lib.hid hb1; clear hb1) | (go_at_call 74; (with_reducible refine (C2 _ (HE.out.below HB1.out)).out.mono ?_); rintro e w2 ⟨rfl, hb2⟩))
      go_ret2
      exact ⟨by rw [HD.out]; rfl, HB1.out.trans (hb2.mono HB1.out.size)⟩
end Go.Proofs.YtpgookhdffklkaaGreatDoor
