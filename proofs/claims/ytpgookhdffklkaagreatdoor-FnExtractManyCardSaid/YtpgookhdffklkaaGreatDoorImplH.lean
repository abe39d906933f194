/-
  Package baggage: a part of a text read as a member.
-/
import Derived.Test.YtpgookhdffklkaaGreatDoorImplG
namespace Go.Proofs.YtpgookhdffklkaaGreatDoor
open Go.RowKit

theorem bytes_below (w : World) (e : TypeId) (s : ByteArray) : Below w.heap.size w (Lib.bytesWorld w e s) :=
  ⟨rfl, rfl, rfl, by rw [Lib.bytesWorld_size]; omega, fun i hi => Lib.bytesWorld_at_old w e s i hi⟩
/-- TrimSpace of a text without blanks at its ends. -/
theorem trim_none (l : List UInt8) (w : World) (hE : Env w) (hs : l.length ≤ 1000000) (h : ∀ c ∈ l, c.toNat < 128 ∧ Lib.isSp c = false) :
    Calls Tryz.prog 150 #[.string (bs l)] w fun e w' => e = .returned (.string (bs l)) ∧ Below w.heap.size w w' := by
  have := Tryz.strings_TrimSpace (bs l) w (by simp; omega) (fun j b hb => (h b (by
    have := List.mem_of_getElem? (l := (bs l).data.toList) hb
    simpa using this)).1) hE.asc
  refine this.mono fun e w' ⟨he, hw⟩ => ⟨?_, ?_⟩
  · rw [he]
    simp only [bs_toList]
    have : Lib.trimSpace l = l := by
      cases l with
      | nil => rfl
      | cons x t =>
        have hx : ∀ (i : Nat) (b : UInt8), (x :: t)[i]? = some b → Lib.isSp b = false := fun i b hb => (h b (List.mem_of_getElem? hb)).2
        rw [Lib.trimSpace_cut (x :: t) 0 t.length (Nat.zero_le _) (by simp) (fun j b hj => by omega) (hx 0) (hx t.length) (fun j b hj hb => by rw [List.getElem?_eq_none (by simp; omega)] at hb; cases hb)]
        simp
    rw [this]; rfl
  · rw [hw]
    exact bytes_below w _ _
theorem isSp_key {c : UInt8} (h : keyB c = true) : c.toNat < 128 ∧ Lib.isSp c = false := by
  refine ⟨keyN_lt h, ?_⟩
  have : ∀ n : Fin 256, keyB (UInt8.ofNat n.val) = true → Lib.isSp (UInt8.ofNat n.val) = false := by decide +kernel
  have z := this ⟨c.toNat, c.toNat_lt⟩
  simp only [UInt8.ofNat_toNat] at z
  exact z h
theorem isSp_val {c : UInt8} (h : valB c = true) : c.toNat < 128 ∧ Lib.isSp c = false := by
  refine ⟨valN_lt h, ?_⟩
  have : ∀ n : Fin 256, valB (UInt8.ofNat n.val) = true → Lib.isSp (UInt8.ofNat n.val) = false := by decide +kernel
  have z := this ⟨c.toNat, c.toNat_lt⟩
  simp only [UInt8.ofNat_toNat] at z
  exact z h
theorem trim_key (k : List UInt8) (w : World) (hE : Env w) (hs : k.length ≤ 1000000) (h : tok k = true) :
    Calls Tryz.prog 150 #[.string (bs k)] w fun e w' => e = .returned (.string (bs k)) ∧ Below w.heap.size w w' :=
  trim_none k w hE hs fun c hc => isSp_key (List.all_eq_true.1 (tok_all h) c hc)
theorem trim_val (v : List UInt8) (w : World) (hE : Env w) (hs : v.length ≤ 300000) :
    Calls Tryz.prog 150 #[.string (bs (encL v))] w fun e w' => e = .returned (.string (bs (encL v))) ∧ Below w.heap.size w w' :=
  trim_none _ w hE (by have h1 := encL_len v; have h2 := escN_le v; omega) fun c hc => isSp_val (List.all_eq_true.1 (val_of_enc v) c hc)

set_option maxHeartbeats 400000 in
theorem replace_ok (n : Int) (v : List UInt8) (w : World) (hE : Env w) (hs : v.length ≤ 1000000) (hv : Lib.validD v = true) :
    Calls Tryz.prog 151 #[.int .i64 n, .string (bs v)] w fun e w' => e = .returned (.string (bs v)) ∧ Below w.heap.size w w' := by
  have C := fun W h => Lib.hid (valid_true W h hs hv)
  have HE := Lib.hid hE
  clear hE hv
  go_enter Tryz.func151, Tryz.ntmps151
  go_wp2_with (go_at_call 74; (with_reducible refine (C _ HE.out).out.mono ?_); rintro e w1 ⟨rfl, hb1⟩)
  go_ret
  exact ⟨rfl, hb1⟩

/-! ### Where the signs stand -/
theorem pos1_none {c : UInt8} {l : List UInt8} (h : ∀ x ∈ l, x ≠ c) : pos1 c l = none := by
  induction l with
  | nil => rfl
  | cons x t ih =>
    simp only [pos1]
    rw [if_neg (h x (by simp)), ih (fun y hy => h y (by simp [hy]))]
    rfl
theorem pos1_at {c : UInt8} {a b : List UInt8} (h : ∀ x ∈ a, x ≠ c) : pos1 c (a ++ c :: b) = some a.length := by
  induction a with
  | nil => simp [pos1]
  | cons x t ih =>
    simp only [List.cons_append, pos1]
    rw [if_neg (h x (by simp)), ih (fun y hy => h y (by simp [hy]))]
    rfl
theorem key_ne {k : List UInt8} (h : tok k = true) : ∀ x ∈ k, x ≠ 61 ∧ x ≠ 59 ∧ x ≠ 44 := fun x hx => by
  have := List.all_eq_true.1 (tok_all h) x hx
  refine ⟨?_, ?_, ?_⟩ <;> (rintro rfl; revert this; decide)
theorem val_ne (v : List UInt8) : ∀ x ∈ encL v, x ≠ 59 ∧ x ≠ 44 := fun x hx => by
  have := List.all_eq_true.1 (val_of_enc v) x hx
  refine ⟨?_, ?_⟩ <;> (rintro rfl; revert this; decide)

set_option maxRecDepth 100000 in
set_option maxHeartbeats 4000000 in
theorem parse_plain (k v : List UInt8) (w : World) (hE : Env w) (hk : tok k = true) (hv : Lib.validD v = true) (hlk : k.length ≤ 300000) (hlv : v.length ≤ 300000) :
    Calls Tryz.prog 95 #[.string (bs (k ++ 61 :: encL v))] w fun e w' => ∃ mv, e = .returned (.tuple #[mv, .nilIface]) ∧ MvR w' mv ⟨k, v, [], []⟩ ∧ Below w.heap.size w w' := by
  have h1 := encL_len v
  have h2 := escN_le v
  have hle : (encL v).length ≤ 900000 := by omega
  have hlen : (k ++ 61 :: encL v).length ≤ 4294967296 := by simp; omega
  have C1 := fun W => Lib.hid (zzCut_none (k ++ 61 :: encL v) 59 W hlen (pos1_none (fun x hx => by
    simp only [List.mem_append, List.mem_cons] at hx
    rcases hx with hx | rfl | hx
    · exact (key_ne hk x hx).2.1
    · decide
    · exact (val_ne v x hx).1)))
  have C2 := fun W => Lib.hid (zzCut_some (k ++ 61 :: encL v) 61 W hlen k.length (pos1_at (fun x hx => (key_ne hk x hx).1)))
  have e1 : (k ++ 61 :: encL v).take k.length = k := by simp
  have e2 : (k ++ 61 :: encL v).drop (k.length + 1) = encL v := by
    rw [List.drop_append, List.drop_of_length_le (by omega)]; simp
  rw [e1, e2] at C2
  have C3 := fun W h => Lib.hid (trim_key k W h (by omega) hk)
  have C4 := fun W h => Lib.hid (validateKey_any k W h)
  rw [hk] at C4
  have C5 := fun W h => Lib.hid (trim_val v W h hlv)
  have C6 := fun W h => Lib.hid (validateValue_any (encL v) W h)
  rw [val_of_enc] at C6
  have C7 := fun W => Lib.hid (unescape_enc v W (by omega))
  have C8 := fun n W h => Lib.hid (replace_ok n v W h (by omega) hv)
  have HE := Lib.hid hE
  have HB := Lib.hid ((Below.refl w.heap.size w).alloc (Nat.le_refl _) (.cells #[.string ⟨#[]⟩, .string ⟨#[]⟩, .string ⟨#[]⟩, .slice none 0 0, .bool false] 86))
  have HK := Lib.hid (Blk.new w 86 #[.string ⟨#[]⟩, .string ⟨#[]⟩, .string ⟨#[]⟩, .slice none 0 0, .bool false])
  clear h1 h2 e1 e2 hE hk hv
  generalize k ++ 61 :: encL v = P at *
  generalize encL v = E at *
  go_enter Tryz.func95, Tryz.ntmps95
  go_wp2_with (first
    | (go_at_call 147; (refine (C1 _).out.mono ?_); rintro e w1 ⟨rfl, hb1⟩; have HB := Lib.hid (HB.out.trans (hb1.mono HB.out.size)); have HK := Lib.hid (HK.out.belowS hb1); clear hb1 C1)
    | (go_at_call 147; (refine (C2 _).out.mono ?_); rintro e w1 ⟨rfl, hb1⟩; have HB := Lib.hid (HB.out.trans (hb1.mono HB.out.size)); have HK := Lib.hid (HK.out.belowS hb1); clear hb1)
    | (go_at_call 150; (with_reducible refine (C3 _ (HE.out.below HB.out)).out.mono ?_); rintro e w1 ⟨rfl, hb1⟩; have HB := Lib.hid (HB.out.trans (hb1.mono HB.out.size)); have HK := Lib.hid (HK.out.belowS hb1); clear hb1)
    | (go_at_call 124; (with_reducible refine (C4 _ (HE.out.below HB.out)).out.mono ?_); rintro e w1 ⟨rfl, hb1⟩; have HB := Lib.hid (HB.out.trans (hb1.mono HB.out.size)); have HK := Lib.hid (HK.out.belowS hb1); clear hb1)
    | (go_at_call 150; (with_reducible refine (C5 _ (HE.out.below HB.out)).out.mono ?_); rintro e w1 ⟨rfl, hb1⟩; have HB := Lib.hid (HB.out.trans (hb1.mono HB.out.size)); have HK := Lib.hid (HK.out.belowS hb1); clear hb1)
    | (go_at_call 126; (with_reducible refine (C6 _ (HE.out.below HB.out)).out.mono ?_); rintro e w1 ⟨rfl, hb1⟩; have HB := Lib.hid (HB.out.trans (hb1.mono HB.out.size)); have HK := Lib.hid (HK.out.belowS hb1); clear hb1)
    | (go_at_call 127; (with_reducible refine (C7 _).out.mono ?_); rintro e w1 ⟨rfl, hb1⟩; have HB := Lib.hid (HB.out.trans (hb1.mono HB.out.size)); have HK := Lib.hid (HK.out.belowS hb1); clear hb1)
    | (go_at_call 151; (with_reducible refine (C8 _ _ (HE.out.below HB.out)).out.mono ?_); rintro e w1 ⟨rfl, hb1⟩; have HB := Lib.hid (HB.out.trans (hb1.mono HB.out.size)); have HK := Lib.hid (HK.out.belowS hb1); clear hb1; obtain ⟨c1, c2, c3, c4⟩ := HK.out.use))
  obtain ⟨hF, hFb, hFk⟩ := sets5 HK.out (.string (bs k)) (.string (bs v)) (.string ⟨#[]⟩) (.slice none 0 0) (.bool true)
  have e0 := hF.cell 0
  have e1 := hF.cell 1
  have e2 := hF.cell 2
  have e3 := hF.cell 3
  have e4 := hF.cell 4
  simp at e0 e1 e2 e3 e4
  refine bodyPost_ret (v := .tuple #[.agg #[.string (bs k), .string (bs v), .string ⟨#[]⟩, .slice none 0 0, .bool true], .nilIface]) (by simp [results, Tryz.results95, go_sem, e0, e1, e2, e3, e4]) rfl ⟨_, rfl, ⟨_, rfl, SlV.nil _ _⟩, hFb _ _ HB.out (Nat.le_refl _)⟩
end Go.Proofs.YtpgookhdffklkaaGreatDoor
