/-
  Package baggage: metadata that is the text of properties is checked and kept as it is.
  Package baggage: the text of a property is read as it.
  Package baggage: the properties of metadata; a member's properties.
  Package baggage: Member.Properties.
-/
import Derived.Test.YtpgookhdffklkaaGreatDoorMF
namespace Go.Proofs.YtpgookhdffklkaaGreatDoor
open Go.RowKit
set_option maxRecDepth 100000 in
set_option maxHeartbeats 2000000 in
theorem normMeta_any (l : List UInt8) (w : World) (hs : l.length ≤ 1000000) (h : MdT l) :
    Calls Tryz.prog 149 #[.string (bs l)] w fun e w' => e = .returned (.string (bs l)) ∧ Below w.heap.size w w' := by
  have hl : 0 < l.length := List.length_pos_iff.2 h.ne
  have hn0 : (l == []) = false := by
    cases l with
    | nil => exact absurd rfl h.ne
    | cons a t => rfl
  obtain ⟨n, hn⟩ : ∃ n, n = l.length - 1 := ⟨_, rfl⟩
  have hnl : n < l.length := by omega
  have hnl2 : (n : Int) < (l.length : Int) := by omega
  have hw : IntKind.i64.wrap ((l.length : Int) - 1) = (n : Int) := by rw [IntKind.wrap_i64]; omega
  have h0 : l[0] ≠ 59 := fun e => h.hd (by rw [List.head?_eq_getElem?, List.getElem?_eq_getElem hl, e])
  have h1 : l[n] ≠ 59 := fun e => h.lt (by rw [List.getLast?_eq_getElem?, ← hn, List.getElem?_eq_getElem hnl, e])
  have i0 : ¬ ((l[0].toNat : Int) = 59) := fun e => h0 (UInt8.toNat_inj.1 (by show _ = 59; omega))
  have i1 : ¬ ((l[n].toNat : Int) = 59) := fun e => h1 (UInt8.toNat_inj.1 (by show _ = 59; omega))
  have k0 : ((l[0].toNat : Int) != 59) = true := by simpa using i0
  have k1 : ((l[n].toNat : Int) != 59) = true := by simpa using i1
  have z59 : ∀ h, ((({ data := #[59] } : ByteArray)[0]'h).toNat) = 59 := fun _ => rfl
  have C := fun W => Lib.hid (zzContains_no l W (by omega) h.db)
  clear h h0 h1 hn
  go_enter Tryz.func149, Tryz.ntmps149
  go_wp2
  go_region_law (go_simp; go_at_call 212; (refine (C _).out.mono ?_); rintro e w1 ⟨rfl, rfl⟩)
  all_goals go_wp2
  all_goals go_ret
  all_goals exact ⟨rfl, ⟨rfl, rfl, rfl, by simp, fun i hi => rfl⟩⟩
/-- A piece that is read as a property. -/
def FieldsOk (t : List UInt8) : Prop := t ≠ [] ∧ ∀ W, Env W → Calls Tryz.prog 211 #[.string (bs t)] W fun e w' => (∃ (k v : List UInt8) (h : Bool), e = .returned (.tuple #[.agg #[.string (bs k), .string (bs v), .bool h], .bool true])) ∧ Below W.heap.size W w'
theorem fieldsOk (p : Pr) (h : OkT p) : FieldsOk (pText p) := by
  refine ⟨pText_ne h.tk, fun W hE => ?_⟩
  rw [pText_tok h.tk]
  split
  · exact (fields_val p.k p.v W hE h.tk h.lk h.lv).mono fun e w' ⟨he, hb⟩ => ⟨⟨_, _, _, he⟩, hb⟩
  · exact (fields_key p.k W hE h.tk (by have := h.lk; omega)).mono fun e w' ⟨he, hb⟩ => ⟨⟨_, _, _, he⟩, hb⟩
/-- The state of validateMetadata's loop. -/
structure VmSt (w : World) (l : List UInt8) (st en : Value) (wr : World) (a b : Nat) : Prop where
  hs : st = .int .i64 a
  he : en = .int .i64 b
  hb1 : b ≤ l.length + 1
  hin : b ≤ l.length → a ≤ b ∧ (∀ z (h : z < l.length), a ≤ z → z < b → l[z]'h ≠ 59) ∧ ∀ t ∈ splitC 59 (l.drop a), t ∈ splitC 59 l
  hb : Below w.heap.size w wr
theorem pos1_drop {l : List UInt8} {a b : Nat} (hab : a ≤ b) (hb : b < l.length) (h : ∀ z (h : z < l.length), a ≤ z → z < b → l[z]'h ≠ 59) (he : l[b] = 59) : pos1 59 (l.drop a) = some (b - a) := by
  have e : l.drop a = (l.drop a).take (b - a) ++ 59 :: l.drop (b + 1) := by
    have e1 : (l.drop a).drop (b - a) = 59 :: l.drop (b + 1) := by
      rw [List.drop_drop, show a + (b - a) = b by omega, List.drop_eq_getElem_cons hb, he]
    rw [← e1, List.take_append_drop]
  have hl : ((l.drop a).take (b - a)).length = b - a := by rw [List.length_take, List.length_drop]; omega
  rw [e, pos1_at (fun x hx => ?_), hl]
  obtain ⟨i, hi, rfl⟩ := List.mem_iff_getElem.1 hx
  rw [hl] at hi
  rw [List.getElem_take, List.getElem_drop]
  exact h (a + i) (by omega) (by omega) (by omega)
theorem pos1_drop_none {l : List UInt8} {a : Nat} (h : ∀ z (h : z < l.length), a ≤ z → z < l.length → l[z]'h ≠ 59) : pos1 59 (l.drop a) = none := by
  refine pos1_none fun x hx => ?_
  obtain ⟨i, hi, rfl⟩ := List.mem_iff_getElem.1 hx
  rw [List.length_drop] at hi
  rw [List.getElem_drop]
  exact h (a + i) (by omega) (by omega) (by omega)
theorem split_end {l : List UInt8} {a : Nat} (hc : ∀ z (h : z < l.length), a ≤ z → z < l.length → l[z]'h ≠ 59) : splitC 59 (l.drop a) = [l.drop a] := splitC_none (pos1_drop_none hc)
set_option maxRecDepth 100000 in
set_option maxHeartbeats 8000000 in
theorem validMeta_any (l : List UInt8) (w : World) (hE : Env w) (hs : l.length ≤ 1000000) (hf : ∀ t ∈ splitC 59 l, FieldsOk t) :
    Calls Tryz.prog 148 #[.string (bs l)] w fun e w' => e = .returned (.tuple #[.string ⟨#[]⟩, .bool true]) ∧ Below w.heap.size w w' := by
  have HE := Lib.hid hE
  have HF := Lib.hid hf
  have z59 : ∀ h, ((({ data := #[59] } : ByteArray)[0]'h).toNat) = 59 := fun _ => rfl
  clear hE hf
  go_enter Tryz.func148, Tryz.ntmps148
  go_wp2
  go_loopw [4, 5, 6, 7] (fun st en _ _ wr => ∃ a b : Nat, VmSt w l st en wr a b) (fun _ en _ _ _ => l.length + 1 - (intOf en).toNat)
  case atStart => exact ⟨0, 0, ⟨rfl, rfl, by omega, fun _ => ⟨Nat.le_refl _, fun z _ _ hz => absurd hz (Nat.not_lt_zero _), fun t ht => by simpa using ht⟩, Below.refl _ _⟩⟩
  case round =>
    obtain ⟨a, b, rfl, rfl, hb1, hin, hb⟩ := hrel
    have HB := Lib.hid hb
    have hge := hb.size
    clear hb
    by_cases hbl : b ≤ l.length
    · obtain ⟨hab, hno, hsp⟩ := hin hbl
      have HNo := Lib.hid hno
      have HSp := Lib.hid hsp
      clear hin hno hsp
      by_cases hbe : b = l.length
      · subst hbe
        have e1 := split_end (l := l) (a := a) HNo.out
        have hp := HF.out _ (HSp.out (l.drop a) (by rw [e1]; simp))
        have hne : a < l.length := by
          rcases Nat.lt_or_ge a l.length with h | h
          · exact h
          · exact absurd (List.drop_of_length_le h) hp.1
        have C := fun W h => Lib.hid (hp.2 W h)
        have hq1 : ((l.length : Int) != (l.length : Int)) = false := by simp
        have hq2 : ((a : Int) != (l.length : Int)) = true := by
          have : ¬ ((a : Int) = (l.length : Int)) := by omega
          simpa using this
        clear e1 hp
        go_wp2
        go_quiet (fail)
        go_wp2_with (go_at_call 211; go_loud ((with_reducible refine (C _ (HE.out.below (below_drewN HB.out _))).out.mono ?_)); rintro e w1 ⟨⟨k1, v1, h1, rfl⟩, hb1⟩; have HB1 := Lib.hid (HB.out.trans ((below_drewN (Below.refl _ _) _).trans (hb1.mono hge))); clear hb1)
        exact ⟨⟨l.length + 1, l.length + 1, ⟨by go_num, by go_num, Nat.le_refl _, fun h => absurd h (by omega), HB1.out.alloc HB1.out.size _⟩⟩, by simp [intOf]⟩
      · have hlt : b < l.length := by omega
        have hq1 : ((b : Int) != (l.length : Int)) = true := by
          have : ¬ ((b : Int) = (l.length : Int)) := by omega
          simpa using this
        by_cases h59 : l[b] = 59
        · have e1 := splitC_some (pos1_drop hab hlt HNo.out h59)
          have hp := HF.out _ (HSp.out ((l.drop a).take (b - a)) (by rw [e1]; simp))
          have hne : a < b := by
            rcases Nat.lt_or_ge a b with h | h
            · exact h
            · exact absurd (by rw [show b - a = 0 by omega]; rfl) hp.1
          have HS2 := Lib.hid (show ∀ t ∈ splitC 59 (l.drop (b + 1)), t ∈ splitC 59 l from fun t ht => HSp.out t (by
            rw [e1, List.drop_drop, show a + (b - a + 1) = b + 1 by omega]
            exact List.mem_cons_of_mem _ ht))
          have C := fun W h => Lib.hid (hp.2 W h)
          have hq2 : ((a : Int) != (b : Int)) = true := by
            have : ¬ ((a : Int) = (b : Int)) := by omega
            simpa using this
          have hq3 : ((l[b].toNat : Int) != 59) = false := by rw [h59]; rfl
          have hq4 : (l[b].toNat : Int) = 59 := by rw [h59]; rfl
          clear e1 hp h59
          go_wp2
          go_quiet (fail)
          go_wp2_with (go_at_call 211; go_loud ((with_reducible refine (C _ (HE.out.below (below_drewN HB.out _))).out.mono ?_)); rintro e w1 ⟨⟨k1, v1, h1, rfl⟩, hb1⟩; have HB1 := Lib.hid (HB.out.trans ((below_drewN (Below.refl _ _) _).trans (hb1.mono hge))); clear hb1)
          exact ⟨⟨b + 1, b + 1, ⟨by go_num, by go_num, by omega, fun _ => ⟨Nat.le_refl _, fun z _ h1 h2 => absurd h2 (by omega), HS2.out⟩, HB1.out.alloc HB1.out.size _⟩⟩, by simp [intOf]; omega⟩
        · have hq3 : ¬ ((l[b].toNat : Int) = 59) := fun e => h59 (UInt8.toNat_inj.1 (by show _ = 59; omega))
          have hq4 : ((l[b].toNat : Int) != 59) = true := by simpa using hq3
          have HN2 := Lib.hid (show ∀ z (h : z < l.length), a ≤ z → z < b + 1 → l[z]'h ≠ 59 from fun z h h1 h2 => by
            rcases Nat.lt_or_ge z b with h3 | h3
            · exact HNo.out z h h1 h3
            · have e : z = b := by omega
              subst e
              exact h59)
          clear h59
          go_wp2
          go_quiet (fail)
          go_wp2
          exact ⟨⟨a, b + 1, ⟨by go_num, by go_num, by omega, fun _ => ⟨by omega, HN2.out, HSp.out⟩, below_drewN HB.out _⟩⟩, by simp [intOf]; omega⟩
    · have hq : ¬ ((b : Int) ≤ (l.length : Int)) := by omega
      go_wp2
      go_ret2
      exact ⟨rfl, HB.out⟩
end Go.Proofs.YtpgookhdffklkaaGreatDoor

namespace Go.Proofs.YtpgookhdffklkaaGreatDoor
open Go.RowKit
set_option maxRecDepth 100000 in
set_option maxHeartbeats 4000000 in
theorem propInt_any (p : Pr) (h : OkT p) (w : World) (hE : Env w) :
    Calls Tryz.prog 246 #[.string (bs (pText p))] w fun e w' => e = .returned (.tuple #[.agg #[.string (bs p.k), .string (bs p.v), .bool p.has], .bool true]) ∧ Below w.heap.size w w' := by
  have HB0 := Lib.hid ((Below.refl w.heap.size w).alloc (Nat.le_refl _) (.cells #[.string ⟨#[]⟩, .string ⟨#[]⟩, .bool false] 148))
  have HK0 := Lib.hid (Blk.new w 148 #[.string ⟨#[]⟩, .string ⟨#[]⟩, .bool false])
  have HE := Lib.hid hE
  have ht := pText_tok h.tk
  obtain ⟨k, has, v⟩ := p
  have htk := h.tk
  have hvd := h.vd
  have hno := h.no
  have hlk := h.lk
  have hlv := h.lv
  dsimp only at *
  cases has
  · obtain rfl := hno rfl
    simp only [Bool.false_eq_true, if_false] at ht
    rw [ht]
    have C := fun W h => Lib.hid (fields_key k W h htk (by omega))
    clear ht hE h hno hvd htk
    go_enter Tryz.func246, Tryz.ntmps246
    go_wp2_with (go_at_call 211; (with_reducible refine (C _ (HE.out.below HB0.out)).out.mono ?_); rintro e w1 ⟨rfl, hb1⟩; have HK := Lib.hid (HK0.out.belowS hb1); have HB := Lib.hid (HB0.out.trans (hb1.mono HB0.out.size)); clear hb1; obtain ⟨c1, c2, c3, c4⟩ := HK.out.use)
    have hF := ((((HK.out.alloc (.cells #[.string (bs k), .string (bs []), .bool false] 270)).set_ 0 (.string (bs k))).set_ 0 (.string (bs k))).set_ 1 (.string ⟨#[]⟩)).set_ 2 (.bool false)
    have e0 := hF.cell 0
    have e1 := hF.cell 1
    have e2 := hF.cell 2
    simp at e0 e1 e2
    refine bodyPost_ret (v := .tuple #[.agg #[.string (bs k), .string (bs []), .bool false], .bool true]) (by simp [results, Tryz.results246, go_sem, e0, e1, e2]; rfl) rfl ⟨rfl, ?_⟩
    exact ((((HB.out.alloc HB.out.size _).setCell (by simp) _).setCell (by simp) _).setCell (by simp) _).setCell (by simp) _
  · simp only [if_true] at ht
    rw [ht]
    have C := fun W h => Lib.hid (fields_val k v W h htk hlk hlv)
    have C2 := fun W => Lib.hid (unescape_enc v W (by omega))
    have C3 := fun n W h => Lib.hid (replace_ok n v W h (by omega) hvd)
    clear ht hE h hno hvd htk
    go_enter Tryz.func246, Tryz.ntmps246
    go_wp2_with (first
      | (go_at_call 211; (with_reducible refine (C _ (HE.out.below HB0.out)).out.mono ?_); rintro e w1 ⟨rfl, hb1⟩; have HK := Lib.hid (HK0.out.belowS hb1); have HB := Lib.hid ((HB0.out.trans (hb1.mono HB0.out.size)).alloc (HB0.out.trans (hb1.mono HB0.out.size)).size (.cells #[.string (bs k), .string (bs (encL v)), .bool true] 270)); have HJ := Lib.hid (Blk.new w1 270 #[.string (bs k), .string (bs (encL v)), .bool true]); have HKa := Lib.hid (HK.out.alloc (.cells #[.string (bs k), .string (bs (encL v)), .bool true] 270)); clear hb1)
      | (go_at_call 127; (with_reducible refine (C2 _).out.mono ?_); rintro e w2 ⟨rfl, hb2⟩; have HK2 := Lib.hid (HKa.out.belowS hb2); have HJ2 := Lib.hid (HJ.out.belowS hb2); have HB2 := Lib.hid (HB.out.trans (hb2.mono HB.out.size)); clear hb2; obtain ⟨j1, j2, j3, j4⟩ := HJ2.out.use)
      | (go_at_call 151; (with_reducible refine (C3 _ _ (HE.out.below HB2.out)).out.mono ?_); rintro e w3 ⟨rfl, hb3⟩; have HK3 := Lib.hid (HK2.out.belowS hb3); have HJ3 := Lib.hid (HJ2.out.belowS hb3); have HB3 := Lib.hid (HB2.out.trans (hb3.mono HB2.out.size)); clear hb3; obtain ⟨c1, c2, c3, c4⟩ := HK3.out.use; obtain ⟨l1, l2, l3, l4⟩ := HJ3.out.use))
    have hF := (((((HK3.out.set_ 0 (.string (bs k))).set_ 2 (.bool true)).set_ 1 (.string (bs v))).set_ 0 (.string (bs k))).set_ 1 (.string (bs v))).set_ 2 (.bool true)
    have e0 := hF.cell 0
    have e1 := hF.cell 1
    have e2 := hF.cell 2
    simp at e0 e1 e2
    refine bodyPost_ret (v := .tuple #[.agg #[.string (bs k), .string (bs v), .bool true], .bool true]) (by simp [results, Tryz.results246, go_sem, e0, e1, e2]) rfl ⟨rfl, ?_⟩
    exact (((((HB3.out.setCell (by simp) _).setCell (by simp) _).setCell (by simp) _).setCell (by simp) _).setCell (by simp) _).setCell (by simp) _
set_option maxRecDepth 100000 in
set_option maxHeartbeats 4000000 in
theorem parseProp_any (p : Pr) (h : OkT p) (w : World) (hE : Env w) :
    Calls Tryz.prog 231 #[.string (bs (pText p))] w fun e w' => e = .returned (.tuple #[.agg #[.string (bs p.k), .string (bs p.v), .bool p.has], .nilIface]) ∧ Below w.heap.size w w' := by
  have HB0 := Lib.hid ((Below.refl w.heap.size w).alloc (Nat.le_refl _) (.cells #[.string ⟨#[]⟩, .string ⟨#[]⟩, .bool false] 148))
  have HK0 := Lib.hid (Blk.new w 148 #[.string ⟨#[]⟩, .string ⟨#[]⟩, .bool false])
  have HE := Lib.hid hE
  have hne : (pText p == []) = false := by
    have := pText_ne h.tk
    cases hh : pText p with
    | nil => exact absurd hh this
    | cons a t => rfl
  have C := fun W h1 => Lib.hid (propInt_any p h W h1)
  generalize pText p = T at *
  obtain ⟨k, has, v⟩ := p
  dsimp only at *
  clear hE h
  go_enter Tryz.func231, Tryz.ntmps231
  go_wp2_with (go_at_call 246; (with_reducible refine (C _ (HE.out.below HB0.out)).out.mono ?_); rintro e w1 ⟨rfl, hb1⟩; have HB := Lib.hid (HB0.out.trans (hb1.mono HB0.out.size)); have HK := Lib.hid (HK0.out.belowS hb1); clear hb1; obtain ⟨c1, c2, c3, c4⟩ := HK.out.use)
  have hF := (((HK.out.alloc (.cells #[.string (bs k), .string (bs v), .bool has] 148)).set_ 0 (.string (bs k))).set_ 1 (.string (bs v))).set_ 2 (.bool has)
  have e0 := hF.cell 0
  have e1 := hF.cell 1
  have e2 := hF.cell 2
  simp at e0 e1 e2
  refine bodyPost_ret (v := .tuple #[.agg #[.string (bs k), .string (bs v), .bool has], .nilIface]) (by simp [results, Tryz.results231, go_sem, e0, e1, e2]) rfl ⟨rfl, ?_⟩
  exact (((HB.out.alloc HB.out.size _).setCell (by simp) _).setCell (by simp) _).setCell (by simp) _
end Go.Proofs.YtpgookhdffklkaaGreatDoor

namespace Go.Proofs.YtpgookhdffklkaaGreatDoor
open Go.RowKit
set_option maxRecDepth 100000 in
set_option maxHeartbeats 4000000 in
theorem fromMeta_any (ps : List Pr) (h0 : ps ≠ []) (h : ∀ p ∈ ps, OkT p) (hn : ps.length ≤ 1000) (hl : (psText ps).length ≤ 1000000) (w : World) (hE : Env w) :
    Calls Tryz.prog 190 #[.string (bs (psText ps))] w fun e w' => ∃ v', e = .returned v' ∧ SlV w' 148 v' ps.length (ps.flatMap encB) ∧ Below w.heap.size w w' := by
  obtain ⟨hmd, hsp⟩ := psText_md h0 (fun p hp => (h p hp).tk)
  have hne : (psText ps == []) = false := by
    cases hh : psText ps with
    | nil => exact absurd hh hmd.ne
    | cons a t => rfl
  have C1 := fun W => Lib.hid (zzCount_one (psText ps) 59 W (by omega))
  have C2 := fun W => Lib.hid (zzSplit_any (psText ps) 59 W (by omega))
  rw [hsp] at C2
  have hcl := cnt_le 59 (psText ps)
  have HH := Lib.hid h
  have HE := Lib.hid hE
  have H0 := Lib.hid h0
  have hlm : (ps.map pText).length = ps.length := by simp
  rw [hlm] at C2
  clear hmd hsp h hE h0 hlm
  generalize psText ps = T at *
  generalize cnt 59 T = N at *
  go_enter Tryz.func190, Tryz.ntmps190
  go_wp2_with (first
    | (go_at_call 230; (refine (C1 _).out.mono ?_); rintro e w1 ⟨rfl, rfl⟩)
    | (at_make; refine mk_zero rfl (.const (.int .i64 0)) (.tmp 12) 84 rfl 148 _ 3 40 Tryz.underlying84 info148 (by decide) _ (N + 1) rfl rfl (by simp) (by omega) ?_; intro w1 hown1 hb1; have HO1 := Lib.hid hown1; have HB1 := Lib.hid hb1; clear hown1 hb1)
    | (go_at_call 94; (refine (C2 _).out.mono ?_); rintro e w2 ⟨v2, rfl, hown2, hb2⟩; have HO2 := Lib.hid (own_below HO1.out hb2); have HB2 := Lib.hid (HB1.out.trans (hb2.mono HB1.out.size)); have HS2 := Lib.hid (SlV.of_own hown2); have hb2z := hb2.size; obtain ⟨A2, q2, hq2⟩ := (SlV.of_own hown2).form; subst hq2; clear hown2 hb2))
  go_loopw [3, 5, 6, 7, 17] (fun sv _ _ _ i wr => ∃ j : Nat, j ≤ ps.length ∧ i = .int .i64 j ∧ wr.ownsRow w.heap.size 148 3 sv j ((ps.take j).flatMap encB) ∧ SlV wr 9 (.slice A2 ps.length q2) ps.length (strs (ps.map pText)) ∧ Below w.heap.size w wr) (fun _ _ _ _ i _ => ps.length - (intOf i).toNat)
  case atStart => exact ⟨0, Nat.zero_le _, rfl, HO2.out, HS2.out, HB2.out⟩
  case round =>
    obtain ⟨j, hj, rfl, hown, hbq, hb⟩ := hrel
    have HB := Lib.hid hb
    have HQ := Lib.hid hbq
    have HO := Lib.hid hown
    have hge := hb.size
    clear hb hown hbq
    by_cases hlt : j < ps.length
    · obtain ⟨b, off, c, hq, -, -, hbw, hc⟩ := HQ.out.cells (by intro e; have := congrArg List.length e; simp [strs] at this; rw [this] at hlt; simp at hlt)
      injection hq with hq1 hq2 hq3
      subst hq1; subst hq3
      clear hq2
      have i0 : wr.cell? ⟨b, off + j, none⟩ = some (.string (bs (pText (ps[j]'hlt)))) := hc j _ (by simp [strs, List.getElem?_eq_getElem hlt])
      have hp := HH.out _ (List.getElem_mem hlt)
      have CP := fun W h => Lib.hid (parseProp_any (ps[j]'hlt) hp W h)
      have HT := Lib.hid (show ps.take (j + 1) = ps.take j ++ [ps[j]'hlt] from List.take_succ_eq_append_getElem hlt)
      have hpe : (pText (ps[j]'hlt) == []) = false := by
        have := pText_ne hp.tk
        cases hh : pText (ps[j]'hlt) with
        | nil => exact absurd hh this
        | cons a t => rfl
      clear hc hp
      generalize ps[j]'hlt = p at i0 CP HT hpe
      generalize pText p = U at i0 CP hpe
      go_wp2_with (first
        | (go_at_call 231; (with_reducible refine (CP _ (HE.out.below HB.out)).out.mono ?_); rintro e w3 ⟨rfl, hb3⟩; have HO3 := Lib.hid ((own_below HO.out hb3).alloc (.cells #[.string (bs p.k), .string (bs p.v), .bool p.has] 148)); have HW3 := Lib.hid (hb3.alloc hb3.size (.cells #[.string (bs p.k), .string (bs p.v), .bool p.has] 148)); have HB3 := Lib.hid (HB.out.trans (HW3.out.mono hge)); have HQ3 := Lib.hid (HQ.out.below HW3.out); have hsz3 := HB3.out.size; clear hb3)
        | (at_builtin; refine app1g rfl (.tmp 30) (.tmp 32) 84 rfl w.heap.size 148 148 _ 3 40 Tryz.underlying84 info148 rfl (by decide) (by decide) u3 j _ rfl (encB p) HO3.out _ rfl rfl (fun u hu => encB_one [p] u (by simpa using hu)) (by omega) hsz3 (by simp) ?_; intro v4 w4 hown4 hg4 _))
      exact ⟨⟨j + 1, by omega, by go_num, own_cast hown4 rfl (by rw [HT.out, List.flatMap_append]; simp), HQ3.out.keeps (T := fun e => e ≠ 148) ((Keeps.refl _).grown (T := fun e => e ≠ 148) HO3.out hg4 (by simp)) (by decide), below_app HB3.out hsz3 HO3.out (Nat.le_refl _) hg4⟩, by simp [intOf]; omega⟩
    · obtain rfl : j = ps.length := by omega
      rw [List.take_of_length_le (Nat.le_refl _)] at HO
      go_wp2
      go_ret
      exact ⟨_, rfl, SlV.of_own HO.out, HB.out⟩
end Go.Proofs.YtpgookhdffklkaaGreatDoor

namespace Go.Proofs.YtpgookhdffklkaaGreatDoor
open Go.RowKit
/-- Which properties a member has: its own, or those of its metadata. -/
def HasPs (m : BM) (ps : List Pr) : Prop := (m.md = [] ∧ m.ps = ps ∧ ps.length ≤ 1000) ∨ (m.md = psText ps ∧ m.ps = [] ∧ ps ≠ [] ∧ (∀ p ∈ ps, OkT p) ∧ ps.length ≤ 1000 ∧ (psText ps).length ≤ 1000000)
theorem HasPs.len {m : BM} {ps : List Pr} (h : HasPs m ps) : ps.length ≤ 1000 := h.elim (fun h => h.2.2) (fun h => h.2.2.2.2.1)
set_option maxRecDepth 100000 in
set_option maxHeartbeats 2000000 in
theorem memProps_any (m : BM) (ps : List Pr) (h : HasPs m ps) (v : Value) (w : World) (hE : Env w) (hv : MvR w v m) :
    Calls Tryz.prog 141 #[v] w fun e w' => (∃ v', e = .returned v' ∧ SlV w' 148 v' ps.length (ps.flatMap encB)) ∧ Below w.heap.size w w' := by
  obtain ⟨pv, rfl, hs⟩ := hv
  obtain ⟨k, u, md, mps⟩ := m
  have HE := Lib.hid hE
  rcases h with ⟨h1, h2, h3⟩ | ⟨h1, h2, h0, h3, h4, h5⟩
  · dsimp only at h1 h2 hs ⊢
    subst h1 h2
    obtain ⟨A, q, hq⟩ := hs.form
    subst hq
    have HB0 := Lib.hid ((Below.refl w.heap.size w).alloc (Nat.le_refl _) (.cells #[.string (bs k), .string (bs u), .string (bs []), .slice A mps.length q, .bool true] 86))
    have C := Lib.hid (propsCopy_any mps (.slice A mps.length q) _ (hs.below HB0.out) (by omega))
    clear hs hE
    go_enter Tryz.func141, Tryz.ntmps141
    go_wp2_with (go_at_call 128; (with_reducible refine C.out.mono ?_); rintro e w1 ⟨v1, rfl, hs1, hb1⟩; have HS1 := Lib.hid hs1; have HB1 := Lib.hid (HB0.out.trans (hb1.mono HB0.out.size)); clear hs1 hb1)
    go_ret
    exact ⟨⟨_, rfl, HS1.out⟩, HB1.out⟩
  · dsimp only at h1 h2 hs ⊢
    subst h1 h2
    obtain ⟨A, q, hq⟩ := hs.form
    subst hq
    simp only [List.length_nil] at hs ⊢
    have hne : (psText ps == []) = false := by
      have hmd := (psText_md h0 (fun p hp => (h3 p hp).tk)).1
      cases hh : psText ps with
      | nil => exact absurd hh hmd.ne
      | cons a t => rfl
    have HB0 := Lib.hid ((Below.refl w.heap.size w).alloc (Nat.le_refl _) (.cells #[.string (bs k), .string (bs u), .string (bs (psText ps)), .slice A 0 q, .bool true] 86))
    have C := Lib.hid (fromMeta_any ps h0 h3 h4 h5 _ (hE.below HB0.out))
    clear hs hE h0 h3
    generalize psText ps = T at *
    go_enter Tryz.func141, Tryz.ntmps141
    go_wp2_with (go_at_call 190; (with_reducible refine C.out.mono ?_); rintro e w1 ⟨v1, rfl, hs1, hb1⟩; have HS1 := Lib.hid hs1; have HB1 := Lib.hid (HB0.out.trans (hb1.mono HB0.out.size)); clear hs1 hb1)
    go_ret
    exact ⟨⟨_, rfl, HS1.out⟩, HB1.out⟩
end Go.Proofs.YtpgookhdffklkaaGreatDoor
