/-
  Package baggage: a text with properties read as a member.
  impl: ParseBaggage of the text of members with properties.
-/
import Derived.Test.YtpgookhdffklkaaGreatDoorMI
import Derived.Test.YtpgookhdffklkaaGreatDoorZParG
namespace Go.Proofs.YtpgookhdffklkaaGreatDoor
open Go.RowKit
set_option maxRecDepth 100000 in
set_option maxHeartbeats 8000000 in
theorem parse_md (k v : List UInt8) (ps : List Pr) (w : World) (hE : Env w) (hk : tok k = true) (hv : Lib.validD v = true) (hlk : k.length ≤ 300000) (hlv : v.length ≤ 300000) (h0 : ps ≠ []) (hps : ∀ p ∈ ps, OkT p) (hl : (psText ps).length ≤ 1000000) :
    Calls Tryz.prog 95 #[.string (bs ((k ++ 61 :: encL v) ++ 59 :: psText ps))] w fun e w' => ∃ mv, e = .returned (.tuple #[mv, .nilIface]) ∧ MvR w' mv ⟨k, v, psText ps, []⟩ ∧ Below w.heap.size w w' := by
  have h1 := encL_len v
  have h2 := escN_le v
  have hle : (encL v).length ≤ 900000 := by omega
  obtain ⟨hmd, hsp⟩ := psText_md h0 (fun p hp => (hps p hp).tk)
  have hlen : ((k ++ 61 :: encL v) ++ 59 :: psText ps).length ≤ 4294967296 := by simp; omega
  have hlen2 : (k ++ 61 :: encL v).length ≤ 4294967296 := by simp; omega
  have C1 := fun W => Lib.hid (zzCut_some ((k ++ 61 :: encL v) ++ 59 :: psText ps) 59 W hlen (k ++ 61 :: encL v).length (pos1_at (fun x hx => by
    simp only [List.mem_append, List.mem_cons] at hx
    rcases hx with hx | rfl | hx
    · exact (key_ne hk x hx).2.1
    · decide
    · exact (val_ne v x hx).1)))
  have a1 : ((k ++ 61 :: encL v) ++ 59 :: psText ps).take (k ++ 61 :: encL v).length = k ++ 61 :: encL v := List.take_left' rfl
  have a2 : ((k ++ 61 :: encL v) ++ 59 :: psText ps).drop ((k ++ 61 :: encL v).length + 1) = psText ps := by
    rw [List.drop_append, List.drop_of_length_le (by omega)]; simp
  rw [a1, a2] at C1
  have C2 := fun W => Lib.hid (zzCut_some (k ++ 61 :: encL v) 61 W hlen2 k.length (pos1_at (fun x hx => (key_ne hk x hx).1)))
  have e1 : (k ++ 61 :: encL v).take k.length = k := by simp
  have e2 : (k ++ 61 :: encL v).drop (k.length + 1) = encL v := by
    rw [List.drop_append, List.drop_of_length_le (by omega)]; simp
  rw [e1, e2] at C2
  have C3 := fun W h => Lib.hid (trim_key k W h (by omega) hk)
  have C4 := fun W h => Lib.hid (validateKey_any k W h)
  rw [hk] at C4
  have C5 := fun W h => Lib.hid (trim_val v W h hlv)
  have C6 := fun W h => Lib.hid (validateValue_any (encL v) W h)
  rw [val_of_enc] at C6
  have C7 := fun W => Lib.hid (unescape_enc v W (by omega))
  have C8 := fun n W h => Lib.hid (replace_ok n v W h (by omega) hv)
  have C9 := fun W h => Lib.hid (validMeta_any (psText ps) W h hl (fun t ht => by
    rw [hsp] at ht
    obtain ⟨p, hp, rfl⟩ := List.mem_map.1 ht
    exact fieldsOk p (hps p hp)))
  have C10 := fun W => Lib.hid (normMeta_any (psText ps) W hl hmd)
  have HE := Lib.hid hE
  have HB := Lib.hid ((Below.refl w.heap.size w).alloc (Nat.le_refl _) (.cells #[.string ⟨#[]⟩, .string ⟨#[]⟩, .string ⟨#[]⟩, .slice none 0 0, .bool false] 86))
  have HK := Lib.hid (Blk.new w 86 #[.string ⟨#[]⟩, .string ⟨#[]⟩, .string ⟨#[]⟩, .slice none 0 0, .bool false])
  clear h1 h2 e1 e2 a1 a2 hE hk hv hmd hsp hps h0
  generalize psText ps = T at *
  generalize (k ++ 61 :: encL v) ++ 59 :: T = P at *
  generalize k ++ 61 :: encL v = KV at *
  generalize encL v = E at *
  go_enter Tryz.func95, Tryz.ntmps95
  go_wp2_with (first
    | (go_at_call 147; (refine (C1 _).out.mono ?_); rintro e w1 ⟨rfl, hb1⟩; have HB := Lib.hid (HB.out.trans (hb1.mono HB.out.size)); have HK := Lib.hid (HK.out.belowS hb1); clear hb1 C1)
    | (go_at_call 148; (with_reducible refine (C9 _ (HE.out.below HB.out)).out.mono ?_); rintro e w1 ⟨rfl, hb1⟩; have HB := Lib.hid (HB.out.trans (hb1.mono HB.out.size)); have HK := Lib.hid (HK.out.belowS hb1); clear hb1)
    | (go_at_call 149; (with_reducible refine (C10 _).out.mono ?_); rintro e w1 ⟨rfl, hb1⟩; have HB := Lib.hid (HB.out.trans (hb1.mono HB.out.size)); have HK := Lib.hid (HK.out.belowS hb1); clear hb1)
    | (go_at_call 147; (refine (C2 _).out.mono ?_); rintro e w1 ⟨rfl, hb1⟩; have HB := Lib.hid (HB.out.trans (hb1.mono HB.out.size)); have HK := Lib.hid (HK.out.belowS hb1); clear hb1)
    | (go_at_call 150; (with_reducible refine (C3 _ (HE.out.below HB.out)).out.mono ?_); rintro e w1 ⟨rfl, hb1⟩; have HB := Lib.hid (HB.out.trans (hb1.mono HB.out.size)); have HK := Lib.hid (HK.out.belowS hb1); clear hb1)
    | (go_at_call 124; (with_reducible refine (C4 _ (HE.out.below HB.out)).out.mono ?_); rintro e w1 ⟨rfl, hb1⟩; have HB := Lib.hid (HB.out.trans (hb1.mono HB.out.size)); have HK := Lib.hid (HK.out.belowS hb1); clear hb1)
    | (go_at_call 150; (with_reducible refine (C5 _ (HE.out.below HB.out)).out.mono ?_); rintro e w1 ⟨rfl, hb1⟩; have HB := Lib.hid (HB.out.trans (hb1.mono HB.out.size)); have HK := Lib.hid (HK.out.belowS hb1); clear hb1)
    | (go_at_call 126; (with_reducible refine (C6 _ (HE.out.below HB.out)).out.mono ?_); rintro e w1 ⟨rfl, hb1⟩; have HB := Lib.hid (HB.out.trans (hb1.mono HB.out.size)); have HK := Lib.hid (HK.out.belowS hb1); clear hb1)
    | (go_at_call 127; (with_reducible refine (C7 _).out.mono ?_); rintro e w1 ⟨rfl, hb1⟩; have HB := Lib.hid (HB.out.trans (hb1.mono HB.out.size)); have HK := Lib.hid (HK.out.belowS hb1); clear hb1)
    | (go_at_call 151; (with_reducible refine (C8 _ _ (HE.out.below HB.out)).out.mono ?_); rintro e w1 ⟨rfl, hb1⟩; have HB := Lib.hid (HB.out.trans (hb1.mono HB.out.size)); have HK := Lib.hid (HK.out.belowS hb1); clear hb1; obtain ⟨c1, c2, c3, c4⟩ := HK.out.use))
  obtain ⟨hF, hFb, hFk⟩ := sets5 HK.out (.string (bs k)) (.string (bs v)) (.string (bs T)) (.slice none 0 0) (.bool true)
  have e0 := hF.cell 0
  have e1 := hF.cell 1
  have e2 := hF.cell 2
  have e3 := hF.cell 3
  have e4 := hF.cell 4
  simp at e0 e1 e2 e3 e4
  refine bodyPost_ret (v := .tuple #[.agg #[.string (bs k), .string (bs v), .string (bs T), .slice none 0 0, .bool true], .nilIface]) (by simp [results, Tryz.results95, go_sem, e0, e1, e2, e3, e4]) rfl ⟨_, rfl, ⟨_, rfl, SlV.nil _ _⟩, hFb _ _ HB.out (Nat.le_refl _)⟩
end Go.Proofs.YtpgookhdffklkaaGreatDoor

namespace Go.Proofs.YtpgookhdffklkaaGreatDoor
open Go.RowKit
/-- A member as it is read: its properties as metadata. -/
def pB (m : Mem) : BM := ⟨m.k, m.v, psText m.ps, []⟩
theorem psText_nil : psText [] = [] := by simp [psText, pTexts, Lib.join_nil]
/-- A member that is read back. -/
structure OkR (m : Mem) : Prop where
  tk : tok m.k = true
  vd : Lib.validD m.v = true
  lk : m.k.length ≤ 1000
  lv : m.v.length ≤ 1000
  ln : m.ps.length ≤ 1000
  ps : ∀ p ∈ m.ps, OkT p
  lt : (psText m.ps).length ≤ 1000000
theorem OkR.md_ne {m : Mem} (h : OkR m) (h0 : m.ps ≠ []) : psText m.ps ≠ [] := (psText_md h0 (fun p hp => (h.ps p hp).tk)).1.ne
theorem OkR.text {m : Mem} (h : OkR m) : mText (pB m) = (m.k ++ 61 :: encL m.v) ++ (if m.ps = [] then [] else 59 :: psText m.ps) := by
  unfold mText pB
  simp only [h.tk, if_true, List.isEmpty_nil, List.isEmpty_iff]
  by_cases h0 : m.ps = []
  · simp [h0, psText_nil]
  · have := h.md_ne h0
    simp [h0, this]
theorem OkR.text_eq {m : Mem} (h : OkR m) : mText (pB m) = mText (toB m) := by
  rw [h.text]
  unfold mText toB
  simp only [h.tk, if_true, List.isEmpty_nil, List.isEmpty_iff]
theorem OkR.has {m : Mem} (h : OkR m) : HasPs (pB m) m.ps := by
  by_cases h0 : m.ps = []
  · exact Or.inl ⟨by simp [pB, h0, psText_nil], by simp [pB, h0], h.ln⟩
  · exact Or.inr ⟨rfl, rfl, h0, h.ps, h.ln, h.lt⟩
theorem OkR.sm {m : Mem} (h : OkR m) : SmM (pB m) := ⟨by have := h.lk; simp only [pB]; omega, by have := h.lv; simp only [pB]; omega, h.lt, (fun p hp => by cases hp), (by simp [pB])⟩
theorem psText_no {ps : List Pr} (h : ∀ p ∈ ps, tok p.k = true) : ∀ x ∈ psText ps, x ≠ 44 := by
  intro x hx
  unfold psText at hx
  rw [pTexts_tok h] at hx
  have key : ∀ ts : List (List UInt8), (∀ t ∈ ts, ∀ x ∈ t, x ≠ 44) → ∀ x ∈ Lib.join ts [59], x ≠ 44 := by
    intro ts
    induction ts with
    | nil => intro _ x hx; rw [Lib.join_nil] at hx; cases hx
    | cons t r ih =>
      intro hts x hx
      cases r with
      | nil => rw [Lib.join_one] at hx; exact hts t (by simp) x hx
      | cons u s =>
        rw [join_two] at hx
        rcases List.mem_append.1 hx with hx | hx
        · exact hts t (by simp) x hx
        · rcases List.mem_cons.1 hx with rfl | hx
          · decide
          · exact ih (fun t' ht' => hts t' (by simp [List.mem_cons.1 ht'])) x hx
  refine key _ (fun t ht => ?_) x hx
  obtain ⟨p, hp, rfl⟩ := List.mem_map.1 ht
  exact fun y hy => (pText_no (h p hp) y hy).2
theorem OkR.ne44 {m : Mem} (h : OkR m) : ∀ x ∈ mText (pB m), x ≠ 44 := fun x hx => by
  rw [h.text] at hx
  rcases List.mem_append.1 hx with hx | hx
  · rcases List.mem_append.1 hx with hx | hx
    · exact (key_ne h.tk x hx).2.2
    · rcases List.mem_cons.1 hx with rfl | hx
      · decide
      · exact (val_ne _ x hx).2
  · split at hx
    · cases hx
    · rcases List.mem_cons.1 hx with rfl | hx
      · decide
      · exact psText_no (fun p hp => (h.ps p hp).tk) x hx
theorem OkR.ne_nil {m : Mem} (h : OkR m) : mText (pB m) ≠ [] := by rw [h.text]; simp
theorem parse_okR {m : Mem} (h : OkR m) (w : World) (hE : Env w) :
    Calls Tryz.prog 95 #[.string (bs (mText (pB m)))] w fun e w' => ∃ mv, e = .returned (.tuple #[mv, .nilIface]) ∧ MvR w' mv (pB m) ∧ Below w.heap.size w w' := by
  have h1 := h.lk
  have h2 := h.lv
  rw [h.text]
  by_cases h0 : m.ps = []
  · rw [if_pos h0, List.append_nil]
    have e : pB m = ⟨m.k, m.v, [], []⟩ := by simp [pB, h0, psText_nil]
    rw [e]
    exact parse_plain m.k m.v w hE h.tk h.vd (by omega) (by omega)
  · rw [if_neg h0]
    exact parse_md m.k m.v m.ps w hE h.tk h.vd (by omega) (by omega) h0 h.ps h.lt
def rdF (ms : List Mem) (b : BM) : Mem := (ms.find? fun m => m.k = b.k).getD ⟨b.k, b.v, b.ps⟩
theorem rdF_eq {ms : List Mem} (hn : (ms.map (·.k)).Nodup) {m : Mem} (hm : m ∈ ms) : rdF ms (pB m) = m := by
  unfold rdF
  have e : ms.find? (fun x => x.k = (pB m).k) = some m := by
    show ms.find? (fun x => x.k = m.k) = some m
    induction ms with
    | nil => cases hm
    | cons a t ih =>
      rw [List.map_cons, List.nodup_cons] at hn
      rw [List.find?_cons]
      rcases List.mem_cons.1 hm with rfl | hm
      · simp
      · have : ¬ a.k = m.k := fun e => hn.1 (e ▸ List.mem_map_of_mem (f := fun x : Mem => x.k) hm)
        simp only [this, decide_false]
        exact ih hn.2 hm
  rw [e]; rfl
theorem map_rdF {ms : List Mem} (hn : (ms.map (·.k)).Nodup) : (ms.map pB).map (rdF ms) = ms := by
  rw [List.map_map]
  have : ∀ m ∈ ms, (rdF ms ∘ pB) m = m := fun m hm => rdF_eq hn hm
  rw [List.map_congr_left this, List.map_id']
theorem pB_keys (ms : List Mem) : (ms.map pB).map (·.k) = ms.map (·.k) := by rw [List.map_map]; rfl
/-- Parse of the text of members. -/
theorem parse_mems (ms : List Mem) (w : World) (hE : Env w) (h0 : ms ≠ []) (hms : ∀ m ∈ ms, OkR m) (hnd : (ms.map (·.k)).Nodup) (h64 : ms.length ≤ 64) (h8 : tot (ms.map pB) ≤ 8192) :
    Calls Tryz.prog 49 #[.string (bs (Lib.join ((ms.map pB).map mText) [44]))] w fun e w' => (∃ (D : PL) (b : Nat), D.map (·.1) = ms.map pB ∧ e = .returned (.tuple #[.agg #[.map (some b)], .nilIface]) ∧ ListR w' b D) ∧ Below w.heap.size w w' := by
  have hs := split_join ((ms.map pB).map mText) (by simpa using h0) (fun t ht => by
    rw [List.map_map] at ht
    obtain ⟨m, hm, rfl⟩ := List.mem_map.1 ht
    exact (hms m hm).ne44)
  have hne : Lib.join ((ms.map pB).map mText) [44] ≠ [] := by
    intro e
    rw [e] at hs
    cases ms with
    | nil => exact h0 rfl
    | cons m r =>
      have h1 : splitC 44 [] = [[]] := rfl
      rw [h1] at hs
      injection hs with h2 h3
      exact (hms m (by simp)).ne_nil h2.symm
  refine parse_any _ (ms.map pB) w hE (by rw [tot_join]; exact h8) hne (by rw [hs]; simp) (fun m hm => ?_) (fun m hm _ => ?_) (by rw [pB_keys]; exact hnd) (by simpa using h64) h8 ?_
  · obtain ⟨x, hx, rfl⟩ := List.mem_map.1 hm
    exact (hms x hx).sm
  · obtain ⟨x, hx, rfl⟩ := List.mem_map.1 hm
    rfl
  · intro i h h' W hW
    have hi : i < ms.length := by simpa using h
    have hm := hms ms[i] (List.getElem_mem hi)
    have e1 : (splitC 44 (Lib.join ((ms.map pB).map mText) [44]))[i] = mText (pB ms[i]) := by
      rw [List.getElem_of_eq hs, List.getElem_map, List.getElem_map]
    rw [e1, List.getElem_map]
    exact parse_okR hm W hW
set_option maxRecDepth 100000 in
set_option maxHeartbeats 8000000 in
theorem parseBaggage_mems (ms : List Mem) (w : World) (hE : Env w) (h0 : ms ≠ []) (hms : ∀ m ∈ ms, OkR m) (hnd : (ms.map (·.k)).Nodup) (h64 : ms.length ≤ 64) (h8 : tot (ms.map pB) ≤ 8192) :
    Calls Tryz.prog 18 #[.string (bs (Lib.join ((ms.map pB).map mText) [44]))] w fun e w' => (∃ (ml : List MA) (v : Value) (L : List BM), (ml.map (·.1)).Perm ms ∧ ml.Pairwise (fun x y => ltK y x = false) ∧ L.Perm (ms.map pB) ∧ e = .returned (.tuple #[v, .int .i64 ms.length, .string (bs (Lib.join (L.map mText) [44])), .bool true]) ∧ RowA w' 82 146 v ml) ∧ Below w.heap.size w w' := by
  have HE := Lib.hid hE
  have C1 := fun W h => Lib.hid (parse_mems ms W h h0 hms hnd h64 h8)
  have HMS := Lib.hid hms
  have HND := Lib.hid hnd
  have H0 := Lib.hid h0
  have H8 := Lib.hid h8
  have H64 := Lib.hid h64
  generalize Lib.join ((ms.map pB).map mText) [44] = T at *
  clear hE h0 hms h8 hnd
  go_enter Tryz.func18, Tryz.ntmps18
  go_wp2_with (go_at_call 49; (with_reducible refine (C1 _ HE.out).out.mono ?_); rintro e w1 ⟨⟨D, b, hD, rfl, hL⟩, hb1⟩; have HB1 := Lib.hid (hb1.alloc hb1.size (.cells #[.map (some b)] 94)); have HD := Lib.hid hD; have HL := Lib.hid (hL.below ((Below.refl w1.heap.size w1).alloc (Nat.le_refl _) (.cells #[.map (some b)] 94))); have HJ1 := Lib.hid (Blk.new w1 94 #[.map (some b)]); clear hb1 hD hL; obtain ⟨c1, c2, c3, c4⟩ := HJ1.out.use)
  have hDl : D.length = ms.length := by have z := congrArg List.length HD.out; simpa using z
  have HDl := Lib.hid hDl
  have hD0 : D ≠ [] := by
    intro e
    have z := HD.out
    rw [e] at z
    exact H0.out (List.map_eq_nil_iff.1 z.symm)
  have hD64 : D.length ≤ 64 := by rw [hDl]; exact h64
  have HSm := Lib.hid (show SmL 8192 D from fun x hx => by
    have z := List.mem_map_of_mem (f := fun x : BM × Value => x.1) hx
    rw [HD.out] at z
    have z2 := z
    obtain ⟨m, hm, hmx⟩ := List.mem_map.1 z
    refine ⟨(by rw [← hmx]; exact (HMS.out _ hm).sm), ?_⟩
    obtain ⟨a, c, e⟩ := List.append_of_mem z2
    have h1 := tot_perm (List.perm_middle (a := x.1) (l₁ := a) (l₂ := c))
    rw [← e] at h1
    have h2 := tot_le [x.1] (a ++ c)
    have h3 : tot [x.1] = (mText x.1).length := by simp [tot, Lib.lens]
    simp only [List.singleton_append] at h2
    have h4 := H8.out
    omega)
  have C2 := fun W h h1 => Lib.hid (membersOf_any (rdF ms) D b W h h1 hD0 (fun x hx => (HSm.out x hx).1.lp) (by omega) (fun m hm v W' hW' hv => by
    rw [HD.out] at hm
    obtain ⟨x, hx, rfl⟩ := List.mem_map.1 hm
    rw [rdF_eq HND.out hx]
    exact memberOf_any (pB x) x.ps (HMS.out x hx).has v W' hW' hv))
  have C3 := fun W h => Lib.hid (bagLen_any D b W h)
  have C4 := fun W h h1 => Lib.hid (bagString_any D b W h h1 8192 (by omega) HSm.out (by omega))
  clear hDl
  go_region_law (first
    | (go_simp; go_at_call 45; (refine (C2 _ (HE.out.below (by have z := HB1.out; exact ⟨z.os, z.tape, z.output, z.size, z.block⟩)) (by have z := HL.out; exact z)).out.mono ?_); rintro e w2 ⟨⟨ml, v, hp, hs, rfl, hr⟩, hb2⟩; have HB2 := Lib.hid (below_then (B := w.heap.size) (a := w) hb2 (by exact HB1.out.size) (by have z := HB1.out; exact ⟨z.os, z.tape, z.output, z.size, z.block⟩)); have HL2 := Lib.hid (ListR.below (w := _) (by have z := HL.out; exact z) hb2); have HJ2 := Lib.hid (Blk.by_ hb2 (by have z := HJ1.out; exact z)); have HP2 := Lib.hid hp; have HS2 := Lib.hid hs; have HR2 := Lib.hid hr; clear hb2 hp hs hr; obtain ⟨d1, d2, d3, d4⟩ := HJ2.out.use)
    | (go_simp; go_at_call 46; (refine (C3 _ (by have z := HL2.out; exact z)).out.mono ?_); rintro e w3 ⟨rfl, hb3⟩; have HB3 := Lib.hid (below_then (B := w.heap.size) (a := w) hb3 (by exact HB2.out.size) (by have z := HB2.out; exact ⟨z.os, z.tape, z.output, z.size, z.block⟩)); have HL3 := Lib.hid (ListR.below (w := _) (by have z := HL2.out; exact z) hb3); have HJ3 := Lib.hid (Blk.by_ hb3 (by have z := HJ2.out; exact z)); have HR3 := Lib.hid (RowA.below (w := _) (by have z := HR2.out; exact z) hb3); clear hb3; obtain ⟨f1, f2, f3, f4⟩ := HJ3.out.use)
    | (go_simp; go_at_call 47; (refine (C4 _ (HE.out.below (by have z := HB3.out; exact ⟨z.os, z.tape, z.output, z.size, z.block⟩)) (by have z := HL3.out; exact z)).out.mono ?_); rintro e w4 ⟨⟨pl', hp4, rfl⟩, hb4⟩; have HB4 := Lib.hid (below_then (B := w.heap.size) (a := w) hb4 (by exact HB3.out.size) (by have z := HB3.out; exact ⟨z.os, z.tape, z.output, z.size, z.block⟩)); have HR4 := Lib.hid (RowA.below (w := _) (by have z := HR3.out; exact z) hb4); have HP4 := Lib.hid hp4; clear hb4 hp4))
  all_goals go_wp2
  all_goals
    have hL4 : (pl'.map (·.1)).Perm (ms.map pB) := by rw [← HD.out]; exact HP4.out.map _
    have hT4 : mTexts pl' = (pl'.map (·.1)).map mText := by
      unfold mTexts
      rw [List.map_map]
      refine List.filter_eq_self.2 fun t ht => ?_
      obtain ⟨x, hx, rfl⟩ := List.mem_map.1 ht
      have hx1 := hL4.mem_iff.1 (List.mem_map_of_mem (f := fun x : BM × Value => x.1) hx)
      obtain ⟨m, hm, hmx⟩ := List.mem_map.1 hx1
      have hne := (HMS.out m hm).ne_nil
      show (!(mText x.1).isEmpty) = true
      rw [← hmx]
      cases hh : mText (pB m) with
      | nil => exact absurd hh hne
      | cons a t => rfl
    refine bodyPost_ret (v := .tuple #[v, .int .i64 ms.length, .string (bs (Lib.join (mTexts pl') [44])), .bool true]) (by simp [results, Tryz.results18, go_sem, HDl.out]) rfl ⟨⟨ml, v, pl'.map (·.1), ?_, HS2.out, hL4, by rw [hT4], by have z := HR4.out; exact z⟩, ⟨HB4.out.os, HB4.out.tape, HB4.out.output, HB4.out.size, HB4.out.block⟩⟩
    have z := HP2.out
    rw [show (D.map fun x => rdF ms x.1) = (D.map (·.1)).map (rdF ms) by rw [List.map_map]; rfl, HD.out, map_rdF HND.out] at z
    exact z
end Go.Proofs.YtpgookhdffklkaaGreatDoor
