/-
  impl: ParseBaggage of the text of members without properties; Parse of it and of no text.
-/
import Derived.Test.YtpgookhdffklkaaGreatDoorImplR
namespace Go.Proofs.YtpgookhdffklkaaGreatDoor
open Go.RowKit

/-- A member without properties whose key is a token. -/
structure PlM (m : BM) : Prop where
  md : m.md = []
  ps : m.ps = []
  tk : tok m.k = true
  vd : Lib.validD m.v = true
  lk : m.k.length ≤ 300000
  lv : m.v.length ≤ 300000
theorem PlM.eq {m : BM} (h : PlM m) : m = ⟨m.k, m.v, [], []⟩ := by
  obtain ⟨k, v, md, ps⟩ := m
  have h1 := h.md
  have h2 := h.ps
  simp only at h1 h2
  subst h1 h2
  rfl
theorem PlM.text {m : BM} (h : PlM m) : mText m = m.k ++ 61 :: encL m.v := by
  simp [mText, h.tk, h.md, h.ps]
theorem PlM.sm {m : BM} (h : PlM m) : SmM m := ⟨by have := h.lk; omega, by have := h.lv; omega, (by rw [h.md]; simp), (fun p hp => by rw [h.ps] at hp; cases hp), (by rw [h.ps]; simp)⟩
theorem PlM.ne44 {m : BM} (h : PlM m) : ∀ x ∈ mText m, x ≠ 44 := fun x hx => by
  rw [h.text] at hx
  rcases List.mem_append.1 hx with hx | hx
  · exact (key_ne h.tk x hx).2.2
  · rcases List.mem_cons.1 hx with rfl | hx
    · decide
    · exact (val_ne _ x hx).2

theorem split_join (ts : List (List UInt8)) (h0 : ts ≠ []) (h : ∀ t ∈ ts, ∀ x ∈ t, x ≠ 44) : splitC 44 (Lib.join ts [44]) = ts := by
  induction ts with
  | nil => exact absurd rfl h0
  | cons t r ih =>
    have ht := h t (by simp)
    cases r with
    | nil => rw [Lib.join_one]; exact splitC_none (pos1_none ht)
    | cons u s =>
      have e : Lib.join (t :: u :: s) [44] = t ++ 44 :: Lib.join (u :: s) [44] := by
        rw [Lib.join_cons, Lib.join_cons]
        simp [Lib.joinTail]
      rw [e, splitC_some (pos1_at ht)]
      have e1 : (t ++ 44 :: Lib.join (u :: s) [44]).take t.length = t := by simp
      have e2 : (t ++ 44 :: Lib.join (u :: s) [44]).drop (t.length + 1) = Lib.join (u :: s) [44] := by
        rw [List.drop_append]
        simp
      rw [e1, e2, ih (by simp) (fun t' ht' => h t' (by simp [ht']))]
theorem tot_join (ms : List BM) : (Lib.join (ms.map mText) [44]).length = tot ms := by
  cases ms with
  | nil => simp [Lib.join_nil, tot, Lib.lens]
  | cons m r =>
    rw [List.map_cons, Lib.join_length]
    simp only [tot, List.map_cons, List.length_cons, List.length_nil, List.length_map]
    omega
theorem joinM_ne (ms : List BM) (h0 : ms ≠ []) (h : ∀ m ∈ ms, PlM m) : Lib.join (ms.map mText) [44] ≠ [] := by
  intro e
  cases ms with
  | nil => exact h0 rfl
  | cons m r =>
    have h1 := tot_join (m :: r)
    rw [e] at h1
    have h2 := (h m (by simp)).text
    have h3 : (mText m).length = 0 := by
      simp only [tot, List.map_cons, Lib.lens, List.sum_cons, List.length_nil] at h1
      omega
    rw [h2] at h3
    simp at h3

/-- Parse of the text of members. -/
theorem parse_texts (ms : List BM) (w : World) (hE : Env w) (h0 : ms ≠ []) (hms : ∀ m ∈ ms, PlM m) (hnd : (ms.map (·.k)).Nodup) (h64 : ms.length ≤ 64) (h8 : tot ms ≤ 8192) :
    Calls Tryz.prog 49 #[.string (bs (Lib.join (ms.map mText) [44]))] w fun e w' => (∃ (D : PL) (b : Nat), D.map (·.1) = ms ∧ e = .returned (.tuple #[.agg #[.map (some b)], .nilIface]) ∧ ListR w' b D) ∧ Below w.heap.size w w' := by
  have hs := split_join (ms.map mText) (by simpa using h0) (fun t ht => by
    obtain ⟨m, hm, rfl⟩ := List.mem_map.1 ht
    exact (hms m hm).ne44)
  refine parse_any _ ms w hE (by rw [tot_join]; exact h8) (joinM_ne ms h0 hms) (by rw [hs]; simp) (fun m hm => (hms m hm).sm) (fun m hm _ => (hms m hm).ps) hnd h64 h8 ?_
  intro i h h' W hW
  have hm := hms ms[i] (List.getElem_mem h)
  have e1 : (splitC 44 (Lib.join (ms.map mText) [44]))[i] = ms[i].k ++ 61 :: encL ms[i].v := by
    rw [List.getElem_of_eq hs, List.getElem_map, hm.text]
  rw [e1]
  refine (parse_plain ms[i].k ms[i].v W hW hm.tk hm.vd hm.lk hm.lv).mono ?_
  rintro e w' ⟨mv, he, hr, hb⟩
  refine ⟨mv, he, ?_, hb⟩
  rw [hm.eq]
  exact hr
set_option maxRecDepth 100000 in
set_option maxHeartbeats 1000000 in
theorem parse_nil (w : World) :
    Calls Tryz.prog 49 #[.string (bs [])] w fun e w' => e = .returned (.tuple #[.agg #[.map none], .nilIface]) ∧ Below w.heap.size w w' := by
  go_enter Tryz.func49, Tryz.ntmps49
  go_wp2
  have e0 := ((Blk.new1 w (.cells #[] 94) 94 #[]).cell 0)
  clear e0
  exact bodyPost_ret (v := .tuple #[.agg #[.map none], .nilIface]) (by simp [results, Tryz.results49, go_sem]) rfl ⟨rfl, (Below.refl _ _).alloc (Nat.le_refl _) _⟩

/-- The members as impl tells them. -/
def rdB (m : BM) : Mem := ⟨m.k, m.v, m.ps⟩
theorem memberOf_pl (ms : List BM) (hms : ∀ m ∈ ms, PlM m) (m : BM) (hm : m ∈ ms) (v : Value) (W : World) (hv : MvR W v m) :
    Calls Tryz.prog 91 #[v] W fun e w' => ∃ A q, e = .returned (.agg #[.string (bs (rdB m).k), .string (bs (rdB m).v), .slice A (rdB m).ps.length q]) ∧ SlV w' 146 (.slice A (rdB m).ps.length q) (rdB m).ps.length ((rdB m).ps.flatMap encI) ∧ Below W.heap.size W w' := by
  have h := hms m hm
  rw [h.eq] at hv
  refine (memberOf_plain m.k m.v v W hv).mono ?_
  rintro e w' ⟨rfl, hb⟩
  have e1 : (rdB m).ps = [] := h.ps
  rw [e1]
  exact ⟨none, 0, rfl, SlV.nil _ _, hb⟩

set_option maxRecDepth 100000 in
set_option maxHeartbeats 4000000 in
theorem parseBaggage_texts (ms : List BM) (w : World) (hE : Env w) (h0 : ms ≠ []) (hms : ∀ m ∈ ms, PlM m) (hnd : (ms.map (·.k)).Nodup) (h64 : ms.length ≤ 64) (h8 : tot ms ≤ 8192) :
    Calls Tryz.prog 18 #[.string (bs (Lib.join (ms.map mText) [44]))] w fun e w' => (∃ (ml : List MA) (v : Value) (s : List UInt8), (ml.map (·.1)).Perm (ms.map rdB) ∧ ml.Pairwise (fun x y => ltK y x = false) ∧ e = .returned (.tuple #[v, .int .i64 ms.length, .string (bs s), .bool true]) ∧ RowA w' 82 146 v ml) ∧ Below w.heap.size w w' := by
  have HE := Lib.hid hE
  have C1 := fun W h => Lib.hid (parse_texts ms W h h0 hms hnd h64 h8)
  have HMS := Lib.hid hms
  have H0 := Lib.hid h0
  have H8 := Lib.hid h8
  have H64 := Lib.hid h64
  generalize Lib.join (ms.map mText) [44] = T at *
  clear hE h0 hms h8
  go_enter Tryz.func18, Tryz.ntmps18
  go_wp2_with (go_at_call 49; (with_reducible refine (C1 _ HE.out).out.mono ?_); rintro e w1 ⟨⟨D, b, hD, rfl, hL⟩, hb1⟩; have HB1 := Lib.hid (hb1.alloc hb1.size (.cells #[.map (some b)] 94)); have HD := Lib.hid hD; have HL := Lib.hid (hL.below ((Below.refl w1.heap.size w1).alloc (Nat.le_refl _) (.cells #[.map (some b)] 94))); have HJ1 := Lib.hid (Blk.new w1 94 #[.map (some b)]); clear hb1 hD hL; obtain ⟨c1, c2, c3, c4⟩ := HJ1.out.use)
  have hDl : D.length = ms.length := by have z := congrArg List.length HD.out; simpa using z
  have HDl := Lib.hid hDl
  have hD0 : D ≠ [] := by
    intro e
    have z := HD.out
    rw [e] at z
    exact H0.out z.symm
  have hD64 : D.length ≤ 64 := by rw [hDl]; exact h64
  have HSm := Lib.hid (show SmL 8192 D from fun x hx => by
    have z := List.mem_map_of_mem (f := fun x : BM × Value => x.1) hx
    rw [HD.out] at z
    refine ⟨(HMS.out _ z).sm, ?_⟩
    obtain ⟨a, c, e⟩ := List.append_of_mem z
    have h1 := tot_perm (List.perm_middle (a := x.1) (l₁ := a) (l₂ := c))
    rw [← e] at h1
    have h2 := tot_le [x.1] (a ++ c)
    have h3 : tot [x.1] = (mText x.1).length := by simp [tot, Lib.lens]
    simp only [List.singleton_append] at h2
    have h4 := H8.out
    omega)
  have C2 := fun W h h1 => Lib.hid (membersOf_any rdB D b W h h1 hD0 (fun x hx => (HSm.out x hx).1.lp) (by omega) (fun m hm v W' hW' hv => memberOf_pl ms HMS.out m (by rw [← HD.out]; exact hm) v W' hv))
  have C3 := fun W h => Lib.hid (bagLen_any D b W h)
  have C4 := fun W h h1 => Lib.hid (bagString_any D b W h h1 8192 (by omega) HSm.out (by omega))
  clear hDl
  go_region_law (first
    | (go_simp; go_at_call 45; (refine (C2 _ (HE.out.below (by have z := HB1.out; exact ⟨z.os, z.tape, z.output, z.size, z.block⟩)) (by have z := HL.out; exact z)).out.mono ?_); rintro e w2 ⟨⟨ml, v, hp, hs, rfl, hr⟩, hb2⟩; have HB2 := Lib.hid (below_then (B := w.heap.size) (a := w) hb2 (by exact HB1.out.size) (by have z := HB1.out; exact ⟨z.os, z.tape, z.output, z.size, z.block⟩)); have HL2 := Lib.hid (ListR.below (w := _) (by have z := HL.out; exact z) hb2); have HJ2 := Lib.hid (Blk.by_ hb2 (by have z := HJ1.out; exact z)); have HP2 := Lib.hid hp; have HS2 := Lib.hid hs; have HR2 := Lib.hid hr; clear hb2 hp hs hr; obtain ⟨d1, d2, d3, d4⟩ := HJ2.out.use)
    | (go_simp; go_at_call 46; (refine (C3 _ (by have z := HL2.out; exact z)).out.mono ?_); rintro e w3 ⟨rfl, hb3⟩; have HB3 := Lib.hid (below_then (B := w.heap.size) (a := w) hb3 (by exact HB2.out.size) (by have z := HB2.out; exact ⟨z.os, z.tape, z.output, z.size, z.block⟩)); have HL3 := Lib.hid (ListR.below (w := _) (by have z := HL2.out; exact z) hb3); have HJ3 := Lib.hid (Blk.by_ hb3 (by have z := HJ2.out; exact z)); have HR3 := Lib.hid (RowA.below (w := _) (by have z := HR2.out; exact z) hb3); clear hb3; obtain ⟨f1, f2, f3, f4⟩ := HJ3.out.use)
    | (go_simp; go_at_call 47; (refine (C4 _ (HE.out.below (by have z := HB3.out; exact ⟨z.os, z.tape, z.output, z.size, z.block⟩)) (by have z := HL3.out; exact z)).out.mono ?_); rintro e w4 ⟨⟨pl', hp4, rfl⟩, hb4⟩; have HB4 := Lib.hid (below_then (B := w.heap.size) (a := w) hb4 (by exact HB3.out.size) (by have z := HB3.out; exact ⟨z.os, z.tape, z.output, z.size, z.block⟩)); have HR4 := Lib.hid (RowA.below (w := _) (by have z := HR3.out; exact z) hb4); clear hb4 hp4))
  all_goals go_wp2
  all_goals refine bodyPost_ret (v := .tuple #[v, .int .i64 ms.length, .string (bs (Lib.join (mTexts pl') [44])), .bool true]) (by simp [results, Tryz.results18, go_sem, HDl.out]) rfl ⟨⟨ml, v, _, ?_, HS2.out, rfl, by have z := HR4.out; exact z⟩, ⟨HB4.out.os, HB4.out.tape, HB4.out.output, HB4.out.size, HB4.out.block⟩⟩
  all_goals (have z := HP2.out; rw [← HD.out, List.map_map]; exact z)
end Go.Proofs.YtpgookhdffklkaaGreatDoor
