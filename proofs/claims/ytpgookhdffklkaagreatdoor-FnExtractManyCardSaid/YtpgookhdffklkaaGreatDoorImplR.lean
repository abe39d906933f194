/-
  impl: InjectBaggage.
-/
import Derived.Test.YtpgookhdffklkaaGreatDoorImplQ
namespace Go.Proofs.YtpgookhdffklkaaGreatDoor
open Go.RowKit

theorem foldB_ne (l : List BM) : ∀ acc : List BM, acc ≠ [] → l.foldl putB acc ≠ [] := by
  induction l with
  | nil => intro acc h; simpa using h
  | cons m t ih =>
    intro acc h
    refine ih _ ?_
    unfold putB
    split
    · simpa using h
    · simp
theorem dedB_ne {l : List BM} (h : l ≠ []) : dedB l ≠ [] := by
  cases l with
  | nil => exact absurd rfl h
  | cons m t => exact foldB_ne t _ (by simp [putB])
set_option maxRecDepth 100000 in
set_option maxHeartbeats 1000000 in
theorem fields_any (w : World) : Calls Tryz.prog 61 #[.agg #[]] w fun e w' => (∃ fv, e = .returned fv ∧ SlV w' 9 fv 1 [.string (bs bagKey)]) ∧ Below w.heap.size w w' := by
  go_enter Tryz.func61, Tryz.ntmps61
  go_wp2
  go_ret
  refine ⟨⟨_, rfl, SlV.of_blk (c := 1) (by have z := Blk.new1 w (.cells #[] 115) 9 #[.string (bs bagKey)]; exact z) (Nat.le_refl _) (by unfold maxLen; omega)⟩, ((Below.refl _ _).alloc (Nat.le_refl _) _).alloc (by simp) _⟩

set_option maxRecDepth 100000 in
set_option maxHeartbeats 2000000 in
theorem injectBaggage_nil (A : Option Addr) (q : Nat) (w : World) :
    Calls Tryz.prog 27 #[.slice A 0 q] w fun e w' => (∃ fv, e = .returned (.tuple #[.slice none 0 0, fv, .bool true]) ∧ SlV w' 9 fv 1 [.string (bs bagKey)]) ∧ Below w.heap.size w w' := by
  have hmm := @run_makeMap Tryz.prog
  have C1 := fun W => Lib.hid (bagged_nil A q W)
  have C2 := fun b W => Lib.hid (inject_nil b W)
  have C3 := fun b W h => Lib.hid (entries_nil b W h)
  have C4 := fun W => Lib.hid (fields_any W)
  go_enter Tryz.func27, Tryz.ntmps27
  go_wp2_with (first
    | (go_at_call 58; (with_reducible refine (C1 _).out.mono ?_); rintro e w1 ⟨rfl, hb1⟩; have HB1 := Lib.hid hb1; clear hb1)
    | (go_at_call 59; (with_reducible refine (C2 _ _).out.mono ?_); rintro e w2 ⟨rfl, hb2⟩; have HW2 := Lib.hid (((Below.refl w1.heap.size w1).alloc (Nat.le_refl _) (.map #[] 0)).alloc (by simp) (.cells #[] 115)); have HB2 := Lib.hid (HB1.out.trans ((HW2.out.trans (hb2.mono (by simp <;> omega))).mono HB1.out.size)); have HM2 := Lib.hid (((MapS.made w1).alloc (.cells #[] 115)).below hb2); have HJ2 := Lib.hid ((Blk.new1 w1 (.map #[] 0) 115 #[]).belowS hb2); clear hb2; obtain ⟨c1, c2, c3, c4⟩ := HJ2.out.use))
  go_region_law (first
    | (go_simp; go_at_call 60; (refine (C3 _ _ (by have z := HM2.out; exact z)).out.mono ?_); rintro e w3 ⟨rfl, hb3⟩; have HB3 := Lib.hid (below_then (B := w.heap.size) (a := w) hb3 (by exact HB2.out.size) (by have z := HB2.out; exact ⟨z.os, z.tape, z.output, z.size, z.block⟩)); have HJ3 := Lib.hid (Blk.by_ hb3 (by have z := HJ2.out; exact z)); clear hb3; obtain ⟨d1, d2, d3, d4⟩ := HJ3.out.use)
    | (go_simp; go_at_call 61; (with_reducible refine (C4 _).out.mono ?_); rintro e w4 ⟨⟨fv, rfl, hfv⟩, hb4⟩; have HB4 := Lib.hid (below_then (B := w.heap.size) (a := w) hb4 (by exact HB3.out.size) (by have z := HB3.out; exact ⟨z.os, z.tape, z.output, z.size, z.block⟩)); have HF4 := Lib.hid hfv; clear hb4 hfv))
  all_goals go_wp2
  all_goals go_ret3
  all_goals exact ⟨⟨_, rfl, by have z := HF4.out; exact z⟩, ⟨HB4.out.os, HB4.out.tape, HB4.out.output, HB4.out.size, HB4.out.block⟩⟩

set_option maxRecDepth 100000 in
set_option maxHeartbeats 4000000 in
theorem injectBaggage_any (ml : List MA) (v : Value) (w : World) (hE : Env w) (hv : RowA w 82 146 v ml) (h0 : ml ≠ []) (hok : ∀ x ∈ ml, OkM (toB x.1)) (htok : ∀ x ∈ ml, tok x.1.k = true) (hn : ml.length ≤ 1000)
    (h64 : (dedB (ml.map fun x => toB x.1)).length ≤ 64) (h8 : tot (dedB (ml.map fun x => toB x.1)) ≤ 8192) :
    Calls Tryz.prog 27 #[v] w fun e w' => (∃ (L : List BM) (ev fv : Value), L.Perm (dedB (ml.map fun x => toB x.1)) ∧ e = .returned (.tuple #[ev, fv, .bool true]) ∧ SlV w' 56 ev 1 [.string (bs bagKey), .string (bs (Lib.join (L.map mText) [44]))] ∧ SlV w' 9 fv 1 [.string (bs bagKey)]) ∧ Below w.heap.size w w' := by
  have HE := Lib.hid hE
  have hmm := @run_makeMap Tryz.prog
  have C1 := fun W h h1 => Lib.hid (bagged_any ml v W h h1 h0 hok hn h64 h8)
  have HV := Lib.hid hv
  have C4 := fun W => Lib.hid (fields_any W)
  have HQ := Lib.hid (show ∀ m ∈ dedB (ml.map fun x => toB x.1), SmM m ∧ (mText m).length ≤ 8192 ∧ tok m.k = true from fun m hm => by
    have hall : ∀ m ∈ dedB (ml.map fun x => toB x.1), SmM m ∧ tok m.k = true := dedB_all (P := fun m => SmM m ∧ tok m.k = true) (fun m hm => by
      obtain ⟨x, hx, rfl⟩ := List.mem_map.1 hm
      exact ⟨sm_of_ok (hok x hx) rfl, htok x hx⟩)
    refine ⟨(hall m hm).1, ?_, (hall m hm).2⟩
    obtain ⟨a, b, e⟩ := List.append_of_mem hm
    have h1 := tot_perm (List.perm_middle (a := m) (l₁ := a) (l₂ := b))
    rw [← e] at h1
    have h2 := tot_le [m] (a ++ b)
    have h3 : tot [m] = (mText m).length := by simp [tot, Lib.lens]
    simp only [List.singleton_append] at h2
    omega)
  have H64 := Lib.hid h64
  have H0 := Lib.hid (show dedB (ml.map fun x => toB x.1) ≠ [] from dedB_ne (by simpa using h0))
  clear hE hv hok htok h64 h8 h0
  obtain ⟨A0, q0, hq0⟩ := HV.out.1.form
  subst hq0
  go_enter Tryz.func27, Tryz.ntmps27
  go_wp2_with (go_at_call 58; (with_reducible refine (C1 _ HE.out HV.out).out.mono ?_); rintro e w1 ⟨⟨D, bl, hD, rfl, hL⟩, hb1⟩; have HB1 := Lib.hid hb1; have HD := Lib.hid hD; have HL := Lib.hid hL; clear hb1 hD hL)
  have hD0 : D ≠ [] := by
    intro e
    have z := HD.out
    rw [e] at z
    exact H0.out z.symm
  have hDl : D.length ≤ 64 := by have z := congrArg List.length HD.out; have y := H64.out; simp only [List.length_map] at z; omega
  have HDm := Lib.hid (show ∀ x ∈ D, SmM x.1 ∧ (mText x.1).length ≤ 8192 ∧ tok x.1.k = true from fun x hx => by
    have z := List.mem_map_of_mem (f := fun x : BM × Value => x.1) hx
    rw [HD.out] at z
    exact HQ.out _ z)
  have HWa := Lib.hid (((Below.refl w1.heap.size w1).alloc (Nat.le_refl _) (.map #[] 0)).alloc (by simp) (.cells #[] 115))
  have C2 := fun (W : World) h1 h2 h3 => Lib.hid (inject_any D bl w1.heap.size W h1 h2 hD0 (fun x hx => ⟨(HDm.out x hx).1, (HDm.out x hx).2.1⟩) (fun x hx => (HDm.out x hx).2.2) (by omega) h3 (.agg #[]) rfl)
  have hge1 := HB1.out.size
  go_wp2_with (go_at_call 59; (with_reducible refine (C2 _ (HE.out.below (HB1.out.trans (HWa.out.mono hge1))) (HL.out.below HWa.out) ((MapS.made w1).alloc _)).out.mono ?_); rintro e w2 ⟨rfl, ⟨pl', hp, hm⟩, w3, hb3, hg3, hk3⟩; have HM2 := Lib.hid hm; have HP2 := Lib.hid hp; have HB3 := Lib.hid (HB1.out.trans ((HWa.out.trans (hb3.mono (by simp <;> omega))).mono hge1)); have HJ3 := Lib.hid ((Blk.new1 w1 (.map #[] 0) 115 #[]).belowS hb3); have HB2 := Lib.hid (below_row HB3.out hg3 HB3.out.size hge1); have HJ2 := Lib.hid (Keeps.blk hk3 HJ3.out trivial); clear hm hp hb3 hg3 hk3; obtain ⟨c1, c2, c3, c4⟩ := HJ2.out.use)
  have C3 := fun W h => Lib.hid (entries_one w1.heap.size bagKey (Lib.join (pl'.map fun x => mText x.1) [44]) W h)
  go_region_law (first
    | (go_simp; go_at_call 60; (refine (C3 _ (by have z := HM2.out; exact z)).out.mono ?_); rintro e w4 ⟨⟨ev, rfl, hev⟩, hb4⟩; have HB4 := Lib.hid (below_then (B := w.heap.size) (a := w) hb4 (by exact HB2.out.size) (by have z := HB2.out; exact ⟨z.os, z.tape, z.output, z.size, z.block⟩)); have HE4 := Lib.hid hev; have HJ4 := Lib.hid (Blk.by_ hb4 (by have z := HJ2.out; exact z)); clear hb4 hev; obtain ⟨d1, d2, d3, d4⟩ := HJ4.out.use)
    | (go_simp; go_at_call 61; (with_reducible refine (C4 _).out.mono ?_); rintro e w5 ⟨⟨fv, rfl, hfv⟩, hb5⟩; have HB5 := Lib.hid (below_then (B := w.heap.size) (a := w) hb5 (by exact HB4.out.size) (by have z := HB4.out; exact ⟨z.os, z.tape, z.output, z.size, z.block⟩)); have HF5 := Lib.hid hfv; have HE5 := Lib.hid (SlV.below (w := _) (by have z := HE4.out; exact z) hb5); clear hb5 hfv))
  all_goals go_wp2
  all_goals go_ret3
  all_goals exact ⟨⟨pl'.map (·.1), ev, fv, by rw [← HD.out]; exact HP2.out.map _, rfl, by rw [List.map_map]; have z := HE5.out; exact z, by have z := HF5.out; exact z⟩, ⟨HB5.out.os, HB5.out.tape, HB5.out.output, HB5.out.size, HB5.out.block⟩⟩
end Go.Proofs.YtpgookhdffklkaaGreatDoor
