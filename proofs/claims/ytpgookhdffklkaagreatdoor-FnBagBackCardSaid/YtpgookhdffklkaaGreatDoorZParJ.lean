/-
  impl: ParseBaggage of a text that is no baggage.
-/
import Derived.Test.YtpgookhdffklkaaGreatDoorMF
namespace Go.Proofs.YtpgookhdffklkaaGreatDoor
open Go.RowKit
set_option maxHeartbeats 1000000 in
theorem newInvalid_any (w : World) : Calls Tryz.prog 125 #[] w fun e w' => e = .returned (.agg #[.string ⟨#[]⟩, .string ⟨#[]⟩, .string ⟨#[]⟩, .slice none 0 0, .bool false]) ∧ Below w.heap.size w w' := by
  have HK := Lib.hid (Blk.new w 86 #[.string ⟨#[]⟩, .string ⟨#[]⟩, .string ⟨#[]⟩, .slice none 0 0, .bool false])
  have HB := Lib.hid ((Below.refl w.heap.size w).alloc (Nat.le_refl _) (.cells #[.string ⟨#[]⟩, .string ⟨#[]⟩, .string ⟨#[]⟩, .slice none 0 0, .bool false] 86))
  go_enter Tryz.func125, Tryz.ntmps125
  go_wp2
  have e0 := HK.out.cell 0
  have e1 := HK.out.cell 1
  have e2 := HK.out.cell 2
  have e3 := HK.out.cell 3
  have e4 := HK.out.cell 4
  simp only [List.getElem?_toArray, List.getElem?_cons_zero, List.getElem?_cons_succ] at e0 e1 e2 e3 e4
  exact bodyPost_ret (v := .agg #[.string ⟨#[]⟩, .string ⟨#[]⟩, .string ⟨#[]⟩, .slice none 0 0, .bool false]) (by simp [results, Tryz.results125, go_sem, e0, e1, e2, e3, e4]) rfl ⟨rfl, HB.out⟩
theorem zzJoin_nil (t : TypeId) (v : Value) (w : World) : Calls Tryz.prog 87 #[.nilIface, .iface t v] w fun e w' => e = .returned (.iface t v) ∧ w = w' := by
  go_enter Tryz.func87, Tryz.ntmps87
  go_wp2
  go_ret
  exact ⟨rfl, rfl⟩
set_option maxRecDepth 100000 in
set_option maxHeartbeats 4000000 in
theorem parseMember_a (w : World) (hE : Env w) :
    Calls Tryz.prog 95 #[.string ⟨#[97]⟩] w fun e w' => (∃ t v, e = .returned (.tuple #[.agg #[.string ⟨#[]⟩, .string ⟨#[]⟩, .string ⟨#[]⟩, .slice none 0 0, .bool false], .iface t v])) ∧ Below w.heap.size w w' := by
  obtain ⟨t, v, hc0⟩ := hE.err 0 (Or.inl rfl)
  have hz := hE.size
  have HC0 := Lib.hid hc0
  have C1 := fun W => Lib.hid (zzCut_none [97] 59 W (by simp) rfl)
  have C2 := fun W => Lib.hid (zzCut_none [97] 61 W (by simp) rfl)
  have C3 := fun W => Lib.hid (newInvalid_any W)
  have HB0 := Lib.hid ((Below.refl w.heap.size w).alloc (Nat.le_refl _) (.cells #[.string ⟨#[]⟩, .string ⟨#[]⟩, .string ⟨#[]⟩, .slice none 0 0, .bool false] 86))
  have HK0 := Lib.hid (Blk.new w 86 #[.string ⟨#[]⟩, .string ⟨#[]⟩, .string ⟨#[]⟩, .slice none 0 0, .bool false])
  clear hE hc0
  go_enter Tryz.func95, Tryz.ntmps95
  go_wp2_with (first
    | (go_at_call 147; (refine (C1 _).out.mono ?_); rintro e w1 ⟨rfl, hb1⟩; have HB1 := Lib.hid (HB0.out.trans (hb1.mono HB0.out.size)); have HK1 := Lib.hid (HK0.out.belowS hb1); clear hb1 C1)
    | (go_at_call 147; (refine (C2 _).out.mono ?_); rintro e w2 ⟨rfl, hb2⟩; have HB2 := Lib.hid (HB1.out.trans (hb2.mono HB1.out.size)); have HK2 := Lib.hid (HK1.out.belowS hb2); clear hb2; have g2 := (HB2.out.cell (p := ⟨0, 0, none⟩) (by show 0 < w.heap.size; omega)).trans HC0.out))
  go_region_law (go_simp; go_at_call 125; (refine (C3 _).out.mono ?_); rintro e w3 ⟨rfl, hb3⟩; have HB3 := Lib.hid (below_then (B := w.heap.size) (a := w) hb3 (by exact HB2.out.size) (by have z := HB2.out; exact ⟨z.os, z.tape, z.output, z.size, z.block⟩)); have HK3 := Lib.hid (Blk.by_ hb3 (by have z := HK2.out; exact z)); clear hb3; have g3 := (HB3.out.cell (p := ⟨0, 0, none⟩) (by show 0 < w.heap.size; omega)).trans HC0.out; obtain ⟨c1, c2, c3, c4⟩ := HK3.out.use)
  all_goals go_wp2
  all_goals
    obtain ⟨hF, hFb, hFk⟩ := sets5 HK3.out (.string ⟨#[]⟩) (.string ⟨#[]⟩) (.string ⟨#[]⟩) (.slice none 0 0) (.bool false)
    have e0 := hF.cell 0
    have e1 := hF.cell 1
    have e2 := hF.cell 2
    have e3 := hF.cell 3
    have e4 := hF.cell 4
    simp at e0 e1 e2 e3 e4
    refine bodyPost_ret (v := .tuple #[.agg #[.string ⟨#[]⟩, .string ⟨#[]⟩, .string ⟨#[]⟩, .slice none 0 0, .bool false], .iface t v]) (by simp [results, Tryz.results95, go_sem, e0, e1, e2, e3, e4]) rfl ⟨⟨t, v, rfl⟩, ?_⟩
    have z := hFb _ _ HB3.out (Nat.le_refl _)
    exact ⟨z.os, z.tape, z.output, z.size, z.block⟩
set_option maxRecDepth 100000 in
set_option maxHeartbeats 8000000 in
theorem parse_a (w : World) (hE : Env w) :
    Calls Tryz.prog 49 #[.string ⟨#[97]⟩] w fun e w' => (∃ t v, e = .returned (.tuple #[.agg #[.map none], .iface t v])) ∧ Below w.heap.size w w' := by
  have HE := Lib.hid hE
  have hmm := @run_makeMap Tryz.prog
  have hs : splitC 44 [97] = [[97]] := splitC_none rfl
  have C1 := fun W => Lib.hid (show Calls Tryz.prog 94 #[.string ⟨#[97]⟩, .string ⟨#[44]⟩] W (fun e w' => ∃ v, e = .returned v ∧ w'.ownsRow W.heap.size 9 1 v 1 [.string ⟨#[97]⟩] ∧ Below W.heap.size W w') from by
    have z := zzSplit_any [97] 44 W (by simp)
    rw [hs] at z
    exact z)
  have C2 := fun W h => Lib.hid (parseMember_a W h)
  have C3 := fun t v W => Lib.hid (zzJoin_nil t v W)
  have HB0 := Lib.hid ((((Below.refl w.heap.size w).alloc (Nat.le_refl _) (.cells #[.map none] 94)).alloc (by simp) (.map #[] 0)).alloc (by simp <;> omega) (.map #[] 0))
  have HK0 := Lib.hid (((Blk.new w 94 #[.map none]).alloc (.map #[] 0)).alloc (.map #[] 0))
  have HM1 := Lib.hid ((MapS.made (w.alloc (.cells #[.map none] 94))).alloc (.map #[] 0))
  clear hE
  go_enter Tryz.func49, Tryz.ntmps49
  go_wp2_with (go_at_call 94; (refine (C1 _).out.mono ?_); rintro e w1 ⟨pv, rfl, hown, hb1⟩; have HO1 := Lib.hid hown; have HB1 := Lib.hid (HB0.out.trans (hb1.mono (by simp <;> omega))); have HK1 := Lib.hid (HK0.out.belowS hb1); have HMa := Lib.hid (HM1.out.below hb1); clear hb1 hown; obtain ⟨b1, off1, q1, hq1, -, -, hbb1, hc1⟩ := (SlV.of_own HO1.out).cells (by decide); subst hq1; have i0 := hc1 0 (.string ⟨#[97]⟩) rfl; simp only [Nat.add_zero] at i0; clear hc1)
  have HA := Lib.hid (by simpa using HMa.out : MapS w1 (w.heap.size + 1) [])
  clear HMa HM1 hmm C1
  refine wp_loop_rounds 2 ?_; rw [rounds_succ]
  go_wp2_with (first
    | (refine wpl_lenN rfl (.tmp 39) 92 rfl info46 (w.heap.size + 1) [] 0 (by simp) HA.out rfl ?_)
    | (go_at_call 95; (with_reducible refine (C2 _ (HE.out.below HB1.out)).out.mono ?_); rintro e w2 ⟨⟨t, v, rfl⟩, hb2⟩; have HB2 := Lib.hid (HB1.out.trans (hb2.mono HB1.out.size)); have HA2 := Lib.hid (HA.out.below hb2); have HK2 := Lib.hid (HK1.out.belowS hb2); clear hb2)
    | (go_at_call 87; (with_reducible refine (C3 _ _ _).out.mono ?_); rintro e w3 ⟨rfl, rfl⟩))
  rw [rounds_succ]
  have HA3 := Lib.hid (HA2.out.alloc (.cells #[.string ⟨#[]⟩, .string ⟨#[]⟩, .string ⟨#[]⟩, .slice none 0 0, .bool false] 86))
  have HK3 := Lib.hid (HK2.out.alloc (.cells #[.string ⟨#[]⟩, .string ⟨#[]⟩, .string ⟨#[]⟩, .slice none 0 0, .bool false] 86))
  have HB3 := Lib.hid (HB2.out.alloc HB2.out.size (.cells #[.string ⟨#[]⟩, .string ⟨#[]⟩, .string ⟨#[]⟩, .slice none 0 0, .bool false] 86))
  obtain ⟨c1, c2, c3, c4⟩ := HK3.out.use
  go_wp2_with (refine wpl_lenN rfl (.tmp 117) 92 rfl info46 (w.heap.size + 1) [] 0 (by simp) HA3.out rfl ?_)
  have hF := HK3.out.set_ 0 (.map none)
  have e0 := hF.cell 0
  simp at e0
  exact bodyPost_ret (v := .tuple #[.agg #[.map none], .iface t v]) (by simp [results, Tryz.results49, go_sem, e0]) rfl ⟨⟨t, v, rfl⟩, HB3.out.setCell (by simp) _⟩
set_option maxRecDepth 100000 in
set_option maxHeartbeats 8000000 in
theorem parseBaggage_a (w : World) (hE : Env w) :
    Calls Tryz.prog 18 #[.string ⟨#[97]⟩] w fun e w' => e = .returned (.tuple #[.slice none 0 0, .int .i64 0, .string (bs []), .bool false]) ∧ Below w.heap.size w w' := by
  have HE := Lib.hid hE
  have C1 := fun W h => Lib.hid (parse_a W h)
  have C2 := fun W => Lib.hid (membersOf_nil W)
  have C3 := fun W => Lib.hid (bagLen_nil W)
  have C4 := fun W => Lib.hid (bagString_nil W)
  clear hE
  go_enter Tryz.func18, Tryz.ntmps18
  go_wp2_with (go_at_call 49; (with_reducible refine (C1 _ HE.out).out.mono ?_); rintro e w1 ⟨⟨t, v, rfl⟩, hb1⟩; have HB1 := Lib.hid (hb1.alloc hb1.size (.cells #[.map none] 94)); have HJ1 := Lib.hid (Blk.new w1 94 #[.map none]); clear hb1; obtain ⟨c1, c2, c3, c4⟩ := HJ1.out.use)
  go_region_law (first
    | (go_simp; go_at_call 45; (refine (C2 _).out.mono ?_); rintro e w2 ⟨rfl, hb2⟩; have HB2 := Lib.hid (below_then (B := w.heap.size) (a := w) hb2 (by exact HB1.out.size) (by have z := HB1.out; exact ⟨z.os, z.tape, z.output, z.size, z.block⟩)); have HJ2 := Lib.hid (Blk.by_ hb2 (by have z := HJ1.out; exact z)); clear hb2; obtain ⟨d1, d2, d3, d4⟩ := HJ2.out.use)
    | (go_simp; go_at_call 46; (refine (C3 _).out.mono ?_); rintro e w3 ⟨rfl, hb3⟩; have HB3 := Lib.hid (below_then (B := w.heap.size) (a := w) hb3 (by exact HB2.out.size) (by have z := HB2.out; exact ⟨z.os, z.tape, z.output, z.size, z.block⟩)); have HJ3 := Lib.hid (Blk.by_ hb3 (by have z := HJ2.out; exact z)); clear hb3; obtain ⟨f1, f2, f3, f4⟩ := HJ3.out.use)
    | (go_simp; go_at_call 47; (refine (C4 _).out.mono ?_); rintro e w4 ⟨rfl, hb4⟩; have HB4 := Lib.hid (below_then (B := w.heap.size) (a := w) hb4 (by exact HB3.out.size) (by have z := HB3.out; exact ⟨z.os, z.tape, z.output, z.size, z.block⟩)); clear hb4))
  all_goals go_wp2
  all_goals exact bodyPost_ret (v := .tuple #[.slice none 0 0, .int .i64 0, .string (bs []), .bool false]) (by simp [results, Tryz.results18, go_sem]) rfl ⟨rfl, ⟨HB4.out.os, HB4.out.tape, HB4.out.output, HB4.out.size, HB4.out.block⟩⟩
end Go.Proofs.YtpgookhdffklkaaGreatDoor
