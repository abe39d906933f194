/-
  Package baggage: a member as an item of the list, and back.
-/
import Derived.Test.YtpgookhdffklkaaGreatDoorMC
namespace Go.Proofs.YtpgookhdffklkaaGreatDoor
open Go.RowKit
set_option maxRecDepth 100000 in
set_option maxHeartbeats 2000000 in
theorem itemFromMember_any (m : BM) (v : Value) (w : World) (hv : MvR w v m) (hn : m.ps.length ≤ 1000000) (hx : m.md ≠ [] → m.ps = []) :
    Calls Tryz.prog 86 #[v] w fun e w' => ∃ it, e = .returned it ∧ ItR w' it m ∧ Below w.heap.size w w' := by
  obtain ⟨k, u, md, ps⟩ := m
  obtain ⟨pv, rfl, hs⟩ := hv
  obtain ⟨A, q, hq⟩ := hs.form
  subst hq
  dsimp only at *
  have HS := Lib.hid hs
  have HB0 := Lib.hid (((Below.refl w.heap.size w).alloc (Nat.le_refl _) (.cells #[.string (bs k), .string (bs u), .string (bs md), .slice A ps.length q, .bool true] 86)).alloc (by simp) (.cells #[.string ⟨#[]⟩, .string ⟨#[]⟩, .slice none 0 0] 154))
  have HK0 := Lib.hid ((Blk.new w 86 #[.string (bs k), .string (bs u), .string (bs md), .slice A ps.length q, .bool true]).alloc (.cells #[.string ⟨#[]⟩, .string ⟨#[]⟩, .slice none 0 0] 154))
  have HJ0 := Lib.hid (Blk.new1 w (.cells #[.string (bs k), .string (bs u), .string (bs md), .slice A ps.length q, .bool true] 86) 154 #[.string ⟨#[]⟩, .string ⟨#[]⟩, .slice none 0 0])
  clear hs
  by_cases hm : md = []
  · subst hm
    clear hx
    have C1 := fun W h => Lib.hid (asInternal_any ps (.slice A ps.length q) W h hn)
    have C2 := fun A q W => Lib.hid (newItemProps_any u A ps.length q W)
    go_enter Tryz.func86, Tryz.ntmps86
    go_wp2
    go_region_law (first
      | (go_simp; go_at_call 132; (refine (C1 _ (by have z := HS.out.below HB0.out; exact z)).out.mono ?_); rintro e w1 ⟨v1, rfl, hs1, hb1⟩; have HS1 := Lib.hid hs1; have HB1 := Lib.hid (below_then hb1 (by simp <;> omega) ⟨HB0.out.os, HB0.out.tape, HB0.out.output, HB0.out.size, HB0.out.block⟩); have HK1 := Lib.hid (Blk.by_ hb1 HK0.out); have HJ1 := Lib.hid (Blk.by_ hb1 HJ0.out); clear hs1 hb1; obtain ⟨A1, q1, hq1⟩ := HS1.out.form; subst hq1; obtain ⟨f1, f2, f3, f4⟩ := HK1.out.use; obtain ⟨g1, g2, g3, g4⟩ := HJ1.out.use)
      | (go_simp; go_at_call 131; (refine (C2 _ _ _).out.mono ?_); rintro e w2 ⟨rfl, hb2⟩; have HS2 := Lib.hid (HS1.out.below (by have z := hb2; exact z)); have HB2 := Lib.hid (below_then hb2 (by have := HB1.out.size; simp <;> omega) ⟨HB1.out.os, HB1.out.tape, HB1.out.output, HB1.out.size, HB1.out.block⟩); have HJ2 := Lib.hid (Blk.by_ hb2 HJ1.out); clear hb2; obtain ⟨h1, h2, h3, h4⟩ := HJ2.out.use))
    all_goals go_wp2
    all_goals
      obtain ⟨hF, hFb, hFk⟩ := sets3 HJ2.out (.string (bs u)) (.string (bs [])) (.slice A1 ps.length q1)
      have e0 := hF.cell 0
      have e1 := hF.cell 1
      have e2 := hF.cell 2
      simp at e0 e1 e2
      refine bodyPost_ret (v := .agg #[.string (bs u), .string (bs []), .slice A1 ps.length q1]) (by simp [results, Tryz.results86, go_sem, e0, e1, e2]) rfl ⟨_, rfl, ⟨_, rfl, HS2.out.keeps hFk (by simp)⟩, hFb _ _ HB2.out (by omega)⟩
  · have hd : md.isEmpty = false := by simpa using hm
    have hps : ps = [] := hx hm
    subst hps
    clear hx hm
    have C1 := fun W => Lib.hid (newItemMeta_any u md W)
    go_enter Tryz.func86, Tryz.ntmps86
    go_wp2_with (go_at_call 130; (with_reducible refine (C1 _).out.mono ?_); rintro e w1 ⟨rfl, hb1⟩; have HB1 := Lib.hid (HB0.out.trans (hb1.mono (by simp <;> omega))); have HJ1 := Lib.hid (HJ0.out.belowS hb1); clear hb1; obtain ⟨h1, h2, h3, h4⟩ := HJ1.out.use)
    obtain ⟨hF, hFb, hFk⟩ := sets3 HJ1.out (.string (bs u)) (.string (bs md)) (.slice none 0 0)
    have e0 := hF.cell 0
    have e1 := hF.cell 1
    have e2 := hF.cell 2
    simp at e0 e1 e2
    refine bodyPost_ret (v := .agg #[.string (bs u), .string (bs md), .slice none 0 0]) (by simp [results, Tryz.results86, go_sem, e0, e1, e2]) rfl ⟨_, rfl, ⟨_, rfl, SlV.nil _ _⟩, hFb _ _ HB1.out (by omega)⟩
set_option maxRecDepth 100000 in
set_option maxHeartbeats 4000000 in
theorem memberFromItem_any (m : BM) (it : Value) (w : World) (hv : ItR w it m) (hn : m.ps.length ≤ 1000000) :
    Calls Tryz.prog 88 #[.string (bs m.k), it] w fun e w' => ∃ v, e = .returned v ∧ MvR w' v m ∧ Below w.heap.size w w' := by
  obtain ⟨k, u, md, ps⟩ := m
  obtain ⟨pv, rfl, hs⟩ := hv
  obtain ⟨A, q, hq⟩ := hs.form
  subst hq
  dsimp only at *
  have HS := Lib.hid hs
  have HB := Lib.hid (((Below.refl w.heap.size w).alloc (Nat.le_refl _) (.cells #[.string (bs u), .string (bs md), .slice A ps.length q] 154)).alloc (by simp) (.cells #[.string ⟨#[]⟩, .string ⟨#[]⟩, .string ⟨#[]⟩, .slice none 0 0, .bool false] 86))
  have HK := Lib.hid ((Blk.new w 154 #[.string (bs u), .string (bs md), .slice A ps.length q]).alloc (.cells #[.string ⟨#[]⟩, .string ⟨#[]⟩, .string ⟨#[]⟩, .slice none 0 0, .bool false] 86))
  have HJ := Lib.hid (Blk.new1 w (.cells #[.string (bs u), .string (bs md), .slice A ps.length q] 154) 86 #[.string ⟨#[]⟩, .string ⟨#[]⟩, .string ⟨#[]⟩, .slice none 0 0, .bool false])
  have C1 := fun W => Lib.hid (itemValue_any u md A ps.length q W)
  have C2 := fun W => Lib.hid (itemMeta_any u md A ps.length q W)
  have C3 := fun W => Lib.hid (itemProps_any u md A ps.length q W)
  have C4 := fun W h => Lib.hid (fromInternal_any ps (.slice A ps.length q) W h hn)
  clear hs
  go_enter Tryz.func88, Tryz.ntmps88
  go_wp2
  go_region_law (first
      | (go_simp; go_at_call 133; (refine (C1 _).out.mono ?_); rintro e w1 ⟨rfl, hb1⟩; have HB := Lib.hid (below_then hb1 (by have := HB.out.size; simp at this ⊢ <;> omega) ⟨HB.out.os, HB.out.tape, HB.out.output, HB.out.size, HB.out.block⟩); have HK := Lib.hid (Blk.by_ hb1 HK.out); have HJ := Lib.hid (Blk.by_ hb1 HJ.out); clear hb1; obtain ⟨f1, f2, f3, f4⟩ := HK.out.use)
      | (go_simp; go_at_call 134; (refine (C2 _).out.mono ?_); rintro e w1 ⟨rfl, hb1⟩; have HB := Lib.hid (below_then hb1 (by have := HB.out.size; simp at this ⊢ <;> omega) ⟨HB.out.os, HB.out.tape, HB.out.output, HB.out.size, HB.out.block⟩); have HK := Lib.hid (Blk.by_ hb1 HK.out); have HJ := Lib.hid (Blk.by_ hb1 HJ.out); clear hb1; obtain ⟨f1, f2, f3, f4⟩ := HK.out.use)
      | (go_simp; go_at_call 136; (refine (C3 _).out.mono ?_); rintro e w1 ⟨rfl, hb1⟩; have HB := Lib.hid (below_then hb1 (by have := HB.out.size; simp at this ⊢ <;> omega) ⟨HB.out.os, HB.out.tape, HB.out.output, HB.out.size, HB.out.block⟩); have HK := Lib.hid (Blk.by_ hb1 HK.out); have HJ := Lib.hid (Blk.by_ hb1 HJ.out); clear hb1; obtain ⟨f1, f2, f3, f4⟩ := HK.out.use)
      | (go_simp; go_at_call 135; (refine (C4 _ (by have z := HS.out.below HB.out; exact z)).out.mono ?_); rintro e w1 ⟨v1, rfl, hs1, hb1⟩; have HS1 := Lib.hid hs1; have HB := Lib.hid (below_then hb1 (by have := HB.out.size; simp at this ⊢ <;> omega) ⟨HB.out.os, HB.out.tape, HB.out.output, HB.out.size, HB.out.block⟩); have HJ := Lib.hid (Blk.by_ hb1 HJ.out); clear hb1 hs1; obtain ⟨A1, q1, hq1⟩ := HS1.out.form; subst hq1; obtain ⟨f1, f2, f3, f4⟩ := HJ.out.use))
  all_goals go_wp2
  all_goals
    obtain ⟨hF, hFb, hFk⟩ := sets5 HJ.out (.string (bs k)) (.string (bs u)) (.string (bs md)) (.slice A1 ps.length q1) (.bool true)
    have e0 := hF.cell 0
    have e1 := hF.cell 1
    have e2 := hF.cell 2
    have e3 := hF.cell 3
    have e4 := hF.cell 4
    simp at e0 e1 e2 e3 e4
    refine bodyPost_ret (v := .agg #[.string (bs k), .string (bs u), .string (bs md), .slice A1 ps.length q1, .bool true]) (by simp [results, Tryz.results88, go_sem, e0, e1, e2, e3, e4]) rfl ⟨_, rfl, ⟨_, rfl, HS1.out.keeps hFk (by simp)⟩, hFb _ _ HB.out (by omega)⟩
end Go.Proofs.YtpgookhdffklkaaGreatDoor
