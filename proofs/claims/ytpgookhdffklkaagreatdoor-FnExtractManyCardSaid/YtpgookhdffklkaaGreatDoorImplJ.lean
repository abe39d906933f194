/-
  impl: members of package baggage as data.
-/
import Derived.Test.YtpgookhdffklkaaGreatDoorImplI
namespace Go.Proofs.YtpgookhdffklkaaGreatDoor
open Go.RowKit

theorem Keeps.blk {T : TypeId → Prop} {w w' : World} {g : Nat} {t : TypeId} {cs : Array Value} (h : Keeps T w w') (hb : Blk w g t cs) (ht : T t) : Blk w' g t cs := h _ _ _ _ ht hb
theorem Blk.new2 (w : World) (o o' : Obj) (t : TypeId) (cs : Array Value) : Blk (((w.alloc o).alloc o').alloc (.cells cs t)) (w.heap.size + 1 + 1) t cs := by
  have := Blk.new ((w.alloc o).alloc o') t cs
  simpa using this
section
variable (k v md : List UInt8) (A : Option Addr) (n q : Nat) (w : World)
set_option maxHeartbeats 1000000 in
theorem memKey_any : Calls Tryz.prog 139 #[.agg #[.string (bs k), .string (bs v), .string (bs md), .slice A n q, .bool true]] w fun e w' => e = .returned (.string (bs k)) ∧ Below w.heap.size w w' := by
  go_enter Tryz.func139, Tryz.ntmps139
  go_wp2
  go_ret
  exact ⟨rfl, (Below.refl _ _).alloc (Nat.le_refl _) _⟩
set_option maxHeartbeats 1000000 in
theorem memVal_any : Calls Tryz.prog 140 #[.agg #[.string (bs k), .string (bs v), .string (bs md), .slice A n q, .bool true]] w fun e w' => e = .returned (.string (bs v)) ∧ Below w.heap.size w w' := by
  go_enter Tryz.func140, Tryz.ntmps140
  go_wp2
  go_ret
  exact ⟨rfl, (Below.refl _ _).alloc (Nat.le_refl _) _⟩
end
set_option maxRecDepth 100000 in
set_option maxHeartbeats 1000000 in
theorem memProps_plain (k v : List UInt8) (A : Option Addr) (q : Nat) (w : World) : Calls Tryz.prog 141 #[.agg #[.string (bs k), .string (bs v), .string (bs []), .slice A 0 q, .bool true]] w fun e w' => e = .returned (.slice none 0 0) ∧ Below w.heap.size w w' := by
  go_enter Tryz.func141, Tryz.ntmps141
  go_wp2
  go_ret
  exact ⟨rfl, (Below.refl _ _).alloc (Nat.le_refl _) _⟩

set_option maxRecDepth 100000 in
set_option maxHeartbeats 4000000 in
theorem memberOf_plain (k u : List UInt8) (v : Value) (w : World) (hv : MvR w v ⟨k, u, [], []⟩) :
    Calls Tryz.prog 91 #[v] w fun e w' => e = .returned (.agg #[.string (bs k), .string (bs u), .slice none 0 0]) ∧ Below w.heap.size w w' := by
  obtain ⟨pv, rfl, hs⟩ := hv
  obtain ⟨A, q, hq⟩ := hs.form
  subst hq
  dsimp only at *
  simp only [List.length_nil, List.flatMap_nil] at *
  have HS := Lib.hid hs
  have C1 := fun W => Lib.hid (memKey_any k u [] A 0 q W)
  have C2 := fun W => Lib.hid (memVal_any k u [] A 0 q W)
  have C3 := fun W => Lib.hid (memProps_plain k u A q W)
  have HB := Lib.hid (((Below.refl w.heap.size w).alloc (Nat.le_refl _) (.cells #[.string (bs k), .string (bs u), .string (bs []), .slice A 0 q, .bool true] 86)).alloc (by simp) (.cells #[.string ⟨#[]⟩, .string ⟨#[]⟩, .slice none 0 0] 82))
  have HK := Lib.hid ((Blk.new w 86 #[.string (bs k), .string (bs u), .string (bs []), .slice A 0 q, .bool true]).alloc (.cells #[.string ⟨#[]⟩, .string ⟨#[]⟩, .slice none 0 0] 82))
  have HJ := Lib.hid (Blk.new1 w (.cells #[.string (bs k), .string (bs u), .string (bs []), .slice A 0 q, .bool true] 86) 82 #[.string ⟨#[]⟩, .string ⟨#[]⟩, .slice none 0 0])
  clear hs
  go_enter Tryz.func91, Tryz.ntmps91
  go_wp2
  go_region_law (first
    | (go_simp; go_at_call 139; (refine (C1 _).out.mono ?_); rintro e w1 ⟨rfl, hb1⟩; have HB := Lib.hid (below_then hb1 (by have := HB.out.size; simp at this ⊢ <;> omega) ⟨HB.out.os, HB.out.tape, HB.out.output, HB.out.size, HB.out.block⟩); have HK := Lib.hid (Blk.by_ hb1 HK.out); have HJ := Lib.hid (Blk.by_ hb1 HJ.out); clear hb1; obtain ⟨f1, f2, f3, f4⟩ := HK.out.use; obtain ⟨g1, g2, g3, g4⟩ := HJ.out.use)
    | (go_simp; go_at_call 139; (refine (C1 _).out.mono ?_); rintro e w1 ⟨rfl, hb1⟩; have HN := Lib.hid (show Blk w1 (w.heap.size + 1 + 1) 82 #[.string ⟨#[]⟩, .string ⟨#[]⟩, .slice none 0 0] from Blk.by_ hb1 (by have z := Blk.new2 w (.cells #[.string (bs k), .string (bs u), .string (bs []), .slice A 0 q, .bool true] 86) (.cells #[.string ⟨#[]⟩, .string ⟨#[]⟩, .slice none 0 0] 82) 82 #[.string ⟨#[]⟩, .string ⟨#[]⟩, .slice none 0 0]; exact z)); have HB := Lib.hid (below_then (B := w.heap.size) (a := w) hb1 (by have := HB.out.size; simp at this ⊢ <;> omega) (by have z := HB.out.alloc (by have := HB.out.size; simp at this ⊢ <;> omega) (.cells #[.string ⟨#[]⟩, .string ⟨#[]⟩, .slice none 0 0] 82); exact ⟨z.os, z.tape, z.output, z.size, z.block⟩)); have HK := Lib.hid (Blk.by_ hb1 (by have z := HK.out.alloc (.cells #[.string ⟨#[]⟩, .string ⟨#[]⟩, .slice none 0 0] 82); exact z)); have HJ := Lib.hid (Blk.by_ hb1 (by have z := HJ.out.alloc (.cells #[.string ⟨#[]⟩, .string ⟨#[]⟩, .slice none 0 0] 82); exact z)); clear hb1; obtain ⟨f1, f2, f3, f4⟩ := HK.out.use; obtain ⟨g1, g2, g3, g4⟩ := HJ.out.use; obtain ⟨n1, n2, n3, n4⟩ := HN.out.use)
    | (go_simp; go_at_call 140; (refine (C2 _).out.mono ?_); rintro e w1 ⟨rfl, hb1⟩; have HN := Lib.hid (Blk.by_ hb1 HN.out); have HB := Lib.hid (below_then hb1 (by have := HB.out.size; simp at this ⊢ <;> omega) ⟨HB.out.os, HB.out.tape, HB.out.output, HB.out.size, HB.out.block⟩); have HK := Lib.hid (Blk.by_ hb1 HK.out); have HJ := Lib.hid (Blk.by_ hb1 HJ.out); clear hb1; obtain ⟨f1, f2, f3, f4⟩ := HK.out.use; obtain ⟨g1, g2, g3, g4⟩ := HJ.out.use; obtain ⟨n1, n2, n3, n4⟩ := HN.out.use)
    | (go_simp; go_at_call 140; (refine (C2 _).out.mono ?_); rintro e w1 ⟨rfl, hb1⟩; have HB := Lib.hid (below_then hb1 (by have := HB.out.size; simp at this ⊢ <;> omega) ⟨HB.out.os, HB.out.tape, HB.out.output, HB.out.size, HB.out.block⟩); have HK := Lib.hid (Blk.by_ hb1 HK.out); have HJ := Lib.hid (Blk.by_ hb1 HJ.out); clear hb1; obtain ⟨f1, f2, f3, f4⟩ := HK.out.use; obtain ⟨g1, g2, g3, g4⟩ := HJ.out.use)
    | (go_simp; go_at_call 140; (refine (C2 _).out.mono ?_); rintro e w1 ⟨rfl, hb1⟩; have hgN := HJ.out.lt; have HN := Lib.hid (show Blk w1 _ 82 #[.string ⟨#[]⟩, .string ⟨#[]⟩, .slice none 0 0] from Blk.by_ hb1 (Blk.new _ 82 _)); have HB := Lib.hid (below_then (B := w.heap.size) (a := w) hb1 (by have := HB.out.size; simp at this ⊢ <;> omega) (by have z := HB.out.alloc (by have := HB.out.size; simp at this ⊢ <;> omega) (.cells #[.string ⟨#[]⟩, .string ⟨#[]⟩, .slice none 0 0] 82); exact ⟨z.os, z.tape, z.output, z.size, z.block⟩)); have HK := Lib.hid (Blk.by_ hb1 (by have z := HK.out.alloc (.cells #[.string ⟨#[]⟩, .string ⟨#[]⟩, .slice none 0 0] 82); exact z)); have HJ := Lib.hid (Blk.by_ hb1 (by have z := HJ.out.alloc (.cells #[.string ⟨#[]⟩, .string ⟨#[]⟩, .slice none 0 0] 82); exact z)); clear hb1; obtain ⟨f1, f2, f3, f4⟩ := HK.out.use; obtain ⟨g1, g2, g3, g4⟩ := HJ.out.use; obtain ⟨n1, n2, n3, n4⟩ := HN.out.use))
  all_goals first
    | (with_reducible show Exit.then _ _ _ _ (World.setCell _ _ _); obtain ⟨hF, hFb, hFk⟩ := sets3 HN.out (.string (bs k)) (.string (bs u)) (.slice none 0 0); have HF := Lib.hid hF; have HJ := Lib.hid (HJ.out.below (hFb (w.heap.size + 2) _ (Below.refl _ _) (by omega)) (by omega)); have HB := Lib.hid (hFb _ _ HB.out (by omega)); have HK := Lib.hid (Keeps.blk hFk HK.out (by simp)); clear hF hFb hFk; obtain ⟨f1, f2, f3, f4⟩ := HF.out.use; obtain ⟨k1, k2, k3, k4⟩ := HK.out.use; go_wp2_with (go_at_call 141; (refine (C3 _).out.mono ?_); rintro e w2 ⟨rfl, hb2⟩; have HB := Lib.hid (HB.out.trans (hb2.mono HB.out.size)); have HJ := Lib.hid (HJ.out.belowS hb2); have HF := Lib.hid (HF.out.belowS hb2); clear hb2; obtain ⟨f1, f2, f3, f4⟩ := HF.out.use; obtain ⟨g1, g2, g3, g4⟩ := HJ.out.use); refine wp_loop_rounds 1 ?_; rw [rounds_succ]; go_wp2; obtain ⟨hG, hGb, hGk⟩ := sets3 HJ.out (.string (bs k)) (.string (bs u)) (.slice none 0 0); have e0 := hG.cell 0; have e1 := hG.cell 1; have e2 := hG.cell 2; simp at e0 e1 e2; exact bodyPost_ret (v := .agg #[.string (bs k), .string (bs u), .slice none 0 0]) (by simp [results, Tryz.results91, go_sem, e0, e1, e2]) rfl ⟨rfl, hGb _ _ HB.out (by omega)⟩)
    | (have HF := Lib.hid (Blk.new w1 82 #[.string (bs k), .string (bs u), .slice none 0 0]); have HK := Lib.hid (HK.out.alloc (.cells #[.string (bs k), .string (bs u), .slice none 0 0] 82)); have HJ := Lib.hid (HJ.out.alloc (.cells #[.string (bs k), .string (bs u), .slice none 0 0] 82)); have HB := Lib.hid (HB.out.alloc HB.out.size (.cells #[.string (bs k), .string (bs u), .slice none 0 0] 82)); go_wp2_with (go_at_call 141; (refine (C3 _).out.mono ?_); rintro e w2 ⟨rfl, hb2⟩; have HB := Lib.hid (HB.out.trans (hb2.mono HB.out.size)); have HJ := Lib.hid (HJ.out.belowS hb2); have HF := Lib.hid (HF.out.belowS hb2); clear hb2; obtain ⟨f1, f2, f3, f4⟩ := HF.out.use; obtain ⟨g1, g2, g3, g4⟩ := HJ.out.use); refine wp_loop_rounds 1 ?_; rw [rounds_succ]; go_wp2; obtain ⟨hG, hGb, hGk⟩ := sets3 HJ.out (.string (bs k)) (.string (bs u)) (.slice none 0 0); have e0 := hG.cell 0; have e1 := hG.cell 1; have e2 := hG.cell 2; simp at e0 e1 e2; exact bodyPost_ret (v := .agg #[.string (bs k), .string (bs u), .slice none 0 0]) (by simp [results, Tryz.results91, go_sem, e0, e1, e2]) rfl ⟨rfl, hGb _ _ HB.out (by omega)⟩)
end Go.Proofs.YtpgookhdffklkaaGreatDoor
