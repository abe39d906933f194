/-
  Package baggage: names, properties, members as they are made.
-/
import Derived.Test.YtpgookhdffklkaaGreatDoorLeafG
import Derived.Test.YtpgookhdffklkaaGreatDoorMapS
namespace Go.Proofs.YtpgookhdffklkaaGreatDoor
open Go.RowKit

theorem okB_parts {k v : List UInt8} (h : okB k v = true) : k ≠ [] ∧ Lib.validD k = true ∧ Lib.validD v = true := by
  unfold okB at h
  simp only [Bool.and_eq_true, Bool.not_eq_true'] at h
  exact ⟨fun e => by rw [e] at h; simp at h, h.1.2, h.2⟩
theorem valid_true {l : List UInt8} (w : World) (hE : Env w) (hs : l.length ≤ 1000000) (hv : Lib.validD l = true) :
    Calls Tryz.prog 74 #[.string (bs l)] w fun e w' => e = .returned (.bool true) ∧ Below w.heap.size w w' := by
  have := valid_any l w hE hs
  rwa [hv] at this

set_option maxHeartbeats 1000000 in
theorem name_ok (k : List UInt8) (w : World) (hE : Env w) (hs : k.length ≤ 1000000) (h0 : k ≠ []) (hv : Lib.validD k = true) :
    Calls Tryz.prog 180 #[.string (bs k)] w fun e w' => e = .returned (.bool true) ∧ Below w.heap.size w w' := by
  have C := fun W h => Lib.hid (valid_true W h hs hv)
  have hd : (k == []) = false := by simpa using h0
  have HE := Lib.hid hE
  clear hE h0 hv
  go_enter Tryz.func180, Tryz.ntmps180
  go_wp2_with (go_at_call 74; (with_reducible refine (C _ HE.out).out.mono ?_); rintro e w1 ⟨rfl, hb1⟩)
  go_ret
  exact ⟨rfl, hb1⟩
set_option maxHeartbeats 1000000 in
theorem value_ok (k : List UInt8) (w : World) (hE : Env w) (hs : k.length ≤ 1000000) (hv : Lib.validD k = true) :
    Calls Tryz.prog 182 #[.string (bs k)] w fun e w' => e = .returned (.bool true) ∧ Below w.heap.size w w' := by
  have C := fun W h => Lib.hid (valid_true W h hs hv)
  have HE := Lib.hid hE
  clear hE hv
  go_enter Tryz.func182, Tryz.ntmps182
  go_wp2_with (go_at_call 74; (with_reducible refine (C _ HE.out).out.mono ?_); rintro e w1 ⟨rfl, hb1⟩)
  go_ret
  exact ⟨rfl, hb1⟩

/-- The facts of a block known whole, as the walk uses them: here, and behind a new block. -/
theorem Blk.use {w : World} {g : Nat} {t : TypeId} {cs : Array Value} (h : Blk w g t cs) : (∀ i, w.cell? ⟨g, i, none⟩ = cs[i]?) ∧ (∀ i, w.frozen? ⟨g, i, none⟩ = false) ∧ (∀ o i, (w.alloc o).cell? ⟨g, i, none⟩ = cs[i]?) ∧ (∀ o i, (w.alloc o).frozen? ⟨g, i, none⟩ = false) :=
  ⟨h.cell, h.frozen, fun o i => (h.alloc o).cell i, fun o i => (h.alloc o).frozen i⟩

set_option maxRecDepth 100000 in
set_option maxHeartbeats 1000000 in
theorem newKeyProp_ok (k : List UInt8) (w : World) (hE : Env w) (hs : k.length ≤ 1000000) (h0 : k ≠ []) (hv : Lib.validD k = true) :
    Calls Tryz.prog 121 #[.string (bs k)] w fun e w' => e = .returned (.tuple #[.agg #[.string (bs k), .string (bs []), .bool false], .nilIface]) ∧ Below w.heap.size w w' := by
  have C := fun W h => Lib.hid (name_ok k W h hs h0 hv)
  have HE := Lib.hid hE
  clear hE hv h0
  go_enter Tryz.func121, Tryz.ntmps121
  go_wp2_with (go_at_call 180; (with_reducible refine (C _ (HE.out.below ((Below.refl _ _).alloc (Nat.le_refl _) _))).out.mono ?_); rintro e w1 ⟨rfl, hb1⟩; have HK := Lib.hid ((Blk.new w 148 _).belowS hb1); have HB := Lib.hid (((Below.refl w.heap.size w).alloc (Nat.le_refl _) _).trans (hb1.mono (by simp))); clear hb1; obtain ⟨c1, c2, c3, c4⟩ := HK.out.use)
  have hF := (((HK.out.alloc (.cells #[.string (bs k), .string ⟨#[]⟩, .bool false] 148)).set_ 0 (.string (bs k))).set_ 1 (.string ⟨#[]⟩)).set_ 2 (.bool false)
  have c0 := hF.cell 0
  have c1 := hF.cell 1
  have c2 := hF.cell 2
  simp at c0 c1 c2
  refine bodyPost_ret (v := .tuple #[.agg #[.string (bs k), .string (bs []), .bool false], .nilIface]) (by simp [results, Tryz.results121, go_sem, c0, c1, c2]; rfl) rfl ⟨rfl, ?_⟩
  exact (((HB.out.alloc HB.out.size _).setCell (Nat.le_refl _) _).setCell (Nat.le_refl _) _).setCell (Nat.le_refl _) _

set_option maxRecDepth 100000 in
set_option maxHeartbeats 1000000 in
theorem newKVProp_ok (k v : List UInt8) (w : World) (hE : Env w) (hs : k.length ≤ 1000000) (hsv : v.length ≤ 1000000) (h0 : k ≠ []) (hk : Lib.validD k = true) (hv : Lib.validD v = true) :
    Calls Tryz.prog 123 #[.string (bs k), .string (bs v)] w fun e w' => e = .returned (.tuple #[.agg #[.string (bs k), .string (bs v), .bool true], .nilIface]) ∧ Below w.heap.size w w' := by
  have C := fun W h => Lib.hid (name_ok k W h hs h0 hk)
  have C2 := fun W h => Lib.hid (value_ok v W h hsv hv)
  have HE := Lib.hid hE
  clear hE hv h0 hk
  go_enter Tryz.func123, Tryz.ntmps123
  go_wp2_with (first
    | (go_at_call 180; (with_reducible refine (C _ (HE.out.below ((Below.refl _ _).alloc (Nat.le_refl _) _))).out.mono ?_); rintro e w1 ⟨rfl, hb1⟩; have HK := Lib.hid ((Blk.new w 148 _).belowS hb1); have HB := Lib.hid (((Below.refl w.heap.size w).alloc (Nat.le_refl _) _).trans (hb1.mono (by simp))); clear hb1)
    | (go_at_call 182; (with_reducible refine (C2 _ (HE.out.below HB.out)).out.mono ?_); rintro e w2 ⟨rfl, hb2⟩; have HK2 := Lib.hid (HK.out.belowS hb2); have HB2 := Lib.hid (HB.out.trans (hb2.mono HB.out.size)); clear hb2; obtain ⟨c1, c2, c3, c4⟩ := HK2.out.use))
  have hF := (((HK2.out.alloc (.cells #[.string (bs k), .string (bs v), .bool true] 148)).set_ 0 (.string (bs k))).set_ 1 (.string (bs v))).set_ 2 (.bool true)
  have c0 := hF.cell 0
  have c1 := hF.cell 1
  have c2 := hF.cell 2
  simp at c0 c1 c2
  refine bodyPost_ret (v := .tuple #[.agg #[.string (bs k), .string (bs v), .bool true], .nilIface]) (by simp [results, Tryz.results123, go_sem, c0, c1, c2]) rfl ⟨rfl, ?_⟩
  exact (((HB2.out.alloc HB2.out.size _).setCell (Nat.le_refl _) _).setCell (Nat.le_refl _) _).setCell (Nat.le_refl _) _

theorem Blk.new1 (w : World) (o : Obj) (t : TypeId) (cs : Array Value) : Blk ((w.alloc o).alloc (.cells cs t)) (w.heap.size + 1) t cs := by
  have := Blk.new (w.alloc o) t cs
  simpa using this
/-- A property that may be made as it is. -/
structure OkP (p : Pr) : Prop where
  ok : okB p.k p.v = true
  no : p.has = false → p.v = []
  lk : p.k.length ≤ 1000000
  lv : p.v.length ≤ 1000000

set_option maxRecDepth 100000 in
set_option maxHeartbeats 1000000 in
theorem propertyMade_ok (p : Pr) (w : World) (hE : Env w) (hp : OkP p) :
    Calls Tryz.prog 83 #[.int .u8 0, .agg #[.string (bs p.k), .bool p.has, .string (bs p.v)]] w fun e w' => e = .returned (.tuple #[.agg #[.string (bs p.k), .string (bs p.v), .bool p.has], .nilIface]) ∧ Below w.heap.size w w' := by
  obtain ⟨k, has, v⟩ := p
  obtain ⟨h0, hk, hv⟩ := okB_parts hp.ok
  have HE := Lib.hid hE
  have Hno := Lib.hid hp.no
  have Hlk := hp.lk
  have Hlv := hp.lv
  have C := fun W h => Lib.hid (newKeyProp_ok k W h Hlk h0 hk)
  have C2 := fun W h => Lib.hid (newKVProp_ok k v W h Hlk Hlv h0 hk hv)
  clear hE hp h0 hk hv
  have hb0 : Below w.heap.size w ((w.alloc (.cells #[.string (bs k), .bool has, .string (bs v)] 146)).alloc (.cells #[.string ⟨#[]⟩, .string ⟨#[]⟩, .bool false] 148)) := ((Below.refl _ _).alloc (Nat.le_refl _) _).alloc (by simp) _
  have HK0 := Lib.hid (Blk.new1 w (.cells #[.string (bs k), .bool has, .string (bs v)] 146) 148 #[.string ⟨#[]⟩, .string ⟨#[]⟩, .bool false])
  have HB0 := Lib.hid hb0
  clear hb0
  dsimp only at *
  cases has
  · have hv0 : v = [] := Hno.out rfl
    subst hv0
    go_enter Tryz.func83, Tryz.ntmps83
    go_wp2_with (go_at_call 121; (with_reducible refine (C _ (HE.out.below HB0.out)).out.mono ?_); rintro e w1 ⟨rfl, hb1⟩; have HK := Lib.hid (HK0.out.belowS hb1); have HB := Lib.hid (HB0.out.trans (hb1.mono HB0.out.size)); clear hb1; obtain ⟨c1, c2, c3, c4⟩ := HK.out.use)
    have hF := ((HK.out.set_ 0 (.string (bs k))).set_ 1 (.string (bs []))).set_ 2 (.bool false)
    have c0 := hF.cell 0
    have c1 := hF.cell 1
    have c2 := hF.cell 2
    simp at c0 c1 c2
    refine bodyPost_ret (v := .tuple #[.agg #[.string (bs k), .string (bs []), .bool false], .nilIface]) (by simp [results, Tryz.results83, go_sem, c0, c1, c2]) rfl ⟨rfl, ?_⟩
    exact ((HB.out.setCell (by simp) _).setCell (by simp) _).setCell (by simp) _
  · go_enter Tryz.func83, Tryz.ntmps83
    go_wp2_with (go_at_call 123; (with_reducible refine (C2 _ (HE.out.below HB0.out)).out.mono ?_); rintro e w1 ⟨rfl, hb1⟩; have HK := Lib.hid (HK0.out.belowS hb1); have HB := Lib.hid (HB0.out.trans (hb1.mono HB0.out.size)); clear hb1; obtain ⟨c1, c2, c3, c4⟩ := HK.out.use)
    have hF := ((HK.out.set_ 0 (.string (bs k))).set_ 1 (.string (bs v))).set_ 2 (.bool true)
    have c0 := hF.cell 0
    have c1 := hF.cell 1
    have c2 := hF.cell 2
    simp at c0 c1 c2
    refine bodyPost_ret (v := .tuple #[.agg #[.string (bs k), .string (bs v), .bool true], .nilIface]) (by simp [results, Tryz.results83, go_sem, c0, c1, c2]) rfl ⟨rfl, ?_⟩
    exact ((HB.out.setCell (by simp) _).setCell (by simp) _).setCell (by simp) _

/-! ### validate -/
set_option maxRecDepth 100000 in
set_option maxHeartbeats 1000000 in
theorem propValidate_ok (p : Pr) (w : World) (hE : Env w) (hp : OkP p) :
    Calls Tryz.prog 229 #[.agg #[.string (bs p.k), .string (bs p.v), .bool p.has]] w fun e w' => e = .returned .nilIface ∧ Below w.heap.size w w' := by
  obtain ⟨k, has, v⟩ := p
  obtain ⟨h0, hk, hv⟩ := okB_parts hp.ok
  have HE := Lib.hid hE
  have Hno := Lib.hid hp.no
  have Hlk := hp.lk
  have Hlv := hp.lv
  have C := fun W h => Lib.hid (name_ok k W h Hlk h0 hk)
  have C2 := fun W h => Lib.hid (value_ok v W h Hlv hv)
  have HK0 := Lib.hid (Blk.new w 148 #[.string (bs k), .string (bs v), .bool has])
  have HB0 := Lib.hid ((Below.refl w.heap.size w).alloc (Nat.le_refl _) (.cells #[.string (bs k), .string (bs v), .bool has] 148))
  clear hE hp h0 hk hv
  dsimp only at *
  cases has
  · have hv0 : v = [] := Hno.out rfl
    subst hv0
    go_enter Tryz.func229, Tryz.ntmps229
    go_wp2_with (go_at_call 180; (with_reducible refine (C _ (HE.out.below HB0.out)).out.mono ?_); rintro e w1 ⟨rfl, hb1⟩; have HK := Lib.hid (HK0.out.belowS hb1); have HB := Lib.hid (HB0.out.trans (hb1.mono HB0.out.size)); clear hb1; obtain ⟨c1, c2, c3, c4⟩ := HK.out.use)
    go_ret
    exact ⟨rfl, HB.out⟩
  · go_enter Tryz.func229, Tryz.ntmps229
    go_wp2_with (first
      | (go_at_call 180; (with_reducible refine (C _ (HE.out.below HB0.out)).out.mono ?_); rintro e w1 ⟨rfl, hb1⟩; have HK := Lib.hid (HK0.out.belowS hb1); have HB := Lib.hid (HB0.out.trans (hb1.mono HB0.out.size)); clear hb1; obtain ⟨c1, c2, c3, c4⟩ := HK.out.use)
      | (go_at_call 182; (with_reducible refine (C2 _ (HE.out.below HB.out)).out.mono ?_); rintro e w2 ⟨rfl, hb2⟩; have HB2 := Lib.hid (HB.out.trans (hb2.mono HB.out.size)); clear hb2))
    trace_state
    all_goals go_ret
    all_goals exact ⟨rfl, HB2.out⟩
end Go.Proofs.YtpgookhdffklkaaGreatDoor
