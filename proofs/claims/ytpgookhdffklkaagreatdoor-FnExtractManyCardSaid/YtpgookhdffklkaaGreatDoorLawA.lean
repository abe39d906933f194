/-
  laws: FnExtractNone answers true, whatever it is called with.
-/
import Derived.Test.YtpgookhdffklkaaGreatDoorSpecG
namespace Go.Proofs.YtpgookhdffklkaaGreatDoor
open Go.RowKit

theorem RowA.of_le {w w' : World} {e T : TypeId} {v : Value} {ml : List MA} (h : RowA w e T v ml) (hb : Below w.heap.size w w') : RowA w' e T v ml := h.below hb
theorem rd_toBE (l : List En) : (l.map toBE).map rdB = l.map toMem := by rw [List.map_map]; rfl
theorem right_nd {l : List En} (h : RightE l) : ((l.map toBE).map (·.k)).Nodup := by rw [keysBE]; exact h.2.1
theorem right_ded {l : List En} (h : RightE l) : dedB ((l.map toMA).map fun x => toB x.1) = l.map toBE := by rw [map_toB]; exact dedB_id (right_nd h)
theorem right_ok {l : List En} (h : RightE l) : ∀ x ∈ l.map toMA, OkM (toB x.1) := fun x hx => by
  obtain ⟨y, hy, rfl⟩ := List.mem_map.1 hx
  exact okE_ok (h.1 y hy)
theorem right_pl {l : List En} (h : RightE l) : ∀ x ∈ l.map toMA, PlM (toB x.1) := fun x hx => by
  obtain ⟨y, hy, rfl⟩ := List.mem_map.1 hx
  exact okE_pl (h.1 y hy)
theorem right_tok {l : List En} (h : RightE l) : ∀ x ∈ l.map toMA, tok x.1.k = true := fun x hx => by
  obtain ⟨y, hy, rfl⟩ := List.mem_map.1 hx
  exact (okE_parts (h.1 y hy)).1
theorem RowE.len {w : World} {v : Value} {l : List En} (h : RowE w v l) : l.length ≤ 9223372036854775807 := by
  obtain ⟨A', c', h1, h2, h3, _⟩ := h.1
  unfold maxLen at h3
  omega
theorem fitsE_len {l : List En} (h : fitsE l = true) : l.length ≤ 2147483647 := by
  simp only [fitsE, Bool.and_eq_true, decide_eq_true_eq] at h
  exact h.1

theorem parts_nil : Parts [] := ⟨fun _ h => (by cases h), fun _ h => (by cases h), (by simp), (by decide)⟩
theorem parts_one_nil : Parts [[]] := ⟨fun ms h m hm => (by simp only [List.mem_singleton] at h; subst h; cases hm), fun ms h => (by simp only [List.mem_singleton] at h; subst h; simp), (by simp), (by decide)⟩
theorem ext_none {header : Bool} {parts : List (List BM)} (hp : parts = [] ∨ parts = [[]]) {Lp Lr : List BM} (h : ExtR header parts Lp Lr) : Lr = Lp := by
  rcases hp with rfl | rfl
  · cases header
    · exact h
    · rcases h with ⟨_, h⟩ | ⟨L, h, _⟩
      · exact h
      · exact absurd rfl h
  · cases header
    · rcases h with ⟨_, h⟩ | ⟨h, _⟩
      · exact h
      · exact absurd rfl h
    · rcases h with ⟨_, h⟩ | ⟨L, h, _⟩
      · exact h
      · exact absurd rfl h

theorem perm_mem {ml : List MA} {Lr : List BM} {l : List En} (h : (ml.map (·.1)).Perm (Lr.map rdB)) (e : Lr = dedB ((l.map toMA).map fun x => toB x.1)) (hR : RightE l) : (ml.map (·.1)).Perm (l.map toMem) := by
  rw [e, right_ded hR, rd_toBE] at h
  exact h
set_option maxRecDepth 100000 in
set_option maxHeartbeats 8000000 in
theorem law6 (l : List En) (v : Value) (header empty : Bool) (w : World) (hE : Env w) (hv : RowE w v l) :
    Calls Tryz.prog 6 #[v, .bool header, .bool empty] w fun e w' => e = .returned (.bool true) ∧ Below w.heap.size w w' := by
  have HE := Lib.hid hE
  have HV := Lib.hid hv
  have C1 := fun W h => Lib.hid (zzFits12_any l v W h)
  have CA := fun W h => Lib.hid (carryAwake_any W h)
  cases hf : fitsE l
  · rw [hf] at C1
    clear hf hE hv
    go_enter Tryz.func6, Tryz.ntmps6
    go_wp2_with (go_at_call 24; (with_reducible refine (C1 _ HV.out).out.mono ?_); rintro e w1 ⟨rfl, hb1⟩)
    go_ret
    exact ⟨rfl, hb1⟩
  · have C2 := fun W h h1 => Lib.hid (carryRight_any toValid_any l v W h h1 hf)
    have hl := fitsE_len hf
    rw [hf] at C1
    clear hf hE hv
    cases hr : rightB l
    · rw [hr] at C2
      clear hr
      go_enter Tryz.func6, Tryz.ntmps6
      go_wp2_with (first
        | (go_at_call 24; (with_reducible refine (C1 _ HV.out).out.mono ?_); rintro e w1 ⟨rfl, hb1⟩; have HB1 := Lib.hid hb1; clear hb1)
        | (go_at_call 25; (with_reducible refine (C2 _ (HE.out.below HB1.out) (HV.out.below HB1.out)).out.mono ?_); rintro e w2 ⟨rfl, hb2⟩; have HB2 := Lib.hid (HB1.out.trans (hb2.mono HB1.out.size)); clear hb2)
        | (go_at_call 26; (with_reducible refine (CA _ (HE.out.below HB2.out)).out.mono ?_); rintro e w3 ⟨rfl, hb3⟩; have HB3 := Lib.hid (HB2.out.trans (hb3.mono HB2.out.size)); clear hb3))
      go_ret
      exact ⟨rfl, HB3.out⟩
    · have hR := rightB_iff.1 hr
      rw [hr] at C2
      have HR := Lib.hid hR
      have CT := fun W h => Lib.hid (carryTo_any l v W h (by omega))
      have CX := fun (parts : List (List BM)) v1 vv W hP hE h1 h2 => Lib.hid (extractBaggage_any header parts hP (l.map toMA) v1 vv W hE h1 (right_ok HR.out) (right_pl HR.out) (by have := HR.out.2.2; simp; omega) (by rw [right_ded HR.out]; exact tot_small HR.out) h2)
      have CI := fun ml v1 W h1 h2 h3 h4 => Lib.hid (carryIs_true ml l v1 v W h1 h2 h3 h4 HR.out.2.1 (by have := HR.out.2.2; omega))
      clear hr hR
      cases empty
      · go_enter Tryz.func6, Tryz.ntmps6
        go_wp2_with (first
          | (go_at_call 24; (with_reducible refine (C1 _ HV.out).out.mono ?_); rintro e w1 ⟨rfl, hb1⟩; have HB1 := Lib.hid hb1; clear hb1)
          | (go_at_call 25; (with_reducible refine (C2 _ (HE.out.below HB1.out) (HV.out.below HB1.out)).out.mono ?_); rintro e w2 ⟨rfl, hb2⟩; have HB2 := Lib.hid (HB1.out.trans (hb2.mono HB1.out.size)); clear hb2)
          | (go_at_call 28; (with_reducible refine (CT _ (HV.out.below HB2.out)).out.mono ?_); rintro e w3 ⟨⟨v3, rfl, hv3⟩, hb3⟩; have HB3 := Lib.hid (HB2.out.trans (hb3.mono HB2.out.size)); have HV3 := Lib.hid hv3; clear hb3 hv3)
          | (go_at_call 29; (with_reducible refine (CX [] _ _ _ parts_nil (HE.out.below HB3.out) HV3.out (SlV.nil _ _)).out.mono ?_); rintro e w4 ⟨⟨Lr, ml, v4, hx, hp, hs, rfl, hrow⟩, hb4⟩; have HB4 := Lib.hid (HB3.out.trans (hb4.mono HB3.out.size)); have HX := Lib.hid (ext_none (Or.inl rfl) hx); have HP := Lib.hid hp; have HS := Lib.hid hs; have HRw := Lib.hid hrow; clear hb4 hx hp hs hrow)
          | (go_at_call 26; (with_reducible refine (CA _ (HE.out.below HB4.out)).out.mono ?_); rintro e w5 ⟨rfl, hb5⟩; have HB5 := Lib.hid (HB4.out.trans (hb5.mono HB4.out.size)); have HRw5 := Lib.hid (HRw.out.below hb5); have HP5 := Lib.hid (perm_mem HP.out HX.out HR.out); clear hb5)
          | (go_at_call 30; (with_reducible refine (CI _ _ _ HRw5.out HS.out (HV.out.below HB5.out) HP5.out).out.mono ?_); rintro e w6 ⟨rfl, hb6⟩; have HB6 := Lib.hid (HB5.out.trans (hb6.mono HB5.out.size)); clear hb6))
        go_ret
        exact ⟨rfl, HB6.out⟩
      · go_enter Tryz.func6, Tryz.ntmps6
        go_wp2_with (first
          | (go_at_call 24; (with_reducible refine (C1 _ HV.out).out.mono ?_); rintro e w1 ⟨rfl, hb1⟩; have HB1 := Lib.hid hb1; clear hb1)
          | (go_at_call 25; (with_reducible refine (C2 _ (HE.out.below HB1.out) (HV.out.below HB1.out)).out.mono ?_); rintro e w2 ⟨rfl, hb2⟩; have HB2 := Lib.hid ((HB1.out.trans (hb2.mono HB1.out.size)).alloc (Nat.le_trans HB1.out.size hb2.size) (.cells #[.string ⟨#[]⟩] 9)); have HQ2 := Lib.hid (show SlV (w2.alloc (.cells #[.string ⟨#[]⟩] 9)) 9 (.slice (some ⟨w2.heap.size, 0, none⟩) 1 1) 1 (strs ([[]].map textOf)) from SlV.of_blk (c := 1) (Blk.new w2 9 _) (Nat.le_refl _) (by unfold maxLen; omega)); clear hb2)
          | (go_at_call 28; (with_reducible refine (CT _ (HV.out.below HB2.out)).out.mono ?_); rintro e w3 ⟨⟨v3, rfl, hv3⟩, hb3⟩; have HB3 := Lib.hid (HB2.out.trans (hb3.mono HB2.out.size)); have HV3 := Lib.hid hv3; have HQ3 := Lib.hid (HQ2.out.below hb3); clear hb3 hv3)
          | (go_at_call 29; (with_reducible refine (CX [[]] _ _ _ parts_one_nil (HE.out.below HB3.out) HV3.out HQ3.out).out.mono ?_); rintro e w4 ⟨⟨Lr, ml, v4, hx, hp, hs, rfl, hrow⟩, hb4⟩; have HB4 := Lib.hid (HB3.out.trans (hb4.mono HB3.out.size)); have HX := Lib.hid (ext_none (Or.inr rfl) hx); have HP := Lib.hid hp; have HS := Lib.hid hs; have HRw := Lib.hid hrow; clear hb4 hx hp hs hrow)
          | (go_at_call 26; (with_reducible refine (CA _ (HE.out.below HB4.out)).out.mono ?_); rintro e w5 ⟨rfl, hb5⟩; have HB5 := Lib.hid (HB4.out.trans (hb5.mono HB4.out.size)); have HRw5 := Lib.hid (HRw.out.below hb5); have HP5 := Lib.hid (perm_mem HP.out HX.out HR.out); clear hb5)
          | (go_at_call 30; (with_reducible refine (CI _ _ _ HRw5.out HS.out (HV.out.below HB5.out) HP5.out).out.mono ?_); rintro e w6 ⟨rfl, hb6⟩; have HB6 := Lib.hid (HB5.out.trans (hb6.mono HB5.out.size)); clear hb6))
        go_ret
        exact ⟨rfl, HB6.out⟩
end Go.Proofs.YtpgookhdffklkaaGreatDoor
