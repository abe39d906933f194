/-
  laws: FnExtractBaggage answers true, whatever it is called with.
-/
import Derived.Test.YtpgookhdffklkaaGreatDoorLawB
namespace Go.Proofs.YtpgookhdffklkaaGreatDoor
open Go.RowKit

theorem parts_one {L : List BM} {l : List En} (h : L.Perm (l.map toBE)) (hR : RightE l) : Parts [L] := by
  obtain ⟨h1, h2, h3, h4⟩ := perm_pl h hR
  refine ⟨fun ms hm => ?_, fun ms hm => ?_, ?_, ?_⟩
  · simp only [List.mem_singleton] at hm; subst hm; exact h1
  · simp only [List.mem_singleton] at hm; subst hm; exact h2
  · simpa using h3
  · rw [List.map_singleton, Lib.join_one]
    unfold textOf
    rw [tot_join]
    exact h4
theorem ext_one {header : Bool} {L Lp Lr : List BM} {l : List En} (hL : L.Perm (l.map toBE)) (hR : RightE l) (h0 : L ≠ []) (h : ExtR header [L] Lp Lr) : Lr.Perm (l.map toBE) := by
  cases header
  · rcases h with ⟨h, _⟩ | ⟨_, h⟩
    · exact absurd h h0
    · rw [h]; exact hL
  · rcases h with ⟨h, _⟩ | ⟨L', _, h1, _, h2⟩
    · simp at h; exact absurd h h0
    · have h3 : L'.Perm (l.map toBE) := by simpa using h1.trans (by simpa using hL)
      rw [h2, dedB_id (perm_pl h3 hR).2.1]
      exact h3

set_option maxRecDepth 100000 in
set_option maxHeartbeats 8000000 in
theorem law5 (l p : List En) (v u : Value) (header : Bool) (w : World) (hE : Env w) (hv : RowE w v l) (hu : RowE w u p) :
    Calls Tryz.prog 5 #[v, u, .bool header] w fun e w' => e = .returned (.bool true) ∧ Below w.heap.size w w' := by
  have HE := Lib.hid hE
  have HV := Lib.hid hv
  have HU := Lib.hid hu
  have C1 := fun W h => Lib.hid (zzFits12_any l v W h)
  have D1 := fun W h => Lib.hid (zzFits12_any p u W h)
  have CA := fun W h => Lib.hid (carryAwake_any W h)
  cases hf : fitsE l
  · rw [hf] at C1
    clear hf hE hv hu
    go_enter Tryz.func5, Tryz.ntmps5
    go_wp2_with (go_at_call 24; (with_reducible refine (C1 _ HV.out).out.mono ?_); rintro e w1 ⟨rfl, hb1⟩; have HB1 := Lib.hid hb1; clear hb1)
    go_ret
    exact ⟨rfl, HB1.out⟩
  · have C2 := fun W h h1 => Lib.hid (carryRight_any toValid_any l v W h h1 hf)
    have hl := fitsE_len hf
    rw [hf] at C1
    clear hf
    cases hg : fitsE p
    · rw [hg] at D1
      clear hg hE hv hu
      go_enter Tryz.func5, Tryz.ntmps5
      go_wp2_with (first
        | (go_at_call 24; (with_reducible refine (C1 _ HV.out).out.mono ?_); rintro e w1 ⟨rfl, hb1⟩; have HB1 := Lib.hid hb1; clear hb1)
        | (go_at_call 24; (with_reducible refine (D1 _ (HU.out.below HB1.out)).out.mono ?_); rintro e w2 ⟨rfl, hb2⟩; have HB2 := Lib.hid (HB1.out.trans (hb2.mono HB1.out.size)); clear hb2))
      go_ret
      exact ⟨rfl, HB2.out⟩
    · have D2 := fun W h h1 => Lib.hid (carryRight_any toValid_any p u W h h1 hg)
      have hp := fitsE_len hg
      rw [hg] at D1
      clear hg hE hv hu
      cases hr : rightB l
      · rw [hr] at C2
        clear hr
        go_enter Tryz.func5, Tryz.ntmps5
        go_wp2_with (first
          | (go_at_call 24; (with_reducible refine (C1 _ HV.out).out.mono ?_); rintro e w1 ⟨rfl, hb1⟩; have HB1 := Lib.hid hb1; clear hb1)
          | (go_at_call 24; (with_reducible refine (D1 _ (HU.out.below HB1.out)).out.mono ?_); rintro e w2 ⟨rfl, hb2⟩; have HB2 := Lib.hid (HB1.out.trans (hb2.mono HB1.out.size)); clear hb2)
          | (go_at_call 25; (with_reducible refine (C2 _ (HE.out.below HB2.out) (HV.out.below HB2.out)).out.mono ?_); rintro e w3 ⟨rfl, hb3⟩; have HB3 := Lib.hid (HB2.out.trans (hb3.mono HB2.out.size)); clear hb3)
          | (go_at_call 26; (with_reducible refine (CA _ (HE.out.below HB3.out)).out.mono ?_); rintro e w4 ⟨rfl, hb4⟩; have HB4 := Lib.hid (HB3.out.trans (hb4.mono HB3.out.size)); clear hb4))
        go_ret
        exact ⟨rfl, HB4.out⟩
      · have hR := rightB_iff.1 hr
        rw [hr] at C2
        have HR := Lib.hid hR
        clear hr hR
        cases hs : rightB p
        · rw [hs] at D2
          clear hs
          go_enter Tryz.func5, Tryz.ntmps5
          go_wp2_with (first
            | (go_at_call 24; (with_reducible refine (C1 _ HV.out).out.mono ?_); rintro e w1 ⟨rfl, hb1⟩; have HB1 := Lib.hid hb1; clear hb1)
            | (go_at_call 24; (with_reducible refine (D1 _ (HU.out.below HB1.out)).out.mono ?_); rintro e w2 ⟨rfl, hb2⟩; have HB2 := Lib.hid (HB1.out.trans (hb2.mono HB1.out.size)); clear hb2)
            | (go_at_call 25; (with_reducible refine (C2 _ (HE.out.below HB2.out) (HV.out.below HB2.out)).out.mono ?_); rintro e w3 ⟨rfl, hb3⟩; have HB3 := Lib.hid (HB2.out.trans (hb3.mono HB2.out.size)); clear hb3)
            | (go_at_call 25; (with_reducible refine (D2 _ (HE.out.below HB3.out) (HU.out.below HB3.out)).out.mono ?_); rintro e w4 ⟨rfl, hb4⟩; have HB4 := Lib.hid (HB3.out.trans (hb4.mono HB3.out.size)); clear hb4)
            | (go_at_call 26; (with_reducible refine (CA _ (HE.out.below HB4.out)).out.mono ?_); rintro e w5 ⟨rfl, hb5⟩; have HB5 := Lib.hid (HB4.out.trans (hb5.mono HB4.out.size)); clear hb5))
          go_ret
          exact ⟨rfl, HB5.out⟩
        · have hS := rightB_iff.1 hs
          rw [hs] at D2
          have HS := Lib.hid hS
          have CT := fun W h => Lib.hid (carryTo_any l v W h (by omega))
          have DT := fun W h => Lib.hid (carryTo_any p u W h (by omega))
          have CX := fun (parts : List (List BM)) v1 vv W hP hE h1 h2 => Lib.hid (extractBaggage_any header parts hP (p.map toMA) v1 vv W hE h1 (right_ok HS.out) (right_pl HS.out) (by have := HS.out.2.2; simp; omega) (by rw [right_ded HS.out]; exact tot_small HS.out) h2)
          obtain ⟨A, q, hq⟩ := HV.out.1.form
          clear hs hS
          by_cases h0 : l = []
          · subst h0
            have CN := fun A q W => Lib.hid (injectBaggage_nil A q W)
            have CI := fun ml v1 W h1 h2 h3 h4 => Lib.hid (carryIs_true ml p v1 u W h1 h2 h3 h4 HS.out.2.1 (by have := HS.out.2.2; omega))
            simp only [List.length_nil] at hq
            subst hq
            go_enter Tryz.func5, Tryz.ntmps5
            go_wp2_with (first
              | (go_at_call 24; (with_reducible refine (C1 _ HV.out).out.mono ?_); rintro e w1 ⟨rfl, hb1⟩; have HB1 := Lib.hid hb1; clear hb1)
              | (go_at_call 24; (with_reducible refine (D1 _ (HU.out.below HB1.out)).out.mono ?_); rintro e w2 ⟨rfl, hb2⟩; have HB2 := Lib.hid (HB1.out.trans (hb2.mono HB1.out.size)); clear hb2)
              | (go_at_call 25; (with_reducible refine (C2 _ (HE.out.below HB2.out) (HV.out.below HB2.out)).out.mono ?_); rintro e w3 ⟨rfl, hb3⟩; have HB3 := Lib.hid (HB2.out.trans (hb3.mono HB2.out.size)); clear hb3)
              | (go_at_call 25; (with_reducible refine (D2 _ (HE.out.below HB3.out) (HU.out.below HB3.out)).out.mono ?_); rintro e w4 ⟨rfl, hb4⟩; have HB4 := Lib.hid (HB3.out.trans (hb4.mono HB3.out.size)); clear hb4)
              | (go_at_call 28; (with_reducible refine (CT _ (HV.out.below HB4.out)).out.mono ?_); rintro e w5 ⟨⟨v3, rfl, hv3⟩, hb5⟩; have HB5 := Lib.hid (HB4.out.trans (hb5.mono HB4.out.size)); obtain ⟨A3, q3, hq3⟩ := hv3.1.form; subst hq3; clear hb5 hv3)
              | (go_at_call 27; (refine (CN _ _ _).out.mono ?_); rintro e w6 ⟨⟨fv, rfl, -⟩, hb6⟩; have HB6 := Lib.hid (HB5.out.trans (hb6.mono HB5.out.size)); clear hb6))
            refine wp_loop_rounds 1 ?_; rw [rounds_succ]
            go_wp2_with (first
              | (go_at_call 28; (with_reducible refine (DT _ (HU.out.below HB6.out)).out.mono ?_); rintro e w7 ⟨⟨v7, rfl, hv7⟩, hb7⟩; have HB7 := Lib.hid (HB6.out.trans (hb7.mono HB6.out.size)); have HV7 := Lib.hid hv7; clear hb7 hv7)
              | (go_at_call 29; (with_reducible refine (CX [] _ _ _ parts_nil (HE.out.below HB7.out) HV7.out (SlV.nil _ _)).out.mono ?_); rintro e w8 ⟨⟨Lr, ml, v8, hx, hp, hs, rfl, hrow⟩, hb8⟩; have HB8 := Lib.hid (HB7.out.trans (hb8.mono HB7.out.size)); have HP8 := Lib.hid (perm_mem hp (ext_none (Or.inl rfl) hx) HS.out); have HS8 := Lib.hid hs; have HR8 := Lib.hid hrow; clear hb8 hx hp hs hrow)
              | (go_at_call 26; (with_reducible refine (CA _ (HE.out.below HB8.out)).out.mono ?_); rintro e w9 ⟨rfl, hb9⟩; have HB9 := Lib.hid (HB8.out.trans (hb9.mono HB8.out.size)); have HR9 := Lib.hid (HR8.out.below hb9); clear hb9)
              | (go_at_call 30; (with_reducible refine (CI _ _ _ HR9.out HS8.out (HU.out.below HB9.out) HP8.out).out.mono ?_); rintro e w10 ⟨rfl, hb10⟩; have HB10 := Lib.hid (HB9.out.trans (hb10.mono HB9.out.size)); clear hb10))
            go_ret
            exact ⟨rfl, HB10.out⟩
          · have CI := fun ml v1 W h1 h2 h3 h4 => Lib.hid (carryIs_true ml l v1 v W h1 h2 h3 h4 HR.out.2.1 (by have := HR.out.2.2; omega))
            have CJ := fun v1 W h1 h2 => Lib.hid (inj_any l v1 W h1 h2 HR.out h0)
            have hl0 : ((l.length : Int) == 0) = false := by
              have y := List.length_pos_iff.2 h0
              have : ¬ ((l.length : Int) = 0) := by omega
              simpa using this
            subst hq
            clear h0
            go_enter Tryz.func5, Tryz.ntmps5
            go_wp2_with (first
              | (go_at_call 24; (with_reducible refine (C1 _ HV.out).out.mono ?_); rintro e w1 ⟨rfl, hb1⟩; have HB1 := Lib.hid hb1; clear hb1)
              | (go_at_call 24; (with_reducible refine (D1 _ (HU.out.below HB1.out)).out.mono ?_); rintro e w2 ⟨rfl, hb2⟩; have HB2 := Lib.hid (HB1.out.trans (hb2.mono HB1.out.size)); clear hb2)
              | (go_at_call 25; (with_reducible refine (C2 _ (HE.out.below HB2.out) (HV.out.below HB2.out)).out.mono ?_); rintro e w3 ⟨rfl, hb3⟩; have HB3 := Lib.hid (HB2.out.trans (hb3.mono HB2.out.size)); clear hb3)
              | (go_at_call 25; (with_reducible refine (D2 _ (HE.out.below HB3.out) (HU.out.below HB3.out)).out.mono ?_); rintro e w4 ⟨rfl, hb4⟩; have HB4 := Lib.hid (HB3.out.trans (hb4.mono HB3.out.size)); clear hb4)
              | (go_at_call 28; (with_reducible refine (CT _ (HV.out.below HB4.out)).out.mono ?_); rintro e w5 ⟨⟨v5, rfl, hv5⟩, hb5⟩; have HB5 := Lib.hid (HB4.out.trans (hb5.mono HB4.out.size)); have HV5 := Lib.hid hv5; clear hb5 hv5)
              | (go_at_call 27; (with_reducible refine (CJ _ _ (HE.out.below HB5.out) HV5.out).out.mono ?_); rintro e w6 ⟨⟨L, ev, fv, hL, hL0, rfl, hev⟩, hb6⟩; have HB6 := Lib.hid (HB5.out.trans (hb6.mono HB5.out.size)); have HLp := Lib.hid hL; have HL0 := Lib.hid hL0; obtain ⟨b4, o4, c4, hq4, -, -, hbb4, hcl4⟩ := hev.cells (by simp); subst hq4; have e0 : w6.cell? ⟨b4, o4, none⟩ = some (.string ⟨#[98, 97, 103, 103, 97, 103, 101]⟩) := (by have z := hcl4 0 _ rfl; exact z); have e1 : w6.cell? ⟨b4, o4 + 1, none⟩ = some (.string (bs (textOf L))) := hcl4 1 _ rfl; have hge6 := HB6.out.size; clear hL hL0 hev hb6 hcl4))
            refine wp_loop_rounds 2 ?_; rw [rounds_succ]
            go_wp2_with (at_builtin; refine app1g rfl (.tmp 47) (.tmp 50) 46 rfl w6.heap.size 9 9 _ 1 16 Tryz.underlying46 info9 rfl (by decide) (by decide) (.slice none 0 0) 0 [] rfl [.string (bs (textOf L))] (World.ownsRow_nil _ _ _ _) _ rfl rfl (one_str _) (by omega) (by simp) (by simp) ?_; intro v7 w7 hown7 hg7 _; have HO7 := Lib.hid hown7; have HB7 := Lib.hid (below_app (B := w6.heap.size) ((Below.refl w6.heap.size w6).alloc (Nat.le_refl _) (.cells #[.string ⟨#[98, 97, 103, 103, 97, 103, 101]⟩, .string (bs (textOf L))] 56)) (by simp) (World.ownsRow_nil _ w6.heap.size 9 1) (Nat.le_refl _) hg7); have HBw := Lib.hid (HB6.out.trans (HB7.out.mono hge6)); clear hown7 hg7)
            have HQ7 := Lib.hid (show SlV w7 9 v7 ([L] : List (List BM)).length (strs ([L].map textOf)) from by have z := SlV.of_own HO7.out; simpa [strs] using z)
            rw [rounds_succ]
            go_wp2_with (first
              | (go_at_call 28; (with_reducible refine (DT _ (HU.out.below HBw.out)).out.mono ?_); rintro e w8 ⟨⟨v8, rfl, hv8⟩, hb8⟩; have HB8 := Lib.hid (HBw.out.trans (hb8.mono HBw.out.size)); have HV8 := Lib.hid hv8; have HQ8 := Lib.hid (HQ7.out.below hb8); clear hb8 hv8)
              | (go_at_call 29; (with_reducible refine (CX [L] _ _ _ (parts_one HLp.out HR.out) (HE.out.below HB8.out) HV8.out HQ8.out).out.mono ?_); rintro e w9 ⟨⟨Lr, ml, v9, hx, hp, hs, rfl, hrow⟩, hb9⟩; have HB9 := Lib.hid (HB8.out.trans (hb9.mono HB8.out.size)); have HP9 := Lib.hid (perm_mem2 hp (ext_one HLp.out HR.out HL0.out hx)); have HS9 := Lib.hid hs; have HR9 := Lib.hid hrow; clear hb9 hx hp hs hrow)
              | (go_at_call 26; (with_reducible refine (CA _ (HE.out.below HB9.out)).out.mono ?_); rintro e w10 ⟨rfl, hb10⟩; have HB10 := Lib.hid (HB9.out.trans (hb10.mono HB9.out.size)); have HR10 := Lib.hid (HR9.out.below hb10); clear hb10)
              | (go_at_call 30; (with_reducible refine (CI _ _ _ HR10.out HS9.out (HV.out.below HB10.out) HP9.out).out.mono ?_); rintro e w11 ⟨rfl, hb11⟩; have HB11 := Lib.hid (HB10.out.trans (hb11.mono HB10.out.size)); clear hb11))
            go_ret
            exact ⟨rfl, HB11.out⟩
end Go.Proofs.YtpgookhdffklkaaGreatDoor
