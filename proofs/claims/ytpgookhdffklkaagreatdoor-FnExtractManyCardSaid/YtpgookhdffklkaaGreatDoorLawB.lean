/-
  laws: FnInjectBaggage answers true, whatever it is called with.
-/
import Derived.Test.YtpgookhdffklkaaGreatDoorLawA
namespace Go.Proofs.YtpgookhdffklkaaGreatDoor
open Go.RowKit

theorem perm_pl {L : List BM} {l : List En} (h : L.Perm (l.map toBE)) (hR : RightE l) : (∀ m ∈ L, PlM m) ∧ (L.map (·.k)).Nodup ∧ L.length ≤ 64 ∧ tot L ≤ 8192 :=
  ⟨fun m hm => by
    obtain ⟨x, hx, rfl⟩ := List.mem_map.1 (h.mem_iff.1 hm)
    exact okE_pl (hR.1 x hx), (h.map _).nodup_iff.2 (right_nd hR), by have := h.length_eq; have := hR.2.2; simp at *; omega, by rw [tot_perm h]; exact tot_small hR⟩
theorem inj_any (l : List En) (v : Value) (w : World) (hE : Env w) (hv : RowA w 82 146 v (l.map toMA)) (hR : RightE l) (h0 : l ≠ []) :
    Calls Tryz.prog 27 #[v] w fun e w' => (∃ (L : List BM) (ev fv : Value), L.Perm (l.map toBE) ∧ L ≠ [] ∧ e = .returned (.tuple #[ev, fv, .bool true]) ∧ SlV w' 56 ev 1 [.string (bs bagKey), .string (bs (textOf L))]) ∧ Below w.heap.size w w' := by
  have hd := right_ded hR
  refine (injectBaggage_any (l.map toMA) v w hE hv (by simpa using h0) (right_ok hR) (right_tok hR) (by have := hR.2.2; simp; omega) (by rw [hd]; have := hR.2.2; simp; omega) (by rw [hd]; exact tot_small hR)).mono ?_
  rintro e w' ⟨⟨L, ev, fv, hL, he, h1, _⟩, hb⟩
  rw [hd] at hL
  refine ⟨⟨L, ev, fv, hL, ?_, he, h1⟩, hb⟩
  rintro rfl
  exact h0 (List.map_eq_nil_iff.1 (List.perm_nil.1 hL.symm))
theorem perm_mem2 {ml : List MA} {L : List BM} {l : List En} (h : (ml.map (·.1)).Perm (L.map rdB)) (hL : L.Perm (l.map toBE)) : (ml.map (·.1)).Perm (l.map toMem) := by
  have := h.trans (hL.map rdB)
  rwa [rd_toBE] at this

set_option maxRecDepth 100000 in
set_option maxHeartbeats 8000000 in
theorem law7 (l : List En) (v : Value) (w : World) (hE : Env w) (hv : RowE w v l) :
    Calls Tryz.prog 7 #[v] w fun e w' => e = .returned (.bool true) ∧ Below w.heap.size w w' := by
  have HE := Lib.hid hE
  have HV := Lib.hid hv
  have C1 := fun W h => Lib.hid (zzFits12_any l v W h)
  have CA := fun W h => Lib.hid (carryAwake_any W h)
  cases hf : fitsE l
  · rw [hf] at C1
    clear hf hE hv
    go_enter Tryz.func7, Tryz.ntmps7
    go_wp2_with (go_at_call 24; (with_reducible refine (C1 _ HV.out).out.mono ?_); rintro e w1 ⟨rfl, hb1⟩)
    go_ret
    exact ⟨rfl, hb1⟩
  · have C2 := fun W h h1 => Lib.hid (carryRight_any toValid_any l v W h h1 hf)
    have hl := fitsE_len hf
    rw [hf] at C1
    clear hf hE hv
    cases hr : rightB l
    · rw [hr] at C2
      clear hr
      go_enter Tryz.func7, Tryz.ntmps7
      go_wp2_with (first
        | (go_at_call 24; (with_reducible refine (C1 _ HV.out).out.mono ?_); rintro e w1 ⟨rfl, hb1⟩; have HB1 := Lib.hid hb1; clear hb1)
        | (go_at_call 25; (with_reducible refine (C2 _ (HE.out.below HB1.out) (HV.out.below HB1.out)).out.mono ?_); rintro e w2 ⟨rfl, hb2⟩; have HB2 := Lib.hid (HB1.out.trans (hb2.mono HB1.out.size)); clear hb2)
        | (go_at_call 26; (with_reducible refine (CA _ (HE.out.below HB2.out)).out.mono ?_); rintro e w3 ⟨rfl, hb3⟩; have HB3 := Lib.hid (HB2.out.trans (hb3.mono HB2.out.size)); clear hb3))
      go_ret
      exact ⟨rfl, HB3.out⟩
    · have hR := rightB_iff.1 hr
      rw [hr] at C2
      have HR := Lib.hid hR
      have CT := fun W h => Lib.hid (carryTo_any l v W h (by omega))
      obtain ⟨A, q, hq⟩ := HV.out.1.form
      by_cases h0 : l = []
      · subst h0
        have CN := fun A q W => Lib.hid (injectBaggage_nil A q W)
        simp only [List.length_nil] at hq
        subst hq
        clear hr hR
        go_enter Tryz.func7, Tryz.ntmps7
        go_wp2_with (first
          | (go_at_call 24; (with_reducible refine (C1 _ HV.out).out.mono ?_); rintro e w1 ⟨rfl, hb1⟩; have HB1 := Lib.hid hb1; clear hb1)
          | (go_at_call 25; (with_reducible refine (C2 _ (HE.out.below HB1.out) (HV.out.below HB1.out)).out.mono ?_); rintro e w2 ⟨rfl, hb2⟩; have HB2 := Lib.hid (HB1.out.trans (hb2.mono HB1.out.size)); clear hb2)
          | (go_at_call 28; (with_reducible refine (CT _ (HV.out.below HB2.out)).out.mono ?_); rintro e w3 ⟨⟨v3, rfl, hv3⟩, hb3⟩; have HB3 := Lib.hid (HB2.out.trans (hb3.mono HB2.out.size)); obtain ⟨A3, q3, hq3⟩ := hv3.1.form; subst hq3; clear hb3 hv3)
          | (go_at_call 27; (refine (CN _ _ _).out.mono ?_); rintro e w4 ⟨⟨fv, rfl, -⟩, hb4⟩; have HB4 := Lib.hid (HB3.out.trans (hb4.mono HB3.out.size)); clear hb4)
          | (go_at_call 26; (with_reducible refine (CA _ (HE.out.below HB4.out)).out.mono ?_); rintro e w5 ⟨rfl, hb5⟩; have HB5 := Lib.hid (HB4.out.trans (hb5.mono HB4.out.size)); clear hb5))
        go_ret
        exact ⟨rfl, HB5.out⟩
      · have CI := fun ml v1 W h1 h2 h3 h4 => Lib.hid (carryIs_true ml l v1 v W h1 h2 h3 h4 HR.out.2.1 (by have := HR.out.2.2; omega))
        have CJ := fun v1 W h1 h2 => Lib.hid (inj_any l v1 W h1 h2 HR.out h0)
        have CP := fun (L : List BM) W h1 (h2 : L.Perm (l.map toBE)) h3 => Lib.hid (parseBaggage_texts L W h1 h3 (perm_pl h2 HR.out).1 (perm_pl h2 HR.out).2.1 (perm_pl h2 HR.out).2.2.1 (perm_pl h2 HR.out).2.2.2)
        have hl0 : ((l.length : Int) == 0) = false := by
          have y := List.length_pos_iff.2 h0
          have : ¬ ((l.length : Int) = 0) := by omega
          simpa using this
        subst hq
        clear hr hR h0
        go_enter Tryz.func7, Tryz.ntmps7
        go_wp2_with (first
          | (go_at_call 24; (with_reducible refine (C1 _ HV.out).out.mono ?_); rintro e w1 ⟨rfl, hb1⟩; have HB1 := Lib.hid hb1; clear hb1)
          | (go_at_call 25; (with_reducible refine (C2 _ (HE.out.below HB1.out) (HV.out.below HB1.out)).out.mono ?_); rintro e w2 ⟨rfl, hb2⟩; have HB2 := Lib.hid (HB1.out.trans (hb2.mono HB1.out.size)); clear hb2)
          | (go_at_call 28; (with_reducible refine (CT _ (HV.out.below HB2.out)).out.mono ?_); rintro e w3 ⟨⟨v3, rfl, hv3⟩, hb3⟩; have HB3 := Lib.hid (HB2.out.trans (hb3.mono HB2.out.size)); have HV3 := Lib.hid hv3; clear hb3 hv3)
          | (go_at_call 27; (with_reducible refine (CJ _ _ (HE.out.below HB3.out) HV3.out).out.mono ?_); rintro e w4 ⟨⟨L, ev, fv, hL, hL0, rfl, hev⟩, hb4⟩; have HB4 := Lib.hid (HB3.out.trans (hb4.mono HB3.out.size)); have HLp := Lib.hid hL; have HL0 := Lib.hid hL0; have hLl : L.length = l.length := (by have z := hL.length_eq; simpa using z); obtain ⟨b4, o4, c4, hq4, -, -, hbb4, hcl4⟩ := hev.cells (by simp); subst hq4; have e0 : w4.cell? ⟨b4, o4, none⟩ = some (.string ⟨#[98, 97, 103, 103, 97, 103, 101]⟩) := (by have z := hcl4 0 _ rfl; exact z); have e1 : w4.cell? ⟨b4, o4 + 1, none⟩ = some (.string (bs (textOf L))) := hcl4 1 _ rfl; clear hL hL0 hev hb4 hcl4)
          | (go_at_call 18; (refine (CP L _ (HE.out.below HB4.out) HLp.out HL0.out).out.mono ?_); rintro e w5 ⟨⟨ml, v5, s5, hp5, hs5, rfl, hr5⟩, hb5⟩; have HB5 := Lib.hid (HB4.out.trans (hb5.mono HB4.out.size)); have HP5 := Lib.hid (perm_mem2 hp5 HLp.out); have HS5 := Lib.hid hs5; have HR5 := Lib.hid hr5; clear hp5 hs5 hr5 hb5)
          | (go_at_call 26; (with_reducible refine (CA _ (HE.out.below HB5.out)).out.mono ?_); rintro e w6 ⟨rfl, hb6⟩; have HB6 := Lib.hid (HB5.out.trans (hb6.mono HB5.out.size)); have HR6 := Lib.hid (HR5.out.below hb6); clear hb6)
          | (go_at_call 30; (with_reducible refine (CI _ _ _ HR6.out HS5.out (HV.out.below HB6.out) HP5.out).out.mono ?_); rintro e w7 ⟨rfl, hb7⟩; have HB7 := Lib.hid (HB6.out.trans (hb7.mono HB6.out.size)); clear hb7))
        go_ret
        exact ⟨rfl, HB7.out⟩
end Go.Proofs.YtpgookhdffklkaaGreatDoor
