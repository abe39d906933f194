/-
  laws: FnExtractMany answers true, whatever it is called with.
-/
import Derived.Test.YtpgookhdffklkaaGreatDoorManyE
namespace Go.Proofs.YtpgookhdffklkaaGreatDoor
open Go.RowKit

theorem text_len {L : List BM} (h : tot L ≤ 8192) : (textOf L).length ≤ 8192 := by
  unfold textOf
  rw [tot_join]
  exact h

set_option maxRecDepth 100000 in
set_option maxHeartbeats 16000000 in
theorem law8 (ls : List (List En)) (v : Value) (w : World) (hE : Env w) (hv : ManyE w v ls) :
    Calls Tryz.prog 8 #[v] w fun e w' => e = .returned (.bool true) ∧ Below w.heap.size w w' := by
  have hlen := hv.len
  obtain ⟨A, q, hq⟩ := hv.form
  subst hq
  have HE := Lib.hid hE
  have HV := Lib.hid hv
  have C31 := Lib.hid (zzFits14_any ls (.slice A ls.length q) w hv)
  have CA := fun W h => Lib.hid (carryAwake_any W h)
  clear hE hv
  cases hf : fitsM ls
  · rw [hf] at C31
    clear hf
    go_enter Tryz.func8, Tryz.ntmps8
    go_wp2_with (go_at_call 31; (with_reducible refine C31.out.mono ?_); rintro e w1 ⟨rfl, hb1⟩; have HB1 := Lib.hid hb1; clear hb1)
    go_ret
    exact ⟨rfl, HB1.out⟩
  · have HF := Lib.hid (fitsM_all hf)
    rw [hf] at C31
    clear hf
    by_cases h4 : ls.length ≤ 4
    · go_enter Tryz.func8, Tryz.ntmps8
      go_wp2_with (go_at_call 31; (with_reducible refine C31.out.mono ?_); rintro e w1 ⟨rfl, hb1⟩; have HB1 := Lib.hid hb1; clear hb1)
      go_loopw [3, 4, 5, 7, 8, 9, 10, 12, 14, 26] (fun pv av sz _ _ _ _ _ _ i wr => ∃ (j : Nat) (Ls : List (List BM)) (X : List En), MaSt w ls pv av sz i wr j Ls X) (fun _ _ _ _ _ _ _ _ _ i _ => ls.length - (intOf i).toNat)
      case atStart => exact ⟨0, [], [], ⟨Nat.zero_le _, rfl, rfl, Nat.zero_le _, rfl, (fun x hx => by cases hx), InjP.nil, World.ownsRow_nil _ _ _ _, World.ownsRow_nil _ _ _ _, HB1.out⟩⟩
      case round =>
        obtain ⟨j, Ls, X, hj, rfl, rfl, hl, hX, hok, hinj, hpo, hao, hb⟩ := hrel
        have HOk := Lib.hid hok
        have HB := Lib.hid hb
        have HP := Lib.hid hpo
        have HA := Lib.hid hao
        have HI := Lib.hid hinj
        have HX := Lib.hid hX
        have hge := hb.size
        have hLs : Ls.length ≤ 4 := by have z := hinj.n; rw [List.length_take] at z; omega
        clear hb hpo hao hinj hX hok
        by_cases hlt : j < ls.length
        · obtain ⟨b, off, Au, qu, rfl, hbb, hcl, hru⟩ := HV.out.at j hlt
          have i0 := (HB.out.cell (p := ⟨b, off + j, none⟩) hbb).trans hcl
          have HT := Lib.hid (show ls.take (j + 1) = ls.take j ++ [ls[j]'hlt] from List.take_succ_eq_append_getElem hlt)
          have HFl := Lib.hid (HF.out _ (List.getElem_mem hlt))
          clear hcl
          generalize ls[j]'hlt = l at i0 hru HT HFl
          have HRu := Lib.hid hru
          have hfl := fitsE_len HFl.out
          have C25 := fun W h h1 => Lib.hid (carryRight_any toValid_any l (.slice Au l.length qu) W h h1 HFl.out)
          have C28 := fun W h => Lib.hid (carryTo_any l (.slice Au l.length qu) W h (by omega))
          clear hru
          cases hr : rightB l
          · rw [hr] at C25
            clear hr
            go_wp2_with (first
              | (go_at_call 25; (with_reducible refine (C25 _ (HE.out.below HB.out) (HRu.out.below HB.out)).out.mono ?_); rintro e w2 ⟨rfl, hb2⟩; have HB2 := Lib.hid (HB.out.trans (hb2.mono hge)); clear hb2)
              | (go_at_call 26; (with_reducible refine (CA _ (HE.out.below HB2.out)).out.mono ?_); rintro e w3 ⟨rfl, hb3⟩; have HB3 := Lib.hid (HB2.out.trans (hb3.mono HB2.out.size)); clear hb3))
            go_ret
            exact ⟨rfl, HB3.out⟩
          · have hR := rightB_iff.1 hr
            rw [hr] at C25
            have HR := Lib.hid hR
            have hl20 := hR.2.2
            clear hr hR
            by_cases h0 : l = []
            · subst h0
              have CN := fun A q W => Lib.hid (injectBaggage_nil A q W)
              simp only [List.length_nil] at i0 C25 C28 HRu
              go_wp2_with (first
                | (go_at_call 25; (with_reducible refine (C25 _ (HE.out.below HB.out) (HRu.out.below HB.out)).out.mono ?_); rintro e w2 ⟨rfl, hb2⟩; have HB2 := Lib.hid (HB.out.trans (hb2.mono hge)); have HP2 := Lib.hid (own_below HP.out hb2); have HA2 := Lib.hid (own_below HA.out hb2); clear hb2)
                | (go_at_call 28; (with_reducible refine (C28 _ (HRu.out.below HB2.out)).out.mono ?_); rintro e w3 ⟨⟨v3, rfl, hv3⟩, hb3⟩; have HB3 := Lib.hid (HB2.out.trans (hb3.mono HB2.out.size)); have HP3 := Lib.hid (own_below HP2.out hb3); have HA3 := Lib.hid (own_below HA2.out hb3); obtain ⟨A3, q3, hq3⟩ := hv3.1.form; subst hq3; clear hb3 hv3)
                | (go_at_call 27; (refine (CN _ _ _).out.mono ?_); rintro e w4 ⟨⟨fv, rfl, -⟩, hb4⟩; have HB4 := Lib.hid (HB3.out.trans (hb4.mono HB3.out.size)); have HP4 := Lib.hid (own_below HP3.out hb4); have HA4 := Lib.hid (own_below HA3.out hb4); clear hb4))
              refine wp_loop_rounds 1 ?_; rw [rounds_succ]
              go_wp2
              refine wp_loop_rounds 1 ?_; rw [rounds_succ]
              go_wp2
              exact ⟨⟨j + 1, Ls, X, ⟨by omega, by go_num, by simp, by omega, by rw [HT.out, HX.out]; simp, HOk.out, by rw [HT.out]; exact HI.out.skip, HP4.out, HA4.out, HB4.out⟩⟩, by simp [intOf]; omega⟩
            · have CJ := fun v1 W h1 h2 => Lib.hid (inj_any l v1 W h1 h2 HR.out h0)
              have HN0 := Lib.hid h0
              clear h0
              go_wp2_with (first
                | (go_at_call 25; (with_reducible refine (C25 _ (HE.out.below HB.out) (HRu.out.below HB.out)).out.mono ?_); rintro e w2 ⟨rfl, hb2⟩; have HB2 := Lib.hid (HB.out.trans (hb2.mono hge)); have HP2 := Lib.hid (own_below HP.out hb2); have HA2 := Lib.hid (own_below HA.out hb2); clear hb2)
                | (go_at_call 28; (with_reducible refine (C28 _ (HRu.out.below HB2.out)).out.mono ?_); rintro e w3 ⟨⟨v3, rfl, hv3⟩, hb3⟩; have HB3 := Lib.hid (HB2.out.trans (hb3.mono HB2.out.size)); have HP3 := Lib.hid (own_below HP2.out hb3); have HA3 := Lib.hid (own_below HA2.out hb3); have HV3 := Lib.hid hv3; clear hb3 hv3)
                | (go_at_call 27; (with_reducible refine (CJ _ _ (HE.out.below HB3.out) HV3.out).out.mono ?_); rintro e w4 ⟨⟨L, ev, fv, hL, hL0, rfl, hev⟩, hb4⟩; have HB4 := Lib.hid (HB3.out.trans (hb4.mono HB3.out.size)); have HP4 := Lib.hid (own_below HP3.out hb4); have HA4 := Lib.hid (own_below HA3.out hb4); have HLp := Lib.hid hL; obtain ⟨b4, o4, c4, hq4, -, -, hbb4, hcl4⟩ := hev.cells (by simp); subst hq4; have e0 : w4.cell? ⟨b4, o4, none⟩ = some (.string ⟨#[98, 97, 103, 103, 97, 103, 101]⟩) := (by have z := hcl4 0 _ rfl; exact z); have e1 : w4.cell? ⟨b4, o4 + 1, none⟩ = some (.string (bs (textOf L))) := hcl4 1 _ rfl; have hge4 := HB4.out.size; clear hL hL0 hev hb4 hcl4))
              refine wp_loop_rounds 2 ?_; rw [rounds_succ]
              go_wp2_with (at_builtin; refine app1g rfl (.tmp 53) (.tmp 56) 46 rfl w.heap.size 9 9 _ 1 16 Tryz.underlying46 info9 rfl (by decide) (by decide) u3 Ls.length _ rfl [.string (bs (textOf L))] (HP4.out.alloc _) _ rfl rfl (one_str _) (by omega) (by simp <;> omega) (by simp) ?_; intro v5 w5 hown5 hg5 _; have HA5 := Lib.hid (own_keeps (T := fun e => e ≠ 9) (HA4.out.alloc _) ((Keeps.refl _).grown (HP4.out.alloc _) hg5 (by simp)) (by decide)); have HB5 := Lib.hid (below_app (HB4.out.alloc hge4 _) (by simp <;> omega) (HP4.out.alloc _) (Nat.le_refl _) hg5); have HP5 := Lib.hid hown5; clear hown5 hg5)
              have HP5 := Lib.hid (own_cast HP5.out (n' := (Ls ++ [L]).length) (xs' := strs ((Ls ++ [L]).map textOf)) (by simp) (by simp [strs]))
              rw [rounds_succ]
              go_wp2
              go_loopw [4, 14, 61] (fun av _ i wr => ∃ m : Nat, m ≤ l.length ∧ i = .int .i64 m ∧ wr.ownsRow w.heap.size 9 1 v5 (Ls ++ [L]).length (strs ((Ls ++ [L]).map textOf)) ∧ wr.ownsRow w.heap.size 64 2 av (allE (X ++ l.take m)).length ((allE (X ++ l.take m)).flatMap encE) ∧ Below w.heap.size w wr) (fun _ _ i _ => l.length - (intOf i).toNat)
              case atStart => exact ⟨0, Nat.zero_le _, rfl, HP5.out, own_cast HA5.out (by simp) (by simp), HB5.out⟩
              case round =>
                obtain ⟨m, hm, rfl, hpo7, hao7, hb7⟩ := hrel
                have HB7 := Lib.hid hb7
                have HP7 := Lib.hid hpo7
                have HA7 := Lib.hid hao7
                have hge7 := hb7.size
                clear hb7 hpo7 hao7
                by_cases hm2 : m < l.length
                · obtain ⟨b2, off2, c2, hq2, -, -, hbb2, hcl2⟩ := HRu.out.1.cells (flatE_ne HN0.out)
                  injection hq2 with hq3 hq4 hq5
                  subst hq3; subst hq5
                  obtain ⟨k0, k1⟩ := cellsE (fun z u hz => (HB7.out.cell (p := ⟨b2, off2 + z, none⟩) hbb2).trans (hcl2 z u hz)) m hm2
                  have hal : (allE (X ++ l.take m)).length ≤ 1000 := by
                    have z := allE_len (X ++ l.take m)
                    rw [List.length_append, List.length_take] at z
                    omega
                  have hfl2 : ((allE (X ++ l.take m)).filter fun x => !decide (x.1 = (l[m]'hm2).1)).length ≤ 1000 := Nat.le_trans (List.length_filter_le _ _) hal
                  have HNew := Lib.hid (Blk.new wr 64 #[.string (bs (l[m]'hm2).1), .string (bs (l[m]'hm2).2)])
                  have hnb := own_lt HA7.out (Nat.le_refl _)
                  have CD := Lib.hid (deleteFunc_any (allE (X ++ l.take m)) (l[m]'hm2) u4 w.heap.size wr.heap.size (wr.alloc (.cells #[.string (bs (l[m]'hm2).1), .string (bs (l[m]'hm2).2)] 64)) (by omega) (HA7.out.alloc _) (by simp) hnb (HNew.out.cell 0))
                  have HNb := Lib.hid hnb
                  clear hcl2 hnb
                  go_wp2_with (first
                    | (go_at_call 32; (with_reducible refine CD.out.mono ?_); rintro e w6 ⟨⟨av6, rfl, hao6, hob6⟩, hg6⟩; have HN6 := HNew.out.grown hg6 HNb.out; have e7 := HN6.cell 0; have e8 := HN6.cell 1; simp only [List.getElem?_toArray, List.getElem?_cons_zero, List.getElem?_cons_succ] at e7 e8; have HG6 := Lib.hid hg6; have HA6 := Lib.hid hao6; have hge6 : w.heap.size ≤ w6.heap.size := (by have z := hg6.size; simp at z; omega); clear hao6 hob6 hg6 HN6)
                    | (at_builtin; refine app1g rfl (.tmp 68) (.tmp 70) 49 rfl w.heap.size 64 64 _ 2 32 Tryz.underlying49 info64 rfl (by decide) (by decide) av6 _ _ rfl (encE (l[m]'hm2)) HA6.out _ rfl rfl (fun u hu => encE_one [l[m]'hm2] u (by simpa using hu)) (by omega) hge6 (by simp) ?_; intro v8 w8 hown8 hg8 _; have HS8 := Lib.hid (step3 HB7.out HP7.out HA7.out HG6.out HA6.out hg8); have HA8 := Lib.hid hown8; clear hown8 hg8))
                  refine ⟨⟨m + 1, by omega, by go_num, HS8.out.2, own_cast HA8.out (by rw [allE_step X l m hm2]; simp) (by rw [allE_step X l m hm2, List.flatMap_append]; simp), HS8.out.1⟩, by simp [intOf]; omega⟩
                · obtain rfl : m = l.length := by omega
                  rw [List.take_of_length_le (Nat.le_refl _)] at HA7
                  go_wp2
                  exact ⟨⟨j + 1, Ls ++ [L], X ++ l, ⟨by omega, by go_num, by simp, by simp; omega, by rw [HT.out, HX.out]; simp, (fun x hx => (List.mem_append.1 hx).elim (HOk.out x) (HRu.out.2 x)), by rw [HT.out]; exact HI.out.snoc HLp.out HR.out, HP7.out, HA7.out, HB7.out⟩⟩, by simp [intOf]; omega⟩
        · obtain rfl : j = ls.length := by omega
          rw [List.take_of_length_le (Nat.le_refl _)] at HI HX
          have hal : (allE X).length ≤ 1000 := by
            have z := allE_len X
            omega
          have C34 := fun W (h : SlV W 9 u3 Ls.length (strs (Ls.map textOf))) => Lib.hid (join_str (Ls.map textOf) 44 u3 W (by rw [List.length_map]; exact h) (by rw [List.length_map]; omega) 8192 (by omega) (fun t ht => by
            obtain ⟨L, hL, rfl⟩ := List.mem_map.1 ht
            exact text_len (HI.out.tl L hL)))
          by_cases h60 : X.length ≤ 60
          · have hg : (X.length : Int) ≤ 60 := by omega
            have hg1 : decide ((60 : Int) < (X.length : Int)) = false := decide_eq_false (by omega)
            by_cases hj8 : (Lib.join (Ls.map textOf) [44]).length ≤ 8192
            · have CX := fun vv W hE h2 => Lib.hid (extractBaggage_any true Ls (HI.out.parts (by rw [← HX.out]; exact h60) hj8) [] (.slice none 0 0) vv W hE ⟨SlV.nil _ _, fun x hx => by cases hx⟩ (fun x hx => by cases hx) (fun x hx => by cases hx) (Nat.zero_le _) (by decide) h2)
              have CI := fun ml v1 W h1 h2 h3 h4 => Lib.hid (carryIs_true ml (allE X) v1 u4 W h1 h2 h3 h4 (allE_nd X) (by omega))
              go_wp2_with (first
                | (go_at_call 34; (refine (C34 _ (SlV.of_own HP.out)).out.mono ?_); rintro e w2 ⟨rfl, hb2⟩; have HB2 := Lib.hid (HB.out.trans (hb2.mono hge)); have HP2 := Lib.hid (own_below HP.out hb2); have HA2 := Lib.hid (own_below HA.out hb2); clear hb2)
                | (go_at_call 29; (with_reducible refine (CX _ _ (HE.out.below HB2.out) (SlV.of_own HP2.out)).out.mono ?_); rintro e w3 ⟨⟨Lr, ml, v3, hx, hp, hs, rfl, hrow⟩, hb3⟩; have HB3 := Lib.hid (HB2.out.trans (hb3.mono HB2.out.size)); have HP3 := Lib.hid (perm_mem2 hp (ext_many HI.out hx)); have HS3 := Lib.hid hs; have HR3 := Lib.hid hrow; have HA3 := Lib.hid (own_below HA2.out hb3); clear hb3 hx hp hs hrow)
                | (go_at_call 26; (with_reducible refine (CA _ (HE.out.below HB3.out)).out.mono ?_); rintro e w4 ⟨rfl, hb4⟩; have HB4 := Lib.hid (HB3.out.trans (hb4.mono HB3.out.size)); have HR4 := Lib.hid (HR3.out.below hb4); have HA4 := Lib.hid (own_below HA3.out hb4); clear hb4)
                | (go_at_call 30; (refine (CI _ _ _ HR4.out HS3.out ⟨ArgV.of_sl (SlV.of_own HA4.out), fun x hx => HOk.out x (allE_mem hx)⟩ (by rw [HX.out]; exact HP3.out)).out.mono ?_); rintro e w5 ⟨rfl, hb5⟩; have HB5 := Lib.hid (HB4.out.trans (hb5.mono HB4.out.size)); clear hb5))
              go_ret
              exact ⟨rfl, HB5.out⟩
            · go_wp2_with (first
                | (go_at_call 34; (refine (C34 _ (SlV.of_own HP.out)).out.mono ?_); rintro e w2 ⟨rfl, hb2⟩; have HB2 := Lib.hid (HB.out.trans (hb2.mono hge)); clear hb2)
                | (go_at_call 26; (with_reducible refine (CA _ (HE.out.below HB2.out)).out.mono ?_); rintro e w4 ⟨rfl, hb4⟩; have HB4 := Lib.hid (HB2.out.trans (hb4.mono HB2.out.size)); clear hb4))
              go_ret
              exact ⟨rfl, HB4.out⟩
          · have hg : ¬ (X.length : Int) ≤ 60 := by omega
            have hg1 : decide ((60 : Int) < (X.length : Int)) = true := decide_eq_true (by omega)
            go_wp2_with (go_at_call 26; (with_reducible refine (CA _ (HE.out.below HB.out)).out.mono ?_); rintro e w4 ⟨rfl, hb4⟩; have HB4 := Lib.hid (HB.out.trans (hb4.mono hge)); clear hb4)
            go_ret
            exact ⟨rfl, HB4.out⟩
    · go_enter Tryz.func8, Tryz.ntmps8
      go_wp2_with (first
        | (go_at_call 31; (with_reducible refine C31.out.mono ?_); rintro e w1 ⟨rfl, hb1⟩; have HB1 := Lib.hid hb1; clear hb1)
        | (go_at_call 26; (with_reducible refine (CA _ (HE.out.below HB1.out)).out.mono ?_); rintro e w3 ⟨rfl, hb3⟩; have HB3 := Lib.hid (HB1.out.trans (hb3.mono HB1.out.size)); clear hb3))
      go_ret
      exact ⟨rfl, HB3.out⟩
end Go.Proofs.YtpgookhdffklkaaGreatDoor
