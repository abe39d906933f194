/-
  impl: MakeBaggage.
-/
import Derived.Test.YtpgookhdffklkaaGreatDoorMK
import Derived.Test.YtpgookhdffklkaaGreatDoorZParG
namespace Go.Proofs.YtpgookhdffklkaaGreatDoor
open Go.RowKit
/-- The texts of members that are written. -/
def wTexts (L : List BM) : List (List UInt8) := (L.map mText).filter fun s => !s.isEmpty
theorem mTexts_w (pl : PL) : mTexts pl = wTexts (pl.map (·.1)) := by
  unfold mTexts wTexts
  rw [List.map_map]
  rfl
theorem has_toB (m : Mem) (h : m.ps.length ≤ 1000) : HasPs (toB m) m.ps := Or.inl ⟨rfl, rfl, h⟩
set_option maxRecDepth 100000 in
set_option maxHeartbeats 8000000 in
theorem make_nil (A : Option Addr) (q : Nat) (w : World) :
    Calls Tryz.prog 16 #[.slice A 0 q] w fun e w' => e = .returned (.tuple #[.slice none 0 0, .int .i64 0, .string (bs []), .bool true, .bool true]) ∧ Below w.heap.size w w' := by
  have C1 := fun A q W => Lib.hid (new_nil A q W)
  have C2 := fun W => Lib.hid (membersOf_nil W)
  have C3 := fun W => Lib.hid (bagLen_nil W)
  have C4 := fun W => Lib.hid (bagString_nil W)
  go_enter Tryz.func16, Tryz.ntmps16
  go_wp2
  refine wp_loop_rounds 1 ?_; rw [rounds_succ]
  go_wp2_with (go_at_call 44; (refine (C1 _ _ _).out.mono ?_); rintro e w1 ⟨rfl, hb1⟩; have HB1 := Lib.hid (hb1.alloc hb1.size (.cells #[.map none] 94)); have HJ1 := Lib.hid (Blk.new w1 94 #[.map none]); clear hb1; obtain ⟨c1, c2, c3, c4⟩ := HJ1.out.use)
  go_region_law (first
    | (go_simp; go_at_call 45; (refine (C2 _).out.mono ?_); rintro e w2 ⟨rfl, hb2⟩; have HB2 := Lib.hid (below_then (B := w.heap.size) (a := w) hb2 (by exact HB1.out.size) (by have z := HB1.out; exact ⟨z.os, z.tape, z.output, z.size, z.block⟩)); have HJ2 := Lib.hid (Blk.by_ hb2 (by have z := HJ1.out; exact z)); clear hb2; obtain ⟨d1, d2, d3, d4⟩ := HJ2.out.use)
    | (go_simp; go_at_call 46; (refine (C3 _).out.mono ?_); rintro e w3 ⟨rfl, hb3⟩; have HB3 := Lib.hid (below_then (B := w.heap.size) (a := w) hb3 (by exact HB2.out.size) (by have z := HB2.out; exact ⟨z.os, z.tape, z.output, z.size, z.block⟩)); have HJ3 := Lib.hid (Blk.by_ hb3 (by have z := HJ2.out; exact z)); clear hb3; obtain ⟨f1, f2, f3, f4⟩ := HJ3.out.use)
    | (go_simp; go_at_call 47; (refine (C4 _).out.mono ?_); rintro e w4 ⟨rfl, hb4⟩; have HB4 := Lib.hid (below_then (B := w.heap.size) (a := w) hb4 (by exact HB3.out.size) (by have z := HB3.out; exact ⟨z.os, z.tape, z.output, z.size, z.block⟩)); clear hb4))
  all_goals go_wp2
  all_goals exact bodyPost_ret (v := .tuple #[.slice none 0 0, .int .i64 0, .string (bs []), .bool true, .bool true]) (by simp [results, Tryz.results16, go_sem]) rfl ⟨rfl, ⟨HB4.out.os, HB4.out.tape, HB4.out.output, HB4.out.size, HB4.out.block⟩⟩
set_option maxRecDepth 100000 in
set_option maxHeartbeats 16000000 in
theorem make_some (ml : List MA) (v : Value) (w : World) (hE : Env w) (hv : RowA w 82 146 v ml) (h0 : ml ≠ []) (hok : ∀ x ∈ ml, OkM (toB x.1)) (hlp : ∀ x ∈ ml, x.1.ps.length ≤ 1000) (hn : ml.length ≤ 1000)
    (h64 : (dedB (fB ml)).length ≤ 64) (h8 : tot (dedB (fB ml)) ≤ 8192) :
    Calls Tryz.prog 16 #[v] w fun e w' => (∃ (ml2 : List MA) (v2 : Value) (L : List BM), (ml2.map (·.1)).Perm ((dedB (fB ml)).map rdB) ∧ ml2.Pairwise (fun x y => ltK y x = false) ∧ L.Perm (dedB (fB ml)) ∧ e = .returned (.tuple #[v2, .int .i64 (dedB (fB ml)).length, .string (bs (Lib.join (wTexts L) [44])), .bool true, .bool true]) ∧ RowA w' 82 146 v2 ml2) ∧ Below w.heap.size w w' := by
  have hfB : fB ml = ml.map fun x => toB x.1 := rfl
  obtain ⟨bb, off, c, rfl, hc1, hc2, hbb, hc⟩ := hv.1.cells (flatA_ne h0)
  have HE := Lib.hid hE
  have HV := Lib.hid hv.2
  have HC := Lib.hid hc
  have HOK := Lib.hid hok
  have H64 := Lib.hid h64
  have H8 := Lib.hid h8
  have H0 := Lib.hid h0
  have HDlp := Lib.hid (show ∀ m ∈ dedB (fB ml), (∃ x ∈ ml, toB x.1 = m) from fun m hm => by
    have := dedB_all (P := fun m => m ∈ fB ml) (l := fB ml) (fun m h => h) m hm
    obtain ⟨x, hx, e⟩ := List.mem_map.1 this
    exact ⟨x, hx, e⟩)
  have HLp := Lib.hid hlp
  clear hE hv hc hok h64 h8 h0 hlp
  go_enter Tryz.func16, Tryz.ntmps16
  go_wp2
  go_loopw [7, 9, 10, 11, 16] (fun sv _ _ _ i wr => ∃ (j : Nat) (pl : PL), BSt w ml sv i wr j pl) (fun _ _ _ _ i _ => ml.length - (intOf i).toNat)
  case atStart => exact ⟨0, [], ⟨Nat.zero_le _, rfl, World.ownsRow_nil _ _ _ _, rfl, PsR.nil _ _, Below.refl _ _⟩⟩
  case round =>
    obtain ⟨j, pl, ⟨hj, rfl, hown, hpl, hps, hb⟩⟩ := hrel
    have HB := Lib.hid hb
    have HO := Lib.hid hown
    have HPL := Lib.hid hpl
    have HPS := Lib.hid hps
    have hge := hb.size
    have hpll : pl.length = j := by have z := congrArg List.length hpl; simp at z; omega
    clear hb hown hpl hps
    by_cases hlt : j < ml.length
    · obtain ⟨i0, i1, i2⟩ := cellsAt (fun z u hz => (HB.out.cell (p := ⟨bb, off + z, none⟩) hbb).trans (HC.out z u hz)) j hlt
      have hmem := List.getElem_mem hlt
      have HOm := Lib.hid (HOK.out _ hmem)
      have HVm := Lib.hid ((HV.out _ hmem).below HB.out)
      have HT := Lib.hid (show (ml.take (j + 1)).map (fun x => toB x.1) = (ml.take j).map (fun x => toB x.1) ++ [toB ml[j].1] by rw [List.take_succ_eq_append_getElem hlt, List.map_append]; rfl)
      have CM := fun (W : World) (h1 : Env W) (h2 : SlV W 146 (.slice (ml[j]'hlt).2.1 (ml[j]'hlt).1.ps.length (ml[j]'hlt).2.2) (ml[j]'hlt).1.ps.length ((ml[j]'hlt).1.ps.flatMap encI)) => Lib.hid (memberMade_ok (ml[j]'hlt).1.k (ml[j]'hlt).1.v (ml[j]'hlt).1.ps (.slice (ml[j]'hlt).2.1 (ml[j]'hlt).1.ps.length (ml[j]'hlt).2.2) W h1 HOm.out h2)
      have hjl : j ≤ 4294967296 := by omega
      clear hmem
      go_wp2_with (first
        | (go_at_call 43; (with_reducible refine (CM _ (HE.out.below (HB.out.alloc hge _)) (HVm.out.below ((Below.refl _ _).alloc (Nat.le_refl _) _))).out.mono ?_); rintro e w2 ⟨mv, rfl, hmv, hb2⟩; have HW2 := Lib.hid (((Below.refl wr.heap.size wr).alloc (Nat.le_refl _) (.cells #[.string (bs ml[j].1.k), .string (bs ml[j].1.v), .slice ml[j].2.1 ml[j].1.ps.length ml[j].2.2] 82)).trans (hb2.mono (by simp))); have HO2 := Lib.hid (own_below HO.out HW2.out); have hge2 := HW2.out.size; obtain ⟨pv2, hpv2, hsl2⟩ := hmv; subst hpv2; have HSL2 := Lib.hid hsl2; obtain ⟨A2, q2, hq2⟩ := hsl2.form; subst hq2; clear hb2)
        | (at_builtin; refine app1g rfl (.tmp 27) (.tmp 29) 79 rfl w.heap.size 86 86 _ 5 80 Tryz.underlying79 info86 rfl (by decide) (by decide) u7 j _ rfl (encM (toB ml[j].1, .slice A2 ml[j].1.ps.length q2)) (own_below HO2.out ((Below.refl _ _).alloc (Nat.le_refl _) _)) _ rfl rfl (by intro u hu; simp only [encM, List.mem_cons, List.not_mem_nil, or_false] at hu; rcases hu with rfl | rfl | rfl | rfl | rfl <;> rfl) hjl (by simp <;> omega) (by simp) ?_; intro v6 w6 hown6 hg6 _))
      have hK := (Keeps.refl (w2.alloc (.cells #[.string (bs ml[j].1.k), .string (bs ml[j].1.v), .string (bs []), .slice A2 ml[j].1.ps.length q2, .bool true] 86))).grown (T := fun e => e ≠ 86) (own_below HO2.out ((Below.refl _ _).alloc (Nat.le_refl _) _)) hg6 (by simp)
      refine ⟨⟨j + 1, pl ++ [(toB ml[j].1, .slice A2 ml[j].1.ps.length q2)], ⟨by omega, by go_num, own_cast hown6 rfl (by simp), by rw [List.map_append, HPL.out, HT.out]; rfl, (((HPS.out.below HW2.out).snoc (m := toB ml[j].1) HSL2.out).below ((Below.refl _ _).alloc (Nat.le_refl _) _)).keeps hK (by simp), below_app ((HB.out.trans (HW2.out.mono hge)).alloc (by omega) _) (by simp <;> omega) (own_below HO2.out ((Below.refl _ _).alloc (Nat.le_refl _) _)) (Nat.le_refl _) hg6⟩⟩, by simp [intOf]; omega⟩
    · have e : j = ml.length := by omega
      subst e
      rw [List.take_of_length_le (Nat.le_refl _)] at HPL
      have hpne : pl ≠ [] := by
        intro e
        rw [e] at hpll
        exact H0.out (List.eq_nil_of_length_eq_zero hpll.symm)
      have hrow : RowM wr u7 pl := ⟨by have z := SlV.of_own HO.out; rw [← hpll] at z; exact z, HPS.out⟩
      have CN := Lib.hid (new_any pl u7 wr (HE.out.below HB.out) hrow hpne (fun x hx => by
          have z := List.mem_map_of_mem (f := fun x : BM × Value => x.1) hx
          rw [HPL.out] at z
          obtain ⟨y, hy, hy2⟩ := List.mem_map.1 z
          rw [← hy2]
          exact sm_of_ok (HOK.out y hy) rfl) (fun x hx hmd => by
          have z := List.mem_map_of_mem (f := fun x : BM × Value => x.1) hx
          rw [HPL.out] at z
          obtain ⟨y, hy, hy2⟩ := List.mem_map.1 z
          rw [← hy2] at hmd
          exact absurd rfl hmd) (by omega) (by rw [HPL.out]; exact H64.out) (by rw [HPL.out]; exact H8.out))
      rw [HPL.out, ← hfB] at CN
      clear hrow
      go_wp2_with (go_at_call 44; (with_reducible refine CN.out.mono ?_); rintro e w1 ⟨⟨D, b, hD, rfl, hL⟩, hb1⟩; have HB1 := Lib.hid (HB.out.trans ((hb1.alloc hb1.size (.cells #[.map (some b)] 94)).mono hge)); have HD := Lib.hid hD; have HL := Lib.hid (hL.below ((Below.refl w1.heap.size w1).alloc (Nat.le_refl _) (.cells #[.map (some b)] 94))); have HJ1 := Lib.hid (Blk.new w1 94 #[.map (some b)]); clear hb1 hD hL; obtain ⟨c1, c2, c3, c4⟩ := HJ1.out.use)
      have hDl : D.length = (dedB (fB ml)).length := by have z := congrArg List.length HD.out; simpa using z
      have HDl := Lib.hid hDl
      have hD0 : D ≠ [] := by
        intro e
        have z := HD.out
        rw [e] at z
        exact dedB_ne (by rw [hfB]; simpa using H0.out) z.symm
      have hD64 : D.length ≤ 64 := by rw [hDl]; exact H64.out
      have HSm := Lib.hid (show SmL 8192 D from fun x hx => by
        have z := List.mem_map_of_mem (f := fun x : BM × Value => x.1) hx
        rw [HD.out] at z
        have z2 := z
        obtain ⟨y, hy, hyx⟩ := HDlp.out _ z
        refine ⟨(by rw [← hyx]; exact sm_of_ok (HOK.out y hy) rfl), ?_⟩
        obtain ⟨a, c, e⟩ := List.append_of_mem z2
        have h1 := tot_perm (List.perm_middle (a := x.1) (l₁ := a) (l₂ := c))
        rw [← e] at h1
        have h2 := tot_le [x.1] (a ++ c)
        have h3 : tot [x.1] = (mText x.1).length := by simp [tot, Lib.lens]
        simp only [List.singleton_append] at h2
        have h4 := H8.out
        omega)
      have C2 := fun W h h1 => Lib.hid (membersOf_any rdB D b W h h1 hD0 (fun x hx => (HSm.out x hx).1.lp) (by omega) (fun m hm v W' hW' hv => by
        rw [HD.out] at hm
        obtain ⟨y, hy, rfl⟩ := HDlp.out m hm
        exact memberOf_any (toB y.1) y.1.ps (has_toB y.1 (HLp.out y hy)) v W' hW' hv))
      have C3 := fun W h => Lib.hid (bagLen_any D b W h)
      have C4 := fun W h h1 => Lib.hid (bagString_any D b W h h1 8192 (by omega) HSm.out (by omega))
      clear hDl
      go_region_law (first
        | (go_simp; go_at_call 45; (refine (C2 _ (HE.out.below (by have z := HB1.out; exact ⟨z.os, z.tape, z.output, z.size, z.block⟩)) (by have z := HL.out; exact z)).out.mono ?_); rintro e w2 ⟨⟨ml2, v2, hp, hs, rfl, hr⟩, hb2⟩; have HB2 := Lib.hid (below_then (B := w.heap.size) (a := w) hb2 (by exact HB1.out.size) (by have z := HB1.out; exact ⟨z.os, z.tape, z.output, z.size, z.block⟩)); have HL2 := Lib.hid (ListR.below (w := _) (by have z := HL.out; exact z) hb2); have HJ2 := Lib.hid (Blk.by_ hb2 (by have z := HJ1.out; exact z)); have HP2 := Lib.hid hp; have HS2 := Lib.hid hs; have HR2 := Lib.hid hr; clear hb2 hp hs hr; obtain ⟨d1, d2, d3, d4⟩ := HJ2.out.use)
        | (go_simp; go_at_call 46; (refine (C3 _ (by have z := HL2.out; exact z)).out.mono ?_); rintro e w3 ⟨rfl, hb3⟩; have HB3 := Lib.hid (below_then (B := w.heap.size) (a := w) hb3 (by exact HB2.out.size) (by have z := HB2.out; exact ⟨z.os, z.tape, z.output, z.size, z.block⟩)); have HL3 := Lib.hid (ListR.below (w := _) (by have z := HL2.out; exact z) hb3); have HJ3 := Lib.hid (Blk.by_ hb3 (by have z := HJ2.out; exact z)); have HR3 := Lib.hid (RowA.below (w := _) (by have z := HR2.out; exact z) hb3); clear hb3; obtain ⟨f1, f2, f3, f4⟩ := HJ3.out.use)
        | (go_simp; go_at_call 47; (refine (C4 _ (HE.out.below (by have z := HB3.out; exact ⟨z.os, z.tape, z.output, z.size, z.block⟩)) (by have z := HL3.out; exact z)).out.mono ?_); rintro e w4 ⟨⟨pl', hp4, rfl⟩, hb4⟩; have HB4 := Lib.hid (below_then (B := w.heap.size) (a := w) hb4 (by exact HB3.out.size) (by have z := HB3.out; exact ⟨z.os, z.tape, z.output, z.size, z.block⟩)); have HR4 := Lib.hid (RowA.below (w := _) (by have z := HR3.out; exact z) hb4); have HP4 := Lib.hid hp4; clear hb4 hp4))
      all_goals go_wp2
      all_goals
        have hL4 : (pl'.map (·.1)).Perm (dedB (fB ml)) := by rw [← HD.out]; exact HP4.out.map _
        refine bodyPost_ret (v := .tuple #[v2, .int .i64 (dedB (fB ml)).length, .string (bs (Lib.join (mTexts pl') [44])), .bool true, .bool true]) (by simp [results, Tryz.results16, go_sem, HDl.out]) rfl ⟨⟨ml2, v2, pl'.map (·.1), ?_, HS2.out, hL4, by rw [mTexts_w], by have z := HR4.out; exact z⟩, ⟨HB4.out.os, HB4.out.tape, HB4.out.output, HB4.out.size, HB4.out.block⟩⟩
        have z := HP2.out
        rw [show (D.map fun x => rdB x.1) = (D.map (·.1)).map rdB by rw [List.map_map]; rfl, HD.out] at z
        exact z
end Go.Proofs.YtpgookhdffklkaaGreatDoor
