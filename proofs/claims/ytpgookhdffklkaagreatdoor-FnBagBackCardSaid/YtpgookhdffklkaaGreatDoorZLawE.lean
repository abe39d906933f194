/-
  laws: FnBagMade answers true, whatever it is called with.
-/
import Derived.Test.YtpgookhdffklkaaGreatDoorZBagV
namespace Go.Proofs.YtpgookhdffklkaaGreatDoor
open Go.RowKit
theorem rgtB_all {l : List MA} (h : rgtB l = true) : l.length ≤ 40 ∧ ∀ x ∈ l, x.1.k.length ≤ 200 ∧ x.1.v.length ≤ 200 ∧ x.1.ps.length ≤ 8 ∧ ∀ p ∈ x.1.ps, p.k.length ≤ 200 ∧ p.v.length ≤ 200 ∧ (p.has = false → p.v = []) := by
  simp only [rgtB, Bool.and_eq_true, decide_eq_true_eq, List.all_eq_true] at h
  refine ⟨h.1, fun x hx => ?_⟩
  have h2 := h.2 x hx
  simp only [rgtM, Bool.and_eq_true, decide_eq_true_eq, List.all_eq_true] at h2
  refine ⟨h2.1, h2.2.1, h2.2.2.1, fun p hp => ?_⟩
  have h3 := h2.2.2.2 p hp
  simp only [rgtP, Bool.and_eq_true, decide_eq_true_eq, Bool.or_eq_true] at h3
  refine ⟨h3.1, h3.2.1, fun hf => ?_⟩
  rcases h3.2.2 with h4 | h4
  · rw [hf] at h4; cases h4
  · exact List.isEmpty_iff.1 h4
theorem fitsB_all {l : List MA} (h : fitsB l = true) : l.length ≤ 2147483647 ∧ ∀ x ∈ l, x.1.k.length ≤ 2147483647 ∧ x.1.v.length ≤ 2147483647 ∧ x.1.ps.length ≤ 2147483647 ∧ ∀ p ∈ x.1.ps, p.k.length ≤ 2147483647 ∧ p.v.length ≤ 2147483647 := by
  simp only [fitsB, Bool.and_eq_true, decide_eq_true_eq, List.all_eq_true] at h
  refine ⟨h.1, fun x hx => ?_⟩
  have h2 := h.2 x hx
  simp only [fitM, fitsP, Bool.and_eq_true, decide_eq_true_eq, List.all_eq_true] at h2
  refine ⟨h2.1, h2.2.1, h2.2.2.1, fun p hp => ?_⟩
  have h3 := h2.2.2.2 p hp
  simp only [fitP, Bool.and_eq_true, decide_eq_true_eq] at h3
  exact h3
/-- A member that is made. -/
def okMA (x : MA) : Bool := okB x.1.k x.1.v && x.1.ps.all okPr
theorem smA_right {x : MA} (h : x.1.k.length ≤ 200 ∧ x.1.v.length ≤ 200 ∧ x.1.ps.length ≤ 8 ∧ ∀ p ∈ x.1.ps, p.k.length ≤ 200 ∧ p.v.length ≤ 200 ∧ (p.has = false → p.v = [])) : SmA x :=
  ⟨by omega, by omega, by omega, fun p hp => by have := h.2.2.2 p hp; omega⟩
theorem okM_right {x : MA} (h : x.1.k.length ≤ 200 ∧ x.1.v.length ≤ 200 ∧ x.1.ps.length ≤ 8 ∧ ∀ p ∈ x.1.ps, p.k.length ≤ 200 ∧ p.v.length ≤ 200 ∧ (p.has = false → p.v = [])) (ho : okMA x = true) : OkM (toB x.1) := by
  simp only [okMA, Bool.and_eq_true, List.all_eq_true] at ho
  exact ⟨ho.1, by show x.1.k.length ≤ _; omega, by show x.1.v.length ≤ _; omega, fun p hp => ⟨ho.2 p hp, (h.2.2.2 p hp).2.2, by have := h.2.2.2 p hp; omega, by have := h.2.2.2 p hp; omega⟩, by show x.1.ps.length ≤ _; omega⟩
theorem fB_map (l : List MA) : fB l = (l.map (·.1)).map toB := by unfold fB; rw [List.map_map]; rfl
theorem make_all (ml : List MA) (v : Value) (w : World) (hE : Env w) (hv : RowA w 82 146 v ml) (hok : ∀ x ∈ ml, OkM (toB x.1)) (hlp : ∀ x ∈ ml, x.1.ps.length ≤ 1000) (hn : ml.length ≤ 1000)
    (h64 : (dedB (fB ml)).length ≤ 64) (h8 : tot (dedB (fB ml)) ≤ 8192) :
    Calls Tryz.prog 16 #[v] w fun e w' => (∃ (ml2 : List MA) (v2 : Value) (L : List BM), (ml2.map (·.1)).Perm ((dedB (fB ml)).map rdB) ∧ ml2.Pairwise (fun x y => ltK y x = false) ∧ L.Perm (dedB (fB ml)) ∧ e = .returned (.tuple #[v2, .int .i64 (dedB (fB ml)).length, .string (bs (Lib.join (wTexts L) [44])), .bool true, .bool true]) ∧ RowA w' 82 146 v2 ml2) ∧ Below w.heap.size w w' := by
  by_cases h0 : ml = []
  · subst h0
    obtain ⟨A, q, rfl⟩ := hv.1.form
    refine (make_nil A q w).mono ?_
    rintro e w' ⟨he, hb⟩
    exact ⟨⟨[], .slice none 0 0, [], by simp [fB, dedB], List.Pairwise.nil, by simp [fB, dedB], by rw [he]; simp [fB, dedB, wTexts, Lib.join_nil], SlV.nil _ _, PsI.nil _ _⟩, hb⟩
  · exact make_some ml v w hE hv h0 hok hlp hn h64 h8
/-- What the made baggage has, held against the one that is wanted. -/
theorem make_want (l wl : List MA) (hs : SortM wl) (hp : (fB wl).Perm (dedB (fB l))) (h40 : l.length ≤ 40) (h8 : szB l ≤ 8000)
    (hok : ∀ x ∈ l, OkM (toB x.1)) (hlp : ∀ x ∈ l, x.1.ps.length ≤ 1000) (ml : List MA) (v : Value) (w : World) (hE : Env w) (hv : RowA w 82 146 v ml) (hm : ml.map (·.1) = l.map (·.1)) :
    Calls Tryz.prog 16 #[v] w fun e w' => (∃ (ml2 : List MA) (v2 : Value) (T : List UInt8), e = .returned (.tuple #[v2, .int .i64 wl.length, .string (bs T), .bool true, .bool true]) ∧ ml2.map (·.1) = wl.map (·.1) ∧ srt (spl T) = srt (txts wl) ∧ T.length ≤ 900000 ∧ (∃ L : List BM, L.Perm (dedB (fB l)) ∧ T = Lib.join (wTexts L) [44]) ∧ RowA w' 82 146 v2 ml2) ∧ Below w.heap.size w w' := by
  have hf : fB ml = fB l := by rw [fB_map, fB_map, hm]
  have from_l : ∀ x ∈ ml, ∃ y ∈ l, y.1 = x.1 := fun x hx => by
    have := List.mem_map_of_mem (f := fun x : MA => x.1) hx
    rw [hm] at this
    obtain ⟨y, hy, e⟩ := List.mem_map.1 this
    exact ⟨y, hy, e⟩
  have hml : ml.length = l.length := by have := congrArg List.length hm; simpa using this
  have hdl : (dedB (fB l)).length ≤ 40 := by have := dedB_len (fB l); rw [fB_len] at this; omega
  have hdt : tot (dedB (fB l)) ≤ 8000 := by have h1 := tot_dedB (fB l); have h2 := tot_szB l; omega
  have hwl : wl.length = (dedB (fB l)).length := by have := hp.length_eq; rw [fB_len] at this; exact this
  refine (make_all ml v w hE hv (fun x hx => ?_) (fun x hx => ?_) (by omega) (by rw [hf]; omega) (by rw [hf]; omega)).mono ?_
  · obtain ⟨y, hy, e⟩ := from_l x hx
    rw [← e]; exact hok y hy
  · obtain ⟨y, hy, e⟩ := from_l x hx
    rw [← e]; exact hlp y hy
  · rw [hf]
    rintro e w' ⟨⟨ml2, v2, L, hp2, hs2, hL, he, hr⟩, hb⟩
    refine ⟨⟨ml2, v2, _, by rw [he, hwl], sortedM_eq hs2 hp2 hs hp, ?_, ?_, ⟨L, hL, rfl⟩, hr⟩, hb⟩
    · rw [spl_join hL, txts_w]
      exact srt_perm (wTexts_perm (hL.trans hp.symm))
    · have h1 := joinW_len L
      have h2 := tot_perm hL
      have h3 := hL.length_eq
      omega
/-- The state of FnBagMade's loop. -/
structure MaB (w : World) (l : List MA) (want sz i : Value) (wr : World) (j : Nat) (wl : List MA) : Prop where
  hj : j ≤ l.length
  hi : i = .int .i64 j
  hz : sz = .int .i64 (szB (l.take j) : Nat)
  row : RowC wr want wl
  srt : SortM wl
  perm : (fB wl).Perm (dedB (fB (l.take j)))
  ok : (l.take j).all okMA = true
  hb : Below w.heap.size w wr
set_option maxRecDepth 100000 in
set_option maxHeartbeats 16000000 in
theorem law4 (l : List MA) (v : Value) (w : World) (hE : Env w) (hv : RowB w v l) :
    Calls Tryz.prog 4 #[v] w fun e w' => e = .returned (.bool true) ∧ Below w.heap.size w w' := by
  have hlen := hv.1.len
  obtain ⟨A, q, hq⟩ := hv.1.form
  subst hq
  have HE := Lib.hid hE
  have HVC := Lib.hid hv.toC
  have C9 := Lib.hid (zzFits7_any l (.slice A l.length q) w hv)
  have CA := fun W h => Lib.hid (awake_any W h)
  clear hE hv
  cases hf : fitsB l
  · rw [hf] at C9
    clear hf
    go_enter Tryz.func4, Tryz.ntmps4
    go_wp2_with (go_at_call 9; (with_reducible refine C9.out.mono ?_); rintro e w1 ⟨rfl, hb1⟩; have HB1 := Lib.hid hb1; clear hb1)
    go_ret
    exact ⟨rfl, HB1.out⟩
  · have hF := fitsB_all hf
    have C10 := fun W h => Lib.hid (bagRight_any l (.slice A l.length q) W h hF.1 hF.2)
    rw [hf] at C9
    clear hf hF
    cases hr : rgtB l
    · rw [hr] at C10
      clear hr
      go_enter Tryz.func4, Tryz.ntmps4
      go_wp2_with (first
        | (go_at_call 9; (with_reducible refine C9.out.mono ?_); rintro e w1 ⟨rfl, hb1⟩; have HB1 := Lib.hid hb1; clear hb1)
        | (go_at_call 10; (with_reducible refine (C10 _ (HVC.out.below HB1.out)).out.mono ?_); rintro e w2 ⟨rfl, hb2⟩; have HB2 := Lib.hid (HB1.out.trans (hb2.mono HB1.out.size)); clear hb2)
        | (go_at_call 11; (with_reducible refine (CA _ (HE.out.below HB2.out)).out.mono ?_); rintro e w3 ⟨rfl, hb3⟩; have HB3 := Lib.hid (HB2.out.trans (hb3.mono HB2.out.size)); clear hb3))
      go_ret
      exact ⟨rfl, HB3.out⟩
    · have hR := rgtB_all hr
      rw [hr] at C10
      clear hr
      have hn40 := hR.1
      have HR := Lib.hid hR.2
      have HSm := Lib.hid (show ∀ x ∈ l, SmA x from fun x hx => smA_right (hR.2 x hx))
      clear hR
      have C17 := fun W h => Lib.hid (toMembers_any l (.slice A l.length q) W h (by omega) (fun x hx => by have := HR.out x hx; omega))
      go_enter Tryz.func4, Tryz.ntmps4
      go_wp2_with (first
        | (go_at_call 9; (with_reducible refine C9.out.mono ?_); rintro e w1 ⟨rfl, hb1⟩; have HB1 := Lib.hid hb1; clear hb1)
        | (go_at_call 10; (with_reducible refine (C10 _ (HVC.out.below HB1.out)).out.mono ?_); rintro e w2 ⟨rfl, hb2⟩; have HB2 := Lib.hid (HB1.out.trans (hb2.mono HB1.out.size)); clear hb2))
      go_loopw [3, 4, 6, 7, 8, 23] (fun want sz _ _ _ i wr => ∃ (j : Nat) (wl : List MA), MaB w l want sz i wr j wl) (fun _ _ _ _ _ i _ => l.length - (intOf i).toNat)
      case atStart => exact ⟨0, [], ⟨Nat.zero_le _, rfl, by simp [szB], ⟨⟨none, 0, rfl, Nat.le_refl _, Nat.zero_le _, fun h => absurd rfl h⟩, fun x hx => by cases hx⟩, List.Pairwise.nil, by simp [fB, dedB], by simp, HB2.out⟩⟩
      case round =>
        obtain ⟨j, wl, hj, rfl, rfl, hrow, hsrt, hperm, hok, hb⟩ := hrel
        have HB := Lib.hid hb
        have HRow := Lib.hid hrow
        have HS := Lib.hid hsrt
        have HP := Lib.hid hperm
        have HOk := Lib.hid hok
        have hge := hb.size
        have hwl : wl.length ≤ 40 := by
          have h1 := hperm.length_eq
          have h2 := dedB_len (fB (l.take j))
          rw [fB_len] at h1
          rw [fB_len, List.length_take] at h2
          omega
        have hzb : szB (l.take j) ≤ 300000000 := by
          have h1 := szB_le (l.take j) (fun x hx => HSm.out x (List.mem_of_mem_take hx))
          have h2 : (l.take j).length * 5000001 ≤ 40 * 5000001 := Nat.mul_le_mul_right _ (by rw [List.length_take]; omega)
          omega
        clear hb hrow hsrt hperm hok
        by_cases hlt : j < l.length
        · obtain ⟨b, off, c, hq, -, -, hbw, hc⟩ := HVC.out.1.cells (flatA_ne' (by intro e; rw [e] at hlt; simp at hlt))
          injection hq with hq1 hq2 hq3
          subst hq1; subst hq3
          clear hq2
          obtain ⟨i0, i1, i2⟩ := cellsAt' (fun z u hz => (HB.out.cell (p := ⟨b, off + z, none⟩) hbw).trans (hc z u hz)) j hlt
          have HX := Lib.hid (HVC.out.2 _ (List.getElem_mem hlt))
          have HRx := Lib.hid (HR.out _ (List.getElem_mem hlt))
          have HSx := Lib.hid (HSm.out _ (List.getElem_mem hlt))
          have HT1 := Lib.hid (szB_snoc l j hlt)
          have HT2 := Lib.hid (fB_take l j hlt)
          have HT3 := Lib.hid (fun h => all_take_g okMA l j hlt HOk.out h)
          clear hc
          generalize l[j]'hlt = x at i0 i1 i2 HX HRx HSx HT1 HT2 HT3
          obtain ⟨⟨xk, xv, xps⟩, xA, xq⟩ := x
          have hmt := mTextLen _ HSx.out
          have htb : toB (⟨xk, xv, xps⟩ : Mem) = ⟨xk, xv, [], xps⟩ := rfl
          have hrx := HRx.out
          dsimp only at i0 i1 i2 HX HT1 HT2 hmt hrx
          rw [htb] at HT1 HT2 hmt
          have HWa := Lib.hid ((Below.refl wr.heap.size wr).alloc (Nat.le_refl _) (.cells #[.string (bs xk), .string (bs xv), .slice xA xps.length xq] 29))
          have hlp : ∀ p ∈ xps, p.k.length ≤ 1000000 ∧ p.v.length ≤ 1000000 ∧ (p.has = false → p.v = []) := fun p hp => by have z := hrx.2.2.2 p hp; exact ⟨by omega, by omega, z.2.2⟩
          have HLp := Lib.hid hlp
          have C12 := Lib.hid (makeMember_any xk xv xps xA xq (wr.alloc (.cells #[.string (bs xk), .string (bs xv), .slice xA xps.length xq] 29)) ((HE.out.below HB.out).below HWa.out) ((HX.out.below HB.out).below HWa.out) hlp (by omega) (by omega) (by omega))
          have hk1 : xk.length ≤ 1000000 := by omega
          have hk2 : xv.length ≤ 1000000 := by omega
          have hk3 : xps.length ≤ 1000000 := by omega
          clear hrx hlp
          cases hom : (okB xk xv && xps.all okPr)
          · rw [hom] at C12
            clear hom
            go_wp2_with (first
              | (go_at_call 12; (with_reducible refine C12.out.mono ?_); rintro e w3 ⟨⟨sv, rfl, hown3⟩, hb3⟩; have HB3 := Lib.hid (HB.out.trans ((HWa.out.trans (hb3.mono (by simp))).mono hge)); obtain ⟨A3, q3, hq3⟩ := (SlV.of_own hown3).form; subst hq3; have HB3a := Lib.hid (HB3.out.alloc HB3.out.size (.cells #[.string (bs xk), .string (bs xv), .slice A3 xps.length q3] 29)); clear hown3 hb3)
              | (go_at_call 11; (with_reducible refine (CA _ (HE.out.below HB3a.out)).out.mono ?_); rintro e w4 ⟨rfl, hb4⟩; have HB4 := Lib.hid (HB3a.out.trans (hb4.mono HB3a.out.size)); clear hb4))
            go_ret
            exact ⟨rfl, HB4.out⟩
          · have HOm := Lib.hid (HT3.out hom)
            rw [hom] at C12
            clear hom HT3
            have C15 := fun A3 q3 W h1 h2 => Lib.hid (show Calls Tryz.prog 15 #[u3, .agg #[.string (bs xk), .string (bs xv), .slice A3 xps.length q3]] W _ from withM_row wl (⟨xk, xv, xps⟩, A3, q3) u3 W h1 HS.out (by omega) h2)
            have C13 := fun A3 q3 W h => Lib.hid (memText_any xk xv xps A3 q3 W h (fun p hp => ⟨(HLp.out p hp).1, (HLp.out p hp).2.1⟩) hk3 hk1 hk2)
            generalize mText ⟨xk, xv, [], xps⟩ = T at *
            go_wp2_with (first
              | (go_at_call 12; (with_reducible refine C12.out.mono ?_); rintro e w3 ⟨⟨sv, rfl, hown3⟩, hb3⟩; have HW3 := Lib.hid (HWa.out.trans (hb3.mono (by simp))); have HB3 := Lib.hid (HB.out.trans (HW3.out.mono hge)); have HX3 := Lib.hid (argOfSl (SlV.of_own hown3)); obtain ⟨A3, q3, hq3⟩ := (SlV.of_own hown3).form; subst hq3; have HN3 := Lib.hid (Blk.new w3 29 #[.string (bs xk), .string (bs xv), .slice A3 xps.length q3]); have HA3 := Lib.hid ((Below.refl w3.heap.size w3).alloc (Nat.le_refl _) (.cells #[.string (bs xk), .string (bs xv), .slice A3 xps.length q3] 29)); have HRow3 := Lib.hid ((HRow.out.below HW3.out).below HA3.out); have HX3a := Lib.hid (HX3.out.below HA3.out); have HB3a := Lib.hid (HB3.out.trans (HA3.out.mono HB3.out.size)); clear hown3 hb3)
              | (go_at_call 15; (with_reducible refine (C15 _ _ _ HRow3.out HX3a.out).out.mono ?_); rintro e w4 ⟨⟨want4, rfl, hrow4⟩, hb4⟩; have HB4 := Lib.hid (HB3a.out.trans (hb4.mono HB3a.out.size)); have HRow4 := Lib.hid hrow4; have HX4 := Lib.hid (HX3a.out.below hb4); have HN4 := Lib.hid (HN3.out.belowS hb4); clear hb4 hrow4; obtain ⟨n1, n2, n3, n4⟩ := HN4.out.use)
              | (go_at_call 13; (with_reducible refine (C13 _ _ _ HX4.out).out.mono ?_); rintro e w5 ⟨rfl, hb5⟩; have HB5 := Lib.hid (HB4.out.trans (hb5.mono HB4.out.size)); have HRow5 := Lib.hid (HRow4.out.below hb5); clear hb5))
            refine ⟨⟨j + 1, withM wl (⟨xk, xv, xps⟩, A3, q3), ⟨by omega, by go_num, ?_, HRow5.out, sortM_with _ HS.out, ?_, HOm.out, HB5.out⟩⟩, by simp [intOf]; omega⟩
            · rw [HT1.out]
              go_num
            · rw [HT2.out, dedB_snoc]
              exact (with_perm _ HS.out).trans (putB_perm _ HP.out)
        · obtain rfl : j = l.length := by omega
          rw [List.take_of_length_le (Nat.le_refl _)] at HP HOk hzb
          have HMw := Lib.hid (fun (h8 : szB l ≤ 8000) ml v W h1 h2 h3 => make_want l wl HS.out HP.out hn40 h8 (fun x hx => okM_right (HR.out x hx) (List.all_eq_true.1 HOk.out x hx)) (fun x hx => by have := HR.out x hx; omega) ml v W h1 h2 h3)
          have hsl : ∀ x ∈ wl, SmA x := fun x hx => by
            obtain ⟨y, hy, e⟩ := ded_from HP.out hx
            exact (HSm.out y hy).same e
          have HSl := Lib.hid hsl
          clear hsl
          simp only [List.take_length]
          by_cases h8 : szB l ≤ 8000
          · have C16 := fun ml v W h1 h2 h3 => Lib.hid (HMw.out h8 ml v W h1 h2 h3)
            have C19 := fun (ml2 : List MA) v W h (hm : ml2.map (·.1) = wl.map (·.1)) => Lib.hid (ofMembers_any ml2 v W h (by have := congrArg List.length hm; simp at this; omega) (fun x hx => by
              have := List.mem_map_of_mem (f := fun x : MA => x.1) hx
              rw [hm] at this
              obtain ⟨y, hy, e⟩ := List.mem_map.1 this
              have z := (HSl.out y hy).ln
              rw [← e]
              omega))
            have C20 := fun (l1 : List MA) v1 v2 W h1 h2 h3 => Lib.hid (same_same l1 wl v1 v2 W h1 h2 h3)
            have C22 := fun T W h => Lib.hid (bagTexts_any T W h)
            have C23 := fun v W h => Lib.hid (texts_any wl v W h (by omega) HSl.out)
            have C21 := fun v1 v2 W h1 h2 => Lib.hid (equalS_any (srt (txts wl)) v1 v2 W h1 h2 (by rw [srt_len]; have := txts_len wl; omega))
            obtain ⟨Aw, qw, hqw⟩ := HRow.out.1.form
            subst hqw
            clear HMw
            go_wp2_with (first
              | (go_at_call 17; (with_reducible refine (C17 _ (HVC.out.below HB.out)).out.mono ?_); rintro e w3 ⟨⟨v3, rfl, ml3, hm3, hr3⟩, hb3⟩; have HB3 := Lib.hid (HB.out.trans (hb3.mono hge)); have HR3 := Lib.hid hr3; have HM3 := Lib.hid hm3; have HRow3 := Lib.hid (HRow.out.below hb3); clear hb3 hr3 hm3)
              | (go_at_call 16; (with_reducible refine (C16 ml3 _ _ (HE.out.below HB3.out) HR3.out HM3.out).out.mono ?_); rintro e w4 ⟨⟨ml4, v4, T, rfl, hm4, ht4, hl4, -, hr4⟩, hb4⟩; have HB4 := Lib.hid (HB3.out.trans (hb4.mono HB3.out.size)); have HR4 := Lib.hid hr4; have HM4 := Lib.hid hm4; have HT4 := Lib.hid ht4; have HRow4 := Lib.hid (HRow3.out.below hb4); clear hb4 hr4 hm4 ht4)
              | (go_at_call 11; (with_reducible refine (CA _ (HE.out.below HB4.out)).out.mono ?_); rintro e w5 ⟨rfl, hb5⟩; have HB5 := Lib.hid (HB4.out.trans (hb5.mono HB4.out.size)); have HR5 := Lib.hid (HR4.out.below hb5); have HRow5 := Lib.hid (HRow4.out.below hb5); clear hb5)
              | (go_at_call 19; (with_reducible refine (C19 ml4 _ _ (RowA.toC HR5.out) HM4.out).out.mono ?_); rintro e w6 ⟨⟨v6, rfl, ml6, hm6, hr6⟩, hb6⟩; have HB6 := Lib.hid (HB5.out.trans (hb6.mono HB5.out.size)); have HR6 := Lib.hid (RowA.toC hr6); have HM6 := Lib.hid hm6; have HRow6 := Lib.hid (HRow5.out.below hb6); clear hb6 hr6 hm6)
              | (go_at_call 20; (with_reducible refine (C20 ml6 _ _ _ HR6.out HRow6.out (HM6.out.trans HM4.out)).out.mono ?_); rintro e w7 ⟨rfl, hb7⟩; have HB7 := Lib.hid (HB6.out.trans (hb7.mono HB6.out.size)); have HRow7 := Lib.hid (HRow6.out.below hb7); clear hb7)
              | (go_at_call 22; (with_reducible refine (C22 T _ hl4).out.mono ?_); rintro e w8 ⟨⟨v8, rfl, ho8⟩, hb8⟩; have HB8 := Lib.hid (HB7.out.trans (hb8.mono HB7.out.size)); rw [HT4.out] at ho8; have HS8 := Lib.hid (SlV.of_own ho8); have HRow8 := Lib.hid (HRow7.out.below hb8); clear hb8 ho8)
              | (go_at_call 23; (with_reducible refine (C23 _ _ HRow8.out).out.mono ?_); rintro e w9 ⟨⟨v9, rfl, ho9⟩, hb9⟩; have HB9 := Lib.hid (HB8.out.trans (hb9.mono HB8.out.size)); have HS9 := Lib.hid (SlV.of_own ho9); have HS8a := Lib.hid (HS8.out.below hb9); clear hb9 ho9)
              | (go_at_call 21; (with_reducible refine (C21 _ _ _ HS8a.out HS9.out).out.mono ?_); rintro e w10 ⟨rfl, hb10⟩; have HB10 := Lib.hid (HB9.out.trans (hb10.mono HB9.out.size)); clear hb10))
            go_ret
            exact ⟨rfl, HB10.out⟩
          · have h8' : (8000 : Int) < (szB l : Int) := by omega
            go_wp2_with (go_at_call 11; (with_reducible refine (CA _ (HE.out.below HB.out)).out.mono ?_); rintro e w3 ⟨rfl, hb3⟩; have HB3 := Lib.hid (HB.out.trans (hb3.mono hge)); clear hb3)
            go_ret
            exact ⟨rfl, HB3.out⟩
end Go.Proofs.YtpgookhdffklkaaGreatDoor
