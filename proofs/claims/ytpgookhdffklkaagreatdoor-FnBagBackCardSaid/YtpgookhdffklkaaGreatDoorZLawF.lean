/-
  laws: FnBagBack answers true, whatever it is called with.
-/
import Derived.Test.YtpgookhdffklkaaGreatDoorZLawE
namespace Go.Proofs.YtpgookhdffklkaaGreatDoor
open Go.RowKit
set_option maxRecDepth 100000 in
set_option maxHeartbeats 8000000 in
theorem parseBaggage_nil (w : World) :
    Calls Tryz.prog 18 #[.string (bs [])] w fun e w' => e = .returned (.tuple #[.slice none 0 0, .int .i64 0, .string (bs []), .bool true]) ∧ Below w.heap.size w w' := by
  have C1 := fun W => Lib.hid (parse_nil W)
  have C2 := fun W => Lib.hid (membersOf_nil W)
  have C3 := fun W => Lib.hid (bagLen_nil W)
  have C4 := fun W => Lib.hid (bagString_nil W)
  go_enter Tryz.func18, Tryz.ntmps18
  go_wp2_with (go_at_call 49; (with_reducible refine (C1 _).out.mono ?_); rintro e w1 ⟨rfl, hb1⟩; have HB1 := Lib.hid (hb1.alloc hb1.size (.cells #[.map none] 94)); have HJ1 := Lib.hid (Blk.new w1 94 #[.map none]); clear hb1; obtain ⟨c1, c2, c3, c4⟩ := HJ1.out.use)
  go_region_law (first
    | (go_simp; go_at_call 45; (refine (C2 _).out.mono ?_); rintro e w2 ⟨rfl, hb2⟩; have HB2 := Lib.hid (below_then (B := w.heap.size) (a := w) hb2 (by exact HB1.out.size) (by have z := HB1.out; exact ⟨z.os, z.tape, z.output, z.size, z.block⟩)); have HJ2 := Lib.hid (Blk.by_ hb2 (by have z := HJ1.out; exact z)); clear hb2; obtain ⟨d1, d2, d3, d4⟩ := HJ2.out.use)
    | (go_simp; go_at_call 46; (refine (C3 _).out.mono ?_); rintro e w3 ⟨rfl, hb3⟩; have HB3 := Lib.hid (below_then (B := w.heap.size) (a := w) hb3 (by exact HB2.out.size) (by have z := HB2.out; exact ⟨z.os, z.tape, z.output, z.size, z.block⟩)); have HJ3 := Lib.hid (Blk.by_ hb3 (by have z := HJ2.out; exact z)); clear hb3; obtain ⟨f1, f2, f3, f4⟩ := HJ3.out.use)
    | (go_simp; go_at_call 47; (refine (C4 _).out.mono ?_); rintro e w4 ⟨rfl, hb4⟩; have HB4 := Lib.hid (below_then (B := w.heap.size) (a := w) hb4 (by exact HB3.out.size) (by have z := HB3.out; exact ⟨z.os, z.tape, z.output, z.size, z.block⟩)); clear hb4))
  all_goals go_wp2
  all_goals exact bodyPost_ret (v := .tuple #[.slice none 0 0, .int .i64 0, .string (bs []), .bool true]) (by simp [results, Tryz.results18, go_sem]) rfl ⟨rfl, ⟨HB4.out.os, HB4.out.tape, HB4.out.output, HB4.out.size, HB4.out.block⟩⟩
/-- A member whose keys are tokens, those of its properties, too. -/
def bkM (x : MA) : Bool := tok x.1.k && x.1.ps.all fun p => tok p.k
theorem rdB_back (L : List BM) (h : ∀ m ∈ L, m.md = []) : (L.map rdB).map toB = L := by
  rw [List.map_map]
  have : ∀ m ∈ L, (toB ∘ rdB) m = m := fun m hm => by
    obtain ⟨k, v, md, ps⟩ := m
    have := h _ hm
    simp only at this
    subst this
    rfl
  rw [List.map_congr_left this, List.map_id']
theorem texts_back (ms : List Mem) (h : ∀ m ∈ ms, OkR m) : (ms.map pB).map mText = (ms.map toB).map mText := by
  rw [List.map_map, List.map_map]
  exact List.map_congr_left fun m hm => (h m hm).text_eq
theorem okR_right {x : MA} (h : x.1.k.length ≤ 200 ∧ x.1.v.length ≤ 200 ∧ x.1.ps.length ≤ 8 ∧ ∀ p ∈ x.1.ps, p.k.length ≤ 200 ∧ p.v.length ≤ 200 ∧ (p.has = false → p.v = [])) (ho : okMA x = true) (hb : bkM x = true) : OkR x.1 := by
  simp only [okMA, Bool.and_eq_true, List.all_eq_true] at ho
  simp only [bkM, Bool.and_eq_true, List.all_eq_true] at hb
  refine ⟨hb.1, (okB_parts ho.1).2.2, by omega, by omega, by omega, fun p hp => ?_, ?_⟩
  · have z := h.2.2.2 p hp
    exact ⟨hb.2 p hp, (okB_parts (ho.2 p hp)).2.2, z.2.2, by omega, by omega⟩
  · have z := psText_len x.1.ps (fun p hp => by have z := h.2.2.2 p hp; omega)
    have z2 : x.1.ps.length * 4002 ≤ 8 * 4002 := Nat.mul_le_mul_right _ h.2.2.1
    omega
/-- The text of a made baggage is read back. -/
theorem parse_back (l wl : List MA) (hs : SortM wl) (hp : (fB wl).Perm (dedB (fB l))) (h30 : l.length ≤ 30) (h7 : szB l ≤ 7000) (hr : ∀ x ∈ l, OkR x.1) (L : List BM) (hL : L.Perm (dedB (fB l))) (T : List UInt8) (hT : T = Lib.join (wTexts L) [44]) (w : World) (hE : Env w) :
    Calls Tryz.prog 18 #[.string (bs T)] w fun e w' => (∃ (ml : List MA) (v : Value) (T2 : List UInt8), e = .returned (.tuple #[v, .int .i64 wl.length, .string (bs T2), .bool true]) ∧ ml.map (·.1) = wl.map (·.1) ∧ srt (spl T2) = srt (spl T) ∧ T2.length ≤ 900000 ∧ RowA w' 82 146 v ml) ∧ Below w.heap.size w w' := by
  have hin : ∀ m ∈ L, ∃ x ∈ l, toB x.1 = m := fun m hm => by
    have h2 := dedB_all (P := fun m => m ∈ fB l) (l := fB l) (fun m h => h) _ (hL.mem_iff.1 hm)
    obtain ⟨y, hy, e⟩ := List.mem_map.1 h2
    exact ⟨y, hy, e⟩
  have hback := rdB_back L (fun m hm => by obtain ⟨x, _, rfl⟩ := hin m hm; rfl)
  have hOkR : ∀ m ∈ L.map rdB, OkR m := fun m hm => by
    obtain ⟨b, hb, rfl⟩ := List.mem_map.1 hm
    obtain ⟨x, hx, rfl⟩ := hin b hb
    exact hr x hx
  have htx : ((L.map rdB).map pB).map mText = L.map mText := by
    rw [texts_back _ hOkR, hback]
  have hwT : wTexts L = L.map mText := by
    refine List.filter_eq_self.2 fun t ht => ?_
    rw [← htx, List.map_map] at ht
    obtain ⟨m, hm, rfl⟩ := List.mem_map.1 ht
    have := (hOkR m hm).ne_nil
    show (!(mText (pB m)).isEmpty) = true
    cases hh : mText (pB m) with
    | nil => exact absurd hh this
    | cons a t => rfl
  have hlen : wl.length = (L.map rdB).length := by have := hp.length_eq; rw [fB_len] at this; rw [List.length_map, hL.length_eq]; exact this
  have hLl : L.length ≤ 30 := by have h1 := hL.length_eq; have h2 := dedB_len (fB l); rw [fB_len] at h2; omega
  have htot : tot L ≤ 7000 := by rw [tot_perm hL]; have h1 := tot_dedB (fB l); have h2 := tot_szB l; omega
  have hnd : ((L.map rdB).map (·.k)).Nodup := by
    have h1 : (L.map (·.k)).Nodup := (hL.map _).nodup_iff.2 (dedB_nd (fB l))
    rw [List.map_map]
    exact h1
  subst hT
  by_cases h0 : L = []
  · subst h0
    have e1 : Lib.join (wTexts []) [44] = [] := by simp [wTexts, Lib.join_nil]
    rw [e1]
    refine (parseBaggage_nil w).mono ?_
    rintro e w' ⟨he, hb⟩
    have hw0 : wl = [] := List.eq_nil_of_length_eq_zero (by simpa using hlen)
    subst hw0
    exact ⟨⟨[], .slice none 0 0, [], by rw [he]; rfl, rfl, rfl, by simp, SlV.nil _ _, PsI.nil _ _⟩, hb⟩
  · have hT2 : Lib.join (wTexts L) [44] = Lib.join (((L.map rdB).map pB).map mText) [44] := by rw [hwT, htx]
    have htotE : tot ((L.map rdB).map pB) = tot L := by unfold tot; rw [htx]; simp
    rw [hT2]
    refine (parseBaggage_mems (L.map rdB) w hE (by simpa using h0) hOkR hnd (by rw [List.length_map]; omega) (by rw [htotE]; omega)).mono ?_
    rintro e w' ⟨⟨ml, v, L2, hp2, hs2, hL2, he, hr2⟩, hb⟩
    have h44 : ∀ t ∈ L2.map mText, t ≠ [] ∧ ∀ x ∈ t, x ≠ 44 := fun t ht => by
      obtain ⟨b, hb, rfl⟩ := List.mem_map.1 ht
      obtain ⟨m, hm, rfl⟩ := List.mem_map.1 (hL2.mem_iff.1 hb)
      exact ⟨(hOkR m hm).ne_nil, (hOkR m hm).ne44⟩
    have hL2n : L2.map mText ≠ [] := by
      intro e
      have h1 := hL2.length_eq
      have h2 := congrArg List.length e
      simp at h1 h2
      rw [h2] at h1
      simp at h1
      exact h0 (List.eq_nil_of_length_eq_zero h1.symm)
    refine ⟨⟨ml, v, _, by rw [he, hlen], sortedM_eq hs2 hp2 hs (hp.trans hL.symm), ?_, ?_, hr2⟩, hb⟩
    · have e1 : spl (Lib.join (L2.map mText) [44]) = L2.map mText := by
        have hsj := split_join (L2.map mText) hL2n (fun t ht => (h44 t ht).2)
        have hne : Lib.join (L2.map mText) [44] ≠ [] := by
          intro e
          rw [e] at hsj
          have h1 : splitC 44 [] = [[]] := rfl
          rw [h1] at hsj
          exact (h44 [] (by rw [← hsj]; simp)).1 rfl
        unfold spl
        rw [if_neg hne, hsj]
      rw [e1, ← hT2, spl_join hL, hwT]
      exact srt_perm (by rw [← htx]; exact hL2.map _)
    · rw [tot_join, tot_perm hL2, htotE]
      omega
theorem srt_spl_len (T : List UInt8) (h : T.length ≤ 900000) : (srt (spl T)).length ≤ 1000000 := by
  rw [srt_len]
  unfold spl
  split
  · simp
  · have := split_len 44 T
    omega
/-- The state of FnBagBack's loop. -/
structure MaK (w : World) (l : List MA) (want sz i : Value) (wr : World) (j : Nat) (wl : List MA) : Prop where
  hj : j ≤ l.length
  hi : i = .int .i64 j
  hz : sz = .int .i64 (szB (l.take j) : Nat)
  row : RowC wr want wl
  srt : SortM wl
  perm : (fB wl).Perm (dedB (fB (l.take j)))
  ok : (l.take j).all okMA = true
  bk : (l.take j).all bkM = true
  hb : Below w.heap.size w wr
set_option maxRecDepth 100000 in
set_option maxHeartbeats 16000000 in
theorem law3 (l : List MA) (v : Value) (w : World) (hE : Env w) (hv : RowB w v l) :
    Calls Tryz.prog 3 #[v] w fun e w' => e = .returned (.bool true) ∧ Below w.heap.size w w' := by
  have hlen := hv.1.len
  obtain ⟨A, q, hq⟩ := hv.1.form
  subst hq
  have HE := Lib.hid hE
  have HVC := Lib.hid hv.toC
  have C9 := Lib.hid (zzFits7_any l (.slice A l.length q) w hv)
  have CA := fun W h => Lib.hid (awake_any W h)
  clear hE hv
  cases hf : fitsB l
  · rw [hf] at C9
    clear hf
    go_enter Tryz.func3, Tryz.ntmps3
    go_wp2_with (go_at_call 9; (with_reducible refine C9.out.mono ?_); rintro e w1 ⟨rfl, hb1⟩; have HB1 := Lib.hid hb1; clear hb1)
    go_ret
    exact ⟨rfl, HB1.out⟩
  · have hF := fitsB_all hf
    have C10 := fun W h => Lib.hid (bagRight_any l (.slice A l.length q) W h hF.1 hF.2)
    rw [hf] at C9
    clear hf hF
    cases hr : rgtB l
    · rw [hr] at C10
      clear hr
      go_enter Tryz.func3, Tryz.ntmps3
      go_wp2_with (first
        | (go_at_call 9; (with_reducible refine C9.out.mono ?_); rintro e w1 ⟨rfl, hb1⟩; have HB1 := Lib.hid hb1; clear hb1)
        | (go_at_call 10; (with_reducible refine (C10 _ (HVC.out.below HB1.out)).out.mono ?_); rintro e w2 ⟨rfl, hb2⟩; have HB2 := Lib.hid (HB1.out.trans (hb2.mono HB1.out.size)); clear hb2)
        | (go_at_call 11; (with_reducible refine (CA _ (HE.out.below HB2.out)).out.mono ?_); rintro e w3 ⟨rfl, hb3⟩; have HB3 := Lib.hid (HB2.out.trans (hb3.mono HB2.out.size)); clear hb3))
      go_ret
      exact ⟨rfl, HB3.out⟩
    · have hR := rgtB_all hr
      rw [hr] at C10
      clear hr
      have hn40 := hR.1
      by_cases h30 : l.length ≤ 30
      rotate_left
      · have h30' : (30 : Int) < (l.length : Int) := by omega
        have h30b : decide ((30 : Int) < (l.length : Int)) = true := decide_eq_true h30'
        clear hR
        go_enter Tryz.func3, Tryz.ntmps3
        go_wp2_with (first
          | (go_at_call 9; (with_reducible refine C9.out.mono ?_); rintro e w1 ⟨rfl, hb1⟩; have HB1 := Lib.hid hb1; clear hb1)
          | (go_at_call 10; (with_reducible refine (C10 _ (HVC.out.below HB1.out)).out.mono ?_); rintro e w2 ⟨rfl, hb2⟩; have HB2 := Lib.hid (HB1.out.trans (hb2.mono HB1.out.size)); clear hb2)
          | (go_at_call 11; (with_reducible refine (CA _ (HE.out.below HB2.out)).out.mono ?_); rintro e w3 ⟨rfl, hb3⟩; have HB3 := Lib.hid (HB2.out.trans (hb3.mono HB2.out.size)); clear hb3))
        go_ret
        exact ⟨rfl, HB3.out⟩
      have h30a : (l.length : Int) ≤ 30 := by omega
      have h30b : decide ((30 : Int) < (l.length : Int)) = false := decide_eq_false (by omega)
      have HR := Lib.hid hR.2
      have HSm := Lib.hid (show ∀ x ∈ l, SmA x from fun x hx => smA_right (hR.2 x hx))
      clear hR
      have C17 := fun W h => Lib.hid (toMembers_any l (.slice A l.length q) W h (by omega) (fun x hx => by have := HR.out x hx; omega))
      go_enter Tryz.func3, Tryz.ntmps3
      go_wp2_with (first
        | (go_at_call 9; (with_reducible refine C9.out.mono ?_); rintro e w1 ⟨rfl, hb1⟩; have HB1 := Lib.hid hb1; clear hb1)
        | (go_at_call 10; (with_reducible refine (C10 _ (HVC.out.below HB1.out)).out.mono ?_); rintro e w2 ⟨rfl, hb2⟩; have HB2 := Lib.hid (HB1.out.trans (hb2.mono HB1.out.size)); clear hb2))
      go_loopw [3, 4, 6, 7, 8, 10, 34] (fun want sz _ _ _ _ i wr => ∃ (j : Nat) (wl : List MA), MaK w l want sz i wr j wl) (fun _ _ _ _ _ _ i _ => l.length - (intOf i).toNat)
      case atStart => exact ⟨0, [], ⟨Nat.zero_le _, rfl, by simp [szB], ⟨⟨none, 0, rfl, Nat.le_refl _, Nat.zero_le _, fun h => absurd rfl h⟩, fun x hx => by cases hx⟩, List.Pairwise.nil, by simp [fB, dedB], by simp, by simp, HB2.out⟩⟩
      case round =>
        obtain ⟨j, wl, hj, rfl, rfl, hrow, hsrt, hperm, hok, hbk, hb⟩ := hrel
        have HBk := Lib.hid hbk
        clear hbk
        have HB := Lib.hid hb
        have HRow := Lib.hid hrow
        have HS := Lib.hid hsrt
        have HP := Lib.hid hperm
        have HOk := Lib.hid hok
        have hge := hb.size
        have hwl : wl.length ≤ 40 := by
          have h1 := hperm.length_eq
          have h2 := dedB_len (fB (l.take j))
          rw [fB_len] at h1
          rw [fB_len, List.length_take] at h2
          omega
        have hzb : szB (l.take j) ≤ 300000000 := by
          have h1 := szB_le (l.take j) (fun x hx => HSm.out x (List.mem_of_mem_take hx))
          have h2 : (l.take j).length * 5000001 ≤ 40 * 5000001 := Nat.mul_le_mul_right _ (by rw [List.length_take]; omega)
          omega
        clear hb hrow hsrt hperm hok
        by_cases hlt : j < l.length
        · obtain ⟨b, off, c, hq, -, -, hbw, hc⟩ := HVC.out.1.cells (flatA_ne' (by intro e; rw [e] at hlt; simp at hlt))
          injection hq with hq1 hq2 hq3
          subst hq1; subst hq3
          clear hq2
          obtain ⟨i0, i1, i2⟩ := cellsAt' (fun z u hz => (HB.out.cell (p := ⟨b, off + z, none⟩) hbw).trans (hc z u hz)) j hlt
          have HX := Lib.hid (HVC.out.2 _ (List.getElem_mem hlt))
          have HRx := Lib.hid (HR.out _ (List.getElem_mem hlt))
          have HSx := Lib.hid (HSm.out _ (List.getElem_mem hlt))
          have HT1 := Lib.hid (szB_snoc l j hlt)
          have HT2 := Lib.hid (fB_take l j hlt)
          have HT3 := Lib.hid (fun h => all_take_g okMA l j hlt HOk.out h)
          have HT4 := Lib.hid (fun h => all_take_g bkM l j hlt HBk.out h)
          clear hc
          generalize l[j]'hlt = x at i0 i1 i2 HX HRx HSx HT1 HT2 HT3 HT4
          obtain ⟨⟨xk, xv, xps⟩, xA, xq⟩ := x
          have hmt := mTextLen _ HSx.out
          have htb : toB (⟨xk, xv, xps⟩ : Mem) = ⟨xk, xv, [], xps⟩ := rfl
          have hrx := HRx.out
          dsimp only at i0 i1 i2 HX HT1 HT2 hmt hrx
          rw [htb] at HT1 HT2 hmt
          have HWa := Lib.hid ((Below.refl wr.heap.size wr).alloc (Nat.le_refl _) (.cells #[.string (bs xk), .string (bs xv), .slice xA xps.length xq] 29))
          have hlp : ∀ p ∈ xps, p.k.length ≤ 1000000 ∧ p.v.length ≤ 1000000 ∧ (p.has = false → p.v = []) := fun p hp => by have z := hrx.2.2.2 p hp; exact ⟨by omega, by omega, z.2.2⟩
          have HLp := Lib.hid hlp
          have C12 := Lib.hid (makeMember_any xk xv xps xA xq (wr.alloc (.cells #[.string (bs xk), .string (bs xv), .slice xA xps.length xq] 29)) ((HE.out.below HB.out).below HWa.out) ((HX.out.below HB.out).below HWa.out) hlp (by omega) (by omega) (by omega))
          have hk1 : xk.length ≤ 1000000 := by omega
          have hk2 : xv.length ≤ 1000000 := by omega
          have hk3 : xps.length ≤ 1000000 := by omega
          clear hrx hlp
          cases hom : (okB xk xv && xps.all okPr)
          · rw [hom] at C12
            clear hom
            go_wp2_with (first
              | (go_at_call 12; (with_reducible refine C12.out.mono ?_); rintro e w3 ⟨⟨sv, rfl, hown3⟩, hb3⟩; have HB3 := Lib.hid (HB.out.trans ((HWa.out.trans (hb3.mono (by simp))).mono hge)); obtain ⟨A3, q3, hq3⟩ := (SlV.of_own hown3).form; subst hq3; have HB3a := Lib.hid (HB3.out.alloc HB3.out.size (.cells #[.string (bs xk), .string (bs xv), .slice A3 xps.length q3] 29)); clear hown3 hb3)
              | (go_at_call 11; (with_reducible refine (CA _ (HE.out.below HB3a.out)).out.mono ?_); rintro e w4 ⟨rfl, hb4⟩; have HB4 := Lib.hid (HB3a.out.trans (hb4.mono HB3a.out.size)); clear hb4))
            go_ret
            exact ⟨rfl, HB4.out⟩
          · have HOm := Lib.hid (HT3.out hom)
            rw [hom] at C12
            clear hom HT3
            have C15 := fun A3 q3 W h1 h2 => Lib.hid (show Calls Tryz.prog 15 #[u3, .agg #[.string (bs xk), .string (bs xv), .slice A3 xps.length q3]] W _ from withM_row wl (⟨xk, xv, xps⟩, A3, q3) u3 W h1 HS.out (by omega) h2)
            have C13 := fun A3 q3 W h => Lib.hid (memText_any xk xv xps A3 q3 W h (fun p hp => ⟨(HLp.out p hp).1, (HLp.out p hp).2.1⟩) hk3 hk1 hk2)
            cases htk : tok xk
            · have hT0 : mText ⟨xk, xv, [], xps⟩ = [] := by simp [mText, htk]
              rw [hT0] at C13
              clear hT0 htk
              go_wp2_with (first
                | (go_at_call 12; (with_reducible refine C12.out.mono ?_); rintro e w3 ⟨⟨sv, rfl, hown3⟩, hb3⟩; have HW3 := Lib.hid (HWa.out.trans (hb3.mono (by simp))); have HB3 := Lib.hid (HB.out.trans (HW3.out.mono hge)); have HX3 := Lib.hid (argOfSl (SlV.of_own hown3)); obtain ⟨A3, q3, hq3⟩ := (SlV.of_own hown3).form; subst hq3; have HA3 := Lib.hid ((Below.refl w3.heap.size w3).alloc (Nat.le_refl _) (.cells #[.string (bs xk), .string (bs xv), .slice A3 xps.length q3] 29)); have HX3a := Lib.hid (HX3.out.below HA3.out); have HB3a := Lib.hid (HB3.out.trans (HA3.out.mono HB3.out.size)); clear hown3 hb3)
                | (go_at_call 13; (with_reducible refine (C13 _ _ _ HX3a.out).out.mono ?_); rintro e w5 ⟨rfl, hb5⟩; have HB5 := Lib.hid (HB3a.out.trans (hb5.mono HB3a.out.size)); clear hb5)
                | (go_at_call 11; (with_reducible refine (CA _ (HE.out.below HB5.out)).out.mono ?_); rintro e w6 ⟨rfl, hb6⟩; have HB6 := Lib.hid (HB5.out.trans (hb6.mono HB5.out.size)); clear hb6))
              go_ret
              exact ⟨rfl, HB6.out⟩
            · have hT0 : (mText ⟨xk, xv, [], xps⟩ == []) = false := by
                have hh : mText ⟨xk, xv, [], xps⟩ ≠ [] := by simp [mText, htk]
                cases hm : mText ⟨xk, xv, [], xps⟩ with
                | nil => exact absurd hm hh
                | cons a t => rfl
              have HTk := Lib.hid htk
              clear htk
              generalize mText ⟨xk, xv, [], xps⟩ = T at *
              go_wp2_with (first
                | (go_at_call 12; (with_reducible refine C12.out.mono ?_); rintro e w3 ⟨⟨sv, rfl, hown3⟩, hb3⟩; have HW3 := Lib.hid (HWa.out.trans (hb3.mono (by simp))); have HB3 := Lib.hid (HB.out.trans (HW3.out.mono hge)); have HX3 := Lib.hid (argOfSl (SlV.of_own hown3)); obtain ⟨A3, q3, hq3⟩ := (SlV.of_own hown3).form; subst hq3; have HN3 := Lib.hid (Blk.new w3 29 #[.string (bs xk), .string (bs xv), .slice A3 xps.length q3]); have HA3 := Lib.hid ((Below.refl w3.heap.size w3).alloc (Nat.le_refl _) (.cells #[.string (bs xk), .string (bs xv), .slice A3 xps.length q3] 29)); have HRow3 := Lib.hid ((HRow.out.below HW3.out).below HA3.out); have HX3a := Lib.hid (HX3.out.below HA3.out); have HB3a := Lib.hid (HB3.out.trans (HA3.out.mono HB3.out.size)); clear hown3 hb3)
                | (go_at_call 13; (with_reducible refine (C13 _ _ _ HX3a.out).out.mono ?_); rintro e w5 ⟨rfl, hb5⟩; have HB5 := Lib.hid (HB3a.out.trans (hb5.mono HB3a.out.size)); have HN5 := Lib.hid (HN3.out.belowS hb5); have HRow5 := Lib.hid (HRow3.out.below hb5); have HX5 := Lib.hid (HX3a.out.below hb5); clear hb5; obtain ⟨n1, n2, n3, n4⟩ := HN5.out.use))
              have hge5 := HB5.out.size
              clear n1 n2 n3 n4
              go_loopw [10, 54] (fun _ i wq => ∃ j2 : Nat, j2 ≤ xps.length ∧ i = .int .i64 j2 ∧ (xps.take j2).all (fun p => tok p.k) = true ∧ Below w5.heap.size w5 wq) (fun _ i _ => xps.length - (intOf i).toNat)
              case atStart => exact ⟨0, Nat.zero_le _, rfl, by simp, Below.refl _ _⟩
              case round =>
                obtain ⟨j2, hj2, rfl, hal2, hb6⟩ := hrel
                have HA2 := Lib.hid hal2
                have HQ := Lib.hid hb6
                have HB6 := Lib.hid (HB5.out.trans (hb6.mono hge5))
                have hge6 := HB6.out.size
                have HN6 := Lib.hid (HN5.out.belowS hb6)
                clear hal2 hb6
                by_cases hlt2 : j2 < xps.length
                · obtain ⟨b2, off2, c2, hq2, -, -, hbb2, hcl2⟩ := HX5.out.cells (flatI_ne (by intro e; rw [e] at hlt2; simp at hlt2))
                  injection hq2 with hq3 hq4 hq5
                  subst hq3; subst hq5
                  clear hq4
                  obtain ⟨k0, k1, k2⟩ := cellsI (fun z u hz => (HQ.out.cell (p := ⟨b2, off2 + z, none⟩) hbb2).trans (hcl2 z u hz)) j2 hlt2
                  have hpp := HLp.out _ (List.getElem_mem hlt2)
                  have C14 := fun W => Lib.hid (propText_any (xps[j2]'hlt2) W hpp.1 hpp.2.1)
                  have HT5 := Lib.hid (fun h => all_take_g (fun p : Pr => tok p.k) xps j2 hlt2 HA2.out h)
                  have HWp := Lib.hid (HB6.out.alloc hge6 (.cells #[.string (bs (xps[j2]'hlt2).k), .bool (xps[j2]'hlt2).has, .string (bs (xps[j2]'hlt2).v)] 34))
                  have HQp := Lib.hid (HQ.out.alloc HQ.out.size (.cells #[.string (bs (xps[j2]'hlt2).k), .bool (xps[j2]'hlt2).has, .string (bs (xps[j2]'hlt2).v)] 34))
                  clear hcl2 hpp
                  generalize xps[j2]'hlt2 = p at k0 k1 k2 C14 HT5 HWp HQp
                  cases hpk : tok p.k
                  · have hp0 : pText p = [] := by simp [pText, hpk]
                    rw [hp0] at C14
                    clear hp0 hpk
                    go_wp2_with (first
                      | (go_at_call 14; (with_reducible refine (C14 _).out.mono ?_); rintro e w7 ⟨rfl, hb7⟩; have HB7 := Lib.hid (HWp.out.trans (hb7.mono HWp.out.size)); clear hb7)
                      | (go_at_call 11; (with_reducible refine (CA _ (HE.out.below HB7.out)).out.mono ?_); rintro e w8 ⟨rfl, hb8⟩; have HB8 := Lib.hid (HB7.out.trans (hb8.mono HB7.out.size)); clear hb8))
                    go_ret
                    exact ⟨rfl, HB8.out⟩
                  · have hp0 : (pText p == []) = false := by
                      have hh := pText_ne hpk
                      cases hm : pText p with
                      | nil => exact absurd hm hh
                      | cons a t => rfl
                    have HTT := Lib.hid (HT5.out hpk)
                    clear hpk
                    generalize pText p = U at *
                    go_wp2_with (go_at_call 14; (with_reducible refine (C14 _).out.mono ?_); rintro e w7 ⟨rfl, hb7⟩; have HQ7 := Lib.hid (HQp.out.trans (hb7.mono HQp.out.size)); clear hb7)
                    exact ⟨⟨j2 + 1, by omega, by go_num, HTT.out, HQ7.out⟩, by simp [intOf]; omega⟩
                · obtain rfl : j2 = xps.length := by omega
                  rw [List.take_of_length_le (Nat.le_refl _)] at HA2
                  have HBm := Lib.hid (HT4.out (by simp only [bkM, Bool.and_eq_true]; exact ⟨HTk.out, HA2.out⟩))
                  have HRow6 := Lib.hid (HRow5.out.below HQ.out)
                  have HX6 := Lib.hid (HX5.out.below HQ.out)
                  obtain ⟨n1, n2, n3, n4⟩ := HN6.out.use
                  go_wp2_with (first
                    | (go_at_call 15; (with_reducible refine (C15 _ _ _ HRow6.out HX6.out).out.mono ?_); rintro e w8 ⟨⟨want8, rfl, hrow8⟩, hb8⟩; have HB8 := Lib.hid (HB6.out.trans (hb8.mono HB6.out.size)); have HRow8 := Lib.hid hrow8; have HX8 := Lib.hid (HX6.out.below hb8); have HN8 := Lib.hid (HN6.out.belowS hb8); clear hb8 hrow8; obtain ⟨n1, n2, n3, n4⟩ := HN8.out.use)
                    | (go_at_call 13; (with_reducible refine (C13 _ _ _ HX8.out).out.mono ?_); rintro e w9 ⟨rfl, hb9⟩; have HB9 := Lib.hid (HB8.out.trans (hb9.mono HB8.out.size)); have HRow9 := Lib.hid (HRow8.out.below hb9); clear hb9))
                  refine ⟨⟨j + 1, withM wl (⟨xk, xv, xps⟩, A3, q3), ⟨by omega, by go_num, ?_, HRow9.out, sortM_with _ HS.out, ?_, HOm.out, HBm.out, HB9.out⟩⟩, by simp [intOf]; omega⟩
                  · rw [HT1.out]
                    go_num
                  · rw [HT2.out, dedB_snoc]
                    exact (with_perm _ HS.out).trans (putB_perm _ HP.out)
        · obtain rfl : j = l.length := by omega
          rw [List.take_of_length_le (Nat.le_refl _)] at HP HOk HBk hzb
          have HMw := Lib.hid (fun (h8 : szB l ≤ 7000) ml v W h1 h2 h3 => make_want l wl HS.out HP.out hn40 (by omega) (fun x hx => okM_right (HR.out x hx) (List.all_eq_true.1 HOk.out x hx)) (fun x hx => by have := HR.out x hx; omega) ml v W h1 h2 h3)
          have hsl : ∀ x ∈ wl, SmA x := fun x hx => by
            obtain ⟨y, hy, e⟩ := ded_from HP.out hx
            exact (HSm.out y hy).same e
          have HSl := Lib.hid hsl
          clear hsl
          simp only [List.take_length]
          by_cases h8 : szB l ≤ 7000
          · have HMk := Lib.hid (parse_back l wl HS.out HP.out h30 h8 (fun x hx => okR_right (HR.out x hx) (List.all_eq_true.1 HOk.out x hx) (List.all_eq_true.1 HBk.out x hx)))
            have C16 := fun ml v W h1 h2 h3 => Lib.hid (HMw.out h8 ml v W h1 h2 h3)
            have C19 := fun (ml2 : List MA) v W h (hm : ml2.map (·.1) = wl.map (·.1)) => Lib.hid (ofMembers_any ml2 v W h (by have := congrArg List.length hm; simp at this; omega) (fun x hx => by
              have := List.mem_map_of_mem (f := fun x : MA => x.1) hx
              rw [hm] at this
              obtain ⟨y, hy, e⟩ := List.mem_map.1 this
              have z := (HSl.out y hy).ln
              rw [← e]
              omega))
            have C20 := fun (l1 : List MA) v1 v2 W h1 h2 h3 => Lib.hid (same_same l1 wl v1 v2 W h1 h2 h3)
            have C22 := fun T W h => Lib.hid (bagTexts_any T W h)
            have C21 := fun (ts : List (List UInt8)) v1 v2 W h1 h2 h3 => Lib.hid (equalS_any ts v1 v2 W h1 h2 h3)
            obtain ⟨Aw, qw, hqw⟩ := HRow.out.1.form
            subst hqw
            clear HMw
            go_wp2_with (first
              | (go_at_call 17; (with_reducible refine (C17 _ (HVC.out.below HB.out)).out.mono ?_); rintro e w3 ⟨⟨v3, rfl, ml3, hm3, hr3⟩, hb3⟩; have HB3 := Lib.hid (HB.out.trans (hb3.mono hge)); have HR3 := Lib.hid hr3; have HM3 := Lib.hid hm3; have HRow3 := Lib.hid (HRow.out.below hb3); clear hb3 hr3 hm3)
              | (go_at_call 16; (with_reducible refine (C16 ml3 _ _ (HE.out.below HB3.out) HR3.out HM3.out).out.mono ?_); rintro e w4 ⟨⟨ml4, v4, T, rfl, hm4, ht4, hl4, ⟨L, hL, hTL⟩, hr4⟩, hb4⟩; have HB4 := Lib.hid (HB3.out.trans (hb4.mono HB3.out.size)); have HRow4 := Lib.hid (HRow3.out.below hb4); have C18 := fun W h => Lib.hid (HMk.out L hL T hTL W h); clear hb4 hr4 hm4 ht4 hTL hL)
              | (go_at_call 18; (with_reducible refine (C18 _ (HE.out.below HB4.out)).out.mono ?_); rintro e wA ⟨⟨mlA, vA, TA, rfl, hmA, htA, hlA, hrA⟩, hbA⟩; have HBA := Lib.hid (HB4.out.trans (hbA.mono HB4.out.size)); have HRA := Lib.hid hrA; have HMA := Lib.hid hmA; have HTA := Lib.hid htA; have HRowA := Lib.hid (HRow4.out.below hbA); clear hbA hrA hmA htA)
              | (go_at_call 11; (with_reducible refine (CA _ (HE.out.below HBA.out)).out.mono ?_); rintro e w5 ⟨rfl, hb5⟩; have HB5 := Lib.hid (HBA.out.trans (hb5.mono HBA.out.size)); have HR5 := Lib.hid (HRA.out.below hb5); have HRow5 := Lib.hid (HRowA.out.below hb5); clear hb5)
              | (go_at_call 19; (with_reducible refine (C19 mlA _ _ (RowA.toC HR5.out) HMA.out).out.mono ?_); rintro e w6 ⟨⟨v6, rfl, ml6, hm6, hr6⟩, hb6⟩; have HB6 := Lib.hid (HB5.out.trans (hb6.mono HB5.out.size)); have HR6 := Lib.hid (RowA.toC hr6); have HM6 := Lib.hid hm6; have HRow6 := Lib.hid (HRow5.out.below hb6); clear hb6 hr6 hm6)
              | (go_at_call 20; (with_reducible refine (C20 ml6 _ _ _ HR6.out HRow6.out (HM6.out.trans HMA.out)).out.mono ?_); rintro e w7 ⟨rfl, hb7⟩; have HB7 := Lib.hid (HB6.out.trans (hb7.mono HB6.out.size)); clear hb7)
              | (go_at_call 22; (with_reducible refine (C22 TA _ hlA).out.mono ?_); rintro e w8 ⟨⟨v8, rfl, ho8⟩, hb8⟩; have HB8 := Lib.hid (HB7.out.trans (hb8.mono HB7.out.size)); rw [HTA.out] at ho8; have HS8 := Lib.hid (SlV.of_own ho8); clear hb8 ho8)
              | (go_at_call 22; (with_reducible refine (C22 T _ hl4).out.mono ?_); rintro e w9 ⟨⟨v9, rfl, ho9⟩, hb9⟩; have HB9 := Lib.hid (HB8.out.trans (hb9.mono HB8.out.size)); have HS9 := Lib.hid (SlV.of_own ho9); have HS8a := Lib.hid (HS8.out.below hb9); clear hb9 ho9)
              | (go_at_call 21; (with_reducible refine (C21 (srt (spl T)) _ _ _ HS8a.out HS9.out (srt_spl_len T hl4)).out.mono ?_); rintro e w10 ⟨rfl, hb10⟩; have HB10 := Lib.hid (HB9.out.trans (hb10.mono HB9.out.size)); clear hb10))
            go_ret
            exact ⟨rfl, HB10.out⟩
          · have h8' : (7000 : Int) < (szB l : Int) := by omega
            go_wp2_with (go_at_call 11; (with_reducible refine (CA _ (HE.out.below HB.out)).out.mono ?_); rintro e w3 ⟨rfl, hb3⟩; have HB3 := Lib.hid (HB.out.trans (hb3.mono hge)); clear hb3)
            go_ret
            exact ⟨rfl, HB3.out⟩
end Go.Proofs.YtpgookhdffklkaaGreatDoor
