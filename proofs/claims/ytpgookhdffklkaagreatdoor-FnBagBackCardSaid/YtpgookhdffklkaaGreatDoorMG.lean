/-
  Members of spec as they come in; zzFits4, 6, 5, 7.
  spec: MakeProperty, PropertyText.
  spec: MemberText.
  spec: MakeMember.
  laws: toMember, ofMember.
-/
import Derived.Test.YtpgookhdffklkaaGreatDoorMF
import Derived.Test.YtpgookhdffklkaaGreatDoorMJ
import Derived.Test.YtpgookhdffklkaaGreatDoorZImplE
namespace Go.Proofs.YtpgookhdffklkaaGreatDoor
open Go.RowKit
/-- A slice of properties of spec that comes in. -/
def RowP (w : World) (v : Value) (ps : List Pr) : Prop := ArgV w v ps.length (ps.flatMap encI) ∧ ∀ p ∈ ps, p.k.length ≤ 9223372036854775807 ∧ p.v.length ≤ 9223372036854775807
theorem RowP.below {w w' : World} {v : Value} {ps : List Pr} (h : RowP w v ps) (hb : Below w.heap.size w w') : RowP w' v ps := ⟨h.1.below hb, h.2⟩
/-- A slice of members of spec that comes in. -/
def RowB (w : World) (v : Value) (ml : List MA) : Prop := ArgV w v ml.length (ml.flatMap encA) ∧ ∀ x ∈ ml, RowP w (.slice x.2.1 x.1.ps.length x.2.2) x.1.ps ∧ x.1.k.length ≤ 9223372036854775807 ∧ x.1.v.length ≤ 9223372036854775807
theorem ArgV.len {w : World} {v : Value} {n : Nat} {xs : List Value} (h : ArgV w v n xs) : n ≤ 9223372036854775807 := by
  obtain ⟨A', c', h1, h2, h3, _⟩ := h
  unfold maxLen at h3
  omega
def fitP (p : Pr) : Bool := decide (p.k.length ≤ 2147483647) && decide (p.v.length ≤ 2147483647)
set_option maxRecDepth 100000 in
set_option maxHeartbeats 1000000 in
theorem zzFits4_any (p : Pr) (w : World) (h1 : p.k.length ≤ 9223372036854775807) (h2 : p.v.length ≤ 9223372036854775807) :
    Calls Tryz.prog 116 #[.agg #[.string (bs p.k), .bool p.has, .string (bs p.v)]] w fun e w' => e = .returned (.bool (fitP p)) ∧ Below w.heap.size w w' := by
  obtain ⟨k, has, v⟩ := p
  dsimp only at *
  by_cases c1 : k.length ≤ 2147483647
  · by_cases c2 : v.length ≤ 2147483647
    · go_enter Tryz.func116, Tryz.ntmps116
      go_wp2
      go_ret
      exact ⟨ret_bool (by simp [fitP, c1, c2]), (Below.refl _ _).alloc (Nat.le_refl _) _⟩
    · go_enter Tryz.func116, Tryz.ntmps116
      go_wp2
      go_ret
      exact ⟨ret_bool (by simp [fitP, c2]), (Below.refl _ _).alloc (Nat.le_refl _) _⟩
  · go_enter Tryz.func116, Tryz.ntmps116
    go_wp2
    go_ret
    exact ⟨ret_bool (by simp [fitP, c1]), (Below.refl _ _).alloc (Nat.le_refl _) _⟩
theorem all_take_g {α : Type} (p : α → Bool) (l : List α) (k : Nat) (h : k < l.length) (h1 : (l.take k).all p = true) (h2 : p l[k] = true) : (l.take (k + 1)).all p = true := by
  rw [List.take_succ_eq_append_getElem h, List.all_append, h1]; simp [h2]
theorem all_false_g {α : Type} (p : α → Bool) (l : List α) (k : Nat) (h : k < l.length) (h2 : p l[k] = false) : l.all p = false := by
  rw [List.all_eq_false]; exact ⟨l[k], List.getElem_mem h, by simp [h2]⟩
def fitsP (ps : List Pr) : Bool := decide (ps.length ≤ 2147483647) && ps.all fitP
set_option maxRecDepth 100000 in
set_option maxHeartbeats 2000000 in
theorem zzFits6_any (l : List Pr) (v : Value) (w : World) (hv : RowP w v l) :
    Calls Tryz.prog 73 #[v] w fun e w' => e = .returned (.bool (fitsP l)) ∧ Below w.heap.size w w' := by
  have hlen := hv.1.len
  obtain ⟨A, q, hq⟩ := hv.1.form
  subst hq
  have HV := Lib.hid hv
  clear hv
  by_cases hc : l.length ≤ 2147483647
  · have hd : fitsP l = l.all fitP := by simp [fitsP, hc]
    rw [hd]
    clear hd
    go_enter Tryz.func73, Tryz.ntmps73
    go_wp2
    go_loopw [4, 10] (fun _ i wr => ∃ k : Nat, k ≤ l.length ∧ i = .int .i64 k ∧ (l.take k).all fitP = true ∧ Below w.heap.size w wr) (fun _ i _ => l.length - (intOf i).toNat)
    case atStart => exact ⟨0, Nat.zero_le _, rfl, by simp, Below.refl _ _⟩
    case round =>
      obtain ⟨k, hk, rfl, hall, hb⟩ := hrel
      have HA := Lib.hid hall
      have HB := Lib.hid hb
      clear hall hb
      by_cases hlt : k < l.length
      · obtain ⟨b, off, c, hq, hc1, hc2, hbb, hcl⟩ := HV.out.1.cells (flatI_ne (by intro e; rw [e] at hlt; simp at hlt))
        injection hq with hq1 hq2 hq3
        subst hq1; subst hq3
        obtain ⟨i0, i1, i2⟩ := cellsI (fun z u hz => (HB.out.cell (p := ⟨b, off + z, none⟩) hbb).trans (hcl z u hz)) k hlt
        have hsz := HV.out.2 _ (List.getElem_mem hlt)
        have C := fun W => Lib.hid (zzFits4_any l[k] W hsz.1 hsz.2)
        have HW := Lib.hid ((Below.refl wr.heap.size wr).alloc (Nat.le_refl _) (.cells #[.string (bs l[k].k), .bool l[k].has, .string (bs l[k].v)] 34))
        clear hcl hsz
        cases hf : fitP l[k]
        · have HF := Lib.hid (all_false_g fitP l k hlt hf)
          rw [hf] at C
          clear hf
          go_wp2_with (go_at_call 116; (with_reducible refine (C _).out.mono ?_); rintro e w1 ⟨rfl, hb1⟩; have HB1 := Lib.hid (HB.out.trans ((HW.out.trans (hb1.mono (by simp))).mono HB.out.size)); clear hb1)
          go_ret
          exact ⟨ret_bool HF.out.symm, HB1.out⟩
        · have HF := Lib.hid (all_take_g fitP l k hlt HA.out hf)
          rw [hf] at C
          clear hf
          go_wp2_with (go_at_call 116; (with_reducible refine (C _).out.mono ?_); rintro e w1 ⟨rfl, hb1⟩; have HB1 := Lib.hid (HB.out.trans ((HW.out.trans (hb1.mono (by simp))).mono HB.out.size)); clear hb1)
          exact ⟨⟨k + 1, by omega, by go_num, HF.out, HB1.out⟩, by simp [intOf]; omega⟩
      · have e : k = l.length := by omega
        subst e
        rw [List.take_of_length_le (Nat.le_refl _)] at HA
        go_wp2
        go_ret
        exact ⟨ret_bool HA.out.symm, HB.out⟩
  · have hd : fitsP l = false := by simp [fitsP, hc]
    rw [hd]
    clear hd
    go_enter Tryz.func73, Tryz.ntmps73
    go_wp2
    go_ret
    exact ⟨rfl, Below.refl _ _⟩
def fitM (x : MA) : Bool := decide (x.1.k.length ≤ 2147483647) && (decide (x.1.v.length ≤ 2147483647) && fitsP x.1.ps)
set_option maxRecDepth 100000 in
set_option maxHeartbeats 1000000 in
theorem zzFits5_any (x : MA) (w : World) (h0 : RowP w (.slice x.2.1 x.1.ps.length x.2.2) x.1.ps) (h1 : x.1.k.length ≤ 9223372036854775807) (h2 : x.1.v.length ≤ 9223372036854775807) :
    Calls Tryz.prog 35 #[.agg #[.string (bs x.1.k), .string (bs x.1.v), .slice x.2.1 x.1.ps.length x.2.2]] w fun e w' => e = .returned (.bool (fitM x)) ∧ Below w.heap.size w w' := by
  obtain ⟨⟨k, v, ps⟩, A, q⟩ := x
  dsimp only at *
  have HW := Lib.hid ((Below.refl w.heap.size w).alloc (Nat.le_refl _) (.cells #[.string (bs k), .string (bs v), .slice A ps.length q] 29))
  have C := Lib.hid (zzFits6_any ps _ _ (h0.below HW.out))
  clear h0
  by_cases c1 : k.length ≤ 2147483647
  · by_cases c2 : v.length ≤ 2147483647
    · cases hf : fitsP ps
      · have HF := Lib.hid (show fitM (⟨k, v, ps⟩, A, q) = false by simp [fitM, hf])
        rw [hf] at C
        clear hf
        go_enter Tryz.func35, Tryz.ntmps35
        go_wp2_with (go_at_call 73; (with_reducible refine C.out.mono ?_); rintro e w1 ⟨rfl, hb1⟩)
        go_ret
        exact ⟨ret_bool HF.out.symm, HW.out.trans (hb1.mono (by simp))⟩
      · have HF := Lib.hid (show fitM (⟨k, v, ps⟩, A, q) = true by simp [fitM, hf, c1, c2])
        rw [hf] at C
        clear hf
        go_enter Tryz.func35, Tryz.ntmps35
        go_wp2_with (go_at_call 73; (with_reducible refine C.out.mono ?_); rintro e w1 ⟨rfl, hb1⟩)
        go_ret
        exact ⟨ret_bool HF.out.symm, HW.out.trans (hb1.mono (by simp))⟩
    · go_enter Tryz.func35, Tryz.ntmps35
      go_wp2
      go_ret
      exact ⟨ret_bool (by simp [fitM, c2]), HW.out⟩
  · go_enter Tryz.func35, Tryz.ntmps35
    go_wp2
    go_ret
    exact ⟨ret_bool (by simp [fitM, c1]), HW.out⟩
def fitsB (ml : List MA) : Bool := decide (ml.length ≤ 2147483647) && ml.all fitM
theorem cellsAt' {w : World} {b off : Nat} {ml : List MA} (hc : ∀ (j : Nat) (u : Value), (ml.flatMap encA)[j]? = some u → w.cell? ⟨b, off + j, none⟩ = some u) (k : Nat) (h : k < ml.length) :
    w.cell? ⟨b, off + k * 3, none⟩ = some (.string (bs ml[k].1.k)) ∧ w.cell? ⟨b, off + k * 3 + 1, none⟩ = some (.string (bs ml[k].1.v)) ∧ w.cell? ⟨b, off + k * 3 + 2, none⟩ = some (.slice ml[k].2.1 ml[k].1.ps.length ml[k].2.2) := by
  have h0 := flat_get encA 3 encA_len ml k 0 h (by omega)
  have h1 := flat_get encA 3 encA_len ml k 1 h (by omega)
  have h2 := flat_get encA 3 encA_len ml k 2 h (by omega)
  exact ⟨hc (k * 3) _ h0, hc (k * 3 + 1) _ h1, hc (k * 3 + 2) _ h2⟩
theorem flatA_ne' {ml : List MA} (h : ml ≠ []) : ml.flatMap encA ≠ [] := by
  intro e
  have := congrArg List.length e
  rw [flat_len encA 3 encA_len] at this
  exact h (List.eq_nil_of_length_eq_zero (by rw [List.length_nil] at this; omega))
set_option maxRecDepth 100000 in
set_option maxHeartbeats 2000000 in
theorem zzFits7_any (l : List MA) (v : Value) (w : World) (hv : RowB w v l) :
    Calls Tryz.prog 9 #[v] w fun e w' => e = .returned (.bool (fitsB l)) ∧ Below w.heap.size w w' := by
  have hlen := hv.1.len
  obtain ⟨A, q, hq⟩ := hv.1.form
  subst hq
  have HV := Lib.hid hv
  clear hv
  by_cases hc : l.length ≤ 2147483647
  · have hd : fitsB l = l.all fitM := by simp [fitsB, hc]
    rw [hd]
    clear hd
    go_enter Tryz.func9, Tryz.ntmps9
    go_wp2
    go_loopw [4, 10] (fun _ i wr => ∃ k : Nat, k ≤ l.length ∧ i = .int .i64 k ∧ (l.take k).all fitM = true ∧ Below w.heap.size w wr) (fun _ i _ => l.length - (intOf i).toNat)
    case atStart => exact ⟨0, Nat.zero_le _, rfl, by simp, Below.refl _ _⟩
    case round =>
      obtain ⟨k, hk, rfl, hall, hb⟩ := hrel
      have HA := Lib.hid hall
      have HB := Lib.hid hb
      clear hall hb
      by_cases hlt : k < l.length
      · obtain ⟨b, off, c, hq, hc1, hc2, hbb, hcl⟩ := HV.out.1.cells (flatA_ne' (by intro e; rw [e] at hlt; simp at hlt))
        injection hq with hq1 hq2 hq3
        subst hq1; subst hq3
        obtain ⟨i0, i1, i2⟩ := cellsAt' (fun z u hz => (HB.out.cell (p := ⟨b, off + z, none⟩) hbb).trans (hcl z u hz)) k hlt
        have HSz := Lib.hid (HV.out.2 _ (List.getElem_mem hlt))
        have C := fun W h => Lib.hid (zzFits5_any (l[k]'hlt) W h HSz.out.2.1 HSz.out.2.2)
        have HW := Lib.hid ((Below.refl wr.heap.size wr).alloc (Nat.le_refl _) (.cells #[.string (bs l[k].1.k), .string (bs l[k].1.v), .slice l[k].2.1 l[k].1.ps.length l[k].2.2] 29))
        have HR := Lib.hid ((HSz.out.1.below HB.out).below HW.out)
        clear hcl
        cases hf : fitM l[k]
        · have HF := Lib.hid (all_false_g fitM l k hlt hf)
          rw [hf] at C
          clear hf
          go_wp2_with (go_at_call 35; (with_reducible refine (C _ HR.out).out.mono ?_); rintro e w1 ⟨rfl, hb1⟩; have HB1 := Lib.hid (HB.out.trans ((HW.out.trans (hb1.mono (by simp))).mono HB.out.size)); clear hb1)
          go_ret
          exact ⟨ret_bool HF.out.symm, HB1.out⟩
        · have HF := Lib.hid (all_take_g fitM l k hlt HA.out hf)
          rw [hf] at C
          clear hf
          go_wp2_with (go_at_call 35; (with_reducible refine (C _ HR.out).out.mono ?_); rintro e w1 ⟨rfl, hb1⟩; have HB1 := Lib.hid (HB.out.trans ((HW.out.trans (hb1.mono (by simp))).mono HB.out.size)); clear hb1)
          exact ⟨⟨k + 1, by omega, by go_num, HF.out, HB1.out⟩, by simp [intOf]; omega⟩
      · have e : k = l.length := by omega
        subst e
        rw [List.take_of_length_le (Nat.le_refl _)] at HA
        go_wp2
        go_ret
        exact ⟨ret_bool HA.out.symm, HB.out⟩
  · have hd : fitsB l = false := by simp [fitsB, hc]
    rw [hd]
    clear hd
    go_enter Tryz.func9, Tryz.ntmps9
    go_wp2
    go_ret
    exact ⟨rfl, Below.refl _ _⟩
end Go.Proofs.YtpgookhdffklkaaGreatDoor

namespace Go.Proofs.YtpgookhdffklkaaGreatDoor
open Go.RowKit
set_option maxRecDepth 100000 in
set_option maxHeartbeats 2000000 in
theorem makeProp_any (p : Pr) (w : World) (hE : Env w) (hno : p.has = false → p.v = []) (hk : p.k.length ≤ 1000000) (hv : p.v.length ≤ 1000000) :
    Calls Tryz.prog 37 #[.int .u8 0, .agg #[.string (bs p.k), .bool p.has, .string (bs p.v)]] w fun e w' => e = .returned (.tuple #[.agg #[.string (bs p.k), .bool p.has, .string (bs p.v)], .bool (okB p.k p.v)]) ∧ Below w.heap.size w w' := by
  obtain ⟨k, has, v⟩ := p
  dsimp only at *
  have HE := Lib.hid hE
  have HA0 := Lib.hid ((Blk.new w 34 #[.string (bs k), .bool has, .string (bs v)]).alloc (.cells #[.string ⟨#[]⟩, .bool false, .string ⟨#[]⟩] 34))
  have HK0 := Lib.hid (Blk.new1 w (.cells #[.string (bs k), .bool has, .string (bs v)] 34) 34 #[.string ⟨#[]⟩, .bool false, .string ⟨#[]⟩])
  have HB0 := Lib.hid (((Below.refl w.heap.size w).alloc (Nat.le_refl _) (.cells #[.string (bs k), .bool has, .string (bs v)] 34)).alloc (by simp) (.cells #[.string ⟨#[]⟩, .bool false, .string ⟨#[]⟩] 34))
  cases has
  · obtain rfl := hno rfl
    have C := fun W h => Lib.hid (show Calls Tryz.prog 36 #[.int .u8 0, .string (bs k), .string ⟨#[]⟩] W _ from made_raw k [] W h hk (by simp))
    clear hE hno
    go_enter Tryz.func37, Tryz.ntmps37
    go_wp2_with (go_at_call 36; (with_reducible refine (C _ (HE.out.below HB0.out)).out.mono ?_); rintro e w1 ⟨rfl, hb1⟩; have HK := Lib.hid (HK0.out.belowS hb1); have HA := HA0.out.belowS hb1; have HB := Lib.hid (HB0.out.trans (hb1.mono HB0.out.size)); clear hb1; obtain ⟨c1, c2, c3, c4⟩ := HK.out.use; obtain ⟨a1, a2, a3, a4⟩ := HA.use)
    have hF := ((HK.out.set_ 0 (.string (bs k))).set_ 1 (.bool false)).set_ 2 (.string ⟨#[]⟩)
    have c0 := hF.cell 0
    have c1 := hF.cell 1
    have c2 := hF.cell 2
    simp at c0 c1 c2
    refine bodyPost_ret (v := .tuple #[.agg #[.string (bs k), .bool false, .string (bs [])], .bool (okB k [])]) (by simp [results, Tryz.results37, go_sem, c0, c1, c2]; rfl) rfl ⟨rfl, ?_⟩
    exact ((HB.out.setCell (by simp) _).setCell (by simp) _).setCell (by simp) _
  · have C := fun W h => Lib.hid (made_raw k v W h hk hv)
    clear hE hno
    go_enter Tryz.func37, Tryz.ntmps37
    go_wp2_with (go_at_call 36; (with_reducible refine (C _ (HE.out.below HB0.out)).out.mono ?_); rintro e w1 ⟨rfl, hb1⟩; have HK := Lib.hid (HK0.out.belowS hb1); have HA := HA0.out.belowS hb1; have HB := Lib.hid (HB0.out.trans (hb1.mono HB0.out.size)); clear hb1; obtain ⟨c1, c2, c3, c4⟩ := HK.out.use; obtain ⟨a1, a2, a3, a4⟩ := HA.use)
    have hF := ((HK.out.set_ 0 (.string (bs k))).set_ 1 (.bool true)).set_ 2 (.string (bs v))
    have c0 := hF.cell 0
    have c1 := hF.cell 1
    have c2 := hF.cell 2
    simp at c0 c1 c2
    refine bodyPost_ret (v := .tuple #[.agg #[.string (bs k), .bool true, .string (bs v)], .bool (okB k v)]) (by simp [results, Tryz.results37, go_sem, c0, c1, c2]) rfl ⟨rfl, ?_⟩
    exact ((HB.out.setCell (by simp) _).setCell (by simp) _).setCell (by simp) _
set_option maxRecDepth 100000 in
set_option maxHeartbeats 2000000 in
theorem propText_any (p : Pr) (w : World) (hk : p.k.length ≤ 1000000) (hv : p.v.length ≤ 1000000) :
    Calls Tryz.prog 14 #[.agg #[.string (bs p.k), .bool p.has, .string (bs p.v)]] w fun e w' => e = .returned (.string (bs (pText p))) ∧ Below w.heap.size w w' := by
  obtain ⟨k, has, v⟩ := p
  dsimp only at *
  have HK0 := Lib.hid (Blk.new w 34 #[.string (bs k), .bool has, .string (bs v)])
  have HB0 := Lib.hid ((Below.refl w.heap.size w).alloc (Nat.le_refl _) (.cells #[.string (bs k), .bool has, .string (bs v)] 34))
  have C := fun W => Lib.hid (token_any k W (by omega))
  have C2 := fun W => Lib.hid (encoded_any v W hv)
  have hel := encL_len v
  have hen := escN_le v
  have hle : (encL v).length ≤ 3000000 := by omega
  clear hel hen
  cases ht : tok k
  · rw [ht] at C
    have HT := Lib.hid (show pText ⟨k, has, v⟩ = [] by simp [pText, ht])
    clear ht
    go_enter Tryz.func14, Tryz.ntmps14
    go_wp2_with (go_at_call 38; (with_reducible refine (C _).out.mono ?_); rintro e w1 ⟨rfl, rfl⟩)
    go_ret
    exact ⟨by rw [HT.out]; rfl, HB0.out⟩
  · rw [ht] at C
    cases has
    · have HT := Lib.hid (show pText ⟨k, false, v⟩ = k by simp [pText, ht])
      clear ht
      go_enter Tryz.func14, Tryz.ntmps14
      go_wp2_with (go_at_call 38; (with_reducible refine (C _).out.mono ?_); rintro e w1 ⟨rfl, rfl⟩)
      go_ret
      exact ⟨by rw [HT.out]; rfl, HB0.out⟩
    · have HT := Lib.hid (show pText ⟨k, true, v⟩ = k ++ 61 :: encL v by simp [pText, ht])
      clear ht
      go_enter Tryz.func14, Tryz.ntmps14
      go_wp2_with (go_at_call 38; (with_reducible refine (C _).out.mono ?_); rintro e w1 ⟨rfl, rfl⟩)
      have q1 : ¬ 9223372036854775807 < k.length + 1 := by omega
      have q2 : ¬ 9223372036854775807 < k.length + 1 + (encL v).length := by omega
      go_region_law (go_simp; go_at_call 39; (refine (C2 _).out.mono ?_); rintro e w2 ⟨rfl, hb2⟩; have HB2 := Lib.hid (below_then hb2 (by simp) ⟨HB0.out.os, HB0.out.tape, HB0.out.output, HB0.out.size, HB0.out.block⟩); have HK2 := Lib.hid (Blk.by_ hb2 HK0.out); clear hb2; obtain ⟨d1, d2, d3, d4⟩ := HK2.out.use)
      all_goals go_wp2
      all_goals go_ret
      all_goals exact ⟨by rw [HT.out]; show Ending.returned (.string (bs k ++ bs [61] ++ bs (encL v))) = _; simp, ⟨HB2.out.os, HB2.out.tape, HB2.out.output, HB2.out.size, HB2.out.block⟩⟩
end Go.Proofs.YtpgookhdffklkaaGreatDoor

namespace Go.Proofs.YtpgookhdffklkaaGreatDoor
open Go.RowKit
set_option maxRecDepth 100000 in
set_option maxHeartbeats 8000000 in
theorem memText_any (k v : List UInt8) (ps : List Pr) (A : Option Addr) (q : Nat) (w : World) (hv : ArgV w (.slice A ps.length q) ps.length (ps.flatMap encI)) (hl : ∀ p ∈ ps, p.k.length ≤ 1000000 ∧ p.v.length ≤ 1000000) (hn : ps.length ≤ 1000000) (hk : k.length ≤ 1000000) (hu : v.length ≤ 1000000) :
    Calls Tryz.prog 13 #[.agg #[.string (bs k), .string (bs v), .slice A ps.length q]] w fun e w' => e = .returned (.string (bs (mText ⟨k, v, [], ps⟩))) ∧ Below w.heap.size w w' := by
  have HS := Lib.hid hv
  have HL := Lib.hid hl
  have HK0 := Lib.hid (Blk.new w 29 #[.string (bs k), .string (bs v), .slice A ps.length q])
  have HB0 := Lib.hid ((Below.refl w.heap.size w).alloc (Nat.le_refl _) (.cells #[.string (bs k), .string (bs v), .slice A ps.length q] 29))
  have C := fun W => Lib.hid (token_any k W (by omega))
  have C2 := fun W => Lib.hid (encoded_any v W hu)
  have CJ := fun v W h => Lib.hid (join_str (pTexts ps) 59 v W h (Nat.le_trans (pTexts_len ps) hn) 5000000 (by omega) (pTexts_mem hl))
  have hpt : (psText ps).length ≤ 1000000 * 5000001 := Nat.le_trans (join_le (pTexts ps) 59 5000000 (pTexts_mem hl)) (Nat.mul_le_mul (Nat.le_trans (pTexts_len _) hn) (Nat.le_refl _))
  have HPt := Lib.hid (show psText ps = Lib.join (pTexts ps) [59] from rfl)
  have hel := encL_len v
  have hen := escN_le v
  have hle : (encL v).length ≤ 3000000 := by omega
  have q1 : ¬ 9223372036854775807 < k.length + 1 := by omega
  have q2 : ¬ 9223372036854775807 < k.length + 1 + (encL v).length := by omega
  clear hel hen hv hl
  cases ht : tok k
  · rw [ht] at C
    have HT := Lib.hid (show mText ⟨k, v, [], ps⟩ = [] by simp [mText, ht])
    clear ht
    go_enter Tryz.func13, Tryz.ntmps13
    go_wp2_with (go_at_call 38; (with_reducible refine (C _).out.mono ?_); rintro e w1 ⟨rfl, rfl⟩)
    go_ret
    exact ⟨by rw [HT.out]; rfl, HB0.out⟩
  · rw [ht] at C
    by_cases hps : ps = []
    · subst hps
      have HT := Lib.hid (show mText ⟨k, v, [], []⟩ = k ++ 61 :: encL v by simp [mText, ht])
      clear ht
      go_enter Tryz.func13, Tryz.ntmps13
      go_wp2_with (go_at_call 38; (with_reducible refine (C _).out.mono ?_); rintro e w1 ⟨rfl, rfl⟩)
      go_region_law (go_simp; go_at_call 39; (refine (C2 _).out.mono ?_); rintro e w2 ⟨rfl, hb2⟩; have HB2 := Lib.hid (below_then hb2 (by simp) ⟨HB0.out.os, HB0.out.tape, HB0.out.output, HB0.out.size, HB0.out.block⟩); have HK2 := Lib.hid (Blk.by_ hb2 HK0.out); clear hb2; obtain ⟨d1, d2, d3, d4⟩ := HK2.out.use)
      all_goals go_wp2
      all_goals go_ret
      all_goals exact ⟨by rw [HT.out]; show Ending.returned (.string (bs k ++ bs [61] ++ bs (encL v))) = _; simp, ⟨HB2.out.os, HB2.out.tape, HB2.out.output, HB2.out.size, HB2.out.block⟩⟩
    · have hl0 : 0 < ps.length := List.length_pos_iff.2 hps
      have hlz : ((ps.length : Int) == 0) = false := beq_eq_false_iff_ne.2 (by omega)
      have HT := Lib.hid (show mText ⟨k, v, [], ps⟩ = k ++ 61 :: encL v ++ 59 :: psText ps by simp [mText, ht, hps])
      have HN := Lib.hid hps
      clear ht hps
      go_enter Tryz.func13, Tryz.ntmps13
      go_wp2_with (go_at_call 38; (with_reducible refine (C _).out.mono ?_); rintro e w1 ⟨rfl, rfl⟩)
      go_region_law (go_simp; go_at_call 39; (refine (C2 _).out.mono ?_); rintro e w2 ⟨rfl, hb2⟩; have HB2 := Lib.hid (below_then hb2 (by simp) ⟨HB0.out.os, HB0.out.tape, HB0.out.output, HB0.out.size, HB0.out.block⟩); have HK2 := Lib.hid (Blk.by_ hb2 HK0.out); clear hb2; obtain ⟨d1, d2, d3, d4⟩ := HK2.out.use)
      all_goals go_wp2
      all_goals
        go_loopw [4, 6, 7, 27] (fun sv _ _ i wr => ∃ j : Nat, j ≤ ps.length ∧ i = .int .i64 j ∧ wr.ownsRow w.heap.size 9 1 sv (pTexts (ps.take j)).length (strs (pTexts (ps.take j))) ∧ Below w.heap.size w wr) (fun _ _ _ i _ => ps.length - (intOf i).toNat)
        case atStart => exact ⟨0, Nat.zero_le _, rfl, World.ownsRow_nil _ _ _ _, ⟨HB2.out.os, HB2.out.tape, HB2.out.output, HB2.out.size, HB2.out.block⟩⟩
        case round =>
          obtain ⟨j, hj, rfl, hown, hb⟩ := hrel
          have HB := Lib.hid hb
          have HO := Lib.hid hown
          clear hb hown
          by_cases hlt : j < ps.length
          · obtain ⟨b, off, c, hq, hc1, hc2, hbw, hc⟩ := HS.out.cells (flatI_ne HN.out)
            injection hq with hq1 hq2 hq3
            subst hq1; subst hq3
            obtain ⟨i0, i1, i2⟩ := cellsI (fun z u hz => (HB.out.cell (p := ⟨b, off + z, none⟩) hbw).trans (hc z u hz)) j hlt
            have hpl := HL.out ps[j] (List.getElem_mem hlt)
            have CP := fun W => Lib.hid (propText_any (ps[j]'hlt) W hpl.1 hpl.2)
            have HT2 := Lib.hid (pTexts_snoc ps j hlt)
            have hlp : (pTexts (ps.take j)).length ≤ 4294967296 := by have := pTexts_len (ps.take j); rw [List.length_take] at this; omega
            have hge := HB.out.size
            clear hc hpl
            cases hem : (pText ps[j]).isEmpty
            · rw [hem] at HT2
              have hne : (pText ps[j] == []) = false := by
                cases hh : pText ps[j] with
                | nil => rw [hh] at hem; cases hem
                | cons a t => rfl
              go_wp2_with (first
                | (go_at_call 14; (with_reducible refine (CP _).out.mono ?_); rintro e w3 ⟨rfl, hb3⟩; have HO3 := Lib.hid (own_below (own_below HO.out ((Below.refl _ _).alloc (Nat.le_refl _) _)) hb3); have HB3 := Lib.hid ((HB.out.alloc HB.out.size (.cells #[.string (bs ps[j].k), .bool ps[j].has, .string (bs ps[j].v)] 34)).trans (hb3.mono (by simp <;> omega))); have hsz3 := HB3.out.size; clear hb3)
                | (at_builtin; refine app1 rfl (.tmp 35) (.tmp 37) 46 rfl w.heap.size 9 9 _ 1 16 Tryz.underlying46 info9 rfl (by decide) (by decide) u4 _ _ rfl [.string (bs (pText ps[j]))] HO3.out rfl rfl (one_str _) hlp hsz3 ?_; intro v4 w4 hown4 hg4 _))
              exact ⟨⟨j + 1, by omega, by go_num, own_cast hown4 (by rw [HT2.out]; simp) (by rw [HT2.out]; simp [strs]), below_app HB3.out hsz3 HO3.out (Nat.le_refl _) hg4⟩, by simp [intOf]; omega⟩
            · rw [hem] at HT2
              have hne : pText ps[j] = [] := List.isEmpty_iff.1 hem
              go_wp2_with (go_at_call 14; (with_reducible refine (CP _).out.mono ?_); rintro e w3 ⟨rfl, hb3⟩; have HO3 := Lib.hid (own_below (own_below HO.out ((Below.refl _ _).alloc (Nat.le_refl _) _)) hb3); have HB3 := Lib.hid ((HB.out.alloc HB.out.size (.cells #[.string (bs ps[j].k), .bool ps[j].has, .string (bs ps[j].v)] 34)).trans (hb3.mono (by simp <;> omega))); clear hb3)
              exact ⟨⟨j + 1, by omega, by go_num, own_cast HO3.out (by rw [HT2.out]; simp) (by rw [HT2.out]; simp), HB3.out⟩, by simp [intOf]; omega⟩
          · obtain rfl : j = ps.length := by omega
            rw [List.take_of_length_le (Nat.le_refl _)] at HO
            rw [HPt.out] at hpt
            go_wp2_with (go_at_call 34; (refine (CJ _ _ (SlV.of_own HO.out)).out.mono ?_); rintro e w3 ⟨rfl, hb3⟩; have HB3 := Lib.hid (HB.out.trans (hb3.mono HB.out.size)); clear hb3)
            go_ret
            exact ⟨by rw [HT.out, HPt.out]; show Ending.returned (.string (bs k ++ bs [61] ++ bs (encL v) ++ bs [59] ++ bs (Lib.join (pTexts ps) [59]))) = _; simp, HB3.out⟩
end Go.Proofs.YtpgookhdffklkaaGreatDoor

namespace Go.Proofs.YtpgookhdffklkaaGreatDoor
open Go.RowKit
theorem info34 : (Tryz.prog.info? 34).map (fun i => (i.zero, i.size, i.bytes)) = some (some (.agg #[.string ⟨#[]⟩, .bool false, .string ⟨#[]⟩]), 3, 40) := by kernel_rfl
theorem encI_one (p : Pr) : ∀ u ∈ encI p, u.oneCell' = true := by
  intro u hu
  simp only [encI, List.mem_cons, List.not_mem_nil, or_false] at hu
  rcases hu with rfl | rfl | rfl <;> rfl
def okPr (p : Pr) : Bool := okB p.k p.v
/-- The state of MakeMember's loop. -/
structure MkSt (w : World) (k v : List UInt8) (ps : List Pr) (A : Option Addr) (q b8 : Nat) (okv i : Value) (wr : World) (j : Nat) (sv : Value) : Prop where
  hj : j ≤ ps.length
  hi : i = .int .i64 j
  ho : okv = .bool (okB k v && (ps.take j).all okPr)
  box : Blk wr w.heap.size 29 #[.string (bs k), .string (bs v), .slice A ps.length q]
  res : Blk wr (w.heap.size + 1) 29 #[.string ⟨#[]⟩, .string ⟨#[]⟩, .slice none 0 0]
  out : Blk wr b8 29 #[.string (bs k), .string (bs v), sv]
  hb8 : w.heap.size + 1 < b8
  own : wr.ownsRow w.heap.size 34 3 sv j ((ps.take j).flatMap encI)
  hb : Below w.heap.size w wr
set_option maxRecDepth 100000 in
set_option maxHeartbeats 8000000 in
theorem makeMember_any (k v : List UInt8) (ps : List Pr) (A : Option Addr) (q : Nat) (w : World) (hE : Env w) (hv : ArgV w (.slice A ps.length q) ps.length (ps.flatMap encI)) (hl : ∀ p ∈ ps, p.k.length ≤ 1000000 ∧ p.v.length ≤ 1000000 ∧ (p.has = false → p.v = [])) (hn : ps.length ≤ 1000000) (hk : k.length ≤ 1000000) (hu : v.length ≤ 1000000) :
    Calls Tryz.prog 12 #[.int .u8 0, .agg #[.string (bs k), .string (bs v), .slice A ps.length q]] w fun e w' => (∃ sv, e = .returned (.tuple #[.agg #[.string (bs k), .string (bs v), sv], .bool (okB k v && ps.all okPr)]) ∧ w'.ownsRow w.heap.size 34 3 sv ps.length (ps.flatMap encI)) ∧ Below w.heap.size w w' := by
  have HE := Lib.hid hE
  have HS := Lib.hid hv
  have HL := Lib.hid hl
  have HA0 := Lib.hid ((Blk.new w 29 #[.string (bs k), .string (bs v), .slice A ps.length q]).alloc (.cells #[.string ⟨#[]⟩, .string ⟨#[]⟩, .slice none 0 0] 29))
  have HK0 := Lib.hid (Blk.new1 w (.cells #[.string (bs k), .string (bs v), .slice A ps.length q] 29) 29 #[.string ⟨#[]⟩, .string ⟨#[]⟩, .slice none 0 0])
  have HB0 := Lib.hid (((Below.refl w.heap.size w).alloc (Nat.le_refl _) (.cells #[.string (bs k), .string (bs v), .slice A ps.length q] 29)).alloc (by simp) (.cells #[.string ⟨#[]⟩, .string ⟨#[]⟩, .slice none 0 0] 29))
  have C := fun W h => Lib.hid (made_raw k v W h hk hu)
  clear hE hv hl
  go_enter Tryz.func12, Tryz.ntmps12
  go_wp2_with (go_at_call 36; (with_reducible refine (C _ (HE.out.below HB0.out)).out.mono ?_); rintro e w1 ⟨rfl, hb1⟩; have HK := Lib.hid (HK0.out.belowS hb1); have HA := Lib.hid (HA0.out.belowS hb1); have HB := Lib.hid (HB0.out.trans (hb1.mono HB0.out.size)); have hlt1 : w.heap.size + 1 < w1.heap.size := HK.out.lt; clear hb1; obtain ⟨a1, a2, a3, a4⟩ := HA.out.use)
  go_loopw [7, 10, 11, 12, 29] (fun okv _ _ _ i wr => ∃ (j : Nat) (sv : Value), MkSt w k v ps A q w1.heap.size okv i wr j sv) (fun _ _ _ _ i _ => ps.length - (intOf i).toNat)
  case atStart => exact ⟨0, .slice none 0 0, ⟨Nat.zero_le _, rfl, by simp, HA.out.alloc _, HK.out.alloc _, Blk.new _ _ _, hlt1, World.ownsRow_nil _ _ _ _, HB.out.alloc HB.out.size _⟩⟩
  case round =>
    obtain ⟨j, sv, hj, rfl, rfl, hbox, hres, hout, hb8, hown, hb⟩ := hrel
    have HB := Lib.hid hb
    have HO := Lib.hid hown
    have HBox := Lib.hid hbox
    have HRes := Lib.hid hres
    have HOut := Lib.hid hout
    clear hb hown hbox hres hout
    by_cases hlt : j < ps.length
    · obtain ⟨b, off, c, hq, hc1, hc2, hbw, hc⟩ := HS.out.cells (flatI_ne (by intro e; rw [e] at hlt; simp at hlt))
      injection hq with hq1 hq2 hq3
      subst hq1; subst hq3
      obtain ⟨i0, i1, i2⟩ := cellsI (fun z u hz => (HB.out.cell (p := ⟨b, off + z, none⟩) hbw).trans (hc z u hz)) j hlt
      have hpl := HL.out _ (List.getElem_mem hlt)
      have CP := fun W h => Lib.hid (makeProp_any (ps[j]'hlt) W h hpl.2.2 hpl.1 hpl.2.1)
      have hge := HB.out.size
      have HAl := Lib.hid ((Below.refl wr.heap.size wr).alloc (Nat.le_refl _) (.cells #[.string (bs (ps[j]'hlt).k), .bool (ps[j]'hlt).has, .string (bs (ps[j]'hlt).v)] 34))
      have HTk := Lib.hid (show (okB k v && (ps.take (j + 1)).all okPr) = ((okB k v && (ps.take j).all okPr) && okB (ps[j]'hlt).k (ps[j]'hlt).v) by rw [List.take_succ_eq_append_getElem hlt, List.all_append, ← Bool.and_assoc]; simp [okPr])
      clear hc hpl
      cases hbv : (okB k v && (ps.take j).all okPr)
      · rw [hbv] at HTk
        clear hbv
        go_wp2_with (first
          | (go_at_call 37; (with_reducible refine (CP _ (HE.out.below (HB.out.alloc hge _))).out.mono ?_); rintro e w2 ⟨rfl, hb2⟩; have HW2 := Lib.hid (HAl.out.trans (hb2.mono (by simp))); have HB2 := Lib.hid (HB.out.trans (HW2.out.mono hge)); have HO2 := Lib.hid (own_below HO.out HW2.out); have HBox2 := Lib.hid (HBox.out.belowS HW2.out); have HRes2 := Lib.hid (HRes.out.belowS HW2.out); have HOut2 := Lib.hid (HOut.out.belowS HW2.out); have hge2 := HB2.out.size; clear hb2; obtain ⟨c1, c2, c3, c4⟩ := HOut2.out.use)
          | (at_builtin; refine app1g rfl (.tmp 44) (.tmp 46) 27 rfl w.heap.size 34 34 _ 3 40 Tryz.underlying27 info34 rfl (by decide) (by decide) sv j _ rfl (encI (ps[j]'hlt)) (HO2.out.alloc _) _ rfl rfl (encI_one _) (by omega) (by simp <;> omega) (by simp) ?_; intro v6 w6 hown6 hg6 _; have HOut6 := Lib.hid ((HOut2.out.alloc _).grown hg6 (own_blk_ne HO2.out HOut2.out (by decide))); have HBox6 := Lib.hid ((HBox2.out.alloc _).grown hg6 (own_blk_ne HO2.out HBox2.out (by decide))); have HRes6 := Lib.hid ((HRes2.out.alloc _).grown hg6 (own_blk_ne HO2.out HRes2.out (by decide))); have HO6 := Lib.hid hown6; have HB6 := Lib.hid (below_app (HB2.out.alloc hge2 _) (by simp <;> omega) (HO2.out.alloc _) (Nat.le_refl _) hg6); clear hown6 hg6; obtain ⟨A6, q6, hv6⟩ := (SlV.of_own HO6.out).form; subst hv6; obtain ⟨g1, g2, g3, g4⟩ := HOut6.out.use))
        refine ⟨⟨j + 1, .slice A6 (j + 1) q6, ⟨by omega, by go_num, by rw [HTk.out]; rfl, HBox6.out.far (by show w.heap.size ≠ w1.heap.size; omega) _, HRes6.out.far (by show w.heap.size + 1 ≠ w1.heap.size; omega) _, by have z := HOut6.out.set_ 2 (.slice A6 (j + 1) q6); simpa using z, hb8, own_keeps (T := fun e => e ≠ 29) (own_cast HO6.out rfl (by rw [List.take_succ_eq_append_getElem hlt, List.flatMap_append]; simp only [List.flatMap_cons, List.flatMap_nil, List.append_nil])) ((Keeps.refl _).setCell HOut6.out (by simp) _) (by decide), HB6.out.setCell (by show w.heap.size ≤ w1.heap.size; omega) _⟩⟩, by simp [intOf]; omega⟩
      · rw [hbv] at HTk
        clear hbv
        go_wp2_with (first
          | (go_at_call 37; (with_reducible refine (CP _ (HE.out.below (HB.out.alloc hge _))).out.mono ?_); rintro e w2 ⟨rfl, hb2⟩; have HW2 := Lib.hid (HAl.out.trans (hb2.mono (by simp))); have HB2 := Lib.hid (HB.out.trans (HW2.out.mono hge)); have HO2 := Lib.hid (own_below HO.out HW2.out); have HBox2 := Lib.hid (HBox.out.belowS HW2.out); have HRes2 := Lib.hid (HRes.out.belowS HW2.out); have HOut2 := Lib.hid (HOut.out.belowS HW2.out); have hge2 := HB2.out.size; clear hb2; obtain ⟨c1, c2, c3, c4⟩ := HOut2.out.use)
          | (at_builtin; refine app1g rfl (.tmp 44) (.tmp 46) 27 rfl w.heap.size 34 34 _ 3 40 Tryz.underlying27 info34 rfl (by decide) (by decide) sv j _ rfl (encI (ps[j]'hlt)) (HO2.out.alloc _) _ rfl rfl (encI_one _) (by omega) (by simp <;> omega) (by simp) ?_; intro v6 w6 hown6 hg6 _; have HOut6 := Lib.hid ((HOut2.out.alloc _).grown hg6 (own_blk_ne HO2.out HOut2.out (by decide))); have HBox6 := Lib.hid ((HBox2.out.alloc _).grown hg6 (own_blk_ne HO2.out HBox2.out (by decide))); have HRes6 := Lib.hid ((HRes2.out.alloc _).grown hg6 (own_blk_ne HO2.out HRes2.out (by decide))); have HO6 := Lib.hid hown6; have HB6 := Lib.hid (below_app (HB2.out.alloc hge2 _) (by simp <;> omega) (HO2.out.alloc _) (Nat.le_refl _) hg6); clear hown6 hg6; obtain ⟨A6, q6, hv6⟩ := (SlV.of_own HO6.out).form; subst hv6; obtain ⟨g1, g2, g3, g4⟩ := HOut6.out.use))
        refine ⟨⟨j + 1, .slice A6 (j + 1) q6, ⟨by omega, by go_num, by rw [HTk.out]; rfl, HBox6.out.far (by show w.heap.size ≠ w1.heap.size; omega) _, HRes6.out.far (by show w.heap.size + 1 ≠ w1.heap.size; omega) _, by have z := HOut6.out.set_ 2 (.slice A6 (j + 1) q6); simpa using z, hb8, own_keeps (T := fun e => e ≠ 29) (own_cast HO6.out rfl (by rw [List.take_succ_eq_append_getElem hlt, List.flatMap_append]; simp only [List.flatMap_cons, List.flatMap_nil, List.append_nil])) ((Keeps.refl _).setCell HOut6.out (by simp) _) (by decide), HB6.out.setCell (by show w.heap.size ≤ w1.heap.size; omega) _⟩⟩, by simp [intOf]; omega⟩
    · obtain rfl : j = ps.length := by omega
      rw [List.take_of_length_le (Nat.le_refl _)] at HO
      obtain ⟨c1, c2, c3, c4⟩ := HOut.out.use
      obtain ⟨d1, d2, d3, d4⟩ := HRes.out.use
      obtain ⟨As, qs, hsv⟩ := (SlV.of_own HO.out).form
      subst hsv
      simp only [List.take_length]
      go_wp2
      obtain ⟨s1, s2, s3⟩ := sets3 HRes.out (.string (bs k)) (.string (bs v)) (.slice As ps.length qs)
      have e0 := s1.cell 0
      have e1 := s1.cell 1
      have e2 := s1.cell 2
      simp at e0 e1 e2
      refine bodyPost_ret (v := .tuple #[.agg #[.string (bs k), .string (bs v), .slice As ps.length qs], .bool (okB k v && ps.all okPr)]) (by simp [results, Tryz.results12, go_sem, e0, e1, e2]) rfl ⟨⟨_, rfl, own_keeps (T := fun e => e ≠ 29) HO.out s3 (by decide)⟩, s2 _ _ HB.out (by omega)⟩
end Go.Proofs.YtpgookhdffklkaaGreatDoor

namespace Go.Proofs.YtpgookhdffklkaaGreatDoor
open Go.RowKit
theorem info146 : (Tryz.prog.info? 146).map (fun i => (i.zero, i.size, i.bytes)) = some (some (.agg #[.string ⟨#[]⟩, .bool false, .string ⟨#[]⟩]), 3, 40) := by kernel_rfl
/-- The state of toMember's loop. -/
structure ToSt (w : World) (k v : List UInt8) (ps : List Pr) (i : Value) (wr : World) (j : Nat) (sv : Value) : Prop where
  hj : j ≤ ps.length
  hi : i = .int .i64 j
  res : Blk wr (w.heap.size + 1) 82 #[.string ⟨#[]⟩, .string ⟨#[]⟩, .slice none 0 0]
  out : Blk wr (w.heap.size + 2) 82 #[.string (bs k), .string (bs v), sv]
  own : wr.ownsRow w.heap.size 146 3 sv j ((ps.take j).flatMap encI)
  hb : Below w.heap.size w wr
set_option maxRecDepth 100000 in
set_option maxHeartbeats 8000000 in
theorem toMember_any (k v : List UInt8) (ps : List Pr) (A : Option Addr) (q : Nat) (w : World) (hv : ArgV w (.slice A ps.length q) ps.length (ps.flatMap encI)) (hn : ps.length ≤ 1000000) :
    Calls Tryz.prog 48 #[.agg #[.string (bs k), .string (bs v), .slice A ps.length q]] w fun e w' => (∃ sv, e = .returned (.agg #[.string (bs k), .string (bs v), sv]) ∧ w'.ownsRow w.heap.size 146 3 sv ps.length (ps.flatMap encI)) ∧ Below w.heap.size w w' := by
  have HS := Lib.hid hv
  have HK0 := Lib.hid (Blk.new1 w (.cells #[.string (bs k), .string (bs v), .slice A ps.length q] 29) 82 #[.string ⟨#[]⟩, .string ⟨#[]⟩, .slice none 0 0])
  have HB0 := Lib.hid (((Below.refl w.heap.size w).alloc (Nat.le_refl _) (.cells #[.string (bs k), .string (bs v), .slice A ps.length q] 29)).alloc (by simp) (.cells #[.string ⟨#[]⟩, .string ⟨#[]⟩, .slice none 0 0] 82))
  have HO0 := Lib.hid (show Blk (((w.alloc (.cells #[.string (bs k), .string (bs v), .slice A ps.length q] 29)).alloc (.cells #[.string ⟨#[]⟩, .string ⟨#[]⟩, .slice none 0 0] 82)).alloc (.cells #[.string (bs k), .string (bs v), .slice none 0 0] 82)) (w.heap.size + 2) 82 #[.string (bs k), .string (bs v), .slice none 0 0] from by
    have z := Blk.new ((w.alloc (.cells #[.string (bs k), .string (bs v), .slice A ps.length q] 29)).alloc (.cells #[.string ⟨#[]⟩, .string ⟨#[]⟩, .slice none 0 0] 82)) 82 #[.string (bs k), .string (bs v), .slice none 0 0]
    simpa using z)
  clear hv
  go_enter Tryz.func48, Tryz.ntmps48
  go_wp2
  go_loopw [5, 14] (fun _ i wr => ∃ (j : Nat) (sv : Value), ToSt w k v ps i wr j sv) (fun _ i _ => ps.length - (intOf i).toNat)
  case atStart => exact ⟨0, .slice none 0 0, ⟨Nat.zero_le _, rfl, HK0.out.alloc _, HO0.out, World.ownsRow_nil _ _ _ _, HB0.out.alloc HB0.out.size _⟩⟩
  case round =>
    obtain ⟨j, sv, hj, rfl, hres, hout, hown, hb⟩ := hrel
    have HB := Lib.hid hb
    have HO := Lib.hid hown
    have HRes := Lib.hid hres
    have HOut := Lib.hid hout
    clear hb hown hres hout
    obtain ⟨c1, c2, c3, c4⟩ := HOut.out.use
    by_cases hlt : j < ps.length
    · obtain ⟨b, off, c, hq, hc1, hc2, hbw, hc⟩ := HS.out.cells (flatI_ne (by intro e; rw [e] at hlt; simp at hlt))
      injection hq with hq1 hq2 hq3
      subst hq1; subst hq3
      obtain ⟨i0, i1, i2⟩ := cellsI (fun z u hz => (HB.out.cell (p := ⟨b, off + z, none⟩) hbw).trans (hc z u hz)) j hlt
      have hge := HB.out.size
      clear hc
      go_wp2_with (at_builtin; refine app1g rfl (.tmp 19) (.tmp 21) 80 rfl w.heap.size 146 146 _ 3 40 Tryz.underlying80 info146 rfl (by decide) (by decide) sv j _ rfl (encI (ps[j]'hlt)) (HO.out.alloc _) _ rfl rfl (encI_one _) (by omega) (by simp <;> omega) (by simp) ?_; intro v6 w6 hown6 hg6 _; have HOut6 := Lib.hid ((HOut.out.alloc _).grown hg6 (own_blk_ne HO.out HOut.out (by decide))); have HRes6 := Lib.hid ((HRes.out.alloc _).grown hg6 (own_blk_ne HO.out HRes.out (by decide))); have HO6 := Lib.hid hown6; have HB6 := Lib.hid (below_app (HB.out.alloc hge _) (by simp <;> omega) (HO.out.alloc _) (Nat.le_refl _) hg6); clear hown6 hg6; obtain ⟨A6, q6, hv6⟩ := (SlV.of_own HO6.out).form; subst hv6; obtain ⟨g1, g2, g3, g4⟩ := HOut6.out.use)
      refine ⟨⟨j + 1, .slice A6 (j + 1) q6, ⟨by omega, by go_num, HRes6.out.far (by show w.heap.size + 1 ≠ w.heap.size + 2; omega) _, by have z := HOut6.out.set_ 2 (.slice A6 (j + 1) q6); simpa using z, own_keeps (T := fun e => e ≠ 82) (own_cast HO6.out rfl (by rw [List.take_succ_eq_append_getElem hlt, List.flatMap_append]; simp only [List.flatMap_cons, List.flatMap_nil, List.append_nil])) ((Keeps.refl _).setCell HOut6.out (by simp) _) (by decide), HB6.out.setCell (by show w.heap.size ≤ w.heap.size + 2; omega) _⟩⟩, by simp [intOf]; omega⟩
    · obtain rfl : j = ps.length := by omega
      rw [List.take_of_length_le (Nat.le_refl _)] at HO
      obtain ⟨d1, d2, d3, d4⟩ := HRes.out.use
      obtain ⟨As, qs, hsv⟩ := (SlV.of_own HO.out).form
      subst hsv
      go_wp2
      obtain ⟨s1, s2, s3⟩ := sets3 HRes.out (.string (bs k)) (.string (bs v)) (.slice As ps.length qs)
      have e0 := s1.cell 0
      have e1 := s1.cell 1
      have e2 := s1.cell 2
      simp at e0 e1 e2
      refine bodyPost_ret (v := .agg #[.string (bs k), .string (bs v), .slice As ps.length qs]) (by simp [results, Tryz.results48, go_sem, e0, e1, e2]) rfl ⟨⟨_, rfl, own_keeps (T := fun e => e ≠ 82) HO.out s3 (by decide)⟩, s2 _ _ HB.out (by omega)⟩
/-- The state of ofMember's loop. -/
structure OfSt (w : World) (k v : List UInt8) (ps : List Pr) (i : Value) (wr : World) (j : Nat) (sv : Value) : Prop where
  hj : j ≤ ps.length
  hi : i = .int .i64 j
  res : Blk wr (w.heap.size + 1) 29 #[.string ⟨#[]⟩, .string ⟨#[]⟩, .slice none 0 0]
  out : Blk wr (w.heap.size + 2) 29 #[.string (bs k), .string (bs v), sv]
  own : wr.ownsRow w.heap.size 34 3 sv j ((ps.take j).flatMap encI)
  hb : Below w.heap.size w wr
set_option maxRecDepth 100000 in
set_option maxHeartbeats 8000000 in
theorem ofMember_any (k v : List UInt8) (ps : List Pr) (A : Option Addr) (q : Nat) (w : World) (hv : ArgV w (.slice A ps.length q) ps.length (ps.flatMap encI)) (hn : ps.length ≤ 1000000) :
    Calls Tryz.prog 50 #[.agg #[.string (bs k), .string (bs v), .slice A ps.length q]] w fun e w' => (∃ sv, e = .returned (.agg #[.string (bs k), .string (bs v), sv]) ∧ w'.ownsRow w.heap.size 34 3 sv ps.length (ps.flatMap encI)) ∧ Below w.heap.size w w' := by
  have HS := Lib.hid hv
  have HK0 := Lib.hid (Blk.new1 w (.cells #[.string (bs k), .string (bs v), .slice A ps.length q] 82) 29 #[.string ⟨#[]⟩, .string ⟨#[]⟩, .slice none 0 0])
  have HB0 := Lib.hid (((Below.refl w.heap.size w).alloc (Nat.le_refl _) (.cells #[.string (bs k), .string (bs v), .slice A ps.length q] 82)).alloc (by simp) (.cells #[.string ⟨#[]⟩, .string ⟨#[]⟩, .slice none 0 0] 29))
  have HO0 := Lib.hid (show Blk (((w.alloc (.cells #[.string (bs k), .string (bs v), .slice A ps.length q] 82)).alloc (.cells #[.string ⟨#[]⟩, .string ⟨#[]⟩, .slice none 0 0] 29)).alloc (.cells #[.string (bs k), .string (bs v), .slice none 0 0] 29)) (w.heap.size + 2) 29 #[.string (bs k), .string (bs v), .slice none 0 0] from by
    have z := Blk.new ((w.alloc (.cells #[.string (bs k), .string (bs v), .slice A ps.length q] 82)).alloc (.cells #[.string ⟨#[]⟩, .string ⟨#[]⟩, .slice none 0 0] 29)) 29 #[.string (bs k), .string (bs v), .slice none 0 0]
    simpa using z)
  clear hv
  go_enter Tryz.func50, Tryz.ntmps50
  go_wp2
  go_loopw [5, 14] (fun _ i wr => ∃ (j : Nat) (sv : Value), OfSt w k v ps i wr j sv) (fun _ i _ => ps.length - (intOf i).toNat)
  case atStart => exact ⟨0, .slice none 0 0, ⟨Nat.zero_le _, rfl, HK0.out.alloc _, HO0.out, World.ownsRow_nil _ _ _ _, HB0.out.alloc HB0.out.size _⟩⟩
  case round =>
    obtain ⟨j, sv, hj, rfl, hres, hout, hown, hb⟩ := hrel
    have HB := Lib.hid hb
    have HO := Lib.hid hown
    have HRes := Lib.hid hres
    have HOut := Lib.hid hout
    clear hb hown hres hout
    obtain ⟨c1, c2, c3, c4⟩ := HOut.out.use
    by_cases hlt : j < ps.length
    · obtain ⟨b, off, c, hq, hc1, hc2, hbw, hc⟩ := HS.out.cells (flatI_ne (by intro e; rw [e] at hlt; simp at hlt))
      injection hq with hq1 hq2 hq3
      subst hq1; subst hq3
      obtain ⟨i0, i1, i2⟩ := cellsI (fun z u hz => (HB.out.cell (p := ⟨b, off + z, none⟩) hbw).trans (hc z u hz)) j hlt
      have hge := HB.out.size
      clear hc
      go_wp2_with (at_builtin; refine app1g rfl (.tmp 19) (.tmp 21) 27 rfl w.heap.size 34 34 _ 3 40 Tryz.underlying27 info34 rfl (by decide) (by decide) sv j _ rfl (encI (ps[j]'hlt)) (HO.out.alloc _) _ rfl rfl (encI_one _) (by omega) (by simp <;> omega) (by simp) ?_; intro v6 w6 hown6 hg6 _; have HOut6 := Lib.hid ((HOut.out.alloc _).grown hg6 (own_blk_ne HO.out HOut.out (by decide))); have HRes6 := Lib.hid ((HRes.out.alloc _).grown hg6 (own_blk_ne HO.out HRes.out (by decide))); have HO6 := Lib.hid hown6; have HB6 := Lib.hid (below_app (HB.out.alloc hge _) (by simp <;> omega) (HO.out.alloc _) (Nat.le_refl _) hg6); clear hown6 hg6; obtain ⟨A6, q6, hv6⟩ := (SlV.of_own HO6.out).form; subst hv6; obtain ⟨g1, g2, g3, g4⟩ := HOut6.out.use)
      refine ⟨⟨j + 1, .slice A6 (j + 1) q6, ⟨by omega, by go_num, HRes6.out.far (by show w.heap.size + 1 ≠ w.heap.size + 2; omega) _, by have z := HOut6.out.set_ 2 (.slice A6 (j + 1) q6); simpa using z, own_keeps (T := fun e => e ≠ 29) (own_cast HO6.out rfl (by rw [List.take_succ_eq_append_getElem hlt, List.flatMap_append]; simp only [List.flatMap_cons, List.flatMap_nil, List.append_nil])) ((Keeps.refl _).setCell HOut6.out (by simp) _) (by decide), HB6.out.setCell (by show w.heap.size ≤ w.heap.size + 2; omega) _⟩⟩, by simp [intOf]; omega⟩
    · obtain rfl : j = ps.length := by omega
      rw [List.take_of_length_le (Nat.le_refl _)] at HO
      obtain ⟨d1, d2, d3, d4⟩ := HRes.out.use
      obtain ⟨As, qs, hsv⟩ := (SlV.of_own HO.out).form
      subst hsv
      go_wp2
      obtain ⟨s1, s2, s3⟩ := sets3 HRes.out (.string (bs k)) (.string (bs v)) (.slice As ps.length qs)
      have e0 := s1.cell 0
      have e1 := s1.cell 1
      have e2 := s1.cell 2
      simp at e0 e1 e2
      refine bodyPost_ret (v := .agg #[.string (bs k), .string (bs v), .slice As ps.length qs]) (by simp [results, Tryz.results50, go_sem, e0, e1, e2]) rfl ⟨⟨_, rfl, own_keeps (T := fun e => e ≠ 29) HO.out s3 (by decide)⟩, s2 _ _ HB.out (by omega)⟩
end Go.Proofs.YtpgookhdffklkaaGreatDoor
