/-
  spec: Bag.With.
-/
import Derived.Test.YtpgookhdffklkaaGreatDoorZBagP
namespace Go.Proofs.YtpgookhdffklkaaGreatDoor
open Go.RowKit
theorem argOfSl {w : World} {e : TypeId} {v : Value} {n : Nat} {xs : List Value} (h : SlV w e v n xs) : ArgV w v n xs := by
  obtain ⟨A, c, rfl, h1, h2, h3⟩ := h
  refine ⟨A, c, rfl, h1, h2, fun hx => ?_⟩
  obtain ⟨b, off, cur, fz, hA, hb, hc⟩ := h3 hx
  refine ⟨b, off, hA, (Array.getElem?_eq_some_iff.1 hb).1, fun j u hj => ?_⟩
  have h := hc j u hj
  simp [World.cell?, hb, h]
theorem set_row (l : List MA) (x : MA) (i : Nat) (cur cur' : Array Value)
    (hcs : ∀ (j : Nat) u, (l.flatMap encA)[j]? = some u → cur[j]? = some u)
    (h1 : ∀ j, j < i * 3 → cur'[j]? = cur[j]?) (h2 : ∀ j, i * 3 + 3 ≤ j → cur'[j]? = cur[j]?)
    (h3 : ∀ (j : Nat) u, (encA x)[j]? = some u → cur'[i * 3 + j]? = some u) :
    cur'.toList.take (l.length * 3) = (l.set i x).flatMap encA := by
  have hfl := flat_len encA 3 encA_len (l.set i x)
  rw [List.length_set] at hfl
  apply List.ext_getElem?
  intro z
  by_cases hz : z < l.length * 3
  · rw [List.getElem?_take_of_lt hz, Array.getElem?_toList]
    have hq : z / 3 < (l.set i x).length := by rw [List.length_set]; omega
    have hq' : z / 3 < l.length := by omega
    have e := flat_get encA 3 encA_len (l.set i x) (z / 3) (z % 3) hq (by omega)
    have e0 := flat_get encA 3 encA_len l (z / 3) (z % 3) hq' (by omega)
    rw [show z / 3 * 3 + z % 3 = z by omega] at e e0
    rw [e, List.getElem_set]
    by_cases hi2 : i = z / 3
    · rw [if_pos hi2]
      have hr : z % 3 < (encA x).length := by rw [encA_len]; omega
      have h := h3 (z % 3) _ (List.getElem?_eq_getElem hr)
      rw [show i * 3 + z % 3 = z by omega] at h
      rw [h, List.getElem?_eq_getElem hr]
    · rw [if_neg hi2]
      have hzz : z < (l.flatMap encA).length := by rw [flat_len encA 3 encA_len]; omega
      have hc := hcs z _ (List.getElem?_eq_getElem hzz)
      rw [List.getElem?_eq_getElem hzz] at e0
      rw [← e0, ← hc]
      rcases Nat.lt_or_gt_of_ne hi2 with h | h
      · exact h2 z (by omega)
      · exact h1 z (by omega)
  · rw [List.getElem?_eq_none (by rw [List.length_take]; omega), List.getElem?_eq_none (by omega)]
theorem own_low {w : World} {b b' : Nat} {e : TypeId} {size : Nat} {v : Value} {n : Nat} {xs : List Value} (h : w.ownsRow b e size v n xs) (hb : b' ≤ b) : w.ownsRow b' e size v n xs := by
  obtain ⟨h1, h2 | ⟨g, cap, cur, h2, h3, h4⟩⟩ := h
  · exact ⟨h1, Or.inl h2⟩
  · exact ⟨h1, Or.inr ⟨g, cap, cur, h2, Nat.le_trans hb h3, h4⟩⟩
theorem own_new {w : World} {base : Nat} {e : TypeId} {size : Nat} {v : Value} {n : Nat} {xs : List Value} (h : w.ownsRow base e size v n xs) : v.ownBlock ≠ some w.heap.size := fun e1 => by
  have := (h.lt _ e1).2
  omega
theorem own_set {w : World} {base g cap i : Nat} {l : List MA} (x : MA) (h : w.ownsRow base 29 3 (.slice (some ⟨g, 0, none⟩) l.length cap) l.length (l.flatMap encA)) (hi : i < l.length) :
    (w.setCells g (i * 3) (encA x)).ownsRow base 29 3 (.slice (some ⟨g, 0, none⟩) l.length cap) (l.set i x).length ((l.set i x).flatMap encA) ∧ w.there g (i * 3) 3 ∧ base ≤ g := by
  obtain ⟨g', cap', cur, hq, hg0, hg1, hcap, hmx, hs, htk⟩ := own_some h (by omega)
  injection hq with e1 e2 e3
  injection e1 with e1
  injection e1 with e1
  subst e1; subst e3
  have hcs : ∀ (j : Nat) u, (l.flatMap encA)[j]? = some u → cur[j]? = some u := fun j u hj => by
    rw [← htk, List.getElem?_take] at hj
    split at hj
    · simpa using hj
    · cases hj
  obtain ⟨cur', d1, d2, d3, d4, d5⟩ := blk_sets (encA x) (i * 3) w cur hg1 (by rw [encA_len]; omega)
  rw [encA_len] at d4
  refine ⟨⟨by rw [flat_len encA 3 encA_len], Or.inr ⟨g, cap, cur', by rw [List.length_set], hg0, d1, by rw [List.length_set]; exact hcap, hmx, d2.trans hs, ?_⟩⟩, blk_there hg1 _ _ (by omega), hg0⟩
  rw [List.length_set]
  exact set_row l x i cur cur' hcs d3 d4 d5
set_option maxRecDepth 100000 in
set_option maxHeartbeats 8000000 in
theorem withM_any (l : List MA) (x : MA) (v : Value) (w : World) (hv : RowC w v l) (hs : SortM l) (hn : l.length ≤ 900) :
    Calls Tryz.prog 15 #[v, .agg #[.string (bs x.1.k), .string (bs x.1.v), .slice x.2.1 x.1.ps.length x.2.2]] w fun e w' => (∃ v', e = .returned v' ∧ w'.ownsRow w.heap.size 29 3 v' (withM l x).length ((withM l x).flatMap encA)) ∧ Below w.heap.size w w' := by
  have HB0 := Lib.hid ((Below.refl w.heap.size w).alloc (Nat.le_refl _) (.cells #[.string (bs x.1.k), .string (bs x.1.v), .slice x.2.1 x.1.ps.length x.2.2] 29))
  have HK0 := Lib.hid (Blk.new w 29 #[.string (bs x.1.k), .string (bs x.1.v), .slice x.2.1 x.1.ps.length x.2.2])
  have C40 := Lib.hid (cloneM_any l v _ (hv.below HB0.out) (by omega))
  have HV := Lib.hid hv
  have C41 := fun v' W (h : ArgV W v' l.length (l.flatMap encA)) (hb : Below w.heap.size w W) => Lib.hid (place_any l x.1.k v' W ⟨h, (hv.below hb).2⟩ (by omega) (sortM_mono hs _))
  have C42 := fun (i : Nat) (v : Value) (W : World) h1 h2 h3 h4 h5 => Lib.hid (insertM_any l x i w.heap.size W.heap.size v (W.alloc (.cells #[.string (bs x.1.k), .string (bs x.1.v), .slice x.2.1 x.1.ps.length x.2.2] 29)) h1 h2 h3 (by omega) h4 h5)
  have HS := Lib.hid (fun (W : World) (g cap i : Nat) h1 h2 => own_set (w := W) (base := w.heap.size) (g := g) (cap := cap) (i := i) (l := l) x h1 h2)
  obtain ⟨A, q, hq⟩ := hv.1.form
  subst hq
  clear hv hs
  have HFs := Lib.hid (fun i => @found_set l x i)
  have HFi := Lib.hid (fun i => @found_ins l x i)
  have H29 := Lib.hid (show (Tryz.prog.info? 29).map (·.size) = some (#[Value.string (bs x.1.k), Value.string (bs x.1.v), Value.slice x.2.1 x.1.ps.length x.2.2] : Array Value).size from size29)
  have HOne := Lib.hid (show (#[Value.string (bs x.1.k), Value.string (bs x.1.v), Value.slice x.2.1 x.1.ps.length x.2.2] : Array Value).all (·.oneCell') = true by simp [Value.oneCell'])
  have HE := Lib.hid (show (encA x).toArray = #[Value.string (bs x.1.k), Value.string (bs x.1.v), Value.slice x.2.1 x.1.ps.length x.2.2] from rfl)
  obtain ⟨⟨xk, xv, xps⟩, xA, xq⟩ := x
  dsimp only at *
  go_enter Tryz.func15, Tryz.ntmps15
  go_wp2_with (first
    | (go_at_call 40; (with_reducible refine C40.out.mono ?_); rintro e w1 ⟨⟨v1, rfl, hown1⟩, hb1⟩; have HB1 := Lib.hid (HB0.out.trans (hb1.mono HB0.out.size)); have HO1 := Lib.hid (own_low hown1 HB0.out.size); have HK1 := Lib.hid (HK0.out.belowS hb1); clear hown1 hb1; obtain ⟨c1, c2, c3, c4⟩ := HK1.out.use)
    | (go_at_call 41; (with_reducible refine (C41 _ _ (argOfSl (SlV.of_own HO1.out)) HB1.out).out.mono ?_); rintro e w2 ⟨⟨i, f, rfl, hF⟩, hb2⟩; have HB2 := Lib.hid (HB1.out.trans (hb2.mono HB1.out.size)); have HO2 := Lib.hid (own_below HO1.out hb2); have HK2 := Lib.hid (HK1.out.belowS hb2); have HF := Lib.hid hF; clear hF hb2; obtain ⟨d1, d2, d3, d4⟩ := HK2.out.use; cases f; rotate_left; (have hil := (HFs.out i HF.out).1; obtain ⟨g, cap, cur, hq1, hg0, hg1, hcap, hmx, -, -⟩ := own_some HO2.out (by omega); subst hq1; clear hg1); rotate_left)
    | (go_at_call 42; (with_reducible refine (C42 i v1 w2 (HO2.out.alloc _) (Nat.le_trans HB2.out.size (by simp)) HF.out.hi (by rw [HE.out]; exact Blk.new w2 29 _) (own_new HO2.out)).out.mono ?_); rintro e w3 ⟨⟨v3, rfl, hown3⟩, hb3⟩; have HO3 := Lib.hid hown3; have HB3 := Lib.hid ((HB2.out.alloc HB2.out.size (.cells #[.string (bs xk), .string (bs xv), .slice xA xps.length xq] 29)).trans hb3); clear hown3 hb3)
    | ((refine wpList_store_mid rfl 29 (.tmp 21) (.tmp 20) rfl g (i * 3) #[.string (bs xk), .string (bs xv), .slice xA xps.length xq] (by first | rfl | simp [go_sem]) (by first | rfl | simp [go_sem]) (HS.out _ _ _ _ HO2.out hil).2.1 H29.out HOne.out ?_)))
  · go_ret
    have hF := HFi.out i HF.out
    rw [hF]
    exact ⟨⟨_, rfl, own_cast HO3.out (by simp; have := HF.out.hi; omega) rfl⟩, HB3.out⟩
  · go_ret
    have hF := (HFs.out i HF.out).2
    rw [hF]
    obtain ⟨z1, z2, z3⟩ := HS.out w2 g cap i HO2.out hil
    refine ⟨⟨_, rfl, z1⟩, ?_⟩
    exact below_row HB2.out (gb_sets (g := g) _ _ _ (gb_refl w2 (some g))) HB2.out.size hg0
/-- The same, of where the properties lie. -/
theorem withM_row (l : List MA) (x : MA) (v : Value) (w : World) (hv : RowC w v l) (hs : SortM l) (hn : l.length ≤ 900) (hx : ArgV w (.slice x.2.1 x.1.ps.length x.2.2) x.1.ps.length (x.1.ps.flatMap encI)) :
    Calls Tryz.prog 15 #[v, .agg #[.string (bs x.1.k), .string (bs x.1.v), .slice x.2.1 x.1.ps.length x.2.2]] w fun e w' => (∃ v', e = .returned v' ∧ RowC w' v' (withM l x)) ∧ Below w.heap.size w w' := by
  refine (withM_any l x v w hv hs hn).mono ?_
  rintro e w' ⟨⟨v', he, ho⟩, hb⟩
  refine ⟨⟨v', he, argOfSl (SlV.of_own ho), fun y hy => ?_⟩, hb⟩
  rcases withM_mem hy with h | rfl
  · exact (hv.2 y h).below hb
  · exact hx.below hb
end Go.Proofs.YtpgookhdffklkaaGreatDoor
