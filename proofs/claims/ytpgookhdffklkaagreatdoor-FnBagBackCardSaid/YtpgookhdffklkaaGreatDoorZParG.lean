/-
  impl: memberOf of any member.
-/
import Derived.Deep.CutRange
import Derived.Test.YtpgookhdffklkaaGreatDoorMG
import Derived.Test.YtpgookhdffklkaaGreatDoorMI
namespace Go.Proofs.YtpgookhdffklkaaGreatDoor
open Go.RowKit
/-- The state of memberOf's loop. -/
structure MoSt (w : World) (k u : List UInt8) (ps : List Pr) (A2 : Option Addr) (q2 : Nat) (i : Value) (wr : World) (j bN : Nat) (sv : Value) : Prop where
  hj : j ≤ ps.length
  hi : i = .int .i64 j
  res : Blk wr (w.heap.size + 1) 82 #[.string ⟨#[]⟩, .string ⟨#[]⟩, .slice none 0 0]
  out : Blk wr bN 82 #[.string (bs k), .string (bs u), sv]
  own : wr.ownsRow w.heap.size 146 3 sv j ((ps.take j).flatMap encI)
  sl : SlV wr 148 (.slice A2 ps.length q2) ps.length (ps.flatMap encB)
  hb : Below w.heap.size w wr
set_option maxRecDepth 100000 in
set_option maxHeartbeats 16000000 in
theorem memberOf_any (m : BM) (ps : List Pr) (hp : HasPs m ps) (v : Value) (w : World) (hE : Env w) (hv : MvR w v m) :
    Calls Tryz.prog 91 #[v] w fun e w' => ∃ A q, e = .returned (.agg #[.string (bs m.k), .string (bs m.v), .slice A ps.length q]) ∧ SlV w' 146 (.slice A ps.length q) ps.length (ps.flatMap encI) ∧ Below w.heap.size w w' := by
  have hpl := hp.len
  have C3 := fun W h1 h2 => Lib.hid (memProps_any m ps hp v W h1 h2)
  have HV := Lib.hid hv
  have HE := Lib.hid hE
  obtain ⟨pv, rfl, hs⟩ := hv
  obtain ⟨A, q, hq⟩ := hs.form
  obtain ⟨k, u, md, mps⟩ := m
  dsimp only at *
  subst hq
  obtain ⟨n, hn⟩ : ∃ n, n = mps.length := ⟨_, rfl⟩
  rw [← hn] at hs C3 HV ⊢
  have C1 := fun W => Lib.hid (memKey_any k u md A n q W)
  have C2 := fun W => Lib.hid (memVal_any k u md A n q W)
  have HB := Lib.hid (((Below.refl w.heap.size w).alloc (Nat.le_refl _) (.cells #[.string (bs k), .string (bs u), .string (bs md), .slice A n q, .bool true] 86)).alloc (by simp) (.cells #[.string ⟨#[]⟩, .string ⟨#[]⟩, .slice none 0 0] 82))
  have HK := Lib.hid ((Blk.new w 86 #[.string (bs k), .string (bs u), .string (bs md), .slice A n q, .bool true]).alloc (.cells #[.string ⟨#[]⟩, .string ⟨#[]⟩, .slice none 0 0] 82))
  have HJ := Lib.hid (Blk.new1 w (.cells #[.string (bs k), .string (bs u), .string (bs md), .slice A n q, .bool true] 86) 82 #[.string ⟨#[]⟩, .string ⟨#[]⟩, .slice none 0 0])
  have HCp := fun p W => Lib.hid (propOf_any p W)
  clear hs hE hp hn
  go_enter Tryz.func91, Tryz.ntmps91
  go_upto_region 1 with fail
  go_cut [3] from 6 to 10 (fun p3 wx => ∃ bN : Nat, p3 = .pointer (some ⟨bN, 0, none⟩) ∧ w.heap.size + 1 < bN ∧ Blk wx bN 82 #[.string (bs k), .string (bs u), .slice none 0 0] ∧ Blk wx w.heap.size 86 #[.string (bs k), .string (bs u), .string (bs md), .slice A n q, .bool true] ∧ Blk wx (w.heap.size + 1) 82 #[.string ⟨#[]⟩, .string ⟨#[]⟩, .slice none 0 0] ∧ Below w.heap.size w wx)
  case first =>
    go_region_law (first
      | (go_simp; go_at_call 139; (refine (C1 _).out.mono ?_); rintro e w1 ⟨rfl, hb1⟩; have HB := Lib.hid (below_then hb1 (by have := HB.out.size; simp at this ⊢ <;> omega) ⟨HB.out.os, HB.out.tape, HB.out.output, HB.out.size, HB.out.block⟩); have HK := Lib.hid (Blk.by_ hb1 HK.out); have HJ := Lib.hid (Blk.by_ hb1 HJ.out); clear hb1; obtain ⟨f1, f2, f3, f4⟩ := HK.out.use; obtain ⟨g1, g2, g3, g4⟩ := HJ.out.use)
      | (go_simp; go_at_call 139; (refine (C1 _).out.mono ?_); rintro e w1 ⟨rfl, hb1⟩; have HN := Lib.hid (show Blk w1 (w.heap.size + 1 + 1) 82 #[.string ⟨#[]⟩, .string ⟨#[]⟩, .slice none 0 0] from Blk.by_ hb1 (by have z := Blk.new2 w (.cells #[.string (bs k), .string (bs u), .string (bs md), .slice A n q, .bool true] 86) (.cells #[.string ⟨#[]⟩, .string ⟨#[]⟩, .slice none 0 0] 82) 82 #[.string ⟨#[]⟩, .string ⟨#[]⟩, .slice none 0 0]; exact z)); have HB := Lib.hid (below_then (B := w.heap.size) (a := w) hb1 (by have := HB.out.size; simp at this ⊢ <;> omega) (by have z := HB.out.alloc (by have := HB.out.size; simp at this ⊢ <;> omega) (.cells #[.string ⟨#[]⟩, .string ⟨#[]⟩, .slice none 0 0] 82); exact ⟨z.os, z.tape, z.output, z.size, z.block⟩)); have HK := Lib.hid (Blk.by_ hb1 (by have z := HK.out.alloc (.cells #[.string ⟨#[]⟩, .string ⟨#[]⟩, .slice none 0 0] 82); exact z)); have HJ := Lib.hid (Blk.by_ hb1 (by have z := HJ.out.alloc (.cells #[.string ⟨#[]⟩, .string ⟨#[]⟩, .slice none 0 0] 82); exact z)); clear hb1; obtain ⟨f1, f2, f3, f4⟩ := HK.out.use; obtain ⟨g1, g2, g3, g4⟩ := HJ.out.use; obtain ⟨n1, n2, n3, n4⟩ := HN.out.use)
      | (go_simp; go_at_call 140; (refine (C2 _).out.mono ?_); rintro e w1 ⟨rfl, hb1⟩; have HN := Lib.hid (Blk.by_ hb1 HN.out); have HB := Lib.hid (below_then hb1 (by have := HB.out.size; simp at this ⊢ <;> omega) ⟨HB.out.os, HB.out.tape, HB.out.output, HB.out.size, HB.out.block⟩); have HK := Lib.hid (Blk.by_ hb1 HK.out); have HJ := Lib.hid (Blk.by_ hb1 HJ.out); clear hb1; obtain ⟨f1, f2, f3, f4⟩ := HK.out.use; obtain ⟨g1, g2, g3, g4⟩ := HJ.out.use; obtain ⟨n1, n2, n3, n4⟩ := HN.out.use)
      | (go_simp; go_at_call 140; (refine (C2 _).out.mono ?_); rintro e w1 ⟨rfl, hb1⟩; have HB := Lib.hid (below_then hb1 (by have := HB.out.size; simp at this ⊢ <;> omega) ⟨HB.out.os, HB.out.tape, HB.out.output, HB.out.size, HB.out.block⟩); have HK := Lib.hid (Blk.by_ hb1 HK.out); have HJ := Lib.hid (Blk.by_ hb1 HJ.out); clear hb1; obtain ⟨f1, f2, f3, f4⟩ := HK.out.use; obtain ⟨g1, g2, g3, g4⟩ := HJ.out.use)
      | (go_simp; go_at_call 140; (refine (C2 _).out.mono ?_); rintro e w1 ⟨rfl, hb1⟩; have hgN := HJ.out.lt; have HN := Lib.hid (show Blk w1 _ 82 #[.string ⟨#[]⟩, .string ⟨#[]⟩, .slice none 0 0] from Blk.by_ hb1 (Blk.new _ 82 _)); have HB := Lib.hid (below_then (B := w.heap.size) (a := w) hb1 (by have := HB.out.size; simp at this ⊢ <;> omega) (by have z := HB.out.alloc (by have := HB.out.size; simp at this ⊢ <;> omega) (.cells #[.string ⟨#[]⟩, .string ⟨#[]⟩, .slice none 0 0] 82); exact ⟨z.os, z.tape, z.output, z.size, z.block⟩)); have HK := Lib.hid (Blk.by_ hb1 (by have z := HK.out.alloc (.cells #[.string ⟨#[]⟩, .string ⟨#[]⟩, .slice none 0 0] 82); exact z)); have HJ := Lib.hid (Blk.by_ hb1 (by have z := HJ.out.alloc (.cells #[.string ⟨#[]⟩, .string ⟨#[]⟩, .slice none 0 0] 82); exact z)); clear hb1; obtain ⟨f1, f2, f3, f4⟩ := HK.out.use; obtain ⟨g1, g2, g3, g4⟩ := HJ.out.use; obtain ⟨n1, n2, n3, n4⟩ := HN.out.use))
    all_goals first
      | (with_reducible show Exit.then _ _ _ _ (World.setCell _ _ _); obtain ⟨hF, hFb, hFk⟩ := sets3 HN.out (.string (bs k)) (.string (bs u)) (.slice none 0 0); have hgN := HN.out.lt; have HF := Lib.hid hF; have HJ := Lib.hid (HJ.out.below (hFb (w.heap.size + 2) _ (Below.refl _ _) (by omega)) (by omega)); have HB := Lib.hid (hFb _ _ HB.out (by omega)); have HK := Lib.hid (Keeps.blk hFk HK.out (by simp)); clear hF hFb hFk; go_wp2; go_meet; case rel => exact ⟨_, rfl, by omega, HF.out, HK.out, HJ.out, HB.out⟩)
      | (have hgN : w.heap.size + 1 < w1.heap.size := HJ.out.lt; have HF := Lib.hid (Blk.new w1 82 #[.string (bs k), .string (bs u), .slice none 0 0]); have HK := Lib.hid (HK.out.alloc (.cells #[.string (bs k), .string (bs u), .slice none 0 0] 82)); have HJ := Lib.hid (HJ.out.alloc (.cells #[.string (bs k), .string (bs u), .slice none 0 0] 82)); have HB := Lib.hid (HB.out.alloc HB.out.size (.cells #[.string (bs k), .string (bs u), .slice none 0 0] 82)); go_wp2; go_meet; case rel => exact ⟨_, rfl, by omega, HF.out, HK.out, HJ.out, HB.out⟩)
  case rest =>
    clear HB HK HJ
    obtain ⟨bN, rfl, hb8, hF, hK, hJ, hB⟩ := hcut
    have HF := Lib.hid hF
    have HK := Lib.hid hK
    have HJ := Lib.hid hJ
    have HB := Lib.hid hB
    clear hF hK hJ hB
    obtain ⟨k1, k2, k3, k4⟩ := HK.out.use
    go_wp2_with (go_at_call 141; (with_reducible refine (C3 _ (HE.out.below HB.out) (HV.out.below HB.out)).out.mono ?_); rintro e w2 ⟨⟨v2, rfl, hs2⟩, hb2⟩; have HB2 := Lib.hid (HB.out.trans (hb2.mono HB.out.size)); have HJ2 := Lib.hid (HJ.out.belowS hb2); have HF2 := Lib.hid (HF.out.belowS hb2); have HS2 := Lib.hid hs2; obtain ⟨A2, q2, hq2⟩ := hs2.form; subst hq2; clear hb2 hs2)
    go_loopw [5, 14] (fun _ i wr => ∃ (j : Nat) (sv : Value), MoSt w k u ps A2 q2 i wr j bN sv) (fun _ i _ => ps.length - (intOf i).toNat)
    case atStart => exact ⟨0, .slice none 0 0, ⟨Nat.zero_le _, rfl, HJ2.out, HF2.out, World.ownsRow_nil _ _ _ _, HS2.out, HB2.out⟩⟩
    case round =>
      obtain ⟨j, sv, hj, rfl, hres, hout, hown, hsl, hb⟩ := hrel
      have HB := Lib.hid hb
      have HO := Lib.hid hown
      have HRes := Lib.hid hres
      have HOut := Lib.hid hout
      have HSl := Lib.hid hsl
      have hge := hb.size
      obtain ⟨As, qs, hsv⟩ := (SlV.of_own hown).form
      subst hsv
      clear hb hown hres hout hsl
      obtain ⟨c1, c2, c3, c4⟩ := HOut.out.use
      by_cases hlt : j < ps.length
      · obtain ⟨b, off, c, hq, -, -, hbw, hc⟩ := HSl.out.cells (flat_ne (by intro e; rw [e] at hlt; simp at hlt))
        injection hq with hq1 hq2 hq3
        subst hq1; subst hq3
        clear hq2
        obtain ⟨i0, i1, i2⟩ := cells3 hc j hlt
        have HT := Lib.hid (show ps.take (j + 1) = ps.take j ++ [ps[j]'hlt] from List.take_succ_eq_append_getElem hlt)
        clear hc
        generalize ps[j]'hlt = p at i0 i1 i2 HT
        have HWa := Lib.hid ((Below.refl wr.heap.size wr).alloc (Nat.le_refl _) (.cells #[.string (bs p.k), .string (bs p.v), .bool p.has] 148))
        have HKp := Lib.hid (Blk.new wr 148 #[.string (bs p.k), .string (bs p.v), .bool p.has])
        have hjl : j ≤ 4294967296 := by omega
        go_wp2
        go_region_law (first
          | (go_simp; go_at_call 142; (refine (HCp p _).out.mono ?_); rintro e w5 ⟨rfl, hb5⟩; have HW5 := Lib.hid (below_then (B := wr.heap.size) (a := wr) hb5 (by simp) (by have z := HWa.out; exact ⟨z.os, z.tape, z.output, z.size, z.block⟩)); have HOut5 := Lib.hid (HOut.out.belowS HW5.out); have HRes5 := Lib.hid (HRes.out.belowS HW5.out); have HO5 := Lib.hid (own_below HO.out HW5.out); have HSl5 := Lib.hid (HSl.out.below HW5.out); have hge5 := HW5.out.size; clear hb5; obtain ⟨d1, d2, d3, d4⟩ := HOut5.out.use)
          | (refine step_app1 rfl (.tmp 19) (.tmp 22) 80 rfl w.heap.size 146 146 _ 3 40 Tryz.underlying80 info146 rfl (by decide) (by decide) (.slice As j qs) j ((ps.take j).flatMap encI) rfl (encI p) (by have z := HO5.out; exact z) rfl rfl (encI_one _) hjl (by show _ ≤ w5.heap.size; omega) ?_; intro v6 w6 hown6 hg6 _; have HG6 := Lib.hid (show w5.grownBy w6 (Value.slice As j qs).ownBlock from ⟨hg6.os, hg6.tape, hg6.output, hg6.size, hg6.block⟩); have HO6 := Lib.hid hown6; have HOut6 := Lib.hid (HOut5.out.grown HG6.out (own_blk_ne HO5.out HOut5.out (by decide))); have HRes6 := Lib.hid (HRes5.out.grown HG6.out (own_blk_ne HO5.out HRes5.out (by decide))); clear hg6 hown6; obtain ⟨A6, c6, hv6⟩ := (SlV.of_own HO6.out).form; subst hv6; obtain ⟨g1, g2, g3, g4⟩ := HOut6.out.use))
        all_goals go_wp2
        all_goals
          have hK1 := (Keeps.refl w5).grown (T := fun e => e ≠ 146) HO5.out HG6.out (by simp)
          have hK2 := (Keeps.refl w6).setCell (T := fun e => e ≠ 82) (i := 2) HOut6.out (by simp) (.slice A6 (j + 1) c6)
          refine ⟨⟨j + 1, .slice A6 (j + 1) c6, ⟨by omega, by go_num, HRes6.out.far (by show w.heap.size + 1 ≠ bN; omega) _, by have z := HOut6.out.set_ 2 (.slice A6 (j + 1) c6); simpa using z, own_keeps (own_cast HO6.out rfl (by rw [HT.out, List.flatMap_append]; simp)) hK2 (by decide), (HSl5.out.keeps hK1 (by decide)).keeps hK2 (by decide), (below_app (HB.out.trans (HW5.out.mono hge)) (by omega) HO5.out (Nat.le_refl _) HG6.out).setCell (by show w.heap.size ≤ bN; omega) _⟩⟩, by simp [intOf]; omega⟩
      · obtain rfl : j = ps.length := by omega
        rw [List.take_of_length_le (Nat.le_refl _)] at HO
        obtain ⟨r1, r2, r3, r4⟩ := HRes.out.use
        go_wp2
        obtain ⟨hG, hGb, hGk⟩ := sets3 HRes.out (.string (bs k)) (.string (bs u)) (.slice As ps.length qs)
        have e0 := hG.cell 0
        have e1 := hG.cell 1
        have e2 := hG.cell 2
        simp at e0 e1 e2
        exact bodyPost_ret (v := .agg #[.string (bs k), .string (bs u), .slice As ps.length qs]) (by simp [results, Tryz.results91, go_sem, e0, e1, e2]) rfl ⟨As, qs, rfl, (SlV.of_own HO.out).keeps hGk (by decide), hGb _ _ HB.out (by omega)⟩
end Go.Proofs.YtpgookhdffklkaaGreatDoor
