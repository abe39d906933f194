/-
  laws: toMembers, ofMembers.
  slices.Equal at Property and SameMember, where both are the same.
  spec: SameMember of the same member; EqualFunc and Same of the same members.
  spec: bagCut.
  spec: BagSplit.
-/
import Derived.Laws.StructEq
import Derived.Test.YtpgookhdffklkaaGreatDoorMF
import Derived.Test.YtpgookhdffklkaaGreatDoorMG
namespace Go.Proofs.YtpgookhdffklkaaGreatDoor
open Go.RowKit
/-- Members that lie anywhere. -/
def RowC (w : World) (v : Value) (ml : List MA) : Prop := ArgV w v ml.length (ml.flatMap encA) ∧ ∀ x ∈ ml, ArgV w (.slice x.2.1 x.1.ps.length x.2.2) x.1.ps.length (x.1.ps.flatMap encI)
theorem RowC.below {w w' : World} {v : Value} {ml : List MA} (h : RowC w v ml) (hb : Below w.heap.size w w') : RowC w' v ml := ⟨h.1.below hb, fun x hx => (h.2 x hx).below hb⟩
theorem RowB.toC {w : World} {v : Value} {ml : List MA} (h : RowB w v ml) : RowC w v ml := ⟨h.1, fun x hx => (h.2 x hx).1.1⟩
theorem info29 : (Tryz.prog.info? 29).map (fun i => (i.zero, i.size, i.bytes)) = some (some (.agg #[.string ⟨#[]⟩, .string ⟨#[]⟩, .slice none 0 0]), 3, 56) := by kernel_rfl
/-- The state of toMembers's loop. -/
structure TosSt (w : World) (l : List MA) (sv i : Value) (wr : World) (j : Nat) (ml : List MA) : Prop where
  hj : j ≤ l.length
  hi : i = .int .i64 j
  hml : ml.map (·.1) = (l.take j).map (·.1)
  own : wr.ownsRow w.heap.size 82 3 sv j (ml.flatMap encA)
  hps : PsI wr 146 ml
  hb : Below w.heap.size w wr
set_option maxRecDepth 100000 in
set_option maxHeartbeats 8000000 in
theorem toMembers_any (l : List MA) (v : Value) (w : World) (hv : RowC w v l) (hn : l.length ≤ 1000000) (hp : ∀ x ∈ l, x.1.ps.length ≤ 1000000) :
    Calls Tryz.prog 17 #[v] w fun e w' => (∃ v' : Value, e = .returned v' ∧ ∃ ml : List MA, ml.map (·.1) = l.map (·.1) ∧ RowA w' 82 146 v' ml) ∧ Below w.heap.size w w' := by
  obtain ⟨A, q, hq⟩ := hv.1.form
  subst hq
  have HV := Lib.hid hv
  have HP := Lib.hid hp
  clear hv hp
  go_enter Tryz.func17, Tryz.ntmps17
  go_wp2
  go_loopw [3, 5, 8] (fun sv _ i wr => ∃ (j : Nat) (ml : List MA), TosSt w l sv i wr j ml) (fun _ _ i _ => l.length - (intOf i).toNat)
  case atStart => exact ⟨0, [], ⟨Nat.zero_le _, rfl, rfl, World.ownsRow_nil _ _ _ _, PsI.nil _ _, Below.refl _ _⟩⟩
  case round =>
    obtain ⟨j, ml, hj, rfl, hml, hown, hps, hb⟩ := hrel
    have HB := Lib.hid hb
    have HO := Lib.hid hown
    have HM := Lib.hid hml
    have HPS := Lib.hid hps
    have hge := hb.size
    clear hb hown hml hps
    by_cases hlt : j < l.length
    · obtain ⟨b, off, c, hq, hc1, hc2, hbw, hc⟩ := HV.out.1.cells (flatA_ne' (by intro e; rw [e] at hlt; simp at hlt))
      injection hq with hq1 hq2 hq3
      subst hq1; subst hq3
      obtain ⟨i0, i1, i2⟩ := cellsAt' (fun z u hz => (HB.out.cell (p := ⟨b, off + z, none⟩) hbw).trans (hc z u hz)) j hlt
      have HX := Lib.hid (HV.out.2 _ (List.getElem_mem hlt))
      have HPn := HP.out _ (List.getElem_mem hlt)
      have HT := Lib.hid (show (l.take (j + 1)).map (·.1) = (l.take j).map (·.1) ++ [(l[j]'hlt).1] by rw [List.take_succ_eq_append_getElem hlt, List.map_append]; rfl)
      clear hc
      generalize l[j]'hlt = x at i0 i1 i2 HX HPn HT
      obtain ⟨⟨xk, xv, xps⟩, xA, xq⟩ := x
      dsimp only at i0 i1 i2 HX HPn HT
      have HWa := Lib.hid ((Below.refl wr.heap.size wr).alloc (Nat.le_refl _) (.cells #[.string (bs xk), .string (bs xv), .slice xA xps.length xq] 29))
      have C := Lib.hid (toMember_any xk xv xps xA xq (wr.alloc (.cells #[.string (bs xk), .string (bs xv), .slice xA xps.length xq] 29)) ((HX.out.below HB.out).below HWa.out) HPn)
      go_wp2_with (first
        | (go_at_call 48; (with_reducible refine C.out.mono ?_); rintro e w2 ⟨⟨sv2, rfl, hown2⟩, hb2⟩; have HW2 := Lib.hid (HWa.out.trans (hb2.mono (by simp))); have HO2 := Lib.hid (own_below HO.out HW2.out); have HPS2 := Lib.hid (HPS.out.below HW2.out); have HSL2 := Lib.hid (SlV.of_own hown2); have hge2 := Nat.le_trans hge HW2.out.size; obtain ⟨A2, q2, hq2⟩ := (SlV.of_own hown2).form; subst hq2; clear hb2 hown2)
        | (at_builtin; refine app1g rfl (.tmp 12) (.tmp 15) 37 rfl w.heap.size 82 82 _ 3 56 Tryz.underlying37 info82 rfl (by decide) (by decide) u3 j _ rfl (encA (⟨xk, xv, xps⟩, A2, q2)) HO2.out _ rfl rfl (encA_one _) (by omega) hge2 (by simp) ?_; intro v6 w6 hown6 hg6 _; have HG6 := Lib.hid hg6; have HO6 := Lib.hid hown6; clear hg6 hown6))
      have hK := (Keeps.refl w2).grown (T := fun e => e ≠ 82) HO2.out HG6.out (by simp)
      exact ⟨⟨j + 1, ml ++ [(⟨xk, xv, xps⟩, A2, q2)], ⟨by omega, by go_num, by rw [List.map_append, HM.out, HT.out]; rfl, own_cast HO6.out rfl (by simp), (HPS2.out.snoc (x := (⟨xk, xv, xps⟩, A2, q2)) HSL2.out).keeps hK (by decide), below_app (HB.out.trans (HW2.out.mono hge)) hge2 HO2.out (Nat.le_refl _) HG6.out⟩⟩, by simp [intOf]; omega⟩
    · obtain rfl : j = l.length := by omega
      rw [List.take_of_length_le (Nat.le_refl _)] at HM
      have hml : ml.length = l.length := by have z := congrArg List.length HM.out; simpa using z
      have HZ := Lib.hid (show RowA wr 82 146 u3 ml from ⟨by have z := SlV.of_own HO.out; rw [← hml] at z; exact z, HPS.out⟩)
      go_wp2
      go_ret
      have hres : RowA wr 82 146 u3 ml := HZ.out
      exact ⟨⟨u3, rfl, ml, HM.out, hres⟩, HB.out⟩
/-- The state of ofMembers's loop. -/
structure OfsSt (w : World) (l : List MA) (sv i : Value) (wr : World) (j : Nat) (ml : List MA) : Prop where
  hj : j ≤ l.length
  hi : i = .int .i64 j
  hml : ml.map (·.1) = (l.take j).map (·.1)
  own : wr.ownsRow w.heap.size 29 3 sv j (ml.flatMap encA)
  hps : PsI wr 34 ml
  hb : Below w.heap.size w wr
set_option maxRecDepth 100000 in
set_option maxHeartbeats 8000000 in
theorem ofMembers_any (l : List MA) (v : Value) (w : World) (hv : RowC w v l) (hn : l.length ≤ 1000000) (hp : ∀ x ∈ l, x.1.ps.length ≤ 1000000) :
    Calls Tryz.prog 19 #[v] w fun e w' => (∃ v' : Value, e = .returned v' ∧ ∃ ml : List MA, ml.map (·.1) = l.map (·.1) ∧ RowA w' 29 34 v' ml) ∧ Below w.heap.size w w' := by
  obtain ⟨A, q, hq⟩ := hv.1.form
  subst hq
  have HV := Lib.hid hv
  have HP := Lib.hid hp
  clear hv hp
  go_enter Tryz.func19, Tryz.ntmps19
  go_wp2
  go_loopw [3, 5, 8] (fun sv _ i wr => ∃ (j : Nat) (ml : List MA), OfsSt w l sv i wr j ml) (fun _ _ i _ => l.length - (intOf i).toNat)
  case atStart => exact ⟨0, [], ⟨Nat.zero_le _, rfl, rfl, World.ownsRow_nil _ _ _ _, PsI.nil _ _, Below.refl _ _⟩⟩
  case round =>
    obtain ⟨j, ml, hj, rfl, hml, hown, hps, hb⟩ := hrel
    have HB := Lib.hid hb
    have HO := Lib.hid hown
    have HM := Lib.hid hml
    have HPS := Lib.hid hps
    have hge := hb.size
    clear hb hown hml hps
    by_cases hlt : j < l.length
    · obtain ⟨b, off, c, hq, hc1, hc2, hbw, hc⟩ := HV.out.1.cells (flatA_ne' (by intro e; rw [e] at hlt; simp at hlt))
      injection hq with hq1 hq2 hq3
      subst hq1; subst hq3
      obtain ⟨i0, i1, i2⟩ := cellsAt' (fun z u hz => (HB.out.cell (p := ⟨b, off + z, none⟩) hbw).trans (hc z u hz)) j hlt
      have HX := Lib.hid (HV.out.2 _ (List.getElem_mem hlt))
      have HPn := HP.out _ (List.getElem_mem hlt)
      have HT := Lib.hid (show (l.take (j + 1)).map (·.1) = (l.take j).map (·.1) ++ [(l[j]'hlt).1] by rw [List.take_succ_eq_append_getElem hlt, List.map_append]; rfl)
      clear hc
      generalize l[j]'hlt = x at i0 i1 i2 HX HPn HT
      obtain ⟨⟨xk, xv, xps⟩, xA, xq⟩ := x
      dsimp only at i0 i1 i2 HX HPn HT
      have HWa := Lib.hid ((Below.refl wr.heap.size wr).alloc (Nat.le_refl _) (.cells #[.string (bs xk), .string (bs xv), .slice xA xps.length xq] 82))
      have C := Lib.hid (ofMember_any xk xv xps xA xq (wr.alloc (.cells #[.string (bs xk), .string (bs xv), .slice xA xps.length xq] 82)) ((HX.out.below HB.out).below HWa.out) HPn)
      go_wp2_with (first
        | (go_at_call 50; (with_reducible refine C.out.mono ?_); rintro e w2 ⟨⟨sv2, rfl, hown2⟩, hb2⟩; have HW2 := Lib.hid (HWa.out.trans (hb2.mono (by simp))); have HO2 := Lib.hid (own_below HO.out HW2.out); have HPS2 := Lib.hid (HPS.out.below HW2.out); have HSL2 := Lib.hid (SlV.of_own hown2); have hge2 := Nat.le_trans hge HW2.out.size; obtain ⟨A2, q2, hq2⟩ := (SlV.of_own hown2).form; subst hq2; clear hb2 hown2)
        | (at_builtin; refine app1g rfl (.tmp 12) (.tmp 15) 26 rfl w.heap.size 29 29 _ 3 56 Tryz.underlying26 info29 rfl (by decide) (by decide) u3 j _ rfl (encA (⟨xk, xv, xps⟩, A2, q2)) HO2.out _ rfl rfl (encA_one _) (by omega) hge2 (by simp) ?_; intro v6 w6 hown6 hg6 _; have HG6 := Lib.hid hg6; have HO6 := Lib.hid hown6; clear hg6 hown6))
      have hK := (Keeps.refl w2).grown (T := fun e => e ≠ 29) HO2.out HG6.out (by simp)
      exact ⟨⟨j + 1, ml ++ [(⟨xk, xv, xps⟩, A2, q2)], ⟨by omega, by go_num, by rw [List.map_append, HM.out, HT.out]; rfl, own_cast HO6.out rfl (by simp), (HPS2.out.snoc (x := (⟨xk, xv, xps⟩, A2, q2)) HSL2.out).keeps hK (by decide), below_app (HB.out.trans (HW2.out.mono hge)) hge2 HO2.out (Nat.le_refl _) HG6.out⟩⟩, by simp [intOf]; omega⟩
    · obtain rfl : j = l.length := by omega
      rw [List.take_of_length_le (Nat.le_refl _)] at HM
      have hml : ml.length = l.length := by have z := congrArg List.length HM.out; simpa using z
      have HZ := Lib.hid (show RowA wr 29 34 u3 ml from ⟨by have z := SlV.of_own HO.out; rw [← hml] at z; exact z, HPS.out⟩)
      go_wp2
      go_ret
      have hres : RowA wr 29 34 u3 ml := HZ.out
      exact ⟨⟨u3, rfl, ml, HM.out, hres⟩, HB.out⟩
end Go.Proofs.YtpgookhdffklkaaGreatDoor

namespace Go.Proofs.YtpgookhdffklkaaGreatDoor
open Go.RowKit
theorem stood34 : Tryz.prog.stoodInHeld 34 = false := by kernel_rfl
theorem fields34 : Tryz.prog.underlying 34 = some (.struct (Tryz.prog.fieldsOf 34)) := by kernel_rfl
theorem neqP (p : Pr) (w : World) : (binOp .neq 34 (.agg #[.string (bs p.k), .bool p.has, .string (bs p.v)]) (.agg #[.string (bs p.k), .bool p.has, .string (bs p.v)])).run Tryz.prog w = .ok (.bool false) w := by
  have u9 := Tryz.underlying9
  have a9 := Tryz.isAgg9
  have z9 := Tryz.sizeOf9
  have u4 := Tryz.underlying4
  have a4 := Tryz.isAgg4
  have z4 := Tryz.sizeOf4
  rw [run_neq_struct, show (10000 : Nat) = 9999 + 1 from rfl, run_equalIn_agg w 9999 34 _ _ fields34 stood34]
  simp only [Program.fieldsOf, Tryz.underlying34]
  go_simp
set_option maxRecDepth 100000 in
set_option maxHeartbeats 4000000 in
theorem equalP_same (ps : List Pr) (v1 v2 : Value) (w : World) (h1 : ArgV w v1 ps.length (ps.flatMap encI)) (h2 : ArgV w v2 ps.length (ps.flatMap encI)) :
    Calls Tryz.prog 97 #[v1, v2] w fun e w' => e = .returned (.bool true) ∧ Below w.heap.size w w' := by
  have hlen := h1.len
  obtain ⟨A1, q1, hq1⟩ := h1.form
  obtain ⟨A2, q2, hq2⟩ := h2.form
  subst hq1; subst hq2
  have H1 := Lib.hid h1
  have H2 := Lib.hid h2
  have NE := neqP
  clear h1 h2
  go_enter Tryz.func97, Tryz.ntmps97
  go_wp2
  go_loopw [5, 13] (fun _ i wr => ∃ j : Nat, j ≤ ps.length ∧ i = .int .i64 j ∧ Below w.heap.size w wr) (fun _ i _ => ps.length - (intOf i).toNat)
  case atStart => exact ⟨0, Nat.zero_le _, rfl, Below.refl _ _⟩
  case round =>
    obtain ⟨j, hj, rfl, hb⟩ := hrel
    have HB := Lib.hid hb
    clear hb
    by_cases hlt : j < ps.length
    · obtain ⟨b, off, c, hq, -, -, hbw, hc⟩ := H1.out.cells (flatI_ne (by intro e; rw [e] at hlt; simp at hlt))
      injection hq with hq1 hq2 hq3
      subst hq1; subst hq3
      obtain ⟨b', off', c', hq', -, -, hbw', hc'⟩ := H2.out.cells (flatI_ne (by intro e; rw [e] at hlt; simp at hlt))
      injection hq' with hq1 hq2 hq3
      subst hq1; subst hq3
      obtain ⟨i0, i1, i2⟩ := cellsI (fun z u hz => (HB.out.cell (p := ⟨b, off + z, none⟩) hbw).trans (hc z u hz)) j hlt
      obtain ⟨k0, k1, k2⟩ := cellsI (fun z u hz => (HB.out.cell (p := ⟨b', off' + z, none⟩) hbw').trans (hc' z u hz)) j hlt
      have N := NE (ps[j]'hlt)
      clear hc hc' NE
      go_wp2
      go_quiet (fail)
      go_wp2
      exact ⟨⟨j + 1, by omega, by go_num, below_drewN HB.out _⟩, by simp [intOf]; omega⟩
    · obtain rfl : j = ps.length := by omega
      go_wp2
      go_ret
      exact ⟨rfl, HB.out⟩
end Go.Proofs.YtpgookhdffklkaaGreatDoor

namespace Go.Proofs.YtpgookhdffklkaaGreatDoor
open Go.RowKit
set_option maxRecDepth 100000 in
set_option maxHeartbeats 4000000 in
theorem sameMember_same (m : Mem) (A1 A2 : Option Addr) (q1 q2 : Nat) (w : World) (h1 : ArgV w (.slice A1 m.ps.length q1) m.ps.length (m.ps.flatMap encI)) (h2 : ArgV w (.slice A2 m.ps.length q2) m.ps.length (m.ps.flatMap encI)) :
    Calls Tryz.prog 52 #[.agg #[.string (bs m.k), .string (bs m.v), .slice A1 m.ps.length q1], .agg #[.string (bs m.k), .string (bs m.v), .slice A2 m.ps.length q2]] w fun e w' => e = .returned (.bool true) ∧ Below w.heap.size w w' := by
  obtain ⟨k, v, ps⟩ := m
  dsimp only at *
  have HB0 := Lib.hid (((Below.refl w.heap.size w).alloc (Nat.le_refl _) (.cells #[.string (bs k), .string (bs v), .slice A1 ps.length q1] 29)).alloc (by simp) (.cells #[.string (bs k), .string (bs v), .slice A2 ps.length q2] 29))
  have C := Lib.hid (equalP_same ps _ _ _ (h1.below HB0.out) (h2.below HB0.out))
  clear h1 h2
  go_enter Tryz.func52, Tryz.ntmps52
  go_wp2_with (go_at_call 97; (with_reducible refine C.out.mono ?_); rintro e w1 ⟨rfl, hb1⟩; have HB1 := Lib.hid (HB0.out.trans (hb1.mono HB0.out.size)); clear hb1)
  go_ret
  exact ⟨rfl, HB1.out⟩
set_option maxRecDepth 100000 in
set_option maxHeartbeats 4000000 in
theorem equalFunc_same (l1 l2 : List MA) (v1 v2 : Value) (w : World) (h1 : RowC w v1 l1) (h2 : RowC w v2 l2) (he : l1.map (·.1) = l2.map (·.1)) :
    Calls Tryz.prog 51 #[v1, v2, .func (.func 52) #[] #[]] w fun e w' => e = .returned (.bool true) ∧ Below w.heap.size w w' := by
  have eg : ∀ args w, (callFunc 52 args).run Tryz.prog w = .ok (.enter 52 args) w := enters_of Tryz.func52 (by kernel_rfl) rfl
  have hlen := h1.1.len
  have hll : l2.length = l1.length := by have z := congrArg List.length he; simpa using z.symm
  have HEq := Lib.hid he
  obtain ⟨A1, q1, hq1⟩ := h1.1.form
  obtain ⟨A2, q2, hq2⟩ := h2.1.form
  rw [hll] at hq2
  subst hq1; subst hq2
  have H1 := Lib.hid h1
  have H2 := Lib.hid h2
  have HLl := Lib.hid hll
  clear h1 h2 he hll
  go_enter Tryz.func51, Tryz.ntmps51
  go_wp2
  go_loopw [7, 8, 9, 17] (fun _ _ _ i wr => ∃ j : Nat, j ≤ l1.length ∧ i = .int .i64 j ∧ Below w.heap.size w wr) (fun _ _ _ i _ => l1.length - (intOf i).toNat)
  case atStart => exact ⟨0, Nat.zero_le _, rfl, Below.refl _ _⟩
  case round =>
    obtain ⟨j, hj, rfl, hb⟩ := hrel
    have HB := Lib.hid hb
    have hge := hb.size
    clear hb
    by_cases hlt : j < l1.length
    · have hlt2 : j < l2.length := by rw [HLl.out]; exact hlt
      obtain ⟨b, off, c, hq, -, -, hbw, hc⟩ := H1.out.1.cells (flatA_ne' (by intro e; rw [e] at hlt; simp at hlt))
      injection hq with hq1 hq2 hq3
      subst hq1; subst hq3
      obtain ⟨b', off', c', hq', -, -, hbw', hc'⟩ := H2.out.1.cells (flatA_ne' (by intro e; rw [e] at hlt2; simp at hlt2))
      injection hq' with hq1 hq2 hq3
      subst hq1; subst hq3
      clear hq2
      obtain ⟨i0, i1, i2⟩ := cellsAt' (fun z u hz => (HB.out.cell (p := ⟨b, off + z, none⟩) hbw).trans (hc z u hz)) j hlt
      obtain ⟨k0, k1, k2⟩ := cellsAt' (fun z u hz => (HB.out.cell (p := ⟨b', off' + z, none⟩) hbw').trans (hc' z u hz)) j hlt2
      have HX := Lib.hid (H1.out.2 _ (List.getElem_mem hlt))
      have HY := Lib.hid (H2.out.2 _ (List.getElem_mem hlt2))
      have hxy : (l1[j]'hlt).1 = (l2[j]'hlt2).1 := by
        have z := congrArg (fun t => t[j]?) HEq.out
        simp only [List.getElem?_map, List.getElem?_eq_getElem hlt, List.getElem?_eq_getElem hlt2, Option.map_some, Option.some.injEq] at z
        exact z
      clear hc hc'
      generalize l1[j]'hlt = x at i0 i1 i2 HX hxy
      generalize l2[j]'hlt2 = y at k0 k1 k2 HY hxy
      obtain ⟨m, xA, xq⟩ := x
      obtain ⟨m', yA, yq⟩ := y
      obtain rfl : m = m' := hxy
      dsimp only at i0 i1 i2 k0 k1 k2 HX HY
      have HWa := Lib.hid (((Below.refl wr.heap.size wr).alloc (Nat.le_refl _) (.cells #[.string (bs m.k), .string (bs m.v), .slice xA m.ps.length xq] 29)).alloc (by simp) (.cells #[.string (bs m.k), .string (bs m.v), .slice yA m.ps.length yq] 29))
      have hbr : b' < wr.heap.size := Nat.lt_of_lt_of_le hbw' hge
      have HW1 := Lib.hid ((Below.refl wr.heap.size wr).alloc (Nat.le_refl _) (.cells #[.string (bs m.k), .string (bs m.v), .slice xA m.ps.length xq] 29))
      have k3 := (HW1.out.cell (p := ⟨b', off' + j * 3, none⟩) hbr).trans k0
      have k4 := (HW1.out.cell (p := ⟨b', off' + j * 3 + 1, none⟩) hbr).trans k1
      have k5 := (HW1.out.cell (p := ⟨b', off' + j * 3 + 2, none⟩) hbr).trans k2
      have C := Lib.hid (sameMember_same m xA yA xq yq _ ((HX.out.below HB.out).below HWa.out) ((HY.out.below HB.out).below HWa.out))
      go_wp2_with (go_at_fn 52; refine C.out.mono ?_; rintro e w2 ⟨rfl, hb2⟩; have HB2 := Lib.hid (HB.out.trans ((HWa.out.trans (hb2.mono HWa.out.size)).mono hge)); clear hb2)
      exact ⟨⟨j + 1, by omega, by go_num, HB2.out⟩, by simp [intOf]; omega⟩
    · obtain rfl : j = l1.length := by omega
      go_wp2
      go_ret
      exact ⟨rfl, HB.out⟩
set_option maxRecDepth 100000 in
set_option maxHeartbeats 1000000 in
theorem same_same (l1 l2 : List MA) (v1 v2 : Value) (w : World) (h1 : RowC w v1 l1) (h2 : RowC w v2 l2) (he : l1.map (·.1) = l2.map (·.1)) :
    Calls Tryz.prog 20 #[v1, v2] w fun e w' => e = .returned (.bool true) ∧ Below w.heap.size w w' := by
  obtain ⟨A1, q1, hq1⟩ := h1.1.form
  obtain ⟨A2, q2, hq2⟩ := h2.1.form
  have C := Lib.hid (equalFunc_same l1 l2 v1 v2 w h1 h2 he)
  subst hq1; subst hq2
  clear h1 h2 he
  go_enter Tryz.func20, Tryz.ntmps20
  go_wp2_with (go_at_call 51; refine C.out.mono ?_; rintro e w1 ⟨rfl, hb1⟩)
  go_ret
  exact ⟨rfl, hb1⟩
end Go.Proofs.YtpgookhdffklkaaGreatDoor

namespace Go.Proofs.YtpgookhdffklkaaGreatDoor
open Go.RowKit
theorem pos1_spec {c : UInt8} {l : List UInt8} {i : Nat} (h : pos1 c l = some i) : l[i]? = some c ∧ ∀ j, j < i → l[j]? ≠ some c := by
  induction l generalizing i with
  | nil => simp [pos1] at h
  | cons x t ih =>
    unfold pos1 at h
    split at h
    · rename_i hx
      injection h with h
      subst h
      exact ⟨by simp [hx], fun j hj => absurd hj (Nat.not_lt_zero _)⟩
    · rename_i hx
      obtain ⟨i', hi, rfl⟩ := Option.map_eq_some_iff.1 h
      obtain ⟨h1, h2⟩ := ih hi
      refine ⟨by simpa using h1, fun j hj => ?_⟩
      cases j with
      | zero => simpa using hx
      | succ j => simpa using h2 j (by omega)
theorem pos1_no {c : UInt8} {l : List UInt8} (h : pos1 c l = none) : ∀ j : Nat, l[j]? ≠ some c := by
  induction l with
  | nil => simp
  | cons x t ih =>
    unfold pos1 at h
    split at h
    · cases h
    · rename_i hx
      intro j
      cases j with
      | zero => simpa using hx
      | succ j => simpa using ih (Option.map_eq_none_iff.1 h) j
set_option maxRecDepth 100000 in
set_option maxHeartbeats 2000000 in
theorem bagCut_none (l : List UInt8) (c : UInt8) (w : World) (hs : l.length ≤ 4294967296) (h : pos1 c l = none) :
    Calls Tryz.prog 98 #[.string (bs l), .int .u8 c.toNat] w fun e w' => e = .returned (.tuple #[.string (bs l), .string ⟨#[]⟩, .bool false]) ∧ Below w.heap.size w w' := by
  have HN := Lib.hid (pos1_no h)
  clear h
  go_enter Tryz.func98, Tryz.ntmps98
  go_wp2
  go_loopw [7, 10] (fun _ i wr => ∃ k : Nat, k ≤ l.length ∧ i = .int .i64 k ∧ Below w.heap.size w wr) (fun _ i _ => l.length - (intOf i).toNat)
  case atStart => exact ⟨0, Nat.zero_le _, rfl, Below.refl _ _⟩
  case round =>
    obtain ⟨k, hk, rfl, hb⟩ := hrel
    have HB := Lib.hid hb
    clear hb
    by_cases hlt : k < l.length
    · have hne : ¬ l[k] = c := fun e => HN.out k (by rw [List.getElem?_eq_getElem hlt, e])
      have hne2 : ¬ ((l[k].toNat : Int) = (c.toNat : Int)) := fun e => hne (UInt8.toNat_inj.1 (by omega))
      have hne3 : ((l[k].toNat : Int) == (c.toNat : Int)) = false := by simpa using hne2
      go_wp2
      exact ⟨⟨k + 1, by omega, by go_num, HB.out⟩, by simp [intOf]; omega⟩
    · obtain rfl : k = l.length := by omega
      go_wp2
      go_ret3
      exact ⟨rfl, HB.out⟩
set_option maxRecDepth 100000 in
set_option maxHeartbeats 2000000 in
theorem bagCut_some (l : List UInt8) (c : UInt8) (w : World) (hs : l.length ≤ 4294967296) (i : Nat) (h : pos1 c l = some i) :
    Calls Tryz.prog 98 #[.string (bs l), .int .u8 c.toNat] w fun e w' => e = .returned (.tuple #[.string (bs (l.take i)), .string (bs (l.drop (i + 1))), .bool true]) ∧ Below w.heap.size w w' := by
  have hi := pos1_lt h
  have HS := Lib.hid (pos1_spec h)
  clear h
  go_enter Tryz.func98, Tryz.ntmps98
  go_wp2
  go_loopw [7, 10] (fun _ i' wr => ∃ k : Nat, k ≤ i ∧ i' = .int .i64 k ∧ Below w.heap.size w wr) (fun _ i _ => l.length - (intOf i).toNat)
  case atStart => exact ⟨0, Nat.zero_le _, rfl, Below.refl _ _⟩
  case round =>
    obtain ⟨k, hk, rfl, hb⟩ := hrel
    have HB := Lib.hid hb
    clear hb
    have hlt : k < l.length := by omega
    by_cases hki : k < i
    · have hne : ¬ l[k] = c := fun e => HS.out.2 k hki (by rw [List.getElem?_eq_getElem hlt, e])
      have hne2 : ¬ ((l[k].toNat : Int) = (c.toNat : Int)) := fun e => hne (UInt8.toNat_inj.1 (by omega))
      have hne3 : ((l[k].toNat : Int) == (c.toNat : Int)) = false := by simpa using hne2
      go_wp2
      exact ⟨⟨k + 1, by omega, by go_num, HB.out⟩, by simp [intOf]; omega⟩
    · obtain rfl : k = i := by omega
      have he : l[k] = c := by
        have z := HS.out.1
        rw [List.getElem?_eq_getElem hlt] at z
        exact Option.some.inj z
      have he3 : ((l[k].toNat : Int) == (c.toNat : Int)) = true := by rw [he]; simp
      clear he
      go_wp2
      go_quiet (fail)
      go_wp2
      go_ret3
      exact ⟨rfl, below_drewN HB.out _⟩
end Go.Proofs.YtpgookhdffklkaaGreatDoor

namespace Go.Proofs.YtpgookhdffklkaaGreatDoor
open Go.RowKit
/-- The state of BagSplit's loop. -/
structure SpSt (w : World) (c : UInt8) (l : List UInt8) (s sv : Value) (wr : World) (rest : List UInt8) (pre : List (List UInt8)) : Prop where
  hs : s = .string (bs rest)
  hl : rest.length + pre.length ≤ l.length
  hp : splitC c l = pre ++ splitC c rest
  own : wr.ownsRow w.heap.size 9 1 sv pre.length (strs pre)
  hb : Below w.heap.size w wr
def lenOf : Value → Nat
  | .string s => s.size
  | _ => 0
set_option maxRecDepth 100000 in
set_option maxHeartbeats 4000000 in
theorem bagSplit_any (l : List UInt8) (c : UInt8) (w : World) (hs : l.length ≤ 4294967295) :
    Calls Tryz.prog 53 #[.string (bs l), .int .u8 c.toNat] w fun e w' => (∃ v, e = .returned v ∧ w'.ownsRow w.heap.size 9 1 v (splitC c l).length (strs (splitC c l))) ∧ Below w.heap.size w w' := by
  go_enter Tryz.func53, Tryz.ntmps53
  go_wp2
  go_loopw [0, 5, 6, 7, 8] (fun s sv _ _ _ wr => ∃ (rest : List UInt8) (pre : List (List UInt8)), SpSt w c l s sv wr rest pre) (fun s _ _ _ _ _ => lenOf s)
  case atStart => exact ⟨l, [], ⟨rfl, by simp, rfl, World.ownsRow_nil _ _ _ _, Below.refl _ _⟩⟩
  case round =>
    obtain ⟨rest, pre, rfl, hl, hp, hown, hb⟩ := hrel
    have HB := Lib.hid hb
    have HO := Lib.hid hown
    have HP := Lib.hid hp
    have hge := hb.size
    clear hb hown hp
    cases hpos : pos1 c rest with
    | none =>
      have C := fun W => Lib.hid (bagCut_none rest c W (by omega) hpos)
      have HZ := Lib.hid (HP.out.trans (by rw [splitC_none hpos]))
      clear hpos
      go_wp2_with (first
        | (go_at_call 98; (with_reducible refine (C _).out.mono ?_); rintro e w1 ⟨rfl, hb1⟩; have HB1 := Lib.hid (HB.out.trans (hb1.mono hge)); have HO1 := Lib.hid (own_below HO.out hb1); have hge1 := HB1.out.size; clear hb1)
        | (at_builtin; refine app1 rfl (.tmp 16) (.tmp 18) 46 rfl w.heap.size 9 9 _ 1 16 Tryz.underlying46 info9 rfl (by decide) (by decide) u5 pre.length _ rfl [.string (bs rest)] HO1.out rfl rfl (one_str _) (by omega) hge1 ?_; intro v6 w6 hown6 hg6 _; have HG6 := Lib.hid hg6; have HO6 := Lib.hid hown6; clear hg6 hown6))
      go_ret
      exact ⟨⟨_, rfl, own_cast HO6.out (by rw [HZ.out]; simp) (by rw [HZ.out]; simp [strs])⟩, below_app HB1.out hge1 HO1.out (Nat.le_refl _) HG6.out⟩
    | some i =>
      have C := fun W => Lib.hid (bagCut_some rest c W (by omega) i hpos)
      have hi := pos1_lt hpos
      have HZ := Lib.hid (HP.out.trans (by rw [splitC_some hpos]))
      clear hpos
      go_wp2_with (first
        | (go_at_call 98; (with_reducible refine (C _).out.mono ?_); rintro e w1 ⟨rfl, hb1⟩; have HB1 := Lib.hid (HB.out.trans (hb1.mono hge)); have HO1 := Lib.hid (own_below HO.out hb1); have hge1 := HB1.out.size; clear hb1)
        | (at_builtin; refine app1 rfl (.tmp 16) (.tmp 18) 46 rfl w.heap.size 9 9 _ 1 16 Tryz.underlying46 info9 rfl (by decide) (by decide) u5 pre.length _ rfl [.string (bs (rest.take i))] HO1.out rfl rfl (one_str _) (by omega) hge1 ?_; intro v6 w6 hown6 hg6 _; have HG6 := Lib.hid hg6; have HO6 := Lib.hid hown6; clear hg6 hown6))
      exact ⟨⟨rest.drop (i + 1), pre ++ [rest.take i], ⟨rfl, by simp; omega, by rw [HZ.out]; simp, own_cast HO6.out (by simp) (by simp [strs]), below_app HB1.out hge1 HO1.out (Nat.le_refl _) HG6.out⟩⟩, by simp [lenOf]; omega⟩
end Go.Proofs.YtpgookhdffklkaaGreatDoor
