/-
  spec: BagRight.
-/
import Derived.Test.YtpgookhdffklkaaGreatDoorMH
namespace Go.Proofs.YtpgookhdffklkaaGreatDoor
open Go.RowKit
def rgtP (p : Pr) : Bool := decide (p.k.length ≤ 200) && (decide (p.v.length ≤ 200) && (p.has || p.v.isEmpty))
def rgtM (x : MA) : Bool := decide (x.1.k.length ≤ 200) && (decide (x.1.v.length ≤ 200) && (decide (x.1.ps.length ≤ 8) && x.1.ps.all rgtP))
def rgtB (l : List MA) : Bool := decide (l.length ≤ 40) && l.all rgtM
structure Big (n B : Nat) : Prop where
  a : (B : Int) < (n : Int)
  b : decide ((B : Int) < (n : Int)) = true
  c : ¬ (n : Int) ≤ (B : Int)
structure Sml (n B : Nat) : Prop where
  a : (n : Int) ≤ (B : Int)
  b : decide ((B : Int) < (n : Int)) = false
theorem big_or (n B : Nat) : (Big n B ∧ decide (n ≤ B) = false) ∨ (Sml n B ∧ decide (n ≤ B) = true) := by
  by_cases h : n ≤ B
  · exact Or.inr ⟨⟨by omega, decide_eq_false (by omega)⟩, decide_eq_true h⟩
  · exact Or.inl ⟨⟨by omega, decide_eq_true (by omega), by omega⟩, decide_eq_false h⟩
set_option maxRecDepth 100000 in
set_option maxHeartbeats 8000000 in
theorem bagRight_any (l : List MA) (v : Value) (w : World) (hv : RowC w v l) (hn : l.length ≤ 2147483647)
    (hsz : ∀ x ∈ l, x.1.k.length ≤ 2147483647 ∧ x.1.v.length ≤ 2147483647 ∧ x.1.ps.length ≤ 2147483647 ∧ ∀ p ∈ x.1.ps, p.k.length ≤ 2147483647 ∧ p.v.length ≤ 2147483647) :
    Calls Tryz.prog 10 #[v] w fun e w' => e = .returned (.bool (rgtB l)) ∧ Below w.heap.size w w' := by
  obtain ⟨A, q, hq⟩ := hv.1.form
  subst hq
  have HV := Lib.hid hv
  have HSz := Lib.hid hsz
  clear hv hsz
  rcases big_or l.length 40 with ⟨⟨ha, hb, hc⟩, hd⟩ | ⟨⟨ha, hb⟩, hd⟩
  · have hr : rgtB l = false := by simp [rgtB, hd]
    rw [hr]
    clear hr hd
    go_enter Tryz.func10, Tryz.ntmps10
    go_wp2
    go_ret
    exact ⟨rfl, Below.refl _ _⟩
  · have hr : rgtB l = l.all rgtM := by simp [rgtB, hd]
    rw [hr]
    clear hr hd
    go_enter Tryz.func10, Tryz.ntmps10
    go_wp2
    go_loopw [4, 6, 12] (fun _ _ i wr => ∃ k : Nat, k ≤ l.length ∧ i = .int .i64 k ∧ (l.take k).all rgtM = true ∧ Below w.heap.size w wr) (fun _ _ i _ => l.length - (intOf i).toNat)
    case atStart => exact ⟨0, Nat.zero_le _, rfl, by simp, Below.refl _ _⟩
    case round =>
      obtain ⟨k, hk, rfl, hall, hb0⟩ := hrel
      have HA := Lib.hid hall
      have HB := Lib.hid hb0
      have hge := hb0.size
      clear hall hb0
      by_cases hlt : k < l.length
      · obtain ⟨b, off, c, hq, hc1, hc2, hbb, hcl⟩ := HV.out.1.cells (flatA_ne' (by intro e; rw [e] at hlt; simp at hlt))
        injection hq with hq1 hq2 hq3
        subst hq1; subst hq3
        clear hq2
        obtain ⟨i0, i1, i2⟩ := cellsAt' (fun z u hz => (HB.out.cell (p := ⟨b, off + z, none⟩) hbb).trans (hcl z u hz)) k hlt
        have HT := Lib.hid (fun h => all_take_g rgtM l k hlt HA.out h)
        have HF := Lib.hid (fun h => all_false_g rgtM l k hlt h)
        have HR := Lib.hid ((HV.out.2 _ (List.getElem_mem hlt)).below HB.out)
        have HZ := Lib.hid (HSz.out _ (List.getElem_mem hlt))
        clear hcl
        generalize l[k]'hlt = x at i0 i1 i2 HT HF HR HZ
        obtain ⟨⟨xk, xv, xps⟩, xA, xq⟩ := x
        dsimp only at i0 i1 i2 HT HF HR HZ
        obtain ⟨hz1, hz2, hz3, hz4⟩ := HZ.out
        have HZ4 := Lib.hid hz4
        clear hz4
        have HW := Lib.hid (HB.out.alloc hge (.cells #[.string (bs xk), .string (bs xv), .slice xA xps.length xq] 29))
        have HRw := Lib.hid (HR.out.below ((Below.refl wr.heap.size wr).alloc (Nat.le_refl _) (.cells #[.string (bs xk), .string (bs xv), .slice xA xps.length xq] 29)))
        rcases big_or xk.length 200 with ⟨⟨ka, kb, kc⟩, kd⟩ | ⟨⟨ka, kb⟩, kd⟩
        · have HFF := Lib.hid (HF.out (by simp [rgtM, kd]))
          clear kd
          go_wp2
          go_ret
          exact ⟨ret_bool HFF.out.symm, HW.out⟩
        · rcases big_or xv.length 200 with ⟨⟨va, vb, vc⟩, vd⟩ | ⟨⟨va, vb⟩, vd⟩
          · have HFF := Lib.hid (HF.out (by simp [rgtM, vd]))
            clear kd vd
            go_wp2
            go_ret
            exact ⟨ret_bool HFF.out.symm, HW.out⟩
          · rcases big_or xps.length 8 with ⟨⟨pa, pb, pc⟩, pd⟩ | ⟨⟨pa, pb⟩, pd⟩
            · have HFF := Lib.hid (HF.out (by simp [rgtM, pd]))
              clear kd vd pd
              go_wp2
              go_ret
              exact ⟨ret_bool HFF.out.symm, HW.out⟩
            · have HMx := Lib.hid (show rgtM (⟨xk, xv, xps⟩, xA, xq) = xps.all rgtP by simp [rgtM, kd, vd, pd])
              have HBk := Lib.hid (Blk.new wr 29 #[.string (bs xk), .string (bs xv), .slice xA xps.length xq])
              clear kd vd pd
              go_wp2
              go_loopw [6, 35] (fun _ i wq => ∃ j : Nat, j ≤ xps.length ∧ i = .int .i64 j ∧ (xps.take j).all rgtP = true ∧ Below (wr.alloc (.cells #[.string (bs xk), .string (bs xv), .slice xA xps.length xq] 29)).heap.size (wr.alloc (.cells #[.string (bs xk), .string (bs xv), .slice xA xps.length xq] 29)) wq) (fun _ i _ => xps.length - (intOf i).toNat)
              case atStart => exact ⟨0, Nat.zero_le _, rfl, by simp, Below.refl _ _⟩
              case round =>
                obtain ⟨j, hj, rfl, hal2, hb2⟩ := hrel
                have HA2 := Lib.hid hal2
                have HB2 := Lib.hid (HW.out.trans (hb2.mono HW.out.size))
                have HQ := Lib.hid hb2
                have hge2 := HB2.out.size
                clear hal2 hb2
                by_cases hlt2 : j < xps.length
                · obtain ⟨b2, off2, c2, hq2, -, -, hbb2, hcl2⟩ := HRw.out.cells (flatI_ne (by intro e; rw [e] at hlt2; simp at hlt2))
                  injection hq2 with hq3 hq4 hq5
                  subst hq3; subst hq5
                  clear hq4
                  have HCq := Lib.hid (fun (z : Nat) (u : Value) (hz : (xps.flatMap encI)[z]? = some u) => (HQ.out.cell (p := ⟨b2, off2 + z, none⟩) hbb2).trans (hcl2 z u hz))
                  obtain ⟨k0, k1, k2⟩ := cellsI HCq.out j hlt2
                  have HT2 := Lib.hid (fun h => all_take_g rgtP xps j hlt2 HA2.out h)
                  have HF2 := Lib.hid (fun h => HF.out (HMx.out.trans (all_false_g rgtP xps j hlt2 h)))
                  obtain ⟨hy1, hy2⟩ := HZ4.out _ (List.getElem_mem hlt2)
                  clear hcl2
                  generalize xps[j]'hlt2 = p at k0 k1 k2 HT2 HF2 hy1 hy2
                  obtain ⟨pk, phas, pv⟩ := p
                  dsimp only at k0 k1 k2 HT2 HF2 hy1 hy2
                  have HW2 := Lib.hid (HB2.out.alloc hge2 (.cells #[.string (bs pk), .bool phas, .string (bs pv)] 34))
                  have HQ2 := Lib.hid (HQ.out.alloc HQ.out.size (.cells #[.string (bs pk), .bool phas, .string (bs pv)] 34))
                  rcases big_or pk.length 200 with ⟨⟨ra, rb, rc⟩, rd⟩ | ⟨⟨ra, rb⟩, rd⟩
                  · have HFF := Lib.hid (HF2.out (by simp [rgtP, rd]))
                    clear rd
                    go_wp2
                    go_ret
                    exact ⟨ret_bool HFF.out.symm, HW2.out⟩
                  · rcases big_or pv.length 200 with ⟨⟨sa, sb, sc⟩, sd⟩ | ⟨⟨sa, sb⟩, sd⟩
                    · have HFF := Lib.hid (HF2.out (by simp [rgtP, sd]))
                      clear rd sd
                      go_wp2
                      go_ret
                      exact ⟨ret_bool HFF.out.symm, HW2.out⟩
                    · cases phas
                      · by_cases hpv : pv = []
                        · subst hpv
                          have HTT := Lib.hid (HT2.out (by simp [rgtP, rd]))
                          clear rd sd
                          go_wp2
                          exact ⟨⟨j + 1, by omega, by go_num, HTT.out, HQ2.out⟩, by simp [intOf]; omega⟩
                        · have hne : (pv == []) = false := by
                            cases pv with
                            | nil => exact absurd rfl hpv
                            | cons a t => rfl
                          have HFF := Lib.hid (HF2.out (by
                            cases pv with
                            | nil => exact absurd rfl hpv
                            | cons a t => simp [rgtP]))
                          clear rd sd
                          go_wp2
                          go_ret
                          exact ⟨ret_bool HFF.out.symm, HW2.out⟩
                      · have HTT := Lib.hid (HT2.out (by simp [rgtP, rd, sd]))
                        clear rd sd
                        go_wp2
                        exact ⟨⟨j + 1, by omega, by go_num, HTT.out, HQ2.out⟩, by simp [intOf]; omega⟩
                · obtain rfl : j = xps.length := by omega
                  rw [List.take_of_length_le (Nat.le_refl _)] at HA2
                  have HTT := Lib.hid (HT.out (HMx.out.trans HA2.out))
                  go_wp2
                  exact ⟨⟨k + 1, by omega, by go_num, HTT.out, HB2.out⟩, by simp [intOf]; omega⟩
      · obtain rfl : k = l.length := by omega
        rw [List.take_of_length_le (Nat.le_refl _)] at HA
        go_wp2
        go_ret
        exact ⟨ret_bool HA.out.symm, HB.out⟩
end Go.Proofs.YtpgookhdffklkaaGreatDoor
