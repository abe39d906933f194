/-
  laws: whether entries are members of a baggage.
-/
import Derived.Test.YtpgookhdffklkaaGreatDoorSpecB
namespace Go.Proofs.YtpgookhdffklkaaGreatDoor
open Go.RowKit

def okE (x : En) : Bool := tok x.1 && decide (x.1.length ≤ 40) && decide (x.2.length ≤ 40) && Lib.validD x.2
/-- What carryRight asks. -/
def RightE (l : List En) : Prop := (∀ x ∈ l, okE x = true) ∧ (l.map (·.1)).Nodup ∧ l.length ≤ 20
noncomputable def rightB (l : List En) : Bool := @decide (RightE l) (Classical.propDecidable _)
theorem rightB_true {l : List En} (h : RightE l) : rightB l = true := by unfold rightB; exact @decide_eq_true _ (Classical.propDecidable _) h
theorem rightB_false {l : List En} (h : ¬ RightE l) : rightB l = false := by unfold rightB; exact @decide_eq_false _ (Classical.propDecidable _) h
theorem rightB_iff {l : List En} : rightB l = true ↔ RightE l := by unfold rightB; exact @decide_eq_true_iff _ (Classical.propDecidable _)
theorem right_elem {l : List En} {k : Nat} (h : k < l.length) (h1 : okE l[k] = false) : ¬ RightE l := fun ⟨h2, _⟩ => by
  rw [h2 _ (List.getElem_mem h)] at h1; cases h1
theorem right_dup {l : List En} {j k : Nat} (h : k < l.length) (hj : j < k) (h1 : l[j].1 = l[k].1) : ¬ RightE l := fun ⟨_, h2, _⟩ => by
  have h3 := List.pairwise_iff_getElem.1 h2 j k (by simp; omega) (by simp; omega) hj
  simp at h3
  exact h3 h1
theorem nodup_take_k {l : List En} {k : Nat} (h : k < l.length) (h1 : ((l.take k).map (·.1)).Nodup) (h2 : ∀ t (_ : t < k), l[t].1 ≠ l[k].1) : ((l.take (k + 1)).map (·.1)).Nodup := by
  rw [List.take_succ_eq_append_getElem h, List.map_append, List.nodup_append]
  refine ⟨h1, by simp, fun a ha b hb => ?_⟩
  simp only [List.map_cons, List.map_nil, List.mem_singleton] at hb
  subst hb
  obtain ⟨x, hx, rfl⟩ := List.mem_map.1 ha
  obtain ⟨t, ht, rfl⟩ := List.getElem_of_mem hx
  rw [List.length_take] at ht
  rw [List.getElem_take]
  exact h2 t (by omega)

/-- What ToValidUTF8 without a replacement answers. -/
def ToValid (P : World → Prop) : Prop := ∀ (v : List UInt8) (W : World), P W → v.length ≤ 40 → Calls Tryz.prog 57 #[.string (bs v), .string ⟨#[]⟩] W fun e w' => (∃ r, e = .returned (.string (bs r)) ∧ (Lib.validD v = true → r = v) ∧ (Lib.validD v = false → r ≠ v)) ∧ Below W.heap.size W w'

set_option maxRecDepth 100000 in
set_option maxHeartbeats 8000000 in
theorem carryRight_any (hTV : ToValid Env) (l : List En) (v : Value) (w : World) (hE : Env w) (hv : RowE w v l) (hfit : fitsE l = true) :
    Calls Tryz.prog 25 #[v] w fun e w' => e = .returned (.bool (rightB l)) ∧ Below w.heap.size w w' := by
  obtain ⟨A, q, hq⟩ := hv.1.form
  subst hq
  have hlen : l.length ≤ 2147483647 := by
    simp only [fitsE, Bool.and_eq_true, decide_eq_true_eq] at hfit; exact hfit.1
  have HFit := Lib.hid (show ∀ x ∈ l, x.1.length ≤ 2147483647 ∧ x.2.length ≤ 2147483647 from fun x hx => by
    simp only [fitsE, Bool.and_eq_true, List.all_eq_true] at hfit
    have := hfit.2 x hx
    simpa [fitE] using this)
  have HV := Lib.hid hv
  have HE := Lib.hid hE
  have HTV := Lib.hid hTV
  clear hv hE hfit hTV
  go_enter Tryz.func25, Tryz.ntmps25
  go_wp2
  go_loopw [3, 4, 6, 9, 42] (fun _ _ _ i _ wr => ∃ k : Nat, k ≤ l.length ∧ i = .int .i64 k ∧ (∀ x ∈ l.take k, okE x = true) ∧ ((l.take k).map (·.1)).Nodup ∧ Below w.heap.size w wr) (fun _ _ _ i _ _ => l.length - (intOf i).toNat)
  case atStart => exact ⟨0, Nat.zero_le _, rfl, by simp, by simp, Below.refl _ _⟩
  case round =>
    obtain ⟨k, hk, rfl, hall, hnd, hb⟩ := hrel
    have HA := Lib.hid hall
    have HN := Lib.hid hnd
    have HB := Lib.hid hb
    have hge := hb.size
    clear hall hb hnd
    by_cases hlt : k < l.length
    · obtain ⟨b, off, c, hq, hc1, hc2, hbb, hcl⟩ := HV.out.1.cells (flatE_ne (by intro e; rw [e] at hlt; simp at hlt))
      injection hq with hq1 hq2 hq3
      subst hq1; subst hq3
      have HCl := Lib.hid (cellsE (fun z u hz => (HB.out.cell (p := ⟨b, off + z, none⟩) hbb).trans (hcl z u hz)))
      obtain ⟨i0, i1⟩ := HCl.out k hlt
      have HC0 := Lib.hid hcl
      obtain ⟨hsz1, hsz2⟩ := HFit.out _ (List.getElem_mem hlt)
      have HW := Lib.hid ((Below.refl wr.heap.size wr).alloc (Nat.le_refl _) (.cells #[.string (bs l[k].1), .string (bs l[k].2)] 64))
      have HJ := Lib.hid (Blk.new wr 64 #[.string (bs l[k].1), .string (bs l[k].2)])
      have C1 := fun W => Lib.hid (bagToken_any l[k].1 W (by omega))
      clear hcl
      cases ht : tok l[k].1
      · have HF := Lib.hid (rightB_false (right_elem (l := l) hlt (by simp [okE, ht])))
        rw [ht] at C1
        clear ht
        go_wp2
        first | (go_region_law (go_simp; go_at_call 56; (refine (C1 _).out.mono ?_); rintro e w1 ⟨rfl, hb1⟩; have HB1 := Lib.hid (below_then (B := wr.heap.size) (a := wr) hb1 (by simp) (by have z := HW.out; exact ⟨z.os, z.tape, z.output, z.size, z.block⟩)); clear hb1)) | (fail)
        all_goals go_wp2
        all_goals go_ret
        all_goals exact ⟨ret_bool HF.out.symm, HB.out.trans (HB1.out.mono hge)⟩
      · cases hk40 : decide (l[k].1.length ≤ 40)
        · have HF := Lib.hid (rightB_false (right_elem (l := l) hlt (by simp [okE, hk40])))
          have hg : (40 : Int) < (l[k].1.length : Int) := by simp at hk40; omega
          have hg1 : decide ((40 : Int) < (l[k].1.length : Int)) = true := decide_eq_true hg
          have hg2 : ¬ (l[k].1.length : Int) ≤ 40 := by omega
          rw [ht] at C1
          clear ht hk40
          go_wp2
          first | (go_region_law (go_simp; go_at_call 56; (refine (C1 _).out.mono ?_); rintro e w1 ⟨rfl, hb1⟩; have HB1 := Lib.hid (below_then (B := wr.heap.size) (a := wr) hb1 (by simp) (by have z := HW.out; exact ⟨z.os, z.tape, z.output, z.size, z.block⟩)); have HJ1 := Lib.hid (Blk.by_ hb1 HJ.out); clear hb1; obtain ⟨c1, c2, c3, c4⟩ := HJ1.out.use)) | (fail)
          all_goals go_wp2
          all_goals go_ret
          all_goals exact ⟨ret_bool HF.out.symm, HB.out.trans (HB1.out.mono hge)⟩
        · have hg : (l[k].1.length : Int) ≤ 40 := by simp at hk40; omega
          have hg1 : decide ((40 : Int) < (l[k].1.length : Int)) = false := decide_eq_false (by omega)
          cases hv40 : decide (l[k].2.length ≤ 40)
          · have HF := Lib.hid (rightB_false (right_elem (l := l) hlt (by simp [okE, hv40])))
            have hh : (40 : Int) < (l[k].2.length : Int) := by simp at hv40; omega
            have hh1 : decide ((40 : Int) < (l[k].2.length : Int)) = true := decide_eq_true hh
            have hh2 : ¬ (l[k].2.length : Int) ≤ 40 := by omega
            rw [ht] at C1
            clear ht hk40 hv40
            go_wp2
            first | (go_region_law (go_simp; go_at_call 56; (refine (C1 _).out.mono ?_); rintro e w1 ⟨rfl, hb1⟩; have HB1 := Lib.hid (below_then (B := wr.heap.size) (a := wr) hb1 (by simp) (by have z := HW.out; exact ⟨z.os, z.tape, z.output, z.size, z.block⟩)); have HJ1 := Lib.hid (Blk.by_ hb1 HJ.out); clear hb1; obtain ⟨c1, c2, c3, c4⟩ := HJ1.out.use)) | (fail)
            all_goals go_wp2
            all_goals go_ret
            all_goals exact ⟨ret_bool HF.out.symm, HB.out.trans (HB1.out.mono hge)⟩
          · have hh : (l[k].2.length : Int) ≤ 40 := by simp at hv40; omega
            have hh1 : decide ((40 : Int) < (l[k].2.length : Int)) = false := decide_eq_false (by omega)
            cases hvd : Lib.validD l[k].2
            · have HF := Lib.hid (rightB_false (right_elem (l := l) hlt (by simp [okE, hvd])))
              have HVD := Lib.hid hvd
              rw [ht] at C1
              clear ht hk40 hv40 hvd
              go_wp2
              first | (go_region_law (first
                | (go_simp; go_at_call 56; (refine (C1 _).out.mono ?_); rintro e w1 ⟨rfl, hb1⟩; have HB1 := Lib.hid (below_then (B := wr.heap.size) (a := wr) hb1 (by simp) (by have z := HW.out; exact ⟨z.os, z.tape, z.output, z.size, z.block⟩)); have HJ1 := Lib.hid (Blk.by_ hb1 HJ.out); clear hb1; obtain ⟨c1, c2, c3, c4⟩ := HJ1.out.use)
                | (go_simp; go_at_call 57; (refine (HTV.out l[k].2 _ (HE.out.below (HB.out.trans ((by have z := HB1.out; exact ⟨z.os, z.tape, z.output, z.size, z.block⟩ : Below wr.heap.size wr _).mono hge))) (by omega)).mono ?_); rintro e w2 ⟨⟨r, rfl, hr1, hr2⟩, hb2⟩; have hne : (r == l[k].2) = false := (by have z := hr2 HVD.out; simpa using z); have HB2 := Lib.hid (below_then (B := wr.heap.size) (a := wr) hb2 (by exact HB1.out.size) (by have z := HB1.out; exact ⟨z.os, z.tape, z.output, z.size, z.block⟩)); have HJ2 := Lib.hid (Blk.by_ hb2 (by have z := HJ1.out; exact z)); clear hb2 hr1 hr2; obtain ⟨d1, d2, d3, d4⟩ := HJ2.out.use))) | (fail)
              all_goals go_wp2
              all_goals go_ret
              all_goals exact ⟨ret_bool HF.out.symm, HB.out.trans (HB2.out.mono hge)⟩
            · have hok : okE l[k] = true := by simp [okE, ht, hk40, hv40, hvd]
              have HOK := Lib.hid hok
              have HVD := Lib.hid hvd
              rw [ht] at C1
              clear ht hk40 hv40 hvd hok
              go_wp2
              first | (go_region_law (first
                | (go_simp; go_at_call 56; (refine (C1 _).out.mono ?_); rintro e w1 ⟨rfl, hb1⟩; have HB1 := Lib.hid (below_then (B := wr.heap.size) (a := wr) hb1 (by simp) (by have z := HW.out; exact ⟨z.os, z.tape, z.output, z.size, z.block⟩)); have HJ1 := Lib.hid (Blk.by_ hb1 HJ.out); clear hb1; obtain ⟨c1, c2, c3, c4⟩ := HJ1.out.use)
                | (go_simp; go_at_call 57; (refine (HTV.out l[k].2 _ (HE.out.below (HB.out.trans ((by have z := HB1.out; exact ⟨z.os, z.tape, z.output, z.size, z.block⟩ : Below wr.heap.size wr _).mono hge))) (by omega)).mono ?_); rintro e w2 ⟨⟨r, rfl, hr1, hr2⟩, hb2⟩; have hne : (r == l[k].2) = true := (by have z := hr1 HVD.out; simpa using z); have HB2 := Lib.hid (below_then (B := wr.heap.size) (a := wr) hb2 (by exact HB1.out.size) (by have z := HB1.out; exact ⟨z.os, z.tape, z.output, z.size, z.block⟩)); have HJ2 := Lib.hid (Blk.by_ hb2 (by have z := HJ1.out; exact z)); clear hb2 hr1 hr2; obtain ⟨d1, d2, d3, d4⟩ := HJ2.out.use))) | (fail)
              all_goals go_wp2
              all_goals go_loopw [6, 42] (fun _ i ws => ∃ j : Nat, j ≤ k ∧ i = .int .i64 j ∧ (∀ t (_ : t < j), ∀ h : t < l.length, l[t].1 ≠ l[k].1) ∧ Blk ws wr.heap.size 64 #[.string (bs l[k].1), .string (bs l[k].2)] ∧ Below w.heap.size w ws) (fun _ i _ => k - (intOf i).toNat)
              all_goals first
                | (case atStart => exact ⟨0, Nat.zero_le _, rfl, fun t h => absurd h (Nat.not_lt_zero _), HJ2.out, HB.out.trans (HB2.out.mono hge)⟩)
                | skip
              all_goals obtain ⟨j, hj, rfl, hdj, hjk, hbs⟩ := hrel
              all_goals have HDJ := Lib.hid hdj
              all_goals have HJK := Lib.hid hjk
              all_goals have HBS := Lib.hid hbs
              all_goals clear hdj hjk hbs c1 c2 c3 c4 d1 d2 d3 d4
              all_goals obtain ⟨c1, c2, c3, c4⟩ := HJK.out.use
              all_goals
                by_cases hltj : j < k
                · obtain ⟨j0, j1⟩ := cellsE (fun z u hz => (HBS.out.cell (p := ⟨b, off + z, none⟩) hbb).trans (HC0.out z u hz)) j (by omega)
                  have hltl : j < l.length := by omega
                  by_cases he : l[j].1 = l[k].1
                  · have HF := Lib.hid (rightB_false (right_dup hlt hltj he))
                    have he1 : (l[j].1 == l[k].1) = true := by simpa using he
                    clear he
                    go_wp2
                    go_ret
                    exact ⟨ret_bool HF.out.symm, HBS.out.alloc HBS.out.size _⟩
                  · have HNe := Lib.hid he
                    have he1 : (l[j].1 == l[k].1) = false := by simpa using he
                    clear he
                    go_wp2
                    refine ⟨⟨j + 1, by omega, by go_num, ?_, HJK.out.alloc _, HBS.out.alloc HBS.out.size _⟩, by simp [intOf]; omega⟩
                    intro t ht htl
                    by_cases e : t = j
                    · subst e; exact HNe.out
                    · exact HDJ.out t (by omega) htl
                · have e : j = k := by omega
                  have HE' := Lib.hid e
                  go_wp2
                  refine ⟨⟨k + 1, by omega, by go_num, ?_, nodup_take_k hlt HN.out (fun t ht => HDJ.out t (by have z := HE'.out; omega) (by omega)), HBS.out⟩, by simp [intOf]; omega⟩
                  intro x hx
                  rw [List.take_succ_eq_append_getElem hlt] at hx
                  rcases List.mem_append.1 hx with hx | hx
                  · exact HA.out x hx
                  · simp only [List.mem_singleton] at hx
                    subst hx
                    exact HOK.out
    · have e : k = l.length := by omega
      subst e
      rw [List.take_of_length_le (Nat.le_refl _)] at HA HN
      by_cases h20 : l.length ≤ 20
      · have HF := Lib.hid (rightB_true (l := l) ⟨HA.out, HN.out, h20⟩)
        go_wp2
        go_ret
        exact ⟨ret_bool (by rw [HF.out]; simp; omega), HB.out⟩
      · have HF := Lib.hid (rightB_false (l := l) (fun h => h20 h.2.2))
        go_wp2
        go_ret
        exact ⟨ret_bool (by rw [HF.out]; simp; omega), HB.out⟩
end Go.Proofs.YtpgookhdffklkaaGreatDoor
