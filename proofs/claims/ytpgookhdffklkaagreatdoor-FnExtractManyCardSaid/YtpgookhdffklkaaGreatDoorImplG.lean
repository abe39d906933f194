/-
  Package baggage: New.
-/
import Derived.Test.YtpgookhdffklkaaGreatDoorImplF
namespace Go.Proofs.YtpgookhdffklkaaGreatDoor
open Go.RowKit

/-- A member laid into a list, in the place of one with its key. -/
def putB (l : List BM) (m : BM) : List BM := if l.any (fun x => x.k = m.k) then l.map (fun x => if x.k = m.k then m else x) else l ++ [m]
def dedB (l : List BM) : List BM := l.foldl putB []
def putP (l : PL) (y : BM × Value) : PL := if l.any (fun x => x.1.k = y.1.k) then l.map (fun x => if x.1.k = y.1.k then y else x) else l ++ [y]
theorem putP_fst (l : PL) (y : BM × Value) : (putP l y).map (·.1) = putB (l.map (·.1)) y.1 := by
  unfold putP putB
  rw [List.any_map]
  simp only [Function.comp_def]
  split
  · rw [List.map_map, List.map_map]
    apply List.map_congr_left
    intro x _
    simp only [Function.comp_def]
    split <;> rfl
  · simp
theorem getS_entI (l : PL) (k : List UInt8) : (getS (l.map entI) k).isSome = l.any (fun x => x.1.k = k) := by
  unfold getS
  rw [Option.isSome_map, List.find?_map, Option.isSome_map, List.isSome_find?]
  rfl
theorem putS_entI (l : PL) (m : BM) (pv : Value) : putS (l.map entI) m.k (entI (m, pv)).2 = (putP l (m, pv)).map entI := by
  unfold putS putP
  rw [getS_entI]
  split
  · rw [List.map_map, List.map_map]
    apply List.map_congr_left
    intro x _
    simp only [Function.comp_def, entI]
    by_cases hx : x.1.k = m.k <;> simp [hx]
  · simp [entI]
theorem putP_mem {l : PL} {y x : BM × Value} (h : x ∈ putP l y) : x ∈ l ∨ x = y := by
  unfold putP at h
  split at h
  · obtain ⟨z, hz, rfl⟩ := List.mem_map.1 h
    split
    · exact Or.inr rfl
    · exact Or.inl hz
  · simpa using h
theorem putB_mem {l : List BM} {m x : BM} (h : x ∈ putB l m) : x ∈ l ∨ x = m := by
  unfold putB at h
  split at h
  · obtain ⟨z, hz, rfl⟩ := List.mem_map.1 h
    split
    · exact Or.inr rfl
    · exact Or.inl hz
  · simpa using h
theorem foldB_all {P : BM → Prop} (l : List BM) : ∀ acc : List BM, (∀ m ∈ acc, P m) → (∀ m ∈ l, P m) → ∀ m ∈ l.foldl putB acc, P m := by
  induction l with
  | nil => intro acc h1 _ m hm; exact h1 m (by simpa using hm)
  | cons x t ih =>
    intro acc h1 h2 m hm
    refine ih (putB acc x) (fun y hy => ?_) (fun y hy => h2 y (by simp [hy])) m (by simpa using hm)
    rcases putB_mem hy with hy | rfl
    · exact h1 y hy
    · exact h2 y (by simp)
theorem dedB_all {P : BM → Prop} {l : List BM} (h : ∀ m ∈ l, P m) : ∀ m ∈ dedB l, P m := foldB_all l [] (by simp) h
theorem dedB_snoc (l : List BM) (m : BM) : dedB (l ++ [m]) = putB (dedB l) m := by simp [dedB]
theorem putB_len (l : List BM) (m : BM) : (putB l m).length ≤ l.length + 1 := by unfold putB; split <;> simp
theorem foldB_len (l : List BM) : ∀ acc : List BM, (l.foldl putB acc).length ≤ acc.length + l.length := by
  induction l with
  | nil => intro acc; simp
  | cons m t ih => intro acc; have h1 := ih (putB acc m); have h2 := putB_len acc m; simp only [List.foldl_cons, List.length_cons]; omega
theorem dedB_len (l : List BM) : (dedB l).length ≤ l.length := by simpa [dedB] using foldB_len l []
theorem PsR.put {w : World} {T : TypeId} {pl : PL} (h : PsR w T pl) {m : BM} {v : Value} (hv : SlV w T v m.ps.length (m.ps.flatMap encB)) : PsR w T (putP pl (m, v)) := fun x hx => by
  rcases putP_mem hx with hx | rfl
  · exact h x hx
  · exact hv
/-- The size of a list's text. -/
def tot (l : List BM) : Nat := Lib.lens (l.map mText) + (l.length - 1)
theorem lens_append (a b : List (List UInt8)) : Lib.lens (a ++ b) = Lib.lens a + Lib.lens b := by simp [Lib.lens]
theorem lens_perm {a b : List (List UInt8)} (h : a.Perm b) : Lib.lens a = Lib.lens b := by
  unfold Lib.lens
  exact (h.map _).sum_nat
theorem tot_perm {a b : List BM} (h : a.Perm b) : tot a = tot b := by
  unfold tot
  rw [lens_perm (h.map _), h.length_eq]
theorem tot_le (a b : List BM) : tot a ≤ tot (a ++ b) := by
  unfold tot
  rw [List.map_append, lens_append]
  simp
  omega
theorem tot_snoc (a : List BM) (m : BM) : tot (a ++ [m]) = tot a + (mText m).length + (if a.isEmpty then 0 else 1) := by
  unfold tot
  rw [List.map_append, lens_append]
  cases a with
  | nil => simp [Lib.lens]
  | cons x t => simp [Lib.lens]; omega
theorem cellsM {w : World} {b off : Nat} {pl : PL} (hc : ∀ j u, (pl.flatMap encM)[j]? = some u → w.cell? ⟨b, off + j, none⟩ = some u) (k : Nat) (h : k < pl.length) :
    w.cell? ⟨b, off + k * 5, none⟩ = some (.string (bs pl[k].1.k)) ∧ w.cell? ⟨b, off + k * 5 + 1, none⟩ = some (.string (bs pl[k].1.v)) ∧ w.cell? ⟨b, off + k * 5 + 2, none⟩ = some (.string (bs pl[k].1.md)) ∧ w.cell? ⟨b, off + k * 5 + 3, none⟩ = some pl[k].2 ∧ w.cell? ⟨b, off + k * 5 + 4, none⟩ = some (.bool true) := by
  have h0 := flat_get encM 5 encM_len pl k 0 h (by omega)
  have h1 := flat_get encM 5 encM_len pl k 1 h (by omega)
  have h2 := flat_get encM 5 encM_len pl k 2 h (by omega)
  have h3 := flat_get encM 5 encM_len pl k 3 h (by omega)
  have h4 := flat_get encM 5 encM_len pl k 4 h (by omega)
  exact ⟨hc (k * 5) _ h0, hc (k * 5 + 1) _ h1, hc (k * 5 + 2) _ h2, hc (k * 5 + 3) _ h3, hc (k * 5 + 4) _ h4⟩
theorem flatM_ne {pl : PL} (h : pl ≠ []) : pl.flatMap encM ≠ [] := by
  intro e
  have := congrArg List.length e
  rw [flat_len encM 5 encM_len] at this
  exact h (List.eq_nil_of_length_eq_zero (by rw [List.length_nil] at this; omega))

set_option maxRecDepth 100000 in
theorem MapS.lookup_some {w : World} {b : Nat} {l : AL} (h : MapS w b l) {t e : TypeId} (ht : Tryz.prog.underlying t = some (.map 9 e)) (k : List UInt8) (v : Value) (hg : getS l k = some v) (ok : Bool) :
    (Instr.lookup t (.map (some b)) (.string (bs k)) ok).run Tryz.prog w = .ok (if ok then .tuple #[v, .bool true] else v) w := by
  obtain ⟨es, clock, hb, hs, hp⟩ := h
  have hc : ∀ em, (Instr.checkKey em 10000 9 (.string (bs k))).run Tryz.prog w = .ok () w := fun em => MapKept.run_checkKey (d := .string) (k := .string (bs k)) Tryz.underlying9 trivial em 9999
  rcases MapS.find k hs hp with ⟨h1, h2, _⟩ | ⟨j, v', e0, h1, h2, _⟩
  · rw [h2] at hg; cases hg
  · rw [h2] at hg
    injection hg with hg
    subst hg
    have hf := MapKept.run_findKey (P := Tryz.prog) (w := w) (kt := 9) Tryz.underlying9 h1
    cases ok <;> simp [Instr.lookup, run_underlying ht, MapKept.run_getObj_map hb, hc, hf, Result.andThen]
theorem getS_mem {D : PL} (hn : ((D.map entI).map (·.1)).Nodup) {m : BM} {pv : Value} (h : (m, pv) ∈ D) : getS (D.map entI) m.k = some (.agg #[.string (bs m.v), .string (bs m.md), pv]) := by
  obtain ⟨j, hj, he⟩ := List.getElem_of_mem h
  exact getS_at hn (j := j) (by rw [List.getElem?_map, List.getElem?_eq_getElem hj, he]; rfl)

set_option maxRecDepth 100000 in
set_option maxHeartbeats 8000000 in
theorem new_any (pl : PL) (v : Value) (w : World) (hE : Env w) (hv : RowM w v pl) (h0 : pl ≠ []) (hsm : ∀ x ∈ pl, SmM x.1) (hx : ∀ x ∈ pl, x.1.md ≠ [] → x.1.ps = []) (hn : pl.length ≤ 1000000) (h64 : (dedB (pl.map (·.1))).length ≤ 64) (h8 : tot (dedB (pl.map (·.1))) ≤ 8192) :
    Calls Tryz.prog 44 #[v] w fun e w' => (∃ (D : PL) (b : Nat), D.map (·.1) = dedB (pl.map (·.1)) ∧ e = .returned (.tuple #[.agg #[.map (some b)], .nilIface]) ∧ ListR w' b D) ∧ Below w.heap.size w w' := by
  obtain ⟨bb, off, c, rfl, hc1, hc2, hbb, hc⟩ := hv.1.cells (flatM_ne h0)
  have HE := Lib.hid hE
  have HV := Lib.hid hv.2
  have HC := Lib.hid hc
  have HS := Lib.hid hsm
  have HX := Lib.hid hx
  have H64 := Lib.hid h64
  have H8 := Lib.hid h8
  have hl0 : ((pl.length : Int) == 0) = false := by
    have : pl.length ≠ 0 := by simpa using h0
    simp; omega
  have hmm := @run_makeMap Tryz.prog
  have HB0 := Lib.hid (((Below.refl w.heap.size w).alloc (Nat.le_refl _) (.cells #[.map none] 94)).alloc (by simp) (.map #[] 0))
  have HK0 := Lib.hid ((Blk.new w 94 #[.map none]).alloc (.map #[] 0))
  clear hE hv hc hsm hx h64 h8 h0
  go_enter Tryz.func44, Tryz.ntmps44
  go_wp2
  go_loopw [6, 21] (fun _ i wr => ∃ (j : Nat) (D : PL), j ≤ pl.length ∧ i = .int .i64 j ∧ D.map (·.1) = dedB ((pl.take j).map (·.1)) ∧ ListR wr (w.heap.size + 1) D ∧ Below w.heap.size w wr ∧ Blk wr w.heap.size 94 #[.map none]) (fun _ i _ => pl.length - (intOf i).toNat)
  case atStart => exact ⟨0, [], Nat.zero_le _, rfl, rfl, ⟨by have z := MapS.made (w.alloc (.cells #[.map none] 94)); simpa using z, PsR.nil _ _⟩, HB0.out, HK0.out⟩
  case round =>
    obtain ⟨j, D, hj, rfl, hD, hL, hb, hk⟩ := hrel
    have HB := Lib.hid hb
    have HD := Lib.hid hD
    have HL := Lib.hid hL
    have HK := Lib.hid hk
    have hge := HB.out.size
    clear hb hD hL hk
    by_cases hlt : j < pl.length
    · obtain ⟨i0, i1, i2, i3, i4⟩ := cellsM (fun z u hz => (HB.out.cell (p := ⟨bb, off + z, none⟩) hbb).trans (HC.out z u hz)) j hlt
      have hmem := List.getElem_mem hlt
      have HT := Lib.hid (show (pl.take (j + 1)).map (·.1) = (pl.take j).map (·.1) ++ [pl[j].1] by rw [List.take_succ_eq_append_getElem hlt, List.map_append]; rfl)
      have HSm := Lib.hid (HS.out _ hmem)
      have HXm := Lib.hid (HX.out _ hmem)
      have HVm := Lib.hid (HV.out _ hmem)
      obtain ⟨A, q, hq⟩ := HVm.out.form
      rw [hq] at i3
      rw [hq] at HVm
      clear hmem hq
      have HKn := Lib.hid (Blk.new wr 86 #[.string (bs pl[j].1.k), .string (bs pl[j].1.v), .string (bs pl[j].1.md), .slice A pl[j].1.ps.length q, .bool true])
      have HBa := Lib.hid (HB.out.alloc hge (.cells #[.string (bs pl[j].1.k), .string (bs pl[j].1.v), .string (bs pl[j].1.md), .slice A pl[j].1.ps.length q, .bool true] 86))
      have HWa := Lib.hid ((Below.refl wr.heap.size wr).alloc (Nat.le_refl _) (.cells #[.string (bs pl[j].1.k), .string (bs pl[j].1.v), .string (bs pl[j].1.md), .slice A pl[j].1.ps.length q, .bool true] 86))
      have HKa := Lib.hid (HK.out.alloc (.cells #[.string (bs pl[j].1.k), .string (bs pl[j].1.v), .string (bs pl[j].1.md), .slice A pl[j].1.ps.length q, .bool true] 86))
      go_wp2
      go_region_law (go_simp; go_at_call 86; (refine (itemFromMember_any pl[j].1 _ _ (by exact ⟨_, rfl, (by have z := HVm.out.below HBa.out; exact z)⟩) HSm.out.lp HXm.out).mono ?_); rintro e w1 ⟨it, rfl, hit, hb1⟩; have HB1 := Lib.hid (below_then (B := w.heap.size) (a := w) hb1 (by simp <;> omega) (by have z := HBa.out; exact ⟨z.os, z.tape, z.output, z.size, z.block⟩)); have HW1 := Lib.hid (below_then (B := wr.heap.size) (a := wr) hb1 (by simp) (by have z := HWa.out; exact ⟨z.os, z.tape, z.output, z.size, z.block⟩)); have HL1 := Lib.hid (HL.out.below HW1.out); have HK1 := Lib.hid (Blk.by_ hb1 (by have z := HKa.out; exact z)); have HN1 := Lib.hid (Blk.by_ hb1 (by have z := HKn.out; exact z)); clear hb1; obtain ⟨n1, n2, n3, n4⟩ := HN1.out.use; obtain ⟨pv1, hpv1, hsl1⟩ := hit; subst hpv1; obtain ⟨A1, q1, hq1⟩ := hsl1.form; subst hq1; have HSL := Lib.hid hsl1; clear hsl1; obtain ⟨w2, hup, hm2, hg2, hs2, hk2⟩ := HL1.out.1.update und92 pl[j].1.k (entI (pl[j].1, .slice A1 pl[j].1.ps.length q1)).2; have HM2 := Lib.hid hm2; have HG2 := Lib.hid hg2; have HZ2 := Lib.hid hs2; have HKE := Lib.hid hk2; clear hm2 hg2 hs2 hk2; simp only [entI] at hup)
      all_goals go_wp2
      all_goals
        have HL2 := HM2.out
        rw [putS_entI] at HL2
        exact ⟨⟨j + 1, putP D (pl[j].1, .slice A1 pl[j].1.ps.length q1), by omega, by go_num, by rw [putP_fst, HD.out, HT.out, dedB_snoc], ⟨HL2, (HL1.out.2.put HSL.out).keeps HKE.out trivial⟩, below_row HB1.out HG2.out HB1.out.size (by omega), (HKE.out _ _ _ _ trivial HK1.out)⟩, by simp [intOf]; omega⟩
    · have e : j = pl.length := by omega
      subst e
      rw [List.take_of_length_le (Nat.le_refl _)] at HD
      have hDl : D.length ≤ 64 := by have z := congrArg List.length HD.out; have y := H64.out; simp only [List.length_map] at z; omega
      have HND := Lib.hid (HL.out.1.nodup)
      have HSd := Lib.hid (show ∀ m ∈ dedB (pl.map (·.1)), SmM m from dedB_all (fun m hm => by obtain ⟨x, hx, rfl⟩ := List.mem_map.1 hm; exact HS.out x hx))
      clear hmm
      go_wp2_with (first
        | (refine wpl_lenN rfl (.tmp 36) 92 rfl info46 (w.heap.size + 1) (D.map entI) D.length (by simp) HL.out.1 rfl ?_)
        | (refine wpl_range rfl (.tmp 53) 92 rfl 154 und92 (w.heap.size + 1) (D.map entI) HL.out.1 rfl ?_; intro w2 hr2 hb2; have HR2 := Lib.hid hr2; have HB2 := Lib.hid hb2; clear hr2 hb2; go_frame))
      have hwr : w.heap.size + 1 < wr.heap.size := HL.out.1.lt
      go_loopw [7, 9, 10, 11, 12, 13] (fun er tv fv _ _ _ w3 => ∃ dn lf : PL, (dn ++ lf).Perm D ∧ er = .nilIface ∧ tv = .int .i64 (tot (dn.map (·.1)) : Nat) ∧ fv = .bool dn.isEmpty ∧ RangeS w3 (w.heap.size + 1) wr.heap.size (D.map entI) (lf.map entI) ∧ Below wr.heap.size wr w3) (fun _ _ _ _ _ _ w3 => w3.rangeLeft (w.heap.size + 1) wr.heap.size)
      case atStart => exact ⟨[], D, by simp, rfl, by simp [tot, Lib.lens], rfl, HR2.out, HB2.out⟩
      case round =>
        obtain ⟨dn, lf, hperm, rfl, rfl, rfl, hr, hb⟩ := hrel
        have HBL := Lib.hid hb
        have HR := Lib.hid hr
        have HP := Lib.hid hperm
        have HLf := Lib.hid hr.left_eq
        have hgeL := hb.size
        have HLL := Lib.hid (HL.out.below hb)
        have HKL := Lib.hid (HK.out.belowS hb)
        have HBW := Lib.hid (HB.out.trans (hb.mono hge))
        have HTL := Lib.hid (show ∀ (m : BM) (pv : Value) (lp lq : PL), lf = lp ++ (m, pv) :: lq → tot (dn.map (·.1)) + (mText m).length + (if dn.isEmpty then 0 else 1) ≤ 8192 from fun m pv lp lq e => by
          have h1 := tot_snoc (dn.map (·.1)) m
          have h2 : (dn.map (·.1)).isEmpty = dn.isEmpty := by cases dn <;> rfl
          rw [h2] at h1
          have h3 := (perm_take (L := D) (dn := dn) (lp := lp) (lq := lq) (x := (m, pv)) (by rw [← e]; exact hperm)).map (·.1)
          have h4 := tot_perm h3
          rw [HD.out] at h4
          have h5 := tot_le ((dn ++ [(m, pv)]).map (·.1)) ((lp ++ lq).map (·.1))
          rw [← List.map_append, h4] at h5
          have h6 := H8.out
          have h7 : (dn ++ [(m, pv)]).map (·.1) = dn.map (·.1) ++ [m] := by simp
          rw [h7] at h5
          omega)
        have HTD := Lib.hid (show ∀ m : BM, ∀ pv : Value, tot ((dn ++ [(m, pv)]).map (·.1)) = tot (dn.map (·.1)) + (mText m).length + (if dn.isEmpty then 0 else 1) from fun m pv => by
          have h2 : (dn.map (·.1)).isEmpty = dn.isEmpty := by cases dn <;> rfl
          rw [← h2, ← tot_snoc]; simp)
        have hTle : tot (dn.map (·.1)) ≤ 8192 := by
          have h3 := tot_perm (hperm.map (·.1))
          rw [HD.out, List.map_append] at h3
          have h5 := tot_le (dn.map (·.1)) (lf.map (·.1))
          have h6 := H8.out
          omega
        clear hb hr hperm
        by_cases hlf : lf = []
        · subst hlf
          obtain ⟨c1, c2, c3, c4⟩ := HKL.out.use
          go_wp2_with (at_next; refine wpl_next_nil rfl (.tmp 54) rfl _ _ _ rfl HR.out ?_)
          have hF := HKL.out.set_ 0 (.map (some (w.heap.size + 1)))
          have e0 := hF.cell 0
          simp at e0
          exact bodyPost_ret (v := .tuple #[.agg #[.map (some (w.heap.size + 1))], .nilIface]) (by simp [results, Tryz.results44, go_sem, e0]) rfl ⟨⟨D, HD.out, _, rfl, HLL.out.1.setCell (by simp) _, HLL.out.2.keeps ((Keeps.refl _).setCell (T := fun e => e ≠ 94) HKL.out (by simp) _) (by simp)⟩, HBW.out.setCell (by simp) _⟩
        · generalize tot (dn.map (·.1)) = T at *
          cases hfb : dn.isEmpty
          · rw [hfb] at HTL HTD
            go_wp2_with (first
              | (at_next; refine wpl_next_more rfl (.tmp 54) rfl _ _ _ lf hlf rfl HR.out ?_; intro lp m pv lq w3 hlq hr3 hg3 hs3 hk3 hen; have HLQ := Lib.hid hlq; have HR3 := Lib.hid hr3; have HB3 := Lib.hid (below_row HBL.out hg3 hgeL (Nat.le_refl _)); have HS3 := Lib.hid hs3; have hge3 := HB3.out.size; have hq := HTL.out m pv lp lq hlq; simp only [Bool.false_eq_true, if_false] at hq; have HMEM := Lib.hid (show (m, pv) ∈ D from HP.out.mem_iff.1 (by rw [hlq]; simp)); have HSM := Lib.hid (show SmM m from by (have z := List.mem_map_of_mem (f := fun x : BM × Value => x.1) HMEM.out; rw [HD.out] at z; exact HSd.out _ z)); have hlk := fun W hW => (HL.out.1.below (w' := W) hW).lookup_some und92 m.k _ (getS_mem HND.out HMEM.out) false; clear hlq hr3 hg3 hs3 hk3; obtain ⟨A3, q3, hq3⟩ := (HL.out.2 _ HMEM.out).form; dsimp only at hq3; subst hq3; have hlk3 := hlk _ HB3.out; clear hlk)
              | (go_at_call 88; (refine (memberFromItem_any m _ _ (by exact ⟨_, rfl, (HL.out.2 _ HMEM.out).below HB3.out⟩) HSM.out.lp).mono ?_); rintro e w4 ⟨v4, rfl, hm4, hb4⟩; have HM4 := Lib.hid hm4; have HB4 := Lib.hid (HB3.out.trans (hb4.mono hge3)); have HR4 := Lib.hid (HR3.out.below hb4); have hge4 := HB4.out.size; clear hm4 hb4; obtain ⟨pv4, hv4, hsl4⟩ := HM4.out; subst hv4; obtain ⟨A4, q4, hq4⟩ := hsl4.form; subst hq4)
              | (go_at_call 89; (refine (memberString_any m _ _ (by exact HE.out.below ((HB.out.trans (HB4.out.mono hge)).alloc (by omega) _)) ⟨_, rfl, hsl4.below ((Below.refl _ _).alloc (Nat.le_refl _) _)⟩ HSM.out).mono ?_); rintro e w5 ⟨rfl, hb5⟩; have HB5 := Lib.hid ((HB4.out.alloc hge4 _).trans (hb5.mono (by simp <;> omega))); have HR5 := Lib.hid ((HR4.out.alloc _).below hb5); clear hb5))
            have hl := HLf.out
            rw [HLQ.out] at hl
            refine ⟨⟨dn ++ [(m, .slice A3 m.ps.length q3)], lp ++ lq, perm_take (by rw [← HLQ.out]; exact HP.out), rfl, ?_, by simp, HR5.out, HB5.out⟩, ?_⟩
            · rw [HTD.out]; simp; omega
            · rw [HR5.out.left_eq, hl]; simp
          · rw [hfb] at HTL HTD
            go_wp2_with (first
              | (at_next; refine wpl_next_more rfl (.tmp 54) rfl _ _ _ lf hlf rfl HR.out ?_; intro lp m pv lq w3 hlq hr3 hg3 hs3 hk3 hen; have HLQ := Lib.hid hlq; have HR3 := Lib.hid hr3; have HB3 := Lib.hid (below_row HBL.out hg3 hgeL (Nat.le_refl _)); have HS3 := Lib.hid hs3; have hge3 := HB3.out.size; have hq := HTL.out m pv lp lq hlq; simp only [if_true] at hq; have HMEM := Lib.hid (show (m, pv) ∈ D from HP.out.mem_iff.1 (by rw [hlq]; simp)); have HSM := Lib.hid (show SmM m from by (have z := List.mem_map_of_mem (f := fun x : BM × Value => x.1) HMEM.out; rw [HD.out] at z; exact HSd.out _ z)); have hlk := fun W hW => (HL.out.1.below (w' := W) hW).lookup_some und92 m.k _ (getS_mem HND.out HMEM.out) false; clear hlq hr3 hg3 hs3 hk3; obtain ⟨A3, q3, hq3⟩ := (HL.out.2 _ HMEM.out).form; dsimp only at hq3; subst hq3; have hlk3 := hlk _ HB3.out; clear hlk)
              | (go_at_call 88; (refine (memberFromItem_any m _ _ (by exact ⟨_, rfl, (HL.out.2 _ HMEM.out).below HB3.out⟩) HSM.out.lp).mono ?_); rintro e w4 ⟨v4, rfl, hm4, hb4⟩; have HM4 := Lib.hid hm4; have HB4 := Lib.hid (HB3.out.trans (hb4.mono hge3)); have HR4 := Lib.hid (HR3.out.below hb4); have hge4 := HB4.out.size; clear hm4 hb4; obtain ⟨pv4, hv4, hsl4⟩ := HM4.out; subst hv4; obtain ⟨A4, q4, hq4⟩ := hsl4.form; subst hq4)
              | (go_at_call 89; (refine (memberString_any m _ _ (by exact HE.out.below ((HB.out.trans (HB4.out.mono hge)).alloc (by omega) _)) ⟨_, rfl, hsl4.below ((Below.refl _ _).alloc (Nat.le_refl _) _)⟩ HSM.out).mono ?_); rintro e w5 ⟨rfl, hb5⟩; have HB5 := Lib.hid ((HB4.out.alloc hge4 _).trans (hb5.mono (by simp <;> omega))); have HR5 := Lib.hid ((HR4.out.alloc _).below hb5); clear hb5))
            have hl := HLf.out
            rw [HLQ.out] at hl
            refine ⟨⟨dn ++ [(m, .slice A3 m.ps.length q3)], lp ++ lq, perm_take (by rw [← HLQ.out]; exact HP.out), rfl, ?_, by simp, HR5.out, HB5.out⟩, ?_⟩
            · rw [HTD.out]; simp
            · rw [HR5.out.left_eq, hl]; simp
end Go.Proofs.YtpgookhdffklkaaGreatDoor
