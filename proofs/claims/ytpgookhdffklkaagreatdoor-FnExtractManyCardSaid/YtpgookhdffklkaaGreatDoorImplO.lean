/-
  impl: bagged: a context with a list of members.
-/
import Derived.Test.YtpgookhdffklkaaGreatDoorImplN
namespace Go.Proofs.YtpgookhdffklkaaGreatDoor
open Go.RowKit

def toB (m : Mem) : BM := ⟨m.k, m.v, [], m.ps⟩
theorem cellsAt {w : World} {b off : Nat} {ml : List MA} (hc : ∀ (j : Nat) (u : Value), (ml.flatMap encA)[j]? = some u → w.cell? ⟨b, off + j, none⟩ = some u) (k : Nat) (h : k < ml.length) :
    w.cell? ⟨b, off + k * 3, none⟩ = some (.string (bs ml[k].1.k)) ∧ w.cell? ⟨b, off + k * 3 + 1, none⟩ = some (.string (bs ml[k].1.v)) ∧ w.cell? ⟨b, off + k * 3 + 2, none⟩ = some (.slice ml[k].2.1 ml[k].1.ps.length ml[k].2.2) := by
  have h0 := flat_get encA 3 encA_len ml k 0 h (by omega)
  have h1 := flat_get encA 3 encA_len ml k 1 h (by omega)
  have h2 := flat_get encA 3 encA_len ml k 2 h (by omega)
  exact ⟨hc (k * 3) _ h0, hc (k * 3 + 1) _ h1, hc (k * 3 + 2) _ h2⟩
theorem flatA_ne {ml : List MA} (h : ml ≠ []) : ml.flatMap encA ≠ [] := by
  intro e
  have := congrArg List.length e
  rw [flat_len encA 3 encA_len] at this
  exact h (List.eq_nil_of_length_eq_zero (by rw [List.length_nil] at this; omega))
theorem sm_of_ok {m : BM} (h : OkM m) (h0 : m.md = []) : SmM m := ⟨h.lk, h.lv, by rw [h0]; simp, fun p hp => ⟨(h.ps p hp).lk, (h.ps p hp).lv⟩, h.lp⟩

set_option maxRecDepth 100000 in
set_option maxHeartbeats 1000000 in
theorem bagged_nil (A : Option Addr) (q : Nat) (w : World) :
    Calls Tryz.prog 58 #[.slice A 0 q] w fun e w' => e = .returned (.tuple #[.iface 234 (.agg #[]), .bool true]) ∧ Below w.heap.size w w' := by
  have C1 := fun W => Lib.hid (background_any W)
  simp only [ctx0] at C1
  go_enter Tryz.func58, Tryz.ntmps58
  go_wp2_with (go_at_call 105; (with_reducible refine (C1 _).out.mono ?_); rintro e w1 ⟨rfl, rfl⟩)
  go_ret2
  exact ⟨rfl, Below.refl _ _⟩

/-- The state of the loop of bagged. -/
structure BSt (w : World) (ml : List MA) (sv i : Value) (wr : World) (j : Nat) (pl : PL) : Prop where
  hj : j ≤ ml.length
  hi : i = .int .i64 j
  hown : wr.ownsRow w.heap.size 86 5 sv j (pl.flatMap encM)
  hpl : pl.map (·.1) = (ml.take j).map fun x => toB x.1
  hps : PsR wr 148 pl
  hb : Below w.heap.size w wr

set_option maxRecDepth 100000 in
set_option maxHeartbeats 8000000 in
theorem bagged_any (ml : List MA) (v : Value) (w : World) (hE : Env w) (hv : RowA w 82 146 v ml) (h0 : ml ≠ []) (hok : ∀ x ∈ ml, OkM (toB x.1)) (hn : ml.length ≤ 1000)
    (h64 : (dedB (ml.map fun x => toB x.1)).length ≤ 64) (h8 : tot (dedB (ml.map fun x => toB x.1)) ≤ 8192) :
    Calls Tryz.prog 58 #[v] w fun e w' => (∃ (D : PL) (b : Nat), D.map (·.1) = dedB (ml.map fun x => toB x.1) ∧ e = .returned (.tuple #[.iface 299 (.agg #[.iface 234 (.agg #[]), .iface 237 (.int .i64 0), .iface 242 (.agg #[.map (some b), .nilFunc, .nilFunc])]), .bool true]) ∧ ListR w' b D) ∧ Below w.heap.size w w' := by
  obtain ⟨bb, off, c, rfl, hc1, hc2, hbb, hc⟩ := hv.1.cells (flatA_ne h0)
  have HE := Lib.hid hE
  have HV := Lib.hid hv.2
  have HC := Lib.hid hc
  have HOK := Lib.hid hok
  have H64 := Lib.hid h64
  have H8 := Lib.hid h8
  have C1 := fun W => Lib.hid (background_any W)
  simp only [ctx0] at C1
  have hl0 : ((ml.length : Int) == 0) = false := by
    have : ml.length ≠ 0 := by simpa using h0
    simp; omega
  have H0 := Lib.hid h0
  clear hE hv hc hok h64 h8 h0
  go_enter Tryz.func58, Tryz.ntmps58
  go_wp2_with (go_at_call 105; (with_reducible refine (C1 _).out.mono ?_); rintro e w1 ⟨rfl, rfl⟩)
  go_loopw [5, 7, 8, 9, 19] (fun sv _ _ _ i wr => ∃ (j : Nat) (pl : PL), BSt w ml sv i wr j pl) (fun _ _ _ _ i _ => ml.length - (intOf i).toNat)
  case atStart => exact ⟨0, [], ⟨Nat.zero_le _, rfl, World.ownsRow_nil _ _ _ _, rfl, PsR.nil _ _, Below.refl _ _⟩⟩
  case round =>
    obtain ⟨j, pl, ⟨hj, rfl, hown, hpl, hps, hb⟩⟩ := hrel
    have HB := Lib.hid hb
    have HO := Lib.hid hown
    have HPL := Lib.hid hpl
    have HPS := Lib.hid hps
    have hge := hb.size
    have hpll : pl.length = j := by have z := congrArg List.length hpl; simp at z; omega
    clear hb hown hpl hps
    by_cases hlt : j < ml.length
    · obtain ⟨i0, i1, i2⟩ := cellsAt (fun z u hz => (HB.out.cell (p := ⟨bb, off + z, none⟩) hbb).trans (HC.out z u hz)) j hlt
      have hmem := List.getElem_mem hlt
      have HOm := Lib.hid (HOK.out _ hmem)
      have HVm := Lib.hid ((HV.out _ hmem).below HB.out)
      have HT := Lib.hid (show (ml.take (j + 1)).map (fun x => toB x.1) = (ml.take j).map (fun x => toB x.1) ++ [toB ml[j].1] by rw [List.take_succ_eq_append_getElem hlt, List.map_append]; rfl)
      have CM := fun (W : World) (h1 : Env W) (h2 : SlV W 146 (.slice (ml[j]'hlt).2.1 (ml[j]'hlt).1.ps.length (ml[j]'hlt).2.2) (ml[j]'hlt).1.ps.length ((ml[j]'hlt).1.ps.flatMap encI)) => Lib.hid (memberMade_ok (ml[j]'hlt).1.k (ml[j]'hlt).1.v (ml[j]'hlt).1.ps (.slice (ml[j]'hlt).2.1 (ml[j]'hlt).1.ps.length (ml[j]'hlt).2.2) W h1 HOm.out h2)
      have hjl : j ≤ 4294967296 := by omega
      clear hmem
      go_wp2_with (first
        | (go_at_call 43; (with_reducible refine (CM _ (HE.out.below (HB.out.alloc hge _)) (HVm.out.below ((Below.refl _ _).alloc (Nat.le_refl _) _))).out.mono ?_); rintro e w2 ⟨mv, rfl, hmv, hb2⟩; have HW2 := Lib.hid (((Below.refl wr.heap.size wr).alloc (Nat.le_refl _) (.cells #[.string (bs ml[j].1.k), .string (bs ml[j].1.v), .slice ml[j].2.1 ml[j].1.ps.length ml[j].2.2] 82)).trans (hb2.mono (by simp))); have HO2 := Lib.hid (own_below HO.out HW2.out); have hge2 := HW2.out.size; obtain ⟨pv2, hpv2, hsl2⟩ := hmv; subst hpv2; have HSL2 := Lib.hid hsl2; obtain ⟨A2, q2, hq2⟩ := hsl2.form; subst hq2; clear hb2)
        | (at_builtin; refine app1g rfl (.tmp 31) (.tmp 33) 79 rfl w.heap.size 86 86 _ 5 80 Tryz.underlying79 info86 rfl (by decide) (by decide) u5 j _ rfl (encM (toB ml[j].1, .slice A2 ml[j].1.ps.length q2)) (own_below HO2.out ((Below.refl _ _).alloc (Nat.le_refl _) _)) _ rfl rfl (by intro u hu; simp only [encM, List.mem_cons, List.not_mem_nil, or_false] at hu; rcases hu with rfl | rfl | rfl | rfl | rfl <;> rfl) hjl (by simp <;> omega) (by simp) ?_; intro v6 w6 hown6 hg6 _))
      have hK := (Keeps.refl (w2.alloc (.cells #[.string (bs ml[j].1.k), .string (bs ml[j].1.v), .string (bs []), .slice A2 ml[j].1.ps.length q2, .bool true] 86))).grown (T := fun e => e ≠ 86) (own_below HO2.out ((Below.refl _ _).alloc (Nat.le_refl _) _)) hg6 (by simp)
      refine ⟨⟨j + 1, pl ++ [(toB ml[j].1, .slice A2 ml[j].1.ps.length q2)], ⟨by omega, by go_num, own_cast hown6 rfl (by simp), by rw [List.map_append, HPL.out, HT.out]; rfl, (((HPS.out.below HW2.out).snoc (m := toB ml[j].1) HSL2.out).below ((Below.refl _ _).alloc (Nat.le_refl _) _)).keeps hK (by simp), below_app ((HB.out.trans (HW2.out.mono hge)).alloc (by omega) _) (by simp <;> omega) (own_below HO2.out ((Below.refl _ _).alloc (Nat.le_refl _) _)) (Nat.le_refl _) hg6⟩⟩, by simp [intOf]; omega⟩
    · have e : j = ml.length := by omega
      subst e
      rw [List.take_of_length_le (Nat.le_refl _)] at HPL
      have hpne : pl ≠ [] := by
        intro e
        rw [e] at hpll
        exact H0.out (List.eq_nil_of_length_eq_zero hpll.symm)
      have hrow : RowM wr u5 pl := ⟨by have z := SlV.of_own HO.out; rw [← hpll] at z; exact z, HPS.out⟩
      have CN := Lib.hid (new_any pl u5 wr (HE.out.below HB.out) hrow hpne (fun x hx => by
          have z := List.mem_map_of_mem (f := fun x : BM × Value => x.1) hx
          rw [HPL.out] at z
          obtain ⟨y, hy, hy2⟩ := List.mem_map.1 z
          rw [← hy2]
          exact sm_of_ok (HOK.out y hy) rfl) (fun x hx hmd => by
          have z := List.mem_map_of_mem (f := fun x : BM × Value => x.1) hx
          rw [HPL.out] at z
          obtain ⟨y, hy, hy2⟩ := List.mem_map.1 z
          rw [← hy2] at hmd
          exact absurd rfl hmd) (by omega) (by rw [HPL.out]; exact H64.out) (by rw [HPL.out]; exact H8.out))
      have CX := fun m W => Lib.hid (withBag_ctx0 m W)
      clear hrow
      go_wp2_with (go_at_call 44; (with_reducible refine CN.out.mono ?_); rintro e w2 ⟨⟨D, b, hD, rfl, hL⟩, hb2⟩; have HB2 := Lib.hid (HB.out.trans (hb2.mono hge)); have HL2 := Lib.hid hL; have HD2 := Lib.hid hD; clear hb2 hL hD)
      go_region_law (go_simp; go_at_call 106; (with_reducible refine (CX _ _).out.mono ?_); rintro e w3 ⟨rfl, hb3⟩; have HW3 := Lib.hid (below_then (B := w2.heap.size) (a := w2) hb3 (by simp) (by have z := (Below.refl w2.heap.size w2).alloc (Nat.le_refl _) (.cells #[.map (some b)] 94); exact ⟨z.os, z.tape, z.output, z.size, z.block⟩)); clear hb3)
      all_goals go_wp2
      all_goals go_ret2
      all_goals exact ⟨⟨D, b, HD2.out.trans (by rw [HPL.out]), rfl, HL2.out.below (by have z := HW3.out; exact ⟨z.os, z.tape, z.output, z.size, z.block⟩)⟩, below_then HW3.out HB2.out.size (by have z := HB2.out; exact ⟨z.os, z.tape, z.output, z.size, z.block⟩)⟩
end Go.Proofs.YtpgookhdffklkaaGreatDoor
