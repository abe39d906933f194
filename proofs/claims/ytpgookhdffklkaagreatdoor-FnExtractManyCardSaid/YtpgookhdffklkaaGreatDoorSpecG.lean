/-
  laws: carryAwake: one member is injected as its text, and extracted.
-/
import Derived.Test.YtpgookhdffklkaaGreatDoorSpecF
namespace Go.Proofs.YtpgookhdffklkaaGreatDoor
open Go.RowKit

def kE : En := ([107, 101, 121], [118, 97, 108, 117, 101])
theorem kE_ok : okE kE = true := by decide +kernel
theorem kE_text : mText (toBE kE) = [107, 101, 121, 61, 118, 97, 108, 117, 101] := by decide +kernel
theorem kE_parts : Parts [[toBE kE]] :=
  ⟨fun ms hms m hm => by
    simp only [List.mem_singleton] at hms
    subst hms
    simp only [List.mem_singleton] at hm
    subst hm
    exact okE_pl kE_ok, fun ms hms => by
    simp only [List.mem_singleton] at hms
    subst hms
    simp, by simp, by
    show (Lib.join [Lib.join [mText (toBE kE)] [44]] [44]).length ≤ 8192
    rw [Lib.join_one, Lib.join_one, kE_text]
    decide⟩
theorem kE_row (w : World) : RowA (w.alloc (.cells #[.string ⟨#[107, 101, 121]⟩, .string ⟨#[118, 97, 108, 117, 101]⟩, .slice none 0 0] 82)) 82 146 (.slice (some ⟨w.heap.size, 0, none⟩) 1 1) ([kE].map toMA) :=
  ⟨SlV.of_blk (c := 1) (Blk.new w 82 _) (Nat.le_refl _) (by unfold maxLen; omega), fun x hx => by
    obtain ⟨y, _, rfl⟩ := List.mem_map.1 hx
    exact SlV.nil _ _⟩

set_option maxRecDepth 100000 in
set_option maxHeartbeats 4000000 in
theorem inject_kE (w : World) (hE : Env w) : Calls Tryz.prog 27 #[.slice (some ⟨w.heap.size, 0, none⟩) 1 1] (w.alloc (.cells #[.string ⟨#[107, 101, 121]⟩, .string ⟨#[118, 97, 108, 117, 101]⟩, .slice none 0 0] 82)) fun e w' =>
    (∃ ev fv : Value, e = .returned (.tuple #[ev, fv, .bool true]) ∧ SlV w' 56 ev 1 [.string (bs bagKey), .string (bs [107, 101, 121, 61, 118, 97, 108, 117, 101])] ∧ SlV w' 9 fv 1 [.string (bs bagKey)]) ∧ Below w.heap.size w w' := by
  have hA := (Below.refl w.heap.size w).alloc (Nat.le_refl _) (.cells #[.string ⟨#[107, 101, 121]⟩, .string ⟨#[118, 97, 108, 117, 101]⟩, .slice none 0 0] 82)
  have hd : dedB (([kE].map toMA).map fun x => toB x.1) = [toBE kE] := by rw [map_toB]; exact dedB_id (by simp)
  refine (injectBaggage_any ([kE].map toMA) _ _ (hE.below hA) (kE_row w) (by simp) (fun x hx => ?_) (fun x hx => ?_) (by simp) (by rw [hd]; simp) (by rw [hd]; exact tot_small (l := [kE]) ⟨fun x hx => by (simp only [List.mem_singleton] at hx; subst hx; exact kE_ok), by simp, by simp⟩)).mono ?_
  · obtain ⟨y, hy, rfl⟩ := List.mem_map.1 hx
    simp only [List.mem_singleton] at hy
    subst hy
    exact okE_ok kE_ok
  · obtain ⟨y, hy, rfl⟩ := List.mem_map.1 hx
    simp only [List.mem_singleton] at hy
    subst hy
    exact (okE_parts kE_ok).1
  · rintro e w' ⟨⟨L, ev, fv, hL, rfl, h1, h2⟩, hb⟩
    rw [hd] at hL
    obtain rfl := List.perm_singleton.1 hL
    refine ⟨⟨ev, fv, rfl, ?_, h2⟩, hA.trans (hb.mono hA.size)⟩
    rw [List.map_singleton, Lib.join_one, kE_text] at h1
    exact h1
theorem extract_kE (v : Value) (w : World) (hE : Env w) (hv : SlV w 9 v 1 [.string (bs [107, 101, 121, 61, 118, 97, 108, 117, 101])]) : Calls Tryz.prog 29 #[.slice none 0 0, .bool false, v] w fun e w' =>
    (∃ (A : Option Addr) (q : Nat) (x : MA), e = .returned (.tuple #[.slice A 1 q, .bool true]) ∧ x.1.v = [118, 97, 108, 117, 101] ∧ SlV w' 82 (.slice A 1 q) 1 (encA x)) ∧ Below w.heap.size w w' := by
  have hd : dedB (([] : List MA).map fun x => toB x.1) = [] := rfl
  refine (extractBaggage_any false [[toBE kE]] kE_parts [] (.slice none 0 0) v w hE ⟨SlV.nil _ _, PsI.nil _ _⟩ (fun x hx => by cases hx) (fun x hx => by cases hx) (by simp) (by rw [hd]; decide) ?_).mono ?_
  · have e : strs ([[toBE kE]].map textOf) = [.string (bs [107, 101, 121, 61, 118, 97, 108, 117, 101])] := by
      show [Value.string (bs (Lib.join [mText (toBE kE)] [44]))] = _
      rw [Lib.join_one, kE_text]
    rw [e]
    exact hv
  · rintro e w' ⟨⟨Lr, ml, u, hx, hp, -, rfl, hr⟩, hb⟩
    rcases hx with ⟨h, -⟩ | ⟨-, rfl⟩
    · cases h
    · have h1 : (ml.map (·.1)) = [rdB (toBE kE)] := List.perm_singleton.1 hp
      obtain ⟨x, rfl⟩ : ∃ x, ml = [x] := by
        cases ml with
        | nil => cases h1
        | cons a r =>
          cases r with
          | nil => exact ⟨a, rfl⟩
          | cons b s => simp at h1
      simp only [List.map_cons, List.map_nil, List.cons.injEq, and_true] at h1
      obtain ⟨A, q, hq⟩ := hr.1.form
      refine ⟨⟨A, q, x, by rw [hq]; rfl, by rw [h1]; rfl, ?_⟩, hb⟩
      have z := hr.1
      rw [hq] at z
      simpa using z

set_option maxRecDepth 100000 in
set_option maxHeartbeats 4000000 in
theorem carryAwake_any (w : World) (hE : Env w) : Calls Tryz.prog 26 #[] w fun e w' => e = .returned (.bool true) ∧ Below w.heap.size w w' := by
  have HE := Lib.hid hE
  have C1 := Lib.hid (inject_kE w hE)
  have C2 := fun v W h h1 => Lib.hid (extract_kE v W h h1)
  clear hE
  go_enter Tryz.func26, Tryz.ntmps26
  go_wp2_with (first
    | (go_at_call 27; (with_reducible refine C1.out.mono ?_); rintro e w2 ⟨⟨ev, fv, rfl, hev, hfv⟩, hb2⟩; obtain ⟨b1, o1, c1, hq1, -, -, hbb1, hcl1⟩ := hev.cells (by simp); subst hq1; obtain ⟨b2, o2, c2, hq2, -, -, hbb2, hcl2⟩ := hfv.cells (by simp); subst hq2; have HB2 := Lib.hid hb2; have HC1 := Lib.hid hcl1; have HC2 := Lib.hid hcl2; have HT := Lib.hid (show SlV (w2.alloc (.cells #[.string ⟨#[107, 101, 121, 61, 118, 97, 108, 117, 101]⟩] 9)) 9 (.slice (some ⟨w2.heap.size, 0, none⟩) 1 1) 1 [.string (bs [107, 101, 121, 61, 118, 97, 108, 117, 101])] from SlV.of_blk (c := 1) (Blk.new w2 9 _) (Nat.le_refl _) (by unfold maxLen; omega)); have HA2 := Lib.hid ((Below.refl w2.heap.size w2).alloc (Nat.le_refl _) (.cells #[.string ⟨#[107, 101, 121, 61, 118, 97, 108, 117, 101]⟩] 9)); clear hev hfv hb2 hcl1 hcl2)
    | (go_at_call 29; (with_reducible refine (C2 _ _ (HE.out.below (HB2.out.trans (HA2.out.mono HB2.out.size))) HT.out).out.mono ?_); rintro e w3 ⟨⟨A3, q3, x3, rfl, hx3, hs3⟩, hb3⟩; have HW3 := Lib.hid (HA2.out.trans (hb3.mono HA2.out.size)); have HB3 := Lib.hid (HB2.out.trans (HW3.out.mono HB2.out.size)); obtain ⟨b3, o3, c3, hq3, -, -, hbb3, hcl3⟩ := hs3.cells (by simp [encA]); injection hq3 with hqa hqb hqc; subst hqa; subst hqc; have e3 : w3.cell? ⟨b3, o3 + 1, none⟩ = some (.string ⟨#[118, 97, 108, 117, 101]⟩) := (by have z := hcl3 1 _ rfl; rw [hx3] at z; exact z); have e1 : w3.cell? ⟨b1, o1, none⟩ = some (.string ⟨#[98, 97, 103, 103, 97, 103, 101]⟩) := (HW3.out.cell (p := ⟨b1, o1, none⟩) hbb1).trans (by have z := HC1.out 0 _ rfl; exact z); have e2 : w3.cell? ⟨b1, o1 + 1, none⟩ = some (.string ⟨#[107, 101, 121, 61, 118, 97, 108, 117, 101]⟩) := (HW3.out.cell (p := ⟨b1, o1 + 1, none⟩) hbb1).trans (by have z := HC1.out 1 _ rfl; exact z); have e4 : w3.cell? ⟨b2, o2, none⟩ = some (.string ⟨#[98, 97, 103, 103, 97, 103, 101]⟩) := (HW3.out.cell (p := ⟨b2, o2, none⟩) hbb2).trans (by have z := HC2.out 0 _ rfl; exact z); clear hx3 hs3 hb3 hcl3))
  go_ret
  exact ⟨rfl, HB3.out⟩
end Go.Proofs.YtpgookhdffklkaaGreatDoor
