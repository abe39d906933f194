/-
  laws: baggageAwake answers true.
-/
import Derived.Lib.ValidLaws
import Derived.Test.YtpgookhdffklkaaGreatDoorMH
import Derived.Test.YtpgookhdffklkaaGreatDoorML
import Derived.Test.YtpgookhdffklkaaGreatDoorZBagS
import Derived.Test.YtpgookhdffklkaaGreatDoorZParJ
namespace Go.Proofs.YtpgookhdffklkaaGreatDoor
open Go.RowKit
def awP : Pr := ⟨[112], true, [32]⟩
def awA : Mem := ⟨[97], [120], []⟩
def awB : Mem := ⟨[98], [50], [awP]⟩
theorem awText : Lib.join ((([awB, awA] : List Mem).map pB).map mText) [44] = [98, 61, 50, 59, 112, 61, 37, 50, 48, 44, 97, 61, 120] := by decide +kernel
theorem awPs : psText [awP] = [112, 61, 37, 50, 48] := by decide +kernel
theorem vd1 (c : UInt8) (h : c.toNat < 128) : Lib.validD [c] = true := by rw [Lib.validD_cons c [] h]; rfl
theorem awPok : OkT awP := ⟨by decide +kernel, vd1 32 (by decide), (fun h => by cases h), by decide, by decide⟩
theorem awOk : ∀ m ∈ ([awB, awA] : List Mem), OkR m := by
  intro m hm
  simp only [List.mem_cons, List.not_mem_nil, or_false] at hm
  rcases hm with rfl | rfl
  · refine ⟨by decide +kernel, vd1 50 (by decide), by decide, by decide, by decide, fun p hp => ?_, by show (psText [awP]).length ≤ _; rw [awPs]; decide⟩
    have : p = awP := by simpa [awB] using hp
    rw [this]; exact awPok
  · exact ⟨by decide +kernel, vd1 120 (by decide), by decide, by decide, by decide, fun p hp => (by cases hp), by show (psText []).length ≤ _; rw [psText_nil]; decide⟩
theorem awTot : tot (([awB, awA] : List Mem).map pB) = 13 := by
  rw [← tot_join, awText]; rfl
theorem RowA.toC {w : World} {e T : TypeId} {v : Value} {ml : List MA} (h : RowA w e T v ml) : RowC w v ml := ⟨argOfSl h.1, fun x hx => argOfSl (h.2 x hx)⟩
theorem awRow (W : World) : RowC ((W.alloc (.cells #[.string ⟨#[112]⟩, .bool true, .string ⟨#[32]⟩] 34)).alloc (.cells #[.string ⟨#[97]⟩, .string ⟨#[120]⟩, .slice none 0 0, .string ⟨#[98]⟩, .string ⟨#[50]⟩, .slice (some ⟨W.heap.size, 0, none⟩) 1 1] 29)) (.slice (some ⟨W.heap.size + 1, 0, none⟩) 2 2) [(awA, none, 0), (awB, some ⟨W.heap.size, 0, none⟩, 1)] := by
  have K1 := Blk.new1 W (.cells #[.string ⟨#[112]⟩, .bool true, .string ⟨#[32]⟩] 34) 29 #[.string ⟨#[97]⟩, .string ⟨#[120]⟩, .slice none 0 0, .string ⟨#[98]⟩, .string ⟨#[50]⟩, .slice (some ⟨W.heap.size, 0, none⟩) 1 1]
  have K0 := (Blk.new W 34 #[.string ⟨#[112]⟩, .bool true, .string ⟨#[32]⟩]).alloc (.cells #[.string ⟨#[97]⟩, .string ⟨#[120]⟩, .slice none 0 0, .string ⟨#[98]⟩, .string ⟨#[50]⟩, .slice (some ⟨W.heap.size, 0, none⟩) 1 1] 29)
  refine ⟨⟨_, _, rfl, by simp, by unfold maxLen; omega, fun _ => ⟨_, _, rfl, K1.lt, fun j u hj => ?_⟩⟩, fun x hx => ?_⟩
  · rw [K1.cell, Nat.zero_add]
    rw [List.getElem?_toArray]
    exact hj
  · simp only [List.mem_cons, List.not_mem_nil, or_false] at hx
    rcases hx with rfl | rfl
    · exact ⟨_, _, rfl, Nat.le_refl _, Nat.zero_le _, fun h => absurd rfl h⟩
    · refine ⟨_, _, rfl, Nat.le_refl _, (by show 1 ≤ maxLen; unfold maxLen; omega), fun _ => ⟨_, _, rfl, K0.lt, fun j u hj => ?_⟩⟩
      rw [K0.cell, Nat.zero_add, List.getElem?_toArray]
      exact hj
set_option maxRecDepth 100000 in
set_option maxHeartbeats 8000000 in
theorem awake_any (w : World) (hE : Env w) :
    Calls Tryz.prog 11 #[] w fun e w' => e = .returned (.bool true) ∧ Below w.heap.size w w' := by
  have HE := Lib.hid hE
  have z := fun W h => parseBaggage_mems [awB, awA] W h (by simp) awOk (by decide) (by decide) (by rw [awTot]; decide)
  rw [awText] at z
  have C1 := fun W h => Lib.hid (show Calls Tryz.prog 18 #[.string ⟨#[98, 61, 50, 59, 112, 61, 37, 50, 48, 44, 97, 61, 120]⟩] W (fun e w' => (∃ (v : Value) (s : List UInt8), e = .returned (.tuple #[v, .int .i64 2, .string (bs s), .bool true]) ∧ s.length = 13 ∧ ∃ ml : List MA, ml.map (·.1) = [awA, awB] ∧ RowA w' 82 146 v ml) ∧ Below W.heap.size W w') from by
    refine (z W h).mono ?_
    rintro e w' ⟨⟨ml, v, L, hp, hs, hL, he, hr⟩, hb⟩
    refine ⟨⟨v, _, he, ?_, ml, ?_, hr⟩, hb⟩
    · rw [tot_join, tot_perm hL, awTot]
    · refine List.Perm.eq_of_pairwise (le := fun a b : Mem => ¬ b.k < a.k) ?_ ?_ ?_ (hp.trans (List.Perm.swap awA awB []))
      · intro a b ha hb h1 h2
        have ha' := hp.mem_iff.1 ha
        simp only [List.mem_cons, List.not_mem_nil, or_false] at ha' hb
        rcases ha' with rfl | rfl <;> rcases hb with rfl | rfl
        · exact absurd (by decide : awA.k < awB.k) h1
        · rfl
        · rfl
        · exact absurd (by decide : awA.k < awB.k) h2
      · rw [List.pairwise_map]
        exact hs.imp fun {x y} h => by simpa [ltK] using h
      · decide)
  have C2 := fun W h => Lib.hid (parseBaggage_a W h)
  have C3 := fun (ml : List MA) v W h (hm : ml.map (·.1) = [awA, awB]) => Lib.hid (ofMembers_any ml v W h (by have := congrArg List.length hm; simp at this; omega) (fun x hx => by
    have := List.mem_map_of_mem (f := fun x : MA => x.1) hx
    rw [hm] at this
    simp only [List.mem_cons, List.not_mem_nil, or_false] at this
    rcases this with e | e <;> (rw [e]; decide)))
  have C4 := fun (ml : List MA) v (W : World) (h : RowA W 29 34 v ml) (hm : ml.map (·.1) = [awA, awB]) => Lib.hid (show Calls Tryz.prog 20 #[v, .slice (some ⟨W.heap.size + 1, 0, none⟩) 2 2] ((W.alloc (.cells #[.string ⟨#[112]⟩, .bool true, .string ⟨#[32]⟩] 34)).alloc (.cells #[.string ⟨#[97]⟩, .string ⟨#[120]⟩, .slice none 0 0, .string ⟨#[98]⟩, .string ⟨#[50]⟩, .slice (some ⟨W.heap.size, 0, none⟩) 1 1] 29)) (fun e w' => e = .returned (.bool true) ∧ Below W.heap.size W w') from by
    have hb0 := ((Below.refl W.heap.size W).alloc (Nat.le_refl _) (.cells #[.string ⟨#[112]⟩, .bool true, .string ⟨#[32]⟩] 34)).alloc (by simp) (.cells #[.string ⟨#[97]⟩, .string ⟨#[120]⟩, .slice none 0 0, .string ⟨#[98]⟩, .string ⟨#[50]⟩, .slice (some ⟨W.heap.size, 0, none⟩) 1 1] 29)
    refine (same_same ml _ v _ _ (h.toC.below hb0) (awRow W) (by rw [hm]; rfl)).mono ?_
    rintro e w' ⟨he, hb⟩
    exact ⟨he, hb0.trans (hb.mono hb0.size)⟩)
  clear hE z
  go_enter Tryz.func11, Tryz.ntmps11
  go_wp2_with (first
    | (go_at_call 18; (refine (C1 _ HE.out).out.mono ?_); rintro e w1 ⟨⟨v1, s1, rfl, hs1, ml, hml, hr1⟩, hb1⟩; have HB1 := Lib.hid hb1; have HR1 := Lib.hid hr1; have HML := Lib.hid hml; have HS1 := Lib.hid hs1; obtain ⟨A1, q1, hq1⟩ := hr1.1.form; subst hq1; clear hb1 hr1 hml C1)
    | (go_at_call 18; (refine (C2 _ (HE.out.below HB1.out)).out.mono ?_); rintro e w2 ⟨rfl, hb2⟩; have HB2 := Lib.hid (HB1.out.trans (hb2.mono HB1.out.size)); have HR2 := Lib.hid (HR1.out.below hb2); clear hb2)
    | (go_at_call 19; (with_reducible refine (C3 ml _ _ (RowA.toC HR2.out) HML.out).out.mono ?_); rintro e w3 ⟨⟨v3, rfl, ml3, hml3, hr3⟩, hb3⟩; have HB3 := Lib.hid (HB2.out.trans (hb3.mono HB2.out.size)); have HR3 := Lib.hid hr3; have HM3 := Lib.hid hml3; obtain ⟨A3, q3, hq3⟩ := hr3.1.form; subst hq3; clear hb3 hr3 hml3)
    | (go_at_call 20; (refine (C4 ml3 _ w3 HR3.out (HM3.out.trans HML.out)).out.mono ?_); rintro e w4 ⟨rfl, hb4⟩; have HB4 := Lib.hid (HB3.out.trans (hb4.mono HB3.out.size)); clear hb4))
  go_ret
  exact ⟨rfl, HB4.out⟩
end Go.Proofs.YtpgookhdffklkaaGreatDoor
