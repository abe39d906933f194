/-
  propagation: the values of the header carrier; contexts with and without members; a single value extracted.
-/
import Derived.Test.YtpgookhdffklkaaGreatDoorImplS
import Derived.Test.YtpgookhdffklkaaGreatDoorCanon
namespace Go.Proofs.YtpgookhdffklkaaGreatDoor
open Go.RowKit

theorem und331 : Tryz.prog.underlying 331 = some (.map 9 46) := Tryz.underlying331
theorem zero46 (w : World) : (zeroValue 46).run Tryz.prog w = .ok (.slice none 0 0) w := by
  obtain ⟨i0, hi, hz0, hz1, hz2⟩ := info_parts (show (Tryz.prog.info? 46).map (fun i => (i.zero, i.size, i.bytes)) = some (some (.slice none 0 0), 1, 24) by kernel_rfl)
  simp [zeroValue, typeInfo, hi, hz0]
set_option maxRecDepth 100000 in
set_option maxHeartbeats 1000000 in
theorem headerValues_any (b : Nat) (l : AL) (w : World) (h : MapS w b l) :
    Calls Tryz.prog 274 #[.map (some b), .string ⟨#[98, 97, 103, 103, 97, 103, 101]⟩] w fun e w' => e = .returned ((getS l BagKey).getD (.slice none 0 0)) ∧ Below w.heap.size w w' := by
  have H := Lib.hid h
  have C := fun W => Lib.hid (canon_bag W)
  clear h
  have C2 : ∀ W, MapS W b l → Hid (Calls Tryz.prog 277 #[.map (some b), .string ⟨#[98, 97, 103, 103, 97, 103, 101]⟩] W fun e w' => e = .returned ((getS l BagKey).getD (.slice none 0 0)) ∧ Below W.heap.size W w') := by
    intro W hW
    refine Lib.hid ?_
    have HW := Lib.hid hW
    clear hW H
    go_enter Tryz.func277, Tryz.ntmps277
    go_wp2_with (go_at_call 278; (refine (C _).out.mono ?_); rintro e w1 ⟨rfl, hb1⟩; have HB1 := Lib.hid hb1; have hlk := (HW.out.below hb1).lookup und331 (zero46 _) BagKey false; clear hb1)
    go_ret
    exact ⟨rfl, HB1.out⟩
  go_enter Tryz.func274, Tryz.ntmps274
  go_wp2_with (go_at_call 277; (refine (C2 _ H.out).out.mono ?_); rintro e w1 ⟨rfl, hb1⟩)
  go_ret
  exact ⟨rfl, hb1⟩

/-! ### Contexts -/
/-- A context whose members are the map m (none: no members). -/
def Ctx (c : Value) (m : Option Nat) : Prop := (c = .iface 234 (.agg #[]) ∧ m = none) ∨ ∃ t p, c = .iface 299 (.agg #[.iface t p, .iface 237 (.int .i64 0), .iface 242 (.agg #[.map m, .nilFunc, .nilFunc])])
theorem Ctx.form {c : Value} {m : Option Nat} (h : Ctx c m) : ∃ t p, c = .iface t p := by
  rcases h with ⟨rfl, _⟩ | ⟨t, p, rfl⟩ <;> exact ⟨_, _, rfl⟩
theorem from_any (c : Value) (m : Option Nat) (h : Ctx c m) (w : World) : Calls Tryz.prog 63 #[c] w fun e w' => e = .returned (.agg #[.map m]) ∧ Below w.heap.size w w' := by
  rcases h with ⟨rfl, rfl⟩ | ⟨t, p, rfl⟩
  · exact from_ctx0 w
  · exact from_ctx1 t p m w
theorem withBag_any (c : Value) (m0 m : Option Nat) (h : Ctx c m0) (w : World) : Calls Tryz.prog 106 #[c, .agg #[.map m]] w fun e w' => (∃ c', e = .returned c' ∧ Ctx c' m) ∧ Below w.heap.size w w' := by
  rcases h with ⟨rfl, rfl⟩ | ⟨t, p, rfl⟩
  · exact (withBag_ctx0 m w).mono fun e w' ⟨he, hb⟩ => ⟨⟨_, he, Or.inr ⟨_, _, rfl⟩⟩, hb⟩
  · exact (withBag_ctx1 t p m0 m w).mono fun e w' ⟨he, hb⟩ => ⟨⟨_, he, Or.inr ⟨_, _, rfl⟩⟩, hb⟩

/-! ### The single value -/
set_option maxRecDepth 100000 in
set_option maxHeartbeats 2000000 in
/-- No value, or an empty one. -/
theorem single_none (c : Value) (m0 : Option Nat) (hc : Ctx c m0) (b : Nat) (l : AL) (w : World) (h : MapS w b l) (hl : (getS l bagKey).getD (.string ⟨#[]⟩) = .string ⟨#[]⟩) :
    Calls Tryz.prog 111 #[c, .iface 113 (.map (some b))] w fun e w' => e = .returned c ∧ Below w.heap.size w w' := by
  have C1 : ∀ W, MapS W b l → Hid (Calls Tryz.prog 269 #[.map (some b), .string (bs bagKey)] W fun e w' => e = .returned (.string ⟨#[]⟩) ∧ W = w') := fun W hW => by
    have z := mapGet_any b l bagKey W hW
    rw [hl] at z
    exact Lib.hid z
  have H := Lib.hid h
  have m1 := meth113g
  obtain ⟨t, p, rfl⟩ := hc.form
  clear h hl hc
  go_enter Tryz.func111, Tryz.ntmps111
  go_wp2_with (go_at_call 269; (refine (C1 _ H.out).out.mono ?_); rintro e w1 ⟨rfl, rfl⟩)
  go_ret
  exact ⟨rfl, Below.refl _ _⟩

theorem len_ne0 {D : PL} {ms : List BM} (hD : D.map (·.1) = ms) (h0 : ms ≠ []) : ((D.length : Int) == 0) = false := by
  have z := congrArg List.length hD
  have y := List.length_pos_iff.2 h0
  simp only [List.length_map] at z
  have : ¬ ((D.length : Int) = 0) := by omega
  simpa using this
set_option maxRecDepth 100000 in
set_option maxHeartbeats 4000000 in
/-- The text of members. -/
theorem single_texts (ms : List BM) (c : Value) (m0 : Option Nat) (hc : Ctx c m0) (b : Nat) (w : World) (hE : Env w) (h : MapS w b [(bagKey, .string (bs (Lib.join (ms.map mText) [44])))]) (h0 : ms ≠ []) (hms : ∀ m ∈ ms, PlM m) (hnd : (ms.map (·.k)).Nodup) (h64 : ms.length ≤ 64) (h8 : tot ms ≤ 8192) :
    Calls Tryz.prog 111 #[c, .iface 113 (.map (some b))] w fun e w' => (∃ (c' : Value) (D : PL) (b' : Nat), e = .returned c' ∧ Ctx c' (some b') ∧ D.map (·.1) = ms ∧ ListR w' b' D) ∧ Below w.heap.size w w' := by
  have hne : (Lib.join (ms.map mText) [44]).isEmpty = false := by simpa using joinM_ne ms h0 hms
  have C2 := fun W h => Lib.hid (parse_texts ms W h h0 hms hnd h64 h8)
  generalize Lib.join (ms.map mText) [44] = T at *
  have C1 : ∀ W, MapS W b [(bagKey, .string (bs T))] → Hid (Calls Tryz.prog 269 #[.map (some b), .string (bs bagKey)] W fun e w' => e = .returned (.string (bs T)) ∧ W = w') := fun W hW => by
    have z := mapGet_any b _ bagKey W hW
    exact Lib.hid (by simpa [getS] using z)
  have H := Lib.hid h
  have HE := Lib.hid hE
  have HCx := Lib.hid hc
  have H0 := Lib.hid h0
  have m1 := meth113g
  obtain ⟨t, p, rfl⟩ := hc.form
  have C4 := fun m W => Lib.hid (withBag_any (.iface t p) m0 m HCx.out W)
  clear h hE hc h0 hms
  go_enter Tryz.func111, Tryz.ntmps111
  go_wp2_with (first
    | (go_at_call 269; (refine (C1 _ H.out).out.mono ?_); rintro e w1 ⟨rfl, rfl⟩)
    | (go_at_call 49; (with_reducible refine (C2 _ HE.out).out.mono ?_); rintro e w2 ⟨⟨D, b', hD, rfl, hL⟩, hb2⟩; have HB2 := Lib.hid hb2; have HD := Lib.hid hD; have HL := Lib.hid hL; have HJ := Lib.hid (Blk.new w2 94 #[.map (some b')]); have hlD := len_ne0 hD H0.out; clear hb2 hD hL)
    | (go_at_call 46; (with_reducible refine (bagLen_any D b' _ (HL.out.below (by exact (Below.refl _ _).alloc (Nat.le_refl _) _))).mono ?_); rintro e w3 ⟨rfl, hb3⟩; have HB3 := Lib.hid ((HB2.out.alloc HB2.out.size (.cells #[.map (some b')] 94)).trans (hb3.mono (by simp; exact Nat.le_succ_of_le HB2.out.size))); have HL3 := Lib.hid ((HL.out.below ((Below.refl _ _).alloc (Nat.le_refl _) _)).below hb3); have HJ3 := Lib.hid (HJ.out.belowS hb3); clear hb3; obtain ⟨c1, c2, c3, c4⟩ := HJ3.out.use)
    | (go_at_call 106; (with_reducible refine (C4 _ _).out.mono ?_); rintro e w4 ⟨⟨c', rfl, hcx⟩, hb4⟩; have HB4 := Lib.hid (HB3.out.trans (hb4.mono HB3.out.size)); have HL4 := Lib.hid (HL3.out.below hb4); have HX4 := Lib.hid hcx; clear hb4 hcx))
  go_ret
  exact ⟨⟨_, D, b', rfl, HX4.out, HD.out, HL4.out⟩, HB4.out⟩
end Go.Proofs.YtpgookhdffklkaaGreatDoor
