/-
  propagation: the map carrier, Inject.
-/
import Derived.Test.YtpgookhdffklkaaGreatDoorImplO
namespace Go.Proofs.YtpgookhdffklkaaGreatDoor
open Go.RowKit

theorem und113 : Tryz.prog.underlying 113 = some (.map 9 9) := Tryz.underlying113
theorem zero9 (w : World) : (zeroValue 9).run Tryz.prog w = .ok (.string ⟨#[]⟩) w := by
  obtain ⟨i0, hi, hz0, hz1, hz2⟩ := info_parts info9
  simp [zeroValue, typeInfo, hi, hz0]
set_option maxRecDepth 100000 in
set_option maxHeartbeats 1000000 in
theorem mapSet_any (b : Nat) (l : AL) (k v : List UInt8) (w : World) (h : MapS w b l) :
    Calls Tryz.prog 270 #[.map (some b), .string (bs k), .string (bs v)] w fun e w' => e = .returned (.tuple #[]) ∧ MapS w' b (putS l k (.string (bs v))) ∧ w.grownBy w' (some b) ∧ w'.heap.size = w.heap.size ∧ Keeps (fun _ => True) w w' := by
  obtain ⟨w', hup, h1, h2, h3, h4⟩ := h.update und113 k (.string (bs v))
  have H1 := Lib.hid h1
  have H2 := Lib.hid h2
  have H3 := Lib.hid h3
  have H4 := Lib.hid h4
  clear h1 h2 h3 h4 h
  go_enter Tryz.func270, Tryz.ntmps270
  go_wp2
  refine bodyPost_end (v := .tuple #[]) (results_none rfl _ _ _) rfl ?_
  exact ⟨rfl, H1.out, H2.out, H3.out, H4.out⟩
set_option maxRecDepth 100000 in
set_option maxHeartbeats 1000000 in
theorem mapGet_any (b : Nat) (l : AL) (k : List UInt8) (w : World) (h : MapS w b l) :
    Calls Tryz.prog 269 #[.map (some b), .string (bs k)] w fun e w' => e = .returned ((getS l k).getD (.string ⟨#[]⟩)) ∧ w = w' := by
  have hlk := h.lookup und113 (zero9 w) k false
  clear h
  go_enter Tryz.func269, Tryz.ntmps269
  go_wp2
  go_ret
  exact ⟨rfl, rfl⟩
theorem meth113s (h : Value) (w : World) : (Go.method 435 113 h "Set").run Tryz.prog w = .ok (270, h) w := by kernel_rfl
theorem meth113g (h : Value) (w : World) : (Go.method 435 113 h "Get").run Tryz.prog w = .ok (269, h) w := by kernel_rfl

def bagKey : List UInt8 := [98, 97, 103, 103, 97, 103, 101]
theorem mText_ne {m : BM} (h : tok m.k = true) : (mText m).isEmpty = false := by
  unfold mText
  rw [if_pos h]
  simp
theorem mTexts_all (pl : PL) (h : ∀ x ∈ pl, tok x.1.k = true) : mTexts pl = pl.map fun x => mText x.1 := by
  unfold mTexts
  rw [List.filter_eq_self.2]
  intro t ht
  obtain ⟨x, hx, rfl⟩ := List.mem_map.1 ht
  rw [mText_ne (h x hx)]; rfl
theorem join_ne (ts : List (List UInt8)) (c : UInt8) (h0 : ts ≠ []) (h : ∀ t ∈ ts, t.isEmpty = false) : (Lib.join ts [c]).isEmpty = false := by
  cases ts with
  | nil => exact absurd rfl h0
  | cons x r =>
    rw [Lib.join_cons]
    have := h x (by simp)
    cases x with
    | nil => cases this
    | cons a t => rfl

set_option maxRecDepth 100000 in
set_option maxHeartbeats 2000000 in
/-- Inject of a list of members whose keys are tokens, into an empty map. -/
theorem inject_any (pl : PL) (bl b : Nat) (w : World) (hE : Env w) (hL : ListR w bl pl) (h0 : pl ≠ []) (hsm : SmL 8192 pl) (htok : ∀ x ∈ pl, tok x.1.k = true) (hn : pl.length ≤ 1000) (hb : MapS w b []) (ag : Value) (hag : ag = .agg #[]) :
    Calls Tryz.prog 59 #[ag, .iface 299 (.agg #[.iface 234 (.agg #[]), .iface 237 (.int .i64 0), .iface 242 (.agg #[.map (some bl), .nilFunc, .nilFunc])]), .iface 113 (.map (some b))] w
      fun e w' => e = .returned (.tuple #[]) ∧ (∃ pl' : PL, pl'.Perm pl ∧ MapS w' b [(bagKey, .string (bs (Lib.join (pl'.map fun x => mText x.1) [44])))]) ∧ ∃ w1, Below w.heap.size w w1 ∧ w1.grownBy w' (some b) ∧ Keeps (fun _ => True) w1 w' := by
  subst hag
  have HE := Lib.hid hE
  have HL := Lib.hid hL
  have HB := Lib.hid hb
  have HT := Lib.hid htok
  have HZ := Lib.hid h0
  have m1 := meth113s
  have C1 := fun W => Lib.hid (from_ctx1 234 (.agg #[]) (some bl) W)
  have C2 := fun W h h1 => Lib.hid (bagString_any pl bl W h h1 8192 (by omega) hsm (by omega))
  have C3 := fun v W h => Lib.hid (mapSet_any b [] bagKey v W h)
  clear hE hL hb htok h0 hsm
  go_enter Tryz.func59, Tryz.ntmps59
  go_wp2_with (first
    | (go_at_call 63; (with_reducible refine (C1 _).out.mono ?_); rintro e w1 ⟨rfl, hb1⟩; have HW1 := Lib.hid (((Below.refl w.heap.size w).alloc (Nat.le_refl _) (.cells #[] 115)).trans (hb1.mono (by simp))); clear hb1)
    | (go_at_call 47; (with_reducible refine (C2 _ (HE.out.below HW1.out) (HL.out.below HW1.out)).out.mono ?_); rintro e w2 ⟨⟨pl', hp, rfl⟩, hb2⟩; have HW2 := Lib.hid (HW1.out.trans (hb2.mono HW1.out.size)); have HP := Lib.hid hp; have HTX := Lib.hid (mTexts_all pl' (fun x hx => HT.out x (hp.mem_iff.1 hx))); have HNE := join_ne (mTexts pl') 44 (by rw [HTX.out]; intro e; exact HZ.out (by have z := hp.length_eq; rw [List.map_eq_nil_iff] at e; rw [e] at z; exact List.eq_nil_of_length_eq_zero z.symm)) (by rw [HTX.out]; intro t ht; obtain ⟨x, hx, rfl⟩ := List.mem_map.1 ht; exact mText_ne (HT.out x (hp.mem_iff.1 hx))); clear hb2 hp)
    | (go_at_call 270; (refine (C3 _ _ (HB.out.below HW2.out)).out.mono ?_); rintro e w3 ⟨rfl, h1, h2, h3, h4⟩; have H1 := Lib.hid h1; have H2 := Lib.hid h2; have H4 := Lib.hid h4; clear h1 h2 h3 h4))
  rw [HTX.out] at H1
  refine bodyPost_end (v := .tuple #[]) (results_none rfl _ _ _) rfl ⟨rfl, ⟨pl', HP.out, by simpa [putS, getS] using H1.out⟩, w2, HW2.out, H2.out, H4.out⟩
end Go.Proofs.YtpgookhdffklkaaGreatDoor
