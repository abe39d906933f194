/-
  FnExtractBaggage: the call returns true for every two lists of entries and a bool, and leaves its arguments as they were; under the program's own start values of the listed package-level variables.
-/
import Derived.Test.YtpgookhdffklkaaGreatDoorCards
import Derived.Test.YtpgookhdffklkaaGreatDoorTie
import Derived.Test.YtpgookhdffklkaaGreatDoorEnts
import Derived.Test.YtpgookhdffklkaaGreatDoorLawC
import Derived.Test.YtpgookhdffklkaaGreatDoorFactX
namespace Go.Proofs.YtpgookhdffklkaaGreatDoor
open Go.ChangeShapes Go.WideShapes Go.ChangeAt Go.RowKit

theorem witness5 (os : Os) {H : Type} (enc : TypeId × Value → H) :
    (OpenSpec.ofChange Rows.fnExtractBaggageSpec).preRow enc Tryz.prog Tryz.f5 Rows.fnExtractBaggageRow.domain false Rows.fnExtractBaggageRow.laid ((laidWorld os).forCall (fun _ _ => 0) ⟨#[], #[.slice none 0 0, .slice none 0 0, .bool false], []⟩).memory #[.slice none 0 0, .slice none 0 0, .bool false] := by
  have hw : (DataW.whole enc Tryz.prog ((laidWorld os).forCall (fun _ _ => 0) ⟨#[], #[.slice none 0 0, .slice none 0 0, .bool false], []⟩).memory Tryz.f5.params.toList (OpenSpec.ofChange Rows.fnExtractBaggageSpec).vars false #[Value.slice none 0 0, .slice none 0 0, .bool false].toList 8).map (fun x => (x.1, x.2.1)) =
      some ([.nil, .nil, .lit (.bool false)], []) := by kernel_rfl
  obtain ⟨⟨x1, x2, x3⟩, hx, hx1⟩ := Option.map_eq_some_iff.1 hw
  simp only [Prod.mk.injEq] at hx1
  obtain ⟨rfl, rfl⟩ := hx1
  exact OpenSpec.preRow_of_cond 8 hx (by kernel_rfl) (fun k hk => by cases hk) (by kernel_rfl) (laid_met os _)

set_option maxRecDepth 100000 in
set_option maxHeartbeats 2000000 in
theorem lifted5 (os : Os) (started : os.Started) (H : Type) (enc : TypeId × Value → H) (F : Stop.Interp) :
    ReturnsInHanded {} Tryz.checked os 5 .any ((OpenSpec.ofChange Rows.fnExtractBaggageSpec).preRow enc Tryz.prog Tryz.f5 Rows.fnExtractBaggageRow.domain false Rows.fnExtractBaggageRow.laid) (((OpenSpec.ofChange Rows.fnExtractBaggageSpec).at F).post enc Tryz.prog Tryz.f5 false true false false) := by
  refine returnsInHanded_of_row (C := Tryz.checked) (s := OpenSpec.ofChange Rows.fnExtractBaggageSpec) own started (by kernel_rfl) Tryz.func5
    (witness_row_atRef (enc := enc) (C := Tryz.checked) false (laidWorld os) #[.slice none 0 0, .slice none 0 0, .bool false] rfl (by kernel_rfl) (by kernel_rfl) (by kernel_rfl) (witness5 os enc)) ?_
  intro W base args ds gs before hval0 hW _ _ _ hL hsh _
  have hval : ∀ (j : Nat) t v, Tryz.f5.params[j]? = some t → args[j]? = some v → Value.okWide Tryz.prog W .any base t v := hval0
  have hW' := hW
  obtain ⟨p, q, hA0, hV0, rfl, _, _⟩ := hW
  have hA : DataW.TrodAll enc Tryz.prog W 0 (fun _ => true) true Tryz.f5.params.toList args.toList ds p := hA0
  rw [Tryz.params5] at hA hval
  obtain ⟨v0, v1, v2, d0, d1, d2, p0, p1, p2, rfl, rfl, rfl, h0, h1, h2⟩ := trodAll_three hA
  obtain ⟨rfl, rfl⟩ := trodVars_none hV0
  obtain ⟨a0, l0, c0, rfl⟩ := okWide_slice Tryz.underlying49 (hval 0 49 v0 rfl rfl)
  obtain ⟨a1, l1, c1, rfl⟩ := okWide_slice Tryz.underlying49 (hval 1 49 v1 rfl rfl)
  have h0k := h0
  have h1k := h1
  have h2k := h2
  obtain ⟨b2, rfl, rfl, rfl⟩ := open_bool Tryz.underlying4 (hval 2 4 v2 rfl rfl) h2
  obtain ⟨fuel0, hf0⟩ := h0
  obtain ⟨l, hl⟩ := open_ents hf0
  obtain ⟨fuel1, hf1⟩ := h1
  obtain ⟨m, hm⟩ := open_ents hf1
  clear hA0 hV0 hval0
  simp only [List.append_nil] at hW'
  have hlt : ∀ x ∈ p0, x.block < W.heap.size := fun x hx => hW'.lt x (by simp [hx])
  have hlt1 : ∀ x ∈ p1, x.block < W.heap.size := fun x hx => hW'.lt x (by simp [hx])
  refine (law5 l m _ _ b2 W (env_of hL hsh) hl hm).mono ?_
  rintro e W' ⟨rfl, bel⟩
  refine ⟨_, rfl, _, _, _, [], p0 ++ (p1 ++ []), [], hW', ?_, ?_, ?_, bel.frame _, fun h => by cases h⟩
  · exact trodAll_mk1 (shut_bool Tryz.underlying4 _)
  · exact trodAll_mk3 (Below.trod laidOut (by kernel_rfl) (of_decide_eq_true (by kernel_rfl)) h0k bel hlt) (Below.trod laidOut (by kernel_rfl) (of_decide_eq_true (by kernel_rfl)) h1k bel hlt1) (shut_bool Tryz.underlying4 _)
  · rfl
theorem prog_of : Tryz.pinned.checked.prog = Tryz.prog := rfl
theorem closed5' : joinedFacts Tryz.pinned.checked.prog 5 Tryz.f5 (OpenSpec.ofChange Rows.fnExtractBaggageSpec).bare Rows.fnExtractBaggageRow = true := by
  rw [prog_of]
  exact closed5
theorem said5 : Rows.FnExtractBaggageSaid :=
  OpenClaim.holds_of_cond 5 Tryz.f5 rfl rfl rfl rfl rfl rfl rfl ⟨rfl, rfl, rfl, rfl, rfl⟩ rfl rfl rfl rfl rfl (by kernel_rfl) Tryz.func5 closed5'
    (of_decide_eq_true (by kernel_rfl)) (by unfold Func.isWrapper; first | (rw [if_pos (by decide +kernel)]; kernel_rfl) | (rw [if_neg (by decide +kernel)]; exact ⟨rfl, rfl⟩))
    (fun os started H enc _ F => by rw [OpenClaim.pre_eq_preRow]; exact lifted5 os started H enc F)

theorem plain5 (f : FuncId) (fn : Func) (hf : Tryz.pinned.checked.prog.funcNamed "pub-sextary/laws.FnExtractBaggage" = some f) (hfn : Tryz.pinned.checked.prog.funcs[f]? = some fn) :
    true = Tryz.pinned.checked.prog.looks [] ∧ ∀ (j : Nat) t, fn.params[j]? = some t → Tryz.pinned.checked.prog.wantsStandIn t = false := by
  obtain rfl : f = 5 := Option.some.inj ((show Tryz.prog.funcNamed "pub-sextary/laws.FnExtractBaggage" = some 5 by kernel_rfl).symm.trans hf) |>.symm
  obtain rfl : fn = Tryz.f5 := (Option.some.inj (Tryz.func5.symm.trans hfn)).symm
  refine ⟨by kernel_rfl, fun j t ht => ?_⟩
  rw [Tryz.params5] at ht
  have hm := Array.mem_of_getElem? ht
  simp only [List.mem_toArray, List.mem_cons, List.not_mem_nil, or_false] at hm
  rcases hm with rfl | rfl | rfl
  · exact (show Tryz.prog.wantsStandIn 49 = false by kernel_rfl)
  · exact (show Tryz.prog.wantsStandIn 49 = false by kernel_rfl)
  · exact (show Tryz.prog.wantsStandIn 4 = false by kernel_rfl)

theorem card5 : Rows.FnExtractBaggageCardSaid :=
  Claim7.holds_tied_plain_at .later [] _ _ _ _ said5 (fun _ h => by cases h) (by kernel_rfl) (fun _ h => by cases h) fnExtractBaggage_row_tie rfl ⟨rfl, rfl⟩ (by kernel_rfl) rfl plain5 (by kernel_rfl)
end Go.Proofs.YtpgookhdffklkaaGreatDoor
