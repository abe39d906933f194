/-
  FnExtractMany: the call returns true for every list of lists of entries, and leaves its arguments as they were; under the program's own start values of the listed package-level variables.
-/
import Derived.Test.YtpgookhdffklkaaGreatDoorCards
import Derived.Test.YtpgookhdffklkaaGreatDoorTie
import Derived.Test.YtpgookhdffklkaaGreatDoorEnts
import Derived.Test.YtpgookhdffklkaaGreatDoorLawD
import Derived.Test.YtpgookhdffklkaaGreatDoorFactM
namespace Go.Proofs.YtpgookhdffklkaaGreatDoor
open Go.ChangeShapes Go.WideShapes Go.ChangeAt Go.RowKit

theorem cells49 : Tryz.prog.cellsOf 49 = 1 := by kernel_rfl
theorem open_many {H : Type} {enc : TypeId × Value → H} {W : World} {fuel len cap : Nat} {a0 : Option Addr} {x : DataW H × List MemPlace} (hf : DataW.trod enc Tryz.prog W 0 (fun _ => true) true fuel 62 [.slice a0 len cap] = some x) : ∃ ls : List (List En), ManyE W (.slice a0 len cap) ls := by
  rcases DataW.trod_slice Tryz.underlying62 hf with ⟨hcs, -⟩ | ⟨a, len', cap', elems, rest, n, -, hcs, -, -, hl, hm, hlen, hel, -⟩
  · simp only [List.cons.injEq, Value.slice.injEq, and_true] at hcs
    obtain ⟨rfl, rfl, rfl⟩ := hcs
    exact ⟨[], [], rfl, ⟨none, 0, rfl, Nat.le_refl _, by simp [maxLen], fun h => absurd rfl h⟩, fun i hi => by simp at hi⟩
  · simp only [List.cons.injEq, Value.slice.injEq, and_true] at hcs
    obtain ⟨rfl, rfl, rfl⟩ := hcs
    have h1 : ∀ i, i < len → ∃ y : Value × List En, W.cell? ((a.add (i * 1)).add 0) = some y.1 ∧ RowE W y.1 y.2 := fun i hi => by
      have h2 := hel i hi
      rw [cells49, List.getElem?_eq_getElem (by omega)] at h2
      obtain ⟨cs, hcs, h3⟩ := Option.bind_eq_some_iff.1 h2
      obtain ⟨-, hn, hc⟩ := World.cells?_some hcs
      rcases DataW.trod_slice Tryz.underlying49 h3 with ⟨hcs3, -⟩ | ⟨a3, len3, cap3, _, _, _, -, hcs3, -⟩
      · subst hcs3
        obtain ⟨l, hl⟩ := open_ents h3
        exact ⟨(_, l), hc 0 (by omega), hl⟩
      · subst hcs3
        obtain ⟨l, hl⟩ := open_ents h3
        exact ⟨(_, l), hc 0 (by omega), hl⟩
    obtain ⟨ys, hyl, hyp⟩ := list_of len h1
    refine ⟨ys.map (·.2), ys.map (·.1), by simp, ⟨some a, cap, by rw [List.length_map, hyl], by rw [List.length_map]; omega, hm, fun hx => ?_⟩, fun i hi => ?_⟩
    · have h0 : 0 < ys.length := by
        rcases Nat.eq_zero_or_pos ys.length with e | e
        · exact absurd (by rw [List.eq_nil_of_length_eq_zero e]; rfl) hx
        · exact e
      obtain ⟨b, off, spot⟩ := a
      have hspot : spot = none := by simpa [Addr.add] using World.cell?_spot (hyp 0 h0).1
      subst hspot
      refine ⟨b, off, rfl, ?_, fun j u hj => ?_⟩
      · have h2 := (hyp 0 h0).1
        rw [add_off, add_off] at h2
        unfold World.cell? at h2
        split at h2
        · rename_i hb; exact lt_of_heap hb
        · cases h2
      · rw [List.getElem?_map] at hj
        obtain ⟨y, hy, rfl⟩ := Option.map_eq_some_iff.1 hj
        obtain ⟨hjl, rfl⟩ := List.getElem?_eq_some_iff.1 hy
        have h2 := (hyp j hjl).1
        rw [add_off, add_off] at h2
        simpa using h2
    · have hi' : i < ys.length := by simpa using hi
      exact ⟨(ys[i]'hi').1, by rw [List.getElem?_map, List.getElem?_eq_getElem hi']; rfl, by rw [List.getElem_map]; exact (hyp i hi').2⟩

theorem witness8 (os : Os) {H : Type} (enc : TypeId × Value → H) :
    (OpenSpec.ofChange Rows.fnExtractManySpec).preRow enc Tryz.prog Tryz.f8 Rows.fnExtractManyRow.domain false Rows.fnExtractManyRow.laid ((laidWorld os).forCall (fun _ _ => 0) ⟨#[], #[.slice none 0 0], []⟩).memory #[.slice none 0 0] := by
  have hw : (DataW.whole enc Tryz.prog ((laidWorld os).forCall (fun _ _ => 0) ⟨#[], #[.slice none 0 0], []⟩).memory Tryz.f8.params.toList (OpenSpec.ofChange Rows.fnExtractManySpec).vars false #[Value.slice none 0 0].toList 8).map (fun x => (x.1, x.2.1)) =
      some ([.nil], []) := by kernel_rfl
  obtain ⟨⟨x1, x2, x3⟩, hx, hx1⟩ := Option.map_eq_some_iff.1 hw
  simp only [Prod.mk.injEq] at hx1
  obtain ⟨rfl, rfl⟩ := hx1
  exact OpenSpec.preRow_of_cond 8 hx (by kernel_rfl) (fun k hk => by cases hk) (by kernel_rfl) (laid_met os _)

set_option maxRecDepth 100000 in
set_option maxHeartbeats 2000000 in
theorem lifted8 (os : Os) (started : os.Started) (H : Type) (enc : TypeId × Value → H) (F : Stop.Interp) :
    ReturnsInHanded {} Tryz.checked os 8 .any ((OpenSpec.ofChange Rows.fnExtractManySpec).preRow enc Tryz.prog Tryz.f8 Rows.fnExtractManyRow.domain false Rows.fnExtractManyRow.laid) (((OpenSpec.ofChange Rows.fnExtractManySpec).at F).post enc Tryz.prog Tryz.f8 false true false false) := by
  refine returnsInHanded_of_row (C := Tryz.checked) (s := OpenSpec.ofChange Rows.fnExtractManySpec) own started (by kernel_rfl) Tryz.func8
    (witness_row_atRef (enc := enc) (C := Tryz.checked) false (laidWorld os) #[.slice none 0 0] rfl (by kernel_rfl) (by kernel_rfl) (by kernel_rfl) (witness8 os enc)) ?_
  intro W base args ds gs before hval0 hW _ _ _ hL hsh _
  have hval : ∀ (j : Nat) t v, Tryz.f8.params[j]? = some t → args[j]? = some v → Value.okWide Tryz.prog W .any base t v := hval0
  have hW' := hW
  obtain ⟨p, q, hA0, hV0, rfl, _, _⟩ := hW
  have hA : DataW.TrodAll enc Tryz.prog W 0 (fun _ => true) true Tryz.f8.params.toList args.toList ds p := hA0
  rw [Tryz.params8] at hA hval
  obtain ⟨v0, d0, rfl, rfl, h0⟩ := trodAll_one hA
  obtain ⟨rfl, rfl⟩ := trodVars_none hV0
  obtain ⟨a0, l0, c0, rfl⟩ := okWide_slice Tryz.underlying62 (hval 0 62 v0 rfl rfl)
  have h0k := h0
  obtain ⟨fuel0, hf0⟩ := h0
  obtain ⟨l, hl⟩ := open_many hf0
  clear hA0 hV0 hval0
  simp only [List.append_nil] at hW'
  have hlt : ∀ x ∈ p, x.block < W.heap.size := fun x hx => hW'.lt x (by simpa using hx)
  refine (law8 l _ W (env_of hL hsh) hl).mono ?_
  rintro e W' ⟨rfl, bel⟩
  refine ⟨_, rfl, _, _, _, [], p, [], hW', ?_, ?_, ?_, bel.frame _, fun h => by cases h⟩
  · exact trodAll_mk1 (shut_bool Tryz.underlying4 _)
  · exact trodAll_mk1 (Below.trod laidOut (by kernel_rfl) (of_decide_eq_true (by kernel_rfl)) h0k bel hlt)
  · rfl
theorem prog_of : Tryz.pinned.checked.prog = Tryz.prog := rfl
theorem closed8' : joinedFacts Tryz.pinned.checked.prog 8 Tryz.f8 (OpenSpec.ofChange Rows.fnExtractManySpec).bare Rows.fnExtractManyRow = true := by
  rw [prog_of]
  exact closed8
theorem said8 : Rows.FnExtractManySaid :=
  OpenClaim.holds_of_cond 8 Tryz.f8 rfl rfl rfl rfl rfl rfl rfl ⟨rfl, rfl, rfl, rfl, rfl⟩ rfl rfl rfl rfl rfl (by kernel_rfl) Tryz.func8 closed8'
    (of_decide_eq_true (by kernel_rfl)) (by unfold Func.isWrapper; first | (rw [if_pos (by decide +kernel)]; kernel_rfl) | (rw [if_neg (by decide +kernel)]; exact ⟨rfl, rfl⟩))
    (fun os started H enc _ F => by rw [OpenClaim.pre_eq_preRow]; exact lifted8 os started H enc F)

theorem plain8 (f : FuncId) (fn : Func) (hf : Tryz.pinned.checked.prog.funcNamed "pub-sextary/laws.FnExtractMany" = some f) (hfn : Tryz.pinned.checked.prog.funcs[f]? = some fn) :
    true = Tryz.pinned.checked.prog.looks [] ∧ ∀ (j : Nat) t, fn.params[j]? = some t → Tryz.pinned.checked.prog.wantsStandIn t = false := by
  obtain rfl : f = 8 := Option.some.inj ((show Tryz.prog.funcNamed "pub-sextary/laws.FnExtractMany" = some 8 by kernel_rfl).symm.trans hf) |>.symm
  obtain rfl : fn = Tryz.f8 := (Option.some.inj (Tryz.func8.symm.trans hfn)).symm
  refine ⟨by kernel_rfl, fun j t ht => ?_⟩
  rw [Tryz.params8] at ht
  have hm := Array.mem_of_getElem? ht
  simp only [List.mem_toArray, List.mem_cons, List.not_mem_nil, or_false] at hm
  subst hm
  exact (show Tryz.prog.wantsStandIn 62 = false by kernel_rfl)

theorem card8 : Rows.FnExtractManyCardSaid :=
  Claim7.holds_tied_plain_at .later [] _ _ _ _ said8 (fun _ h => by cases h) (by kernel_rfl) (fun _ h => by cases h) fnExtractMany_row_tie rfl ⟨rfl, rfl⟩ (by kernel_rfl) rfl plain8 (by kernel_rfl)
end Go.Proofs.YtpgookhdffklkaaGreatDoor
