/-
  What the rows' listed variables give the walks; a world that holds them; entries as they come in.
-/
import Derived.Deep.DeepHandedRow
import Derived.Deep.DeepWitnessRowRef
import Derived.Lib.LaidTab
import Derived.Lib.LaidU8
import Derived.OpenShut
import Derived.ProofKit
import Derived.SizedLaws
import Derived.Test.YtpgookhdffklkaaGreatDoorRows
import Derived.Test.YtpgookhdffklkaaGreatDoorZLeafA
import Derived.Test.YtpgookhdffklkaaGreatDoorZShelf3
namespace Go.Proofs.YtpgookhdffklkaaGreatDoor
open Go.ChangeShapes Go.WideShapes Go.ChangeAt Go.RowKit Go.Shelf
theorem own : ownKnob Tryz.prog.godebug = none := by kernel_rfl
theorem laidOut : laidOutB Tryz.prog = true := by kernel_rfl
/-- The list of the rows. -/
def LL : List (String × DataW Unit) := Rows.fnExtractNoneRow.laid
theorem cells4 : Tryz.prog.cellsOf 4 = 1 := by kernel_rfl
theorem cells5 : Tryz.prog.cellsOf 5 = 1 := by kernel_rfl
theorem cells9 : Tryz.prog.cellsOf 9 = 1 := by kernel_rfl
theorem cells187 : Tryz.prog.cellsOf 187 = 256 := by kernel_rfl
theorem at_of_take1 {cs : List Value} {k : Nat} {v : Value} (h : (cs.drop k).take 1 = [v]) : cs[k]? = some v := by
  have := congrArg (·[0]?) h
  simpa [List.getElem?_take, List.getElem?_drop] using this
theorem bools_reads {W : World} {name : String} {g : Nat} {l : List Bool} (hn : Tryz.prog.globalNamed name = some g) (hy : (Tryz.prog.globals[g]?).map (·.type) = some 286)
    (h : Lib.VarReads Tryz.prog W name (.agg (l.map fun b => .lit (.bool b)))) (i : Nat) (b : Bool) (hi : l[i]? = some b) : W.cell? ⟨g, i, none⟩ = some (.bool b) := by
  obtain ⟨g', t, cs, fuel, p, hg, hty, hvar, hd⟩ := h
  obtain rfl := Option.some.inj (hn.symm.trans hg)
  obtain rfl := Option.some.inj (hy.symm.trans hty)
  obtain ⟨xs, m, rfl, hx, hlen, hxl, hel⟩ := DataW.trod_array Tryz.underlying286 hd
  have h1 : xs.map (·.1) = l.map fun b => (DataW.lit (.bool b) : DataW Unit) := by
    have := congrArg Prod.fst hx
    simpa using this.symm
  have h2 : (xs.map (·.1))[i]? = some (DataW.lit (.bool b)) := by rw [h1, List.getElem?_map, hi]; rfl
  rw [List.getElem?_map] at h2
  obtain ⟨y, hy1, hy2⟩ := Option.map_eq_some_iff.1 h2
  have hi2 : i < xs.length := (List.getElem?_eq_some_iff.1 hy1).1
  have h3 := hel i (by omega)
  rw [hy1, cells4, Nat.mul_one] at h3
  obtain ⟨b', hc, rfl⟩ := DataW.trod_bool Tryz.underlying4 h3
  simp only [DataW.lit.injEq, Lit.bool.injEq] at hy2
  subst hy2
  have h4 := at_of_take1 hc
  rw [World.var?_cell hn hvar i]
  simpa using h4
theorem trod_iface {H : Type} {enc : TypeId × Value → H} {P : Program} {w : World} {base : Nat} {sp : Nat → Bool} {held : Bool} {fuel : Nat} {t : TypeId} {ms : Array (String × TypeId)} {cs : List Value} {n : String} {d : DataW H} {p : List MemPlace}
    (ht : P.underlying t = some (.interface ms)) (h : DataW.trod enc P w base sp held fuel t cs = some (.iface n d, p)) : ∃ u v, cs = [.iface u v] := by
  cases fuel with
  | zero => simp [DataW.trod] at h
  | succ fuel =>
    unfold DataW.trod at h
    rw [ht] at h
    split at h <;> simp_all
theorem iface_reads {W : World} {name : String} {g : Nat} {n : String} {d : DataW Unit} (hn : Tryz.prog.globalNamed name = some g) (hy : (Tryz.prog.globals[g]?).map (·.type) = some 88)
    (h : Lib.VarReads Tryz.prog W name (.iface n d)) : ∃ t v, W.cell? ⟨g, 0, none⟩ = some (.iface t v) := by
  obtain ⟨g', t, cs, fuel, p, hg, hty, hvar, hd⟩ := h
  obtain rfl := Option.some.inj (hn.symm.trans hg)
  obtain rfl := Option.some.inj (hy.symm.trans hty)
  have hu := Tryz.underlying88
  have h1 : ∃ u v, cs.toList = [.iface u v] := trod_iface hu hd
  obtain ⟨u, v, hc⟩ := h1
  refine ⟨u, v, ?_⟩
  rw [World.var?_cell hn hvar 0, ← Array.getElem?_toList, hc]
  rfl
theorem eqFirst : (Rows.laid_unicode_utf8_first : DataW Unit) = Lib.firstData := by kernel_rfl
theorem eqAccept : (Rows.laid_unicode_utf8_acceptRanges : DataW Unit) = Lib.acceptData := by kernel_rfl
theorem eqAscii : (Rows.laid_strings_asciiSpace : DataW Unit) = Lib.tabData .u8 Lib.asciiSpaceTab := by kernel_rfl
theorem eqKey : (Rows.laid_pub_sextary_pub_otel_baggage_safeKeyCharset : DataW Unit) = .agg (((List.range 128).map keyN).map fun b => .lit (.bool b)) := by kernel_rfl
theorem eqVal : (Rows.laid_pub_sextary_pub_otel_baggage_safeValueCharset : DataW Unit) = .agg (((List.range 128).map valN).map fun b => .lit (.bool b)) := by kernel_rfl
theorem range_at {f : Nat → Bool} {i : Nat} (h : i < 128) : ((List.range 128).map f)[i]? = some (f i) := by simp [h]
theorem size14 {W : World} (h : W.ShapedOpen Tryz.prog) : 14 ≤ W.heap.size := by
  have h1 : ((((begin Tryz.prog (fun _ _ => 0) default).world.heap[13]?).bind Obj.row?)).isSome = true := by kernel_rfl
  obtain ⟨⟨z, t⟩, h2⟩ := Option.isSome_iff_exists.1 h1
  obtain ⟨cs, h3, _⟩ := h.1 13 z t (of_decide_eq_true (by kernel_rfl)) h2
  exact lt_of_heap h3
theorem env_of {W : World} (hL : laidMetH Tryz.prog LL W) (hs : W.ShapedOpen Tryz.prog) : Env W := by
  have r0 : Lib.VarReads Tryz.prog W "unicode/utf8.acceptRanges" Rows.laid_unicode_utf8_acceptRanges := Lib.laidMet.reads hL (.head _)
  have r1 : Lib.VarReads Tryz.prog W "unicode.White_Space" Rows.laid_unicode_White_Space := Lib.laidMet.reads hL (.tail _ (.head _))
  have r2 : Lib.VarReads Tryz.prog W "strings.asciiSpace" Rows.laid_strings_asciiSpace := Lib.laidMet.reads hL (.tail _ (.tail _ (.head _)))
  have r3 : Lib.VarReads Tryz.prog W "pub-sextary/pub/otel/baggage.errInvalidKey" Rows.laid_pub_sextary_pub_otel_baggage_errInvalidKey := Lib.laidMet.reads hL (.tail _ (.tail _ (.tail _ (.head _))))
  have r4 : Lib.VarReads Tryz.prog W "pub-sextary/pub/otel/baggage.errInvalidValue" Rows.laid_pub_sextary_pub_otel_baggage_errInvalidValue := Lib.laidMet.reads hL (.tail _ (.tail _ (.tail _ (.tail _ (.head _)))))
  have r5 : Lib.VarReads Tryz.prog W "pub-sextary/pub/otel/baggage.errInvalidProperty" Rows.laid_pub_sextary_pub_otel_baggage_errInvalidProperty := Lib.laidMet.reads hL (.tail _ (.tail _ (.tail _ (.tail _ (.tail _ (.head _))))))
  have r6 : Lib.VarReads Tryz.prog W "pub-sextary/pub/otel/baggage.errInvalidMember" Rows.laid_pub_sextary_pub_otel_baggage_errInvalidMember := Lib.laidMet.reads hL (.tail _ (.tail _ (.tail _ (.tail _ (.tail _ (.tail _ (.head _)))))))
  have r7 : Lib.VarReads Tryz.prog W "pub-sextary/pub/otel/baggage.errMemberNumber" Rows.laid_pub_sextary_pub_otel_baggage_errMemberNumber := Lib.laidMet.reads hL (.tail _ (.tail _ (.tail _ (.tail _ (.tail _ (.tail _ (.tail _ (.head _))))))))
  have r8 : Lib.VarReads Tryz.prog W "pub-sextary/pub/otel/baggage.errBaggageBytes" Rows.laid_pub_sextary_pub_otel_baggage_errBaggageBytes := Lib.laidMet.reads hL (.tail _ (.tail _ (.tail _ (.tail _ (.tail _ (.tail _ (.tail _ (.tail _ (.head _)))))))))
  have r9 : Lib.VarReads Tryz.prog W "pub-sextary/pub/otel/baggage.safeKeyCharset" Rows.laid_pub_sextary_pub_otel_baggage_safeKeyCharset := Lib.laidMet.reads hL (.tail _ (.tail _ (.tail _ (.tail _ (.tail _ (.tail _ (.tail _ (.tail _ (.tail _ (.head _))))))))))
  have r10 : Lib.VarReads Tryz.prog W "pub-sextary/pub/otel/baggage.safeValueCharset" Rows.laid_pub_sextary_pub_otel_baggage_safeValueCharset := Lib.laidMet.reads hL (.tail _ (.tail _ (.tail _ (.tail _ (.tail _ (.tail _ (.tail _ (.tail _ (.tail _ (.tail _ (.head _)))))))))))
  have r11 : Lib.VarReads Tryz.prog W "unicode/utf8.first" Rows.laid_unicode_utf8_first := Lib.laidMet.reads hL (.tail _ (.tail _ (.tail _ (.tail _ (.tail _ (.tail _ (.tail _ (.tail _ (.tail _ (.tail _ (.tail _ (.head _))))))))))))
  refine ⟨fun i hi => ?_, fun i hi => ?_, fun g hg => ?_, ?_, ?_, size14 hs⟩
  · rw [eqKey] at r9
    exact bools_reads (by kernel_rfl) (by kernel_rfl) r9 i _ (range_at hi)
  · rw [eqVal] at r10
    exact bools_reads (by kernel_rfl) (by kernel_rfl) r10 i _ (range_at hi)
  · rcases hg with rfl | rfl | rfl | rfl | rfl | rfl
    · exact iface_reads (by kernel_rfl) (by kernel_rfl) r6
    · exact iface_reads (by kernel_rfl) (by kernel_rfl) r7
    · exact iface_reads (by kernel_rfl) (by kernel_rfl) r8
    · exact iface_reads (by kernel_rfl) (by kernel_rfl) r3
    · exact iface_reads (by kernel_rfl) (by kernel_rfl) r4
    · exact iface_reads (by kernel_rfl) (by kernel_rfl) r5
  · rw [eqFirst] at r11
    rw [eqAccept] at r0
    exact utf8Tabs_of_reads (ρ := Tryz.lays197_ren) { Tryz.lays197 with } ⟨by kernel_rfl, by kernel_rfl, by kernel_rfl, by kernel_rfl, by kernel_rfl, by kernel_rfl, by kernel_rfl⟩ r11 r0
  · rw [eqAscii] at r2
    obtain ⟨g, t, cs, fuel, p, hg, hty, hvar, hd⟩ := r2
    obtain rfl := Option.some.inj ((show (Tryz.prog.globals[9]?).map (·.type) = some 187 by kernel_rfl).symm.trans (by rw [Option.some.inj ((named9).symm.trans hg)]; exact hty))
    have h := Lib.cells_of_tab Tryz.underlying187 Tryz.underlying5 cells5 cells187 hd
    unfold Lib.TabIs
    rw [hvar, ← h]
end Go.Proofs.YtpgookhdffklkaaGreatDoor
