/-
  A world that holds what the rows list: the settled one, its variables as their initialisers lay them.
-/
import Derived.Lib.LaidIn
import Derived.Test.YtpgookhdffklkaaGreatDoorZShut
namespace Go.Proofs.YtpgookhdffklkaaGreatDoor
open Go.ChangeShapes Go.WideShapes Go.ChangeAt Go.RowKit Go.Shelf
noncomputable def laidWorld (os : Os) : World :=
  let N := (World.settled Tryz.prog os).heap.size
  let w0 := World.holding Tryz.prog os ⟨#[.cells (Lib.whiteT.map fun (z : Nat) => Value.int .u16 (z : Int)).toArray 312, .cells #[.slice (some ⟨N, 0, none⟩) 7 7, .slice none 0 0, .int .i64 2] 309,
    .cells #[.string ⟨#[105, 110, 118, 97, 108, 105, 100, 32, 98, 97, 103, 103, 97, 103, 101, 32, 108, 105, 115, 116, 45, 109, 101, 109, 98, 101, 114]⟩] 220,
    .cells #[.string ⟨#[116, 111, 111, 32, 109, 97, 110, 121, 32, 108, 105, 115, 116, 45, 109, 101, 109, 98, 101, 114, 115, 32, 105, 110, 32, 98, 97, 103, 103, 97, 103, 101, 45, 115, 116, 114, 105, 110, 103]⟩] 220,
    .cells #[.string ⟨#[98, 97, 103, 103, 97, 103, 101, 45, 115, 116, 114, 105, 110, 103, 32, 116, 111, 111, 32, 108, 97, 114, 103, 101]⟩] 220,
    .cells #[.string ⟨#[105, 110, 118, 97, 108, 105, 100, 32, 107, 101, 121]⟩] 220,
    .cells #[.string ⟨#[105, 110, 118, 97, 108, 105, 100, 32, 118, 97, 108, 117, 101]⟩] 220,
    .cells #[.string ⟨#[105, 110, 118, 97, 108, 105, 100, 32, 98, 97, 103, 103, 97, 103, 101, 32, 108, 105, 115, 116, 45, 109, 101, 109, 98, 101, 114, 32, 112, 114, 111, 112, 101, 114, 116, 121]⟩] 220], #[], []⟩
  let put (h : Array Obj) (g : Nat) (cs : Array Value) : Array Obj := h.modify g fun
    | .cells _ t frozen => .cells cs t frozen
    | o => o
  let h1 := put w0.heap 9 (Lib.asciiSpaceTab.map fun z => Value.int .u8 z).toArray
  let h2 := put h1 3 (Lib.firstTab.map fun z => Value.int .u8 z).toArray
  let h3 := put h2 4 ((List.range 16).flatMap fun i => [Value.int .u8 (Lib.accLo i), Value.int .u8 (Lib.accHi i)]).toArray
  let h4 := put h3 12 #[.pointer (some ⟨N + 1, 0, none⟩)]
  let h5 := put h4 10 ((List.range 128).map fun i => Value.bool (keyN i)).toArray
  let h6 := put h5 11 ((List.range 128).map fun i => Value.bool (valN i)).toArray
  let e0 := put h6 0 #[.iface 218 (.pointer (some ⟨N + 2, 0, none⟩))]
  let e1 := put e0 1 #[.iface 218 (.pointer (some ⟨N + 3, 0, none⟩))]
  let e2 := put e1 2 #[.iface 218 (.pointer (some ⟨N + 4, 0, none⟩))]
  let e3 := put e2 5 #[.iface 218 (.pointer (some ⟨N + 5, 0, none⟩))]
  let e4 := put e3 6 #[.iface 218 (.pointer (some ⟨N + 6, 0, none⟩))]
  let e5 := put e4 7 #[.iface 218 (.pointer (some ⟨N + 7, 0, none⟩))]
  { w0 with heap := e5 }
noncomputable def NN : Nat := (World.settled Tryz.prog default).heap.size
/-- The memory of a call in that world. -/
noncomputable def WW (os : Os) (args : Array Value) : World := ((laidWorld os).forCall (fun _ _ => 0) ⟨#[], args, []⟩).memory
theorem in0 (os : Os) (args : Array Value) : LaidIn Tryz.prog (WW os args) [("unicode/utf8.acceptRanges", Rows.laid_unicode_utf8_acceptRanges)] [4] := LaidIn.of_run _ 10 (by kernel_rfl) (by kernel_rfl) (by kernel_rfl) (by kernel_rfl)
theorem in1 (os : Os) (args : Array Value) : LaidIn Tryz.prog (WW os args) [("unicode.White_Space", Rows.laid_unicode_White_Space)] [12, NN + 1, NN] := LaidIn.of_run _ 10 (by kernel_rfl) (by kernel_rfl) (by kernel_rfl) (by kernel_rfl)
theorem in2 (os : Os) (args : Array Value) : LaidIn Tryz.prog (WW os args) [("strings.asciiSpace", Rows.laid_strings_asciiSpace)] [9] := LaidIn.of_run _ 10 (by kernel_rfl) (by kernel_rfl) (by kernel_rfl) (by kernel_rfl)
theorem in3 (os : Os) (args : Array Value) : LaidIn Tryz.prog (WW os args) [("pub-sextary/pub/otel/baggage.errInvalidKey", Rows.laid_pub_sextary_pub_otel_baggage_errInvalidKey)] [5, NN + 5] := LaidIn.of_run _ 10 (by kernel_rfl) (by kernel_rfl) (by kernel_rfl) (by kernel_rfl)
theorem in4 (os : Os) (args : Array Value) : LaidIn Tryz.prog (WW os args) [("pub-sextary/pub/otel/baggage.errInvalidValue", Rows.laid_pub_sextary_pub_otel_baggage_errInvalidValue)] [6, NN + 6] := LaidIn.of_run _ 10 (by kernel_rfl) (by kernel_rfl) (by kernel_rfl) (by kernel_rfl)
theorem in5 (os : Os) (args : Array Value) : LaidIn Tryz.prog (WW os args) [("pub-sextary/pub/otel/baggage.errInvalidProperty", Rows.laid_pub_sextary_pub_otel_baggage_errInvalidProperty)] [7, NN + 7] := LaidIn.of_run _ 10 (by kernel_rfl) (by kernel_rfl) (by kernel_rfl) (by kernel_rfl)
theorem in6 (os : Os) (args : Array Value) : LaidIn Tryz.prog (WW os args) [("pub-sextary/pub/otel/baggage.errInvalidMember", Rows.laid_pub_sextary_pub_otel_baggage_errInvalidMember)] [0, NN + 2] := LaidIn.of_run _ 10 (by kernel_rfl) (by kernel_rfl) (by kernel_rfl) (by kernel_rfl)
theorem in7 (os : Os) (args : Array Value) : LaidIn Tryz.prog (WW os args) [("pub-sextary/pub/otel/baggage.errMemberNumber", Rows.laid_pub_sextary_pub_otel_baggage_errMemberNumber)] [1, NN + 3] := LaidIn.of_run _ 10 (by kernel_rfl) (by kernel_rfl) (by kernel_rfl) (by kernel_rfl)
theorem in8 (os : Os) (args : Array Value) : LaidIn Tryz.prog (WW os args) [("pub-sextary/pub/otel/baggage.errBaggageBytes", Rows.laid_pub_sextary_pub_otel_baggage_errBaggageBytes)] [2, NN + 4] := LaidIn.of_run _ 10 (by kernel_rfl) (by kernel_rfl) (by kernel_rfl) (by kernel_rfl)
theorem in9 (os : Os) (args : Array Value) : LaidIn Tryz.prog (WW os args) [("pub-sextary/pub/otel/baggage.safeKeyCharset", Rows.laid_pub_sextary_pub_otel_baggage_safeKeyCharset)] [10] := LaidIn.of_run _ 10 (by kernel_rfl) (by kernel_rfl) (by kernel_rfl) (by kernel_rfl)
theorem in10 (os : Os) (args : Array Value) : LaidIn Tryz.prog (WW os args) [("pub-sextary/pub/otel/baggage.safeValueCharset", Rows.laid_pub_sextary_pub_otel_baggage_safeValueCharset)] [11] := LaidIn.of_run _ 10 (by kernel_rfl) (by kernel_rfl) (by kernel_rfl) (by kernel_rfl)
theorem in11 (os : Os) (args : Array Value) : LaidIn Tryz.prog (WW os args) [("unicode/utf8.first", Rows.laid_unicode_utf8_first)] [3] := LaidIn.of_run _ 10 (by kernel_rfl) (by kernel_rfl) (by kernel_rfl) (by kernel_rfl)
theorem laid_met (os : Os) (args : Array Value) : laidMet Tryz.prog LL ((laidWorld os).forCall (fun _ _ => 0) ⟨#[], args, []⟩).memory :=
  (((in0 os args).append ((in1 os args).append ((in2 os args).append ((in3 os args).append ((in4 os args).append ((in5 os args).append ((in6 os args).append ((in7 os args).append ((in8 os args).append ((in9 os args).append ((in10 os args).append (in11 os args) (by kernel_rfl)) (by kernel_rfl)) (by kernel_rfl)) (by kernel_rfl)) (by kernel_rfl)) (by kernel_rfl)) (by kernel_rfl)) (by kernel_rfl)) (by kernel_rfl)) (by kernel_rfl)) (by kernel_rfl))).met
end Go.Proofs.YtpgookhdffklkaaGreatDoor
