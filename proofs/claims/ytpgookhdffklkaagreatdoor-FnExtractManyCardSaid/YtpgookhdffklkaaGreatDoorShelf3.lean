/-
  DERIVED: THE SHELF's CONTRACTS AT THIS DUMP, IN PLAIN WORDS (tools/lay-plain.mjs out of 'YtpgookhdffklkaaGreatDoorShelf3Raw.lean', which tools/lay-shelf.mjs wrote): THE SAME DECLARATIONS UNDER THE SAME NAMES: 'import', 'namespace', 'open', 'def', 'theorem' AND NOTHING ELSE: no command of the shelf's: FOR A HAND-IN. Each laying: the table of numbers ('.._ren') and one theorem, a field a fact of the dump's own or the kernel's comparison; each contract: ONE APPLICATION.
-/
import Derived.Shelf.Strings.Builder1
import Derived.Shelf.Strings.Builder2
import Derived.Shelf.Strings.BuilderF
import Derived.Shelf.Strings.BuilderK
import Derived.Shelf.Strings.Builder2Cap
import Derived.Shelf.Strings.BuilderCap
import Derived.Shelf.Strings.MapAny
import Derived.Shelf.Unicode.DecodeAny
import Derived.Shelf.SlGeneric
import Derived.Ground.SlsfProg
import Derived.Shelf.SlSortCmp.WholeK
import Derived.Test.YtpgookhdffklkaaGreatDoorProg
namespace Go.Proofs
open Go.Shelf
def Tryz.lays169_ren : Go.Shelf.Ren := ⟨fun | 169 => 72 | n => n, fun | 70 => 130 | 9 => 9 | 0 => 0 | 72 => 133 | 37 => 131 | 127 => 184 | 3 => 3 | 5 => 5 | n => n, fun | n => n⟩
theorem Tryz.lays169 : Go.Proofs.Lays.n169 Tryz.prog Tryz.lays169_ren := {
  mixed := by kernel_rfl
  f169 := Tryz.func72.trans (congrArg some (by kernel_rfl))
  t0 := Tryz.underlying0
  a0 := Tryz.isAgg0
  z0 := Tryz.sizeOf0
  v0 := Tryz.zeroValue0
  t3 := Tryz.underlying3
  a3 := Tryz.isAgg3
  z3 := Tryz.sizeOf3
  v3 := Tryz.zeroValue3
  t9 := Tryz.underlying9
  a9 := Tryz.isAgg9
  z9 := Tryz.sizeOf9
  v9 := Tryz.zeroValue9
  t37 := Tryz.underlying131
  a37 := Tryz.isAgg131
  z37 := Tryz.sizeOf131
  v37 := Tryz.zeroValue131
  t70 := Tryz.underlying130
  a70 := Tryz.isAgg130
  z70 := Tryz.sizeOf130
  v70 := Tryz.zeroValue130
  t72 := Tryz.underlying133
  a72 := Tryz.isAgg133
  z72 := Tryz.sizeOf133
  v72 := Tryz.zeroValue133
  t127 := Tryz.underlying184
  a127 := Tryz.isAgg184
  z127 := Tryz.sizeOf184
  v127 := Tryz.zeroValue184 }
theorem Tryz.Builder_Extra_169 : Builder.Extra Tryz.prog Tryz.lays169_ren := {
  sizeBuilder := by kernel_rfl
  liesBuilder := by kernel_rfl
  t5 := Tryz.underlying5
  a5 := Tryz.isAgg5
  z5 := Tryz.sizeOf5
  v5 := Tryz.zeroValue5
  infoByte := by kernel_rfl
  cellsByte := by kernel_rfl
  sizeByte := by kernel_rfl
  neB5 := by decide }
def Tryz.lays165_ren : Go.Shelf.Ren := ⟨fun | 165 => 70 | 240 => 114 | 241 => 115 | 276 => 176 | 277 => 177 | n => n, fun | 70 => 130 | 3 => 3 | 0 => 0 | 4 => 4 | 9 => 9 | 20 => 20 | 72 => 133 | 37 => 131 | 164 => 206 | 5 => 5 | n => n, fun | n => n⟩
theorem Tryz.lays165 : Go.Proofs.Lays.n165 Tryz.prog Tryz.lays165_ren := {
  mixed := by kernel_rfl
  f165 := Tryz.func70.trans (congrArg some (by kernel_rfl))
  f240 := Tryz.func114.trans (congrArg some (by kernel_rfl))
  f241 := Tryz.func115.trans (congrArg some (by kernel_rfl))
  f276 := Tryz.func176.trans (congrArg some (by kernel_rfl))
  f277 := Tryz.func177.trans (congrArg some (by kernel_rfl))
  t0 := Tryz.underlying0
  a0 := Tryz.isAgg0
  z0 := Tryz.sizeOf0
  v0 := Tryz.zeroValue0
  t3 := Tryz.underlying3
  a3 := Tryz.isAgg3
  z3 := Tryz.sizeOf3
  v3 := Tryz.zeroValue3
  t4 := Tryz.underlying4
  a4 := Tryz.isAgg4
  z4 := Tryz.sizeOf4
  v4 := Tryz.zeroValue4
  t9 := Tryz.underlying9
  a9 := Tryz.isAgg9
  z9 := Tryz.sizeOf9
  v9 := Tryz.zeroValue9
  t20 := Tryz.underlying20
  a20 := Tryz.isAgg20
  z20 := Tryz.sizeOf20
  v20 := Tryz.zeroValue20
  t37 := Tryz.underlying131
  a37 := Tryz.isAgg131
  z37 := Tryz.sizeOf131
  v37 := Tryz.zeroValue131
  t70 := Tryz.underlying130
  a70 := Tryz.isAgg130
  z70 := Tryz.sizeOf130
  v70 := Tryz.zeroValue130
  t72 := Tryz.underlying133
  a72 := Tryz.isAgg133
  z72 := Tryz.sizeOf133
  v72 := Tryz.zeroValue133
  t164 := Tryz.underlying206
  a164 := Tryz.isAgg206
  z164 := Tryz.sizeOf206
  v164 := Tryz.zeroValue206 }
theorem Tryz.Builder_Extra_165 : Builder.Extra Tryz.prog Tryz.lays165_ren := {
  sizeBuilder := by kernel_rfl
  liesBuilder := by kernel_rfl
  t5 := Tryz.underlying5
  a5 := Tryz.isAgg5
  z5 := Tryz.sizeOf5
  v5 := Tryz.zeroValue5
  infoByte := by kernel_rfl
  cellsByte := by kernel_rfl
  sizeByte := by kernel_rfl
  neB5 := by decide }
open Go.RowKit in
theorem Tryz.Builder_String_any_k (B b : Nat) (l : List UInt8) (w : World) (h : Lib.IsBuilderF 133 5 B b (Lib.byteCells l) w) (hBw : B ≤ w.heap.size) :
    Calls Tryz.prog 72 #[.pointer (some ⟨b, 0, none⟩)] w fun e w' => e = .returned (.string ⟨l.toArray⟩) ∧ (Lib.IsBuilderF 133 5 B b (Lib.byteCells l) w' ∧ Below B w w' ∧ Lib.OthersKept 5 (some b) w w') := Any.Builder_String_any_k Tryz.lays169 Tryz.Builder_Extra_169 B b l w h hBw
open Go.RowKit in
theorem Tryz.Builder_Grow_fresh_cap (B b n : Nat) (w : World) (hB : B ≤ b) (hbk : w.heap[b]? = some (.cells #[.pointer none, .slice none 0 0] 133 (0, 0))) (hBw : B ≤ w.heap.size) (hn : n ≤ 281474976710656) :
    Calls Tryz.prog 70 #[.pointer (some ⟨b, 0, none⟩), .int .i64 n] w fun e w' => e = .returned (.tuple #[]) ∧ (Lib.BuilderAt 133 5 B b (.pointer (some ⟨b, 0, none⟩)) [] w' ∧ Below B w w') ∧ ∃ p cap, w'.cell? ⟨b, 1, none⟩ = some (.slice p 0 cap) ∧ n ≤ cap := Any.Builder_Grow_fresh_cap Tryz.lays165 Tryz.Builder_Extra_165 B b n w hB hbk hBw hn
def Tryz.lays197_ren : Go.Shelf.Ren := ⟨fun | 197 => 102 | 260 => 164 | n => n, fun | 9 => 9 | 21 => 21 | 3 => 3 | 4 => 4 | 5 => 5 | 105 => 172 | 119 => 187 | 0 => 0 | 46 => 141 | 139 => 190 | 138 => 189 | n => n, fun | 3 => 3 | 4 => 4 | n => n⟩
theorem Tryz.lays197 : Go.Proofs.Lays.n197 Tryz.prog Tryz.lays197_ren := {
  mixed := by kernel_rfl
  f197 := Tryz.func102.trans (congrArg some (by kernel_rfl))
  f260 := Tryz.func164.trans (congrArg some (by kernel_rfl))
  t0 := Tryz.underlying0
  a0 := Tryz.isAgg0
  z0 := Tryz.sizeOf0
  v0 := Tryz.zeroValue0
  t3 := Tryz.underlying3
  a3 := Tryz.isAgg3
  z3 := Tryz.sizeOf3
  v3 := Tryz.zeroValue3
  t4 := Tryz.underlying4
  a4 := Tryz.isAgg4
  z4 := Tryz.sizeOf4
  v4 := Tryz.zeroValue4
  t5 := Tryz.underlying5
  a5 := Tryz.isAgg5
  z5 := Tryz.sizeOf5
  v5 := Tryz.zeroValue5
  t9 := Tryz.underlying9
  a9 := Tryz.isAgg9
  z9 := Tryz.sizeOf9
  v9 := Tryz.zeroValue9
  t21 := Tryz.underlying21
  a21 := Tryz.isAgg21
  z21 := Tryz.sizeOf21
  v21 := Tryz.zeroValue21
  t46 := Tryz.underlying141
  a46 := Tryz.isAgg141
  z46 := Tryz.sizeOf141
  v46 := Tryz.zeroValue141
  t105 := Tryz.underlying172
  a105 := Tryz.isAgg172
  z105 := Tryz.sizeOf172
  v105 := Tryz.zeroValue172
  t119 := Tryz.underlying187
  a119 := Tryz.isAgg187
  z119 := Tryz.sizeOf187
  t138 := Tryz.underlying189
  a138 := Tryz.isAgg189
  z138 := Tryz.sizeOf189
  v138 := Tryz.zeroValue189
  t139 := Tryz.underlying190
  a139 := Tryz.isAgg190
  z139 := Tryz.sizeOf190
  v139 := Tryz.zeroValue190
  g3 := by kernel_rfl
  g4 := by kernel_rfl }
open Go.RowKit Go.Lib in
theorem Tryz.utf8_DecodeRuneInString (s : ByteArray) (w : World) (hT : Lib.Utf8Tabs 3 4 w) :
    Calls Tryz.prog 102 #[.string s] w fun e w' => e = .returned (.tuple #[.int .i32 (Lib.decodeGo s).1, .int .i64 (Lib.decodeGo s).2]) ∧ Below w.heap.size w w' := Any.utf8_DecodeRuneInString Tryz.lays197 s w hT
def Tryz.lays270_ren : Go.Shelf.Ren := ⟨fun | 270 => 103 | n => n, fun | 70 => 130 | 3 => 3 | 0 => 0 | 72 => 133 | 37 => 131 | 5 => 5 | n => n, fun | n => n⟩
theorem Tryz.lays270 : Go.Proofs.Lays.n270 Tryz.prog Tryz.lays270_ren := {
  mixed := by kernel_rfl
  f270 := Tryz.func103.trans (congrArg some (by kernel_rfl))
  t0 := Tryz.underlying0
  a0 := Tryz.isAgg0
  z0 := Tryz.sizeOf0
  v0 := Tryz.zeroValue0
  t3 := Tryz.underlying3
  a3 := Tryz.isAgg3
  z3 := Tryz.sizeOf3
  v3 := Tryz.zeroValue3
  t37 := Tryz.underlying131
  a37 := Tryz.isAgg131
  z37 := Tryz.sizeOf131
  v37 := Tryz.zeroValue131
  t70 := Tryz.underlying130
  a70 := Tryz.isAgg130
  z70 := Tryz.sizeOf130
  v70 := Tryz.zeroValue130
  t72 := Tryz.underlying133
  a72 := Tryz.isAgg133
  z72 := Tryz.sizeOf133
  v72 := Tryz.zeroValue133 }
open Go.RowKit Go.Lib in
theorem Tryz.Builder_Cap_cell (b : Nat) (p : Option Addr) (n cap : Nat) (w : World) (c1 : w.cell? ⟨b, 1, none⟩ = some (.slice p n cap)) :
    Calls Tryz.prog 103 #[.pointer (some ⟨b, 0, none⟩)] w fun e w' => e = .returned (.int .i64 cap) ∧ w' = w := Any.Builder_Cap_cell Tryz.lays270 b p n cap w c1
def Tryz.sortEnt_ren : Go.Shelf.Ren := ⟨fun | 6 => 66 | 15 => 100 | 14 => 112 | 28 => 161 | 29 => 162 | 20 => 167 | 21 => 168 | 22 => 169 | 23 => 170 | 24 => 171 | 25 => 172 | 26 => 173 | 27 => 174 | 46 => 226 | 47 => 219 | 48 => 220 | 49 => 227 | 50 => 228 | 57 => 244 | n => n, fun | 22 => 49 | 24 => 64 | 25 => 128 | 3 => 3 | 39 => 141 | 0 => 0 | 53 => 230 | 55 => 232 | 4 => 4 | 46 => 223 | 45 => 222 | 50 => 76 | 5 => 5 | 9 => 9 | 66 => 275 | 70 => 279 | 76 => 295 | 77 => 296 | n => n, fun | n => n⟩
theorem Tryz.sortEnt : Go.Proofs.SlLaysF0.n6 Tryz.prog Tryz.sortEnt_ren := {
  mixed := by kernel_rfl
  f6 := ⟨Tryz.f66.name, by decide, Tryz.func66.trans (congrArg some (by kernel_rfl))⟩
  f14 := ⟨Tryz.f112.name, by decide, Tryz.func112.trans (congrArg some (by kernel_rfl))⟩
  f15 := Tryz.func100.trans (congrArg some (by kernel_rfl))
  f20 := ⟨Tryz.f167.name, by decide, Tryz.func167.trans (congrArg some (by kernel_rfl))⟩
  f21 := ⟨Tryz.f168.name, by decide, Tryz.func168.trans (congrArg some (by kernel_rfl))⟩
  f22 := ⟨Tryz.f169.name, by decide, Tryz.func169.trans (congrArg some (by kernel_rfl))⟩
  f23 := ⟨Tryz.f170.name, by decide, Tryz.func170.trans (congrArg some (by kernel_rfl))⟩
  f24 := ⟨Tryz.f171.name, by decide, Tryz.func171.trans (congrArg some (by kernel_rfl))⟩
  f25 := ⟨Tryz.f172.name, by decide, Tryz.func172.trans (congrArg some (by kernel_rfl))⟩
  f26 := ⟨Tryz.f173.name, by decide, Tryz.func173.trans (congrArg some (by kernel_rfl))⟩
  f27 := ⟨Tryz.f174.name, by decide, Tryz.func174.trans (congrArg some (by kernel_rfl))⟩
  f28 := Tryz.func161.trans (congrArg some (by kernel_rfl))
  f29 := Tryz.func162.trans (congrArg some (by kernel_rfl))
  f46 := ⟨Tryz.f226.name, by decide, Tryz.func226.trans (congrArg some (by kernel_rfl))⟩
  f47 := Tryz.func219.trans (congrArg some (by kernel_rfl))
  f48 := Tryz.func220.trans (congrArg some (by kernel_rfl))
  f49 := ⟨Tryz.f227.name, by decide, Tryz.func227.trans (congrArg some (by kernel_rfl))⟩
  f50 := ⟨Tryz.f228.name, by decide, Tryz.func228.trans (congrArg some (by kernel_rfl))⟩
  f57 := ⟨Tryz.f244.name, by decide, Tryz.func244.trans (congrArg some (by kernel_rfl))⟩
  t0 := Tryz.underlying0
  a0 := Tryz.isAgg0
  z0 := Tryz.sizeOf0
  v0 := Tryz.zeroValue0
  t3 := Tryz.underlying3
  a3 := Tryz.isAgg3
  z3 := Tryz.sizeOf3
  v3 := Tryz.zeroValue3
  t4 := Tryz.underlying4
  a4 := Tryz.isAgg4
  z4 := Tryz.sizeOf4
  v4 := Tryz.zeroValue4
  t5 := Tryz.underlying5
  a5 := Tryz.isAgg5
  z5 := Tryz.sizeOf5
  v5 := Tryz.zeroValue5
  t9 := Tryz.underlying9
  a9 := Tryz.isAgg9
  z9 := Tryz.sizeOf9
  v9 := Tryz.zeroValue9
  t22 := Tryz.underlying49
  a22 := Tryz.isAgg49
  z22 := Tryz.sizeOf49
  v22 := Tryz.zeroValue49
  t25 := Tryz.underlying128
  a25 := Tryz.isAgg128
  z25 := Tryz.sizeOf128
  v25 := Tryz.zeroValue128
  t39 := Tryz.underlying141
  a39 := Tryz.isAgg141
  z39 := Tryz.sizeOf141
  v39 := Tryz.zeroValue141
  t45 := Tryz.underlying222
  a45 := Tryz.isAgg222
  z45 := Tryz.sizeOf222
  v45 := Tryz.zeroValue222
  t46 := Tryz.underlying223
  a46 := Tryz.isAgg223
  z46 := Tryz.sizeOf223
  v46 := Tryz.zeroValue223
  t50 := Tryz.underlying76
  a50 := Tryz.isAgg76
  z50 := Tryz.sizeOf76
  v50 := Tryz.zeroValue76
  t53 := Tryz.underlying230
  a53 := Tryz.isAgg230
  z53 := Tryz.sizeOf230
  v53 := Tryz.zeroValue230
  t55 := Tryz.underlying232
  a55 := Tryz.isAgg232
  z55 := Tryz.sizeOf232
  v55 := Tryz.zeroValue232
  t66 := Tryz.underlying275
  a66 := Tryz.isAgg275
  z66 := Tryz.sizeOf275
  v66 := Tryz.zeroValue275
  t70 := Tryz.underlying279
  a70 := Tryz.isAgg279
  z70 := Tryz.sizeOf279
  v70 := Tryz.zeroValue279
  t76 := Tryz.underlying295
  a76 := Tryz.isAgg295
  z76 := Tryz.sizeOf295
  v76 := Tryz.zeroValue295
  t77 := Tryz.underlying296
  a77 := Tryz.isAgg296
  z77 := Tryz.sizeOf296
  v77 := Tryz.zeroValue296 }
def Tryz.write_ren : Go.Shelf.Ren := ⟨fun | 166 => 71 | 167 => 104 | 240 => 114 | 276 => 176 | n => n, fun | 31 => 46 | 9 => 9 | 3 => 3 | 4 => 4 | 0 => 0 | 20 => 20 | 72 => 133 | 76 => 135 | 70 => 130 | 37 => 131 | 75 => 88 | 127 => 184 | 164 => 206 | 5 => 5 | 80 => 99 | n => n, fun | n => n⟩
theorem Tryz.laysWS : Go.Proofs.Lays.n166 Tryz.prog Tryz.write_ren := {
  mixed := by kernel_rfl
  f166 := Tryz.func71.trans (congrArg some (by kernel_rfl))
  f240 := Tryz.func114.trans (congrArg some (by kernel_rfl))
  f276 := Tryz.func176.trans (congrArg some (by kernel_rfl))
  t0 := Tryz.underlying0
  a0 := Tryz.isAgg0
  z0 := Tryz.sizeOf0
  v0 := Tryz.zeroValue0
  t3 := Tryz.underlying3
  a3 := Tryz.isAgg3
  z3 := Tryz.sizeOf3
  v3 := Tryz.zeroValue3
  t4 := Tryz.underlying4
  a4 := Tryz.isAgg4
  z4 := Tryz.sizeOf4
  v4 := Tryz.zeroValue4
  t9 := Tryz.underlying9
  a9 := Tryz.isAgg9
  z9 := Tryz.sizeOf9
  v9 := Tryz.zeroValue9
  t20 := Tryz.underlying20
  a20 := Tryz.isAgg20
  z20 := Tryz.sizeOf20
  v20 := Tryz.zeroValue20
  t37 := Tryz.underlying131
  a37 := Tryz.isAgg131
  z37 := Tryz.sizeOf131
  v37 := Tryz.zeroValue131
  t70 := Tryz.underlying130
  a70 := Tryz.isAgg130
  z70 := Tryz.sizeOf130
  v70 := Tryz.zeroValue130
  t72 := Tryz.underlying133
  a72 := Tryz.isAgg133
  z72 := Tryz.sizeOf133
  v72 := Tryz.zeroValue133
  t75 := Tryz.underlying88
  a75 := Tryz.isAgg88
  z75 := Tryz.sizeOf88
  v75 := Tryz.zeroValue88
  t164 := Tryz.underlying206
  a164 := Tryz.isAgg206
  z164 := Tryz.sizeOf206
  v164 := Tryz.zeroValue206 }
theorem Tryz.laysWB : Go.Proofs.Lays.n167 Tryz.prog Tryz.write_ren := {
  mixed := by kernel_rfl
  f167 := Tryz.func104.trans (congrArg some (by kernel_rfl))
  f240 := Tryz.func114.trans (congrArg some (by kernel_rfl))
  f276 := Tryz.func176.trans (congrArg some (by kernel_rfl))
  t0 := Tryz.underlying0
  a0 := Tryz.isAgg0
  z0 := Tryz.sizeOf0
  v0 := Tryz.zeroValue0
  t4 := Tryz.underlying4
  a4 := Tryz.isAgg4
  z4 := Tryz.sizeOf4
  v4 := Tryz.zeroValue4
  t5 := Tryz.underlying5
  a5 := Tryz.isAgg5
  z5 := Tryz.sizeOf5
  v5 := Tryz.zeroValue5
  t9 := Tryz.underlying9
  a9 := Tryz.isAgg9
  z9 := Tryz.sizeOf9
  v9 := Tryz.zeroValue9
  t20 := Tryz.underlying20
  a20 := Tryz.isAgg20
  z20 := Tryz.sizeOf20
  v20 := Tryz.zeroValue20
  t37 := Tryz.underlying131
  a37 := Tryz.isAgg131
  z37 := Tryz.sizeOf131
  v37 := Tryz.zeroValue131
  t70 := Tryz.underlying130
  a70 := Tryz.isAgg130
  z70 := Tryz.sizeOf130
  v70 := Tryz.zeroValue130
  t72 := Tryz.underlying133
  a72 := Tryz.isAgg133
  z72 := Tryz.sizeOf133
  v72 := Tryz.zeroValue133
  t75 := Tryz.underlying88
  a75 := Tryz.isAgg88
  z75 := Tryz.sizeOf88
  v75 := Tryz.zeroValue88
  t164 := Tryz.underlying206
  a164 := Tryz.isAgg206
  z164 := Tryz.sizeOf206
  v164 := Tryz.zeroValue206 }
theorem Tryz.Builder_Extra_w : Builder.Extra Tryz.prog Tryz.write_ren := {
  sizeBuilder := by kernel_rfl
  liesBuilder := by kernel_rfl
  t5 := Tryz.underlying5
  a5 := Tryz.isAgg5
  z5 := Tryz.sizeOf5
  v5 := Tryz.zeroValue5
  infoByte := by kernel_rfl
  cellsByte := by kernel_rfl
  sizeByte := by kernel_rfl
  neB5 := by decide }
open Go.RowKit in
theorem Tryz.Builder_WriteByte_k (B b : Nat) (bs : List Value) (c : Int) (w : World) (h : Lib.IsBuilderF 133 5 B b bs w) (hlen : bs.length + 1 ≤ 140737488355328) (hBw : B ≤ w.heap.size) :
    Calls Tryz.prog 104 #[.pointer (some ⟨b, 0, none⟩), .int .u8 c] w fun e w' => e = .returned .nilIface ∧ (Lib.BuilderAtF 133 5 B b (.pointer (some ⟨b, 0, none⟩)) (bs ++ [.int .u8 c]) w' ∧ Below B w w' ∧ Lib.OthersKept 5 (some b) w w') := Any.Builder_WriteByte_k Tryz.laysWB Tryz.Builder_Extra_w B b bs c w h hlen hBw
open Go.RowKit in
theorem Tryz.Builder_WriteString_k (B b : Nat) (bs : List Value) (s : ByteArray) (w : World) (h : Lib.IsBuilderF 133 5 B b bs w) (hlen : bs.length + s.size ≤ 140737488355328) (hBw : B ≤ w.heap.size) :
    Calls Tryz.prog 71 #[.pointer (some ⟨b, 0, none⟩), .string s] w fun e w' => e = .returned (.tuple #[.int .i64 s.size, .nilIface]) ∧ (Lib.BuilderAtF 133 5 B b (.pointer (some ⟨b, 0, none⟩)) (bs ++ Lib.strCells s) w' ∧ Below B w w' ∧ Lib.OthersKept 5 (some b) w w') := Any.Builder_WriteString_k Tryz.laysWS Tryz.Builder_Extra_w B b bs s w h hlen hBw
open Go.RowKit in
theorem Tryz.Builder_WriteString_kc (B b : Nat) (bs : List Value) (s : ByteArray) (w : World) (h : Lib.IsBuilderF 133 5 B b bs w) (hlen : bs.length + s.size ≤ 140737488355328) (hBw : B ≤ w.heap.size) :
    Calls Tryz.prog 71 #[.pointer (some ⟨b, 0, none⟩), .string s] w fun e w' => e = .returned (.tuple #[.int .i64 s.size, .nilIface]) ∧ (Lib.BuilderAtF 133 5 B b (.pointer (some ⟨b, 0, none⟩)) (bs ++ Lib.strCells s) w' ∧ Below B w w' ∧ Lib.OthersKept 5 (some b) w w') ∧ ∀ v0, w.cell? ⟨b, 1, none⟩ = some v0 → ∃ v1, w'.cell? ⟨b, 1, none⟩ = some v1 ∧ v0.capOf ≤ v1.capOf := Any.Builder_WriteString_kc Tryz.laysWS Tryz.Builder_Extra_w B b bs s w h hlen hBw
end Go.Proofs
