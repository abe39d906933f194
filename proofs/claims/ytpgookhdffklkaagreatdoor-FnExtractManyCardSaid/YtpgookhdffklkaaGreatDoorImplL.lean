/-
  impl: the members of a list, sorted by their keys.
-/
import Derived.Test.YtpgookhdffklkaaGreatDoorImplK
import Derived.Shelf.GgSortFunc.Tiny
namespace Go.Proofs.YtpgookhdffklkaaGreatDoor
open Go.RowKit

set_option maxRecDepth 100000 in
set_option maxHeartbeats 2000000 in
theorem less93 (blk off c Bs size : Nat) (W : World) (G : Nat → List UInt8) (hs : W.cell? ⟨Bs, 0, none⟩ = some (.slice (some ⟨blk, off, none⟩) size c))
    (hc : ∀ t, t < size → W.cell? ⟨blk, off + t * 3, none⟩ = some (.string (bs (G t)))) (i j : Nat) (hi : i < size) (hj : j < size) (_hsz : size < 4611686018427387904) :
    Calls Tryz.prog 93 #[.int .i64 i, .int .i64 j, .pointer (some ⟨Bs, 0, none⟩)] W fun e w' => e = .returned (.bool (decide (G i < G j))) ∧ ∃ q, w' = W.drewN q := by
  have ci := hc i hi
  have cj := hc j hj
  clear hc
  go_enter Tryz.func93, Tryz.ntmps93
  go_wp2
  go_quiet (fail)
  go_wp2
  go_ret
  exact ⟨ret_bool (bytesLess_eq (G i) (G j)), nq, rfl⟩

/-- Members with the addresses and capacities of their properties. -/
abbrev MA := Mem × (Option Addr × Nat)
/-- The cells of a member of impl and of spec. -/
def encA (x : MA) : List Value := [.string (bs x.1.k), .string (bs x.1.v), .slice x.2.1 x.1.ps.length x.2.2]
theorem encA_len (x : MA) : (encA x).length = 3 := rfl
theorem encA_one (x : MA) : ∀ v ∈ encA x, v.oneCell' = true := by
  intro v hv
  simp only [encA, List.mem_cons, List.not_mem_nil, or_false] at hv
  rcases hv with rfl | rfl | rfl <;> rfl
theorem kind82 (w : World) : (Extern.Rtype.kind 82).run Tryz.prog w = .ok 25 w := by kernel_rfl
theorem agg82 (w : World) : (isAgg 82).run Tryz.prog w = .ok true w := by kernel_rfl
theorem pack37 : Tryz.prog.packed 37 = false := by kernel_rfl
theorem swap201 : Tryz.prog.funcs.findIdx? (·.name == "internal/reflectlite" ++ ".Swapper$" ++ toString 9) = some 201 := by kernel_rfl
theorem desc37 : (Tryz.prog.info? 37).map (fun i => i.desc) = some (.slice 82) := by kernel_rfl
theorem facts82 : (Tryz.prog.info? 82).map (fun i => (i.size, i.hasPointers, i.bytes)) = some (3, true, 56) := by kernel_rfl

def ltK (x y : MA) : Bool := decide (x.1.k < y.1.k)
theorem swo_ltK : Sort.SWO ltK :=
  ⟨fun x => Sort.swo_ltStr.irrefl x.1.k, fun x y z => Sort.swo_ltStr.trans x.1.k y.1.k z.1.k, fun x y z => Sort.swo_ltStr.ntrans x.1.k y.1.k z.1.k⟩

section
open Go.Sort
theorem holdsA [Inhabited MA] {w : World} {blk : Nat} {cur : Array Value} (h : Blk w blk 82 cur) (pl : List MA) (hc : ∀ (j : Nat) (u : Value), (pl.flatMap encA)[j]? = some u → cur[j]? = some u) : HoldsK encA 3 w blk 0 pl.toArray := by
  intro j hj
  simp only [size_flatK, List.size_toArray] at hj
  rw [Nat.zero_add]
  refine ⟨?_, h.frozen j⟩
  rw [h.cell j]
  refine hc j _ ?_
  have h3 : j / 3 < pl.length := by omega
  have h4 := flat_get encA 3 encA_len pl (j / 3) (j % 3) h3 (by omega)
  have h5 : j / 3 * 3 + j % 3 = j := by omega
  rw [h5] at h4
  rw [h4, get_flatK encA 3 pl.toArray j (by simpa using hj)]
  have h6 : pl.toArray[j / 3]! = pl[j / 3] := by simp [h3]
  rw [h6, id]
  have h7 : j % 3 < (encA pl[j / 3]).length := by rw [encA_len]; omega
  rw [List.getElem?_eq_getElem h7, getElem!_pos (encA pl[j / 3]) (j % 3) h7]
theorem cellsA [Inhabited MA] {w : World} {blk : Nat} {d : Array MA} (h : HoldsK encA 3 w blk 0 d) : ∀ (j : Nat) (u : Value), (d.toList.flatMap encA)[j]? = some u → w.cell? ⟨blk, j, none⟩ = some u := by
  intro j u hj
  have hl : j < (d.toList.flatMap encA).length := (List.getElem?_eq_some_iff.1 hj).1
  rw [flat_len encA 3 encA_len] at hl
  have hj3 : j < d.size * 3 := by simpa using hl
  have h1 := (h j (by simpa using hj3)).1
  rw [Nat.zero_add] at h1
  rw [h1]
  have h3 : j / 3 < d.toList.length := by simp; omega
  have h4 := flat_get encA 3 encA_len d.toList (j / 3) (j % 3) h3 (by omega)
  have h5 : j / 3 * 3 + j % 3 = j := by omega
  rw [h5, hj] at h4
  rw [get_flatK encA 3 d j hj3]
  have h3' : j / 3 < d.size := by simpa using h3
  have h6 : d[j / 3]! = d.toList[j / 3] := by rw [getElem!_pos d (j / 3) h3']; simp
  rw [h6, id]
  have h7 : j % 3 < (encA d.toList[j / 3]).length := by rw [encA_len]; omega
  rw [List.getElem?_eq_getElem h7] at h4
  rw [getElem!_pos (encA d.toList[j / 3]) (j % 3) h7]
  exact h4.symm
theorem grownRow (w : World) (n blk : Nat) (f : Array Value → Array Value) (os : Array Obj) : w.grownBy (grow (mapBlock (Sort.ahead w n) blk f) os) (some blk) := by
  refine ⟨rfl, rfl, rfl, by simp [grow, mapBlock, Sort.ahead], fun i hi hne => ?_⟩
  have hne' : blk ≠ i := fun e => hne (by rw [e])
  simp only [grow, mapBlock, Sort.ahead]
  rw [Array.getElem?_append_left (by simpa using hi), Array.getElem?_modify, if_neg hne']
theorem blkRow {w : World} {blk : Nat} {t : TypeId} {cur : Array Value} (h : Blk w blk t cur) (n : Nat) (f : Array Value → Array Value) (os : Array Obj) : Blk (grow (mapBlock (Sort.ahead w n) blk f) os) blk t (f cur) := by
  have hlt := h.lt
  unfold Blk at h ⊢
  simp only [grow, mapBlock, Sort.ahead]
  rw [Array.getElem?_append_left (by simpa using hlt), Array.getElem?_modify, if_pos rfl, h]
  rfl

set_option maxRecDepth 100000 in
set_option maxHeartbeats 2000000 in
/-- sort.Slice over members by their keys, two or more. -/
theorem sort_many (pl : List MA) (blk c Bs : Nat) (cur : Array Value) (w : World) (h2 : 2 ≤ pl.length) (hn : pl.length ≤ 1000000) (hb : Blk w blk 82 cur) (hc : ∀ (j : Nat) (u : Value), (pl.flatMap encA)[j]? = some u → cur[j]? = some u)
    (hBs : w.cell? ⟨Bs, 0, none⟩ = some (.slice (some ⟨blk, 0, none⟩) pl.length c)) (hB1 : Bs < w.heap.size) (hB2 : Bs ≠ blk) :
    Calls Tryz.prog 92 #[.iface 37 (.slice (some ⟨blk, 0, none⟩) pl.length c), .func (.func 93) #[] #[.pointer (some ⟨Bs, 0, none⟩)]] w fun e w' =>
      e = .returned (.tuple #[]) ∧ ∃ (pl' : List MA) (cur' : Array Value), pl'.Perm pl ∧ pl'.Pairwise (fun x y => ltK y x = false) ∧ Blk w' blk 82 cur' ∧ (∀ (j : Nat) (u : Value), (pl'.flatMap encA)[j]? = some u → cur'[j]? = some u) ∧ w.grownBy w' (some blk) := by
  letI : Inhabited MA := ⟨(⟨[], [], []⟩, none, 0)⟩
  have hH := holdsA hb pl hc
  have hblk := hb.lt
  have hless : LessReadsK Tryz.prog 93 #[.pointer (some ⟨Bs, 0, none⟩)] encA 3 ltK blk 0 pl.toArray.size w := by
    intro m os dk hs i j hi hj
    have e : sortWorldK encA 3 w blk 0 m dk os = putRowK encA 3 (grow (Sort.ahead w m) os) blk 0 dk := by
      unfold sortWorldK; rw [putRowK_grow _ _ (Sort.ahead w m) _ blk 0 _ hblk]
    have hHg : HoldsK encA 3 (grow (Sort.ahead w m) os) blk 0 pl.toArray := holdsK_grow _ _ _ _ blk 0 _ hblk (holdsK_ahead _ _ _ _ _ _ _ hH)
    refine less93 blk 0 c Bs pl.toArray.size _ (fun t => dk[t]!.1.k) ?_ (fun t ht => ?_) i j hi hj (by simp; omega)
    · rw [e, cell?_putRowK_other _ _ _ blk 0 dk _ (by exact hB2), cell?_grow _ _ _ (by exact hB1)]; simpa using hBs
    · rw [e]
      have := ((holdsK_putRowK _ _ _ blk 0 _ dk hHg hs).cell (i := t) (c := 0) (by omega) (by omega)).1
      simpa [encA] using this
  obtain ⟨i37, hi37, hd37⟩ := Option.map_eq_some_iff.1 desc37
  obtain ⟨i82, hi82, hd82⟩ := Option.map_eq_some_iff.1 facts82
  have k1 : i82.size = 3 := congrArg (fun x => x.1) hd82
  have k2 : i82.hasPointers = true := congrArg (fun x => x.2.1) hd82
  have k3 : i82.bytes = 56 := congrArg (fun x => x.2.2) hd82
  have hk : Lib.swapperK pl.toArray.size i82 25 = 9 := by
    have a : (pl.length == 0) = false := by
      have : pl.length ≠ 0 := by omega
      simpa using this
    have b : (pl.length == 1) = false := by
      have : pl.length ≠ 1 := by omega
      simpa using this
    simp [Lib.swapperK, k2, k3, a, b]
  have hS := Tryz.sort_Slice_cells_sorted 37 82 i37 i82 hi37 hd37 pack37 hi82 25 kind82 encA 3 encA_len k1 agg82 encA_one ltK swo_ltK 93 #[.pointer (some ⟨Bs, 0, none⟩)]
    (enters_of Tryz.func93 (by kernel_rfl) rfl) blk 0 c pl.toArray (by simpa using h2) (by simp; omega) 201 (by rw [hk]; exact swap201) false
    (fun args W => run_callFunc_extern Tryz.func201 (by kernel_rfl) (by kernel_rfl) (by kernel_rfl) (e := Extern.ReflectliteSwapper.swap false) (by kernel_rfl) args W) w hless hH hblk
  simp only [List.size_toArray] at hS
  refine hS.mono ?_
  rintro e w' ⟨rfl, d', n, os, hp, hso, rfl⟩
  refine ⟨rfl, d'.toList, _, ?_, ?_, blkRow hb n _ os, ?_, grownRow w n blk _ os⟩
  · obtain ⟨h1, h3, h4⟩ := hp
    have e1 : (d'.extract 0 pl.length).toList = d'.toList := by
      have h6 : d'.size = pl.length := by simpa using h1
      rw [← h6]; simp
    have e2 : (pl.toArray.extract 0 pl.length).toList = pl := by simp
    rw [e1, e2] at h4
    exact h4
  · have hs1 : d'.size = pl.length := by simpa using hp.1
    rw [List.pairwise_iff_getElem]
    intro i j hi hj hij
    have h5 := hso i j (Nat.zero_le _) hij (by simpa [hs1] using hj)
    simp only [Array.length_toList] at hi hj
    rw [getElem!_pos d' i hi, getElem!_pos d' j hj] at h5
    simpa using h5
  · intro j u hj
    have hs1 : d'.size = pl.toArray.size := hp.1
    have hF : HoldsK encA 3 (grow (putRowK encA 3 (Sort.ahead w n) blk 0 d') os) blk 0 d' := holdsK_grow _ _ _ _ blk 0 _ (by simpa [putRowK] using hblk) (holdsK_putRowK _ _ _ blk 0 _ d' (holdsK_ahead _ _ _ _ _ _ _ hH) hs1)
    have h1 := cellsA hF j u hj
    have h2 := (blkRow hb n (putCells id 0 (flatK encA 3 d')) os).cell j
    exact h2.symm.trans h1
end
end Go.Proofs.YtpgookhdffklkaaGreatDoor
