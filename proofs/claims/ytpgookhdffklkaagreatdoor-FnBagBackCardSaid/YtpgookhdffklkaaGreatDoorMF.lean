/-
  impl: members of package baggage as data.
  impl: the members of a list, sorted by their keys.
  impl: membersOf.
  impl: membersOf of no members; the maps of carriers.
  impl: bagged: a context with a list of members.
  impl: InjectBaggage.
  impl: ParseBaggage of the text of members without properties; Parse of it and of no text.
  Texts of properties: joined by semicolons and split again.
  impl: propertyOf.
-/
import Derived.Shelf.GgSortFunc.Tiny
import Derived.Test.YtpgookhdffklkaaGreatDoorME
namespace Go.Proofs.YtpgookhdffklkaaGreatDoor
open Go.RowKit
theorem Keeps.blk {T : TypeId → Prop} {w w' : World} {g : Nat} {t : TypeId} {cs : Array Value} (h : Keeps T w w') (hb : Blk w g t cs) (ht : T t) : Blk w' g t cs := h _ _ _ _ ht hb
theorem Blk.new2 (w : World) (o o' : Obj) (t : TypeId) (cs : Array Value) : Blk (((w.alloc o).alloc o').alloc (.cells cs t)) (w.heap.size + 1 + 1) t cs := by
  have := Blk.new ((w.alloc o).alloc o') t cs
  simpa using this
section
variable (k v md : List UInt8) (A : Option Addr) (n q : Nat) (w : World)
set_option maxHeartbeats 1000000 in
theorem memKey_any : Calls Tryz.prog 139 #[.agg #[.string (bs k), .string (bs v), .string (bs md), .slice A n q, .bool true]] w fun e w' => e = .returned (.string (bs k)) ∧ Below w.heap.size w w' := by
  go_enter Tryz.func139, Tryz.ntmps139
  go_wp2
  go_ret
  exact ⟨rfl, (Below.refl _ _).alloc (Nat.le_refl _) _⟩
set_option maxHeartbeats 1000000 in
theorem memVal_any : Calls Tryz.prog 140 #[.agg #[.string (bs k), .string (bs v), .string (bs md), .slice A n q, .bool true]] w fun e w' => e = .returned (.string (bs v)) ∧ Below w.heap.size w w' := by
  go_enter Tryz.func140, Tryz.ntmps140
  go_wp2
  go_ret
  exact ⟨rfl, (Below.refl _ _).alloc (Nat.le_refl _) _⟩
end
end Go.Proofs.YtpgookhdffklkaaGreatDoor

namespace Go.Proofs.YtpgookhdffklkaaGreatDoor
open Go.RowKit
set_option maxRecDepth 100000 in
set_option maxHeartbeats 2000000 in
theorem less93 (blk off c Bs size : Nat) (W : World) (G : Nat → List UInt8) (hs : W.cell? ⟨Bs, 0, none⟩ = some (.slice (some ⟨blk, off, none⟩) size c))
    (hc : ∀ t, t < size → W.cell? ⟨blk, off + t * 3, none⟩ = some (.string (bs (G t)))) (i j : Nat) (hi : i < size) (hj : j < size) (_hsz : size < 4611686018427387904) :
    Calls Tryz.prog 93 #[.int .i64 i, .int .i64 j, .pointer (some ⟨Bs, 0, none⟩)] W fun e w' => e = .returned (.bool (decide (G i < G j))) ∧ ∃ q, w' = W.drewN q := by
  have ci := hc i hi
  have cj := hc j hj
  clear hc
  go_enter Tryz.func93, Tryz.ntmps93
  go_wp2
  go_quiet (fail)
  go_wp2
  go_ret
  exact ⟨ret_bool (bytesLess_eq (G i) (G j)), nq, rfl⟩
/-- Members with the addresses and capacities of their properties. -/
abbrev MA := Mem × (Option Addr × Nat)
/-- The cells of a member of impl and of spec. -/
def encA (x : MA) : List Value := [.string (bs x.1.k), .string (bs x.1.v), .slice x.2.1 x.1.ps.length x.2.2]
theorem encA_len (x : MA) : (encA x).length = 3 := rfl
theorem encA_one (x : MA) : ∀ v ∈ encA x, v.oneCell' = true := by
  intro v hv
  simp only [encA, List.mem_cons, List.not_mem_nil, or_false] at hv
  rcases hv with rfl | rfl | rfl <;> rfl
theorem kind82 (w : World) : (Extern.Rtype.kind 82).run Tryz.prog w = .ok 25 w := by kernel_rfl
theorem agg82 (w : World) : (isAgg 82).run Tryz.prog w = .ok true w := by kernel_rfl
theorem pack37 : Tryz.prog.packed 37 = false := by kernel_rfl
theorem swap201 : Tryz.prog.funcs.findIdx? (·.name == "internal/reflectlite" ++ ".Swapper$" ++ toString 9) = some 201 := by kernel_rfl
theorem desc37 : (Tryz.prog.info? 37).map (fun i => i.desc) = some (.slice 82) := by kernel_rfl
theorem facts82 : (Tryz.prog.info? 82).map (fun i => (i.size, i.hasPointers, i.bytes)) = some (3, true, 56) := by kernel_rfl
def ltK (x y : MA) : Bool := decide (x.1.k < y.1.k)
theorem swo_ltK : Sort.SWO ltK :=
  ⟨fun x => Sort.swo_ltStr.irrefl x.1.k, fun x y z => Sort.swo_ltStr.trans x.1.k y.1.k z.1.k, fun x y z => Sort.swo_ltStr.ntrans x.1.k y.1.k z.1.k⟩
section
open Go.Sort
theorem holdsA [Inhabited MA] {w : World} {blk : Nat} {cur : Array Value} (h : Blk w blk 82 cur) (pl : List MA) (hc : ∀ (j : Nat) (u : Value), (pl.flatMap encA)[j]? = some u → cur[j]? = some u) : HoldsK encA 3 w blk 0 pl.toArray := by
  intro j hj
  simp only [size_flatK, List.size_toArray] at hj
  rw [Nat.zero_add]
  refine ⟨?_, h.frozen j⟩
  rw [h.cell j]
  refine hc j _ ?_
  have h3 : j / 3 < pl.length := by omega
  have h4 := flat_get encA 3 encA_len pl (j / 3) (j % 3) h3 (by omega)
  have h5 : j / 3 * 3 + j % 3 = j := by omega
  rw [h5] at h4
  rw [h4, get_flatK encA 3 pl.toArray j (by simpa using hj)]
  have h6 : pl.toArray[j / 3]! = pl[j / 3] := by simp [h3]
  rw [h6, id]
  have h7 : j % 3 < (encA pl[j / 3]).length := by rw [encA_len]; omega
  rw [List.getElem?_eq_getElem h7, getElem!_pos (encA pl[j / 3]) (j % 3) h7]
theorem cellsA [Inhabited MA] {w : World} {blk : Nat} {d : Array MA} (h : HoldsK encA 3 w blk 0 d) : ∀ (j : Nat) (u : Value), (d.toList.flatMap encA)[j]? = some u → w.cell? ⟨blk, j, none⟩ = some u := by
  intro j u hj
  have hl : j < (d.toList.flatMap encA).length := (List.getElem?_eq_some_iff.1 hj).1
  rw [flat_len encA 3 encA_len] at hl
  have hj3 : j < d.size * 3 := by simpa using hl
  have h1 := (h j (by simpa using hj3)).1
  rw [Nat.zero_add] at h1
  rw [h1]
  have h3 : j / 3 < d.toList.length := by simp; omega
  have h4 := flat_get encA 3 encA_len d.toList (j / 3) (j % 3) h3 (by omega)
  have h5 : j / 3 * 3 + j % 3 = j := by omega
  rw [h5, hj] at h4
  rw [get_flatK encA 3 d j hj3]
  have h3' : j / 3 < d.size := by simpa using h3
  have h6 : d[j / 3]! = d.toList[j / 3] := by rw [getElem!_pos d (j / 3) h3']; simp
  rw [h6, id]
  have h7 : j % 3 < (encA d.toList[j / 3]).length := by rw [encA_len]; omega
  rw [List.getElem?_eq_getElem h7] at h4
  rw [getElem!_pos (encA d.toList[j / 3]) (j % 3) h7]
  exact h4.symm
theorem grownRow (w : World) (n blk : Nat) (f : Array Value → Array Value) (os : Array Obj) : w.grownBy (grow (mapBlock (Sort.ahead w n) blk f) os) (some blk) := by
  refine ⟨rfl, rfl, rfl, by simp [grow, mapBlock, Sort.ahead], fun i hi hne => ?_⟩
  have hne' : blk ≠ i := fun e => hne (by rw [e])
  simp only [grow, mapBlock, Sort.ahead]
  rw [Array.getElem?_append_left (by simpa using hi), Array.getElem?_modify, if_neg hne']
theorem blkRow {w : World} {blk : Nat} {t : TypeId} {cur : Array Value} (h : Blk w blk t cur) (n : Nat) (f : Array Value → Array Value) (os : Array Obj) : Blk (grow (mapBlock (Sort.ahead w n) blk f) os) blk t (f cur) := by
  have hlt := h.lt
  unfold Blk at h ⊢
  simp only [grow, mapBlock, Sort.ahead]
  rw [Array.getElem?_append_left (by simpa using hlt), Array.getElem?_modify, if_pos rfl, h]
  rfl
set_option maxRecDepth 100000 in
set_option maxHeartbeats 2000000 in
/-- sort.Slice over members by their keys, two or more. -/
theorem sort_many (pl : List MA) (blk c Bs : Nat) (cur : Array Value) (w : World) (h2 : 2 ≤ pl.length) (hn : pl.length ≤ 1000000) (hb : Blk w blk 82 cur) (hc : ∀ (j : Nat) (u : Value), (pl.flatMap encA)[j]? = some u → cur[j]? = some u)
    (hBs : w.cell? ⟨Bs, 0, none⟩ = some (.slice (some ⟨blk, 0, none⟩) pl.length c)) (hB1 : Bs < w.heap.size) (hB2 : Bs ≠ blk) :
    Calls Tryz.prog 92 #[.iface 37 (.slice (some ⟨blk, 0, none⟩) pl.length c), .func (.func 93) #[] #[.pointer (some ⟨Bs, 0, none⟩)]] w fun e w' =>
      e = .returned (.tuple #[]) ∧ ∃ (pl' : List MA) (cur' : Array Value), pl'.Perm pl ∧ pl'.Pairwise (fun x y => ltK y x = false) ∧ Blk w' blk 82 cur' ∧ (∀ (j : Nat) (u : Value), (pl'.flatMap encA)[j]? = some u → cur'[j]? = some u) ∧ w.grownBy w' (some blk) := by
  letI : Inhabited MA := ⟨(⟨[], [], []⟩, none, 0)⟩
  have hH := holdsA hb pl hc
  have hblk := hb.lt
  have hless : LessReadsK Tryz.prog 93 #[.pointer (some ⟨Bs, 0, none⟩)] encA 3 ltK blk 0 pl.toArray.size w := by
    intro m os dk hs i j hi hj
    have e : sortWorldK encA 3 w blk 0 m dk os = putRowK encA 3 (grow (Sort.ahead w m) os) blk 0 dk := by
      unfold sortWorldK; rw [putRowK_grow _ _ (Sort.ahead w m) _ blk 0 _ hblk]
    have hHg : HoldsK encA 3 (grow (Sort.ahead w m) os) blk 0 pl.toArray := holdsK_grow _ _ _ _ blk 0 _ hblk (holdsK_ahead _ _ _ _ _ _ _ hH)
    refine less93 blk 0 c Bs pl.toArray.size _ (fun t => dk[t]!.1.k) ?_ (fun t ht => ?_) i j hi hj (by simp; omega)
    · rw [e, cell?_putRowK_other _ _ _ blk 0 dk _ (by exact hB2), cell?_grow _ _ _ (by exact hB1)]; simpa using hBs
    · rw [e]
      have := ((holdsK_putRowK _ _ _ blk 0 _ dk hHg hs).cell (i := t) (c := 0) (by omega) (by omega)).1
      simpa [encA] using this
  obtain ⟨i37, hi37, hd37⟩ := Option.map_eq_some_iff.1 desc37
  obtain ⟨i82, hi82, hd82⟩ := Option.map_eq_some_iff.1 facts82
  have k1 : i82.size = 3 := congrArg (fun x => x.1) hd82
  have k2 : i82.hasPointers = true := congrArg (fun x => x.2.1) hd82
  have k3 : i82.bytes = 56 := congrArg (fun x => x.2.2) hd82
  have hk : Lib.swapperK pl.toArray.size i82 25 = 9 := by
    have a : (pl.length == 0) = false := by
      have : pl.length ≠ 0 := by omega
      simpa using this
    have b : (pl.length == 1) = false := by
      have : pl.length ≠ 1 := by omega
      simpa using this
    simp [Lib.swapperK, k2, k3, a, b]
  have hS := Tryz.sort_Slice_cells_sorted 37 82 i37 i82 hi37 hd37 pack37 hi82 25 kind82 encA 3 encA_len k1 agg82 encA_one ltK swo_ltK 93 #[.pointer (some ⟨Bs, 0, none⟩)]
    (enters_of Tryz.func93 (by kernel_rfl) rfl) blk 0 c pl.toArray (by simpa using h2) (by simp; omega) 201 (by rw [hk]; exact swap201) false
    (fun args W => run_callFunc_extern Tryz.func201 (by kernel_rfl) (by kernel_rfl) (by kernel_rfl) (e := Extern.ReflectliteSwapper.swap false) (by kernel_rfl) args W) w hless hH hblk
  simp only [List.size_toArray] at hS
  refine hS.mono ?_
  rintro e w' ⟨rfl, d', n, os, hp, hso, rfl⟩
  refine ⟨rfl, d'.toList, _, ?_, ?_, blkRow hb n _ os, ?_, grownRow w n blk _ os⟩
  · obtain ⟨h1, h3, h4⟩ := hp
    have e1 : (d'.extract 0 pl.length).toList = d'.toList := by
      have h6 : d'.size = pl.length := by simpa using h1
      rw [← h6]; simp
    have e2 : (pl.toArray.extract 0 pl.length).toList = pl := by simp
    rw [e1, e2] at h4
    exact h4
  · have hs1 : d'.size = pl.length := by simpa using hp.1
    rw [List.pairwise_iff_getElem]
    intro i j hi hj hij
    have h5 := hso i j (Nat.zero_le _) hij (by simpa [hs1] using hj)
    simp only [Array.length_toList] at hi hj
    rw [getElem!_pos d' i hi, getElem!_pos d' j hj] at h5
    simpa using h5
  · intro j u hj
    have hs1 : d'.size = pl.toArray.size := hp.1
    have hF : HoldsK encA 3 (grow (putRowK encA 3 (Sort.ahead w n) blk 0 d') os) blk 0 d' := holdsK_grow _ _ _ _ blk 0 _ (by simpa [putRowK] using hblk) (holdsK_putRowK _ _ _ blk 0 _ d' (holdsK_ahead _ _ _ _ _ _ _ hH) hs1)
    have h1 := cellsA hF j u hj
    have h2 := (blkRow hb n (putCells id 0 (flatK encA 3 d')) os).cell j
    exact h2.symm.trans h1
end
end Go.Proofs.YtpgookhdffklkaaGreatDoor

namespace Go.Proofs.YtpgookhdffklkaaGreatDoor
open Go.RowKit
def PsI (w : World) (T : TypeId) (ml : List MA) : Prop := ∀ x ∈ ml, SlV w T (.slice x.2.1 x.1.ps.length x.2.2) x.1.ps.length (x.1.ps.flatMap encI)
theorem PsI.keeps {S : TypeId → Prop} {w w' : World} {T : TypeId} {ml : List MA} (h : PsI w T ml) (hk : Keeps S w w') (ht : S T) : PsI w' T ml := fun x hx => (h x hx).keeps hk ht
theorem PsI.below {w w' : World} {T : TypeId} {ml : List MA} (h : PsI w T ml) (hb : Below w.heap.size w w') : PsI w' T ml := h.keeps (S := fun _ => True) (Keeps.of_below hb) trivial
theorem PsI.nil (w : World) (T : TypeId) : PsI w T [] := fun x hx => by cases hx
theorem PsI.snoc {w : World} {T : TypeId} {ml : List MA} (h : PsI w T ml) {x : MA} (hx : SlV w T (.slice x.2.1 x.1.ps.length x.2.2) x.1.ps.length (x.1.ps.flatMap encI)) : PsI w T (ml ++ [x]) := fun y hy => by
  rcases List.mem_append.1 hy with hy | hy
  · exact h y hy
  · simp only [List.mem_singleton] at hy
    subst hy
    exact hx
theorem PsI.perm {w : World} {T : TypeId} {ml ml' : List MA} (h : PsI w T ml) (hp : ml'.Perm ml) : PsI w T ml' := fun x hx => h x (hp.mem_iff.1 hx)
/-- A slice of members of impl (e: 82, T: 146) or of spec (29, 34). -/
def RowA (w : World) (e T : TypeId) (v : Value) (ml : List MA) : Prop := SlV w e v ml.length (ml.flatMap encA) ∧ PsI w T ml
theorem RowA.below {w w' : World} {e T : TypeId} {v : Value} {ml : List MA} (h : RowA w e T v ml) (hb : Below w.heap.size w w') : RowA w' e T v ml := ⟨h.1.below hb, h.2.below hb⟩
theorem info82 : (Tryz.prog.info? 82).map (fun i => (i.zero, i.size, i.bytes)) = some (some (.agg #[.string ⟨#[]⟩, .string ⟨#[]⟩, .slice none 0 0]), 3, 56) := by kernel_rfl
theorem swap194 : Tryz.prog.funcs.findIdx? (·.name == "internal/reflectlite" ++ ".Swapper$" ++ toString 2) = some 194 := by kernel_rfl
theorem below_grow (w : World) (os : Array Obj) : Below w.heap.size w (Sort.grow w os) :=
  ⟨rfl, rfl, rfl, by simp [Sort.grow], fun i hi => by simp only [Sort.grow]; rw [Array.getElem?_append_left hi]⟩
/-- sort.Slice over one member. -/
theorem sort_one (n : Nat) (hn : n = 1) (p : Option Addr) (c : Nat) (lb : Array Value) (w : World) :
    Calls Tryz.prog 92 #[.iface 37 (.slice p n c), .func (.func 93) #[] lb] w fun e w' => e = .returned (.tuple #[]) ∧ Below w.heap.size w w' := by
  subst hn
  obtain ⟨i37, hi37, hd37⟩ := Option.map_eq_some_iff.1 desc37
  obtain ⟨i82, hi82, hd82⟩ := Option.map_eq_some_iff.1 facts82
  have hk : Lib.swapperK 1 i82 25 = 2 := rfl
  have hS := Any.sort_Slice_tiny (P := Tryz.prog) Tryz.laysGg6 37 82 i37 i82 hi37 hd37 pack37 hi82 25 kind82 p 1 c (Nat.le_refl _) 194 (by rw [hk]; exact swap194) (.func 93) #[] lb w
  change Calls Tryz.prog 92 _ _ _ at hS
  refine hS.mono ?_
  rintro e w' ⟨rfl, os, rfl⟩
  exact ⟨rfl, below_grow w os⟩
theorem keeps_row {w w' : World} {g : Nat} {t : TypeId} {cur : Array Value} (hg : w.grownBy w' (some g)) (hb : Blk w g t cur) : Keeps (fun e => e ≠ t) w w' := fun b cur' e fz he hb' => by
  refine (hg.block b (lt_of_heap hb') ?_).trans hb'
  intro hc
  injection hc with hc
  subst hc
  unfold Blk at hb
  rw [hb] at hb'
  injection hb' with hb'
  injection hb' with _ h2
  exact he h2.symm
/-- The state of the loop of membersOf. -/
structure MSt (rd : BM → Mem) (w w1 : World) (pl : PL) (i : Value) (wr : World) (j : Nat) (ml : List MA) (sv : Value) : Prop where
  hj : j ≤ pl.length
  hi : i = .int .i64 j
  hbox : Blk wr (w.heap.size + 1) 37 #[sv]
  hown : wr.ownsRow (w.heap.size + 2) 82 3 sv j (ml.flatMap encA)
  hml : ml.map (·.1) = (pl.take j).map fun x => rd x.1
  hps : PsI wr 146 ml
  hb : Below w.heap.size w wr
  hk : Keeps (fun e => e = 86 ∨ e = 148) w1 wr
set_option maxRecDepth 100000 in
set_option maxHeartbeats 8000000 in
theorem membersOf_any (rd : BM → Mem) (pl0 : PL) (b : Nat) (w : World) (hE : Env w) (hL : ListR w b pl0) (h0 : pl0 ≠ []) (hsm : ∀ x ∈ pl0, x.1.ps.length ≤ 1000000) (hn : pl0.length ≤ 1000)
    (hmo : ∀ m ∈ pl0.map (·.1), ∀ (v : Value) (W : World), Env W → MvR W v m → Calls Tryz.prog 91 #[v] W fun e w' => ∃ A q, e = .returned (.agg #[.string (bs (rd m).k), .string (bs (rd m).v), .slice A (rd m).ps.length q]) ∧ SlV w' 146 (.slice A (rd m).ps.length q) (rd m).ps.length ((rd m).ps.flatMap encI) ∧ Below W.heap.size W w') :
    Calls Tryz.prog 45 #[.agg #[.map (some b)]] w fun e w' => (∃ (ml : List MA) (v : Value), (ml.map (·.1)).Perm (pl0.map fun x => rd x.1) ∧ ml.Pairwise (fun x y => ltK y x = false) ∧ e = .returned v ∧ RowA w' 82 146 v ml) ∧ Below w.heap.size w w' := by
  have HE := Lib.hid hE
  have HL := Lib.hid hL
  have HMO := Lib.hid hmo
  have HB0 := Lib.hid (((Below.refl w.heap.size w).alloc (Nat.le_refl _) (.cells #[.map (some b)] 94)).alloc (by simp) (.cells #[.slice none 0 0] 37))
  have HK0 := Lib.hid ((Blk.new w 94 #[.map (some b)]).alloc (.cells #[.slice none 0 0] 37))
  have HJ0 := Lib.hid (Blk.new1 w (.cells #[.map (some b)] 94) 37 #[.slice none 0 0])
  have C1 := fun W h => Lib.hid (members_any pl0 b W h h0 hsm (by omega))
  clear hE hL hmo
  go_enter Tryz.func45, Tryz.ntmps45
  go_wp2_with (go_at_call 90; (refine (C1 _ (HL.out.below HB0.out)).out.mono ?_); rintro e w1 ⟨⟨pl, pv, hperm, rfl, hrow⟩, hb1⟩; have HP := Lib.hid hperm; have HRw := Lib.hid hrow; have HB1 := Lib.hid (HB0.out.trans (hb1.mono (by simp <;> omega))); have HJ1 := Lib.hid (HJ0.out.belowS hb1); obtain ⟨A1, q1, hq1⟩ := hrow.1.form; subst hq1; clear hb1 hperm hrow)
  have hnp : pl.length ≤ 1000 := by have z := HP.out.length_eq; simp at z; omega
  have hnp0 : 0 < pl.length := by have z := HP.out.length_eq; have := List.length_pos_iff.2 h0; simp at z; omega
  have hsz1 : w.heap.size + 2 ≤ w1.heap.size := by have := HJ1.out.lt; omega
  go_loopw [5, 9] (fun _ i wr => ∃ (j : Nat) (ml : List MA) (sv : Value), MSt rd w w1 pl i wr j ml sv) (fun _ i _ => pl.length - (intOf i).toNat)
  case atStart => exact ⟨0, [], _, ⟨Nat.zero_le _, rfl, HJ1.out, World.ownsRow_nil _ _ _ _, rfl, PsI.nil _ _, HB1.out, Keeps.refl _⟩⟩
  case round =>
    obtain ⟨j, ml, sv, ⟨hj, rfl, hbox, hown, hml, hps, hb, hk⟩⟩ := hrel
    have HB := Lib.hid hb
    have HJ := Lib.hid hbox
    have HO := Lib.hid hown
    have HML := Lib.hid hml
    have HPS := Lib.hid hps
    have HKp := Lib.hid hk
    have hge := hb.size
    have hge2 : w.heap.size + 2 ≤ wr.heap.size := by have := hbox.lt; omega
    have hmll : ml.length = j := by have z := congrArg List.length hml; simp at z; omega
    clear hb hbox hown hml hps hk
    by_cases hlt : j < pl.length
    · obtain ⟨pb, poff, pc, hq, -, -, hpb, hpc⟩ := (HRw.out.1.keeps HKp.out (Or.inl rfl)).cells (flatM_ne (by intro e; rw [e] at hlt; simp at hlt))
      injection hq with hq1 hq2 hq3
      subst hq1; subst hq3
      obtain ⟨i0, i1, i2, i3, i4⟩ := cellsM hpc j hlt
      have hmem := List.getElem_mem hlt
      have HME := Lib.hid (show pl[j].1 ∈ pl0.map (·.1) from HP.out.mem_iff.1 (List.mem_map_of_mem (f := fun x : BM × Value => x.1) hmem))
      have HVm := Lib.hid ((HRw.out.2 _ hmem).keeps HKp.out (Or.inr rfl))
      obtain ⟨A, q, hq⟩ := HVm.out.form
      rw [hq] at i3
      rw [hq] at HVm
      have HT := Lib.hid (show (pl.take (j + 1)).map (fun x => rd x.1) = (pl.take j).map (fun x => rd x.1) ++ [rd pl[j].1] by rw [List.take_succ_eq_append_getElem hlt, List.map_append]; rfl)
      have HWa := Lib.hid ((Below.refl wr.heap.size wr).alloc (Nat.le_refl _) (.cells #[.string (bs pl[j].1.k), .string (bs pl[j].1.v), .string (bs pl[j].1.md), .slice A pl[j].1.ps.length q, .bool true] 86))
      have HKn := Lib.hid (Blk.new wr 86 #[.string (bs pl[j].1.k), .string (bs pl[j].1.v), .string (bs pl[j].1.md), .slice A pl[j].1.ps.length q, .bool true])
      obtain ⟨b1, b2, b3, b4⟩ := HJ.out.use
      have hjl : j ≤ 4294967296 := by omega
      clear hpc hmem hq
      go_wp2
      go_region_law (first
        | (go_simp; go_at_call 91; (refine (HMO.out _ HME.out _ _ (by have z := HE.out.below (HB.out.trans (HWa.out.mono hge)); exact ⟨z.key, z.val, z.err, z.utf, z.asc, z.size⟩) ⟨_, rfl, (by have z := HVm.out.below HWa.out; exact z)⟩).mono ?_); rintro e w5 ⟨A5, q5, rfl, hsl5, hb5⟩; have HW5 := Lib.hid (below_then (B := wr.heap.size) (a := wr) hb5 (by simp) (by have z := HWa.out; exact ⟨z.os, z.tape, z.output, z.size, z.block⟩)); have HSL5 := Lib.hid hsl5; have HJ5 := Lib.hid (HJ.out.belowS HW5.out); have HO5 := Lib.hid (own_below HO.out HW5.out); have hge5 := HW5.out.size; clear hsl5 hb5; obtain ⟨d1, d2, d3, d4⟩ := HJ5.out.use)
        | (refine step_app1 rfl (.tmp 13) (.tmp 16) 37 rfl (w.heap.size + 2) 82 82 _ 3 56 Tryz.underlying37 info82 rfl (by decide) (by decide) sv j (ml.flatMap encA) rfl (encA (rd pl[j].1, A5, q5)) (by have z := HO5.out; exact z) rfl rfl (encA_one _) hjl (by show _ ≤ w5.heap.size; omega) ?_; intro v6 w6 hown6 hg6 _; have HG6 := Lib.hid (show w5.grownBy w6 sv.ownBlock from ⟨hg6.os, hg6.tape, hg6.output, hg6.size, hg6.block⟩); have HO6 := Lib.hid hown6; have HJ6 := Lib.hid (HJ5.out.grown HG6.out (own_blk_ne HO5.out HJ5.out (by decide))); clear hg6 hown6; obtain ⟨A6, c6, hv6⟩ := (SlV.of_own HO6.out).form; subst hv6; obtain ⟨g1, g2, g3, g4⟩ := HJ6.out.use))
      all_goals go_wp2
      all_goals
        have hK1 := (Keeps.refl w5).grown (T := fun e => e ≠ 82) HO5.out HG6.out (by simp)
        have hK2 := (Keeps.refl w6).setCell (T := fun e => e ≠ 37) (i := 0) HJ6.out (by simp) (.slice A6 (j + 1) c6)
        refine ⟨⟨j + 1, ml ++ [(rd pl[j].1, A5, q5)], _, ⟨by omega, by go_num, by simpa using HJ6.out.set_ 0 (.slice A6 (j + 1) c6), own_cast (own_keeps HO6.out hK2 (by simp)) rfl (by simp), by rw [List.map_append, HML.out, HT.out]; rfl, (((HPS.out.below HW5.out).snoc (x := (rd pl[j].1, A5, q5)) HSL5.out).keeps hK1 (by simp)).keeps hK2 (by simp), (below_app (HB.out.trans (HW5.out.mono hge)) (by omega) HO5.out (by omega) HG6.out).setCell (by simp) _, ?_⟩⟩, by simp [intOf]; omega⟩
        exact ((HKp.out.trans ((Keeps.of_below HW5.out).sub (fun _ _ => trivial))).trans (hK1.sub (by rintro e (rfl | rfl) <;> simp))).trans (hK2.sub (by rintro e (rfl | rfl) <;> simp))
    · have e : j = pl.length := by omega
      subst e
      rw [List.take_of_length_le (Nat.le_refl _)] at HML
      obtain ⟨g0, cap0, hsv⟩ : ∃ g c, sv = .slice (some ⟨g, 0, none⟩) pl.length c := by
        rcases HO.out.2 with ⟨h1, h2⟩ | ⟨g, c, cur, h1, _⟩
        · omega
        · exact ⟨g, c, h1⟩
      subst hsv
      obtain ⟨cur, hblk, hcs, htk, hgb, -, hcap⟩ := own_blk HO.out
      obtain ⟨b1, b2, b3, b4⟩ := HJ.out.use
      have hne : g0 ≠ w.heap.size + 1 := Blk.ne_ hblk HJ.out (by decide)
      have HPm := Lib.hid (show (ml.map (·.1)).Perm (pl0.map fun x => rd x.1) from by
        rw [HML.out]
        have z := HP.out.map rd
        simpa [List.map_map, Function.comp_def] using z)
      have hcm : cap0 ≤ maxLen := by
        obtain ⟨A', c', h1, h2, h3, _⟩ := SlV.of_own HO.out
        injection h1 with _ _ h4
        rw [h4]; exact h3
      have hcc : ∀ (j : Nat) (u : Value), (ml.flatMap encA)[j]? = some u → cur[j]? = some u := fun j u hj => by
        rw [← htk, List.getElem?_take] at hj
        split at hj
        · simpa using hj
        · cases hj
      have HBk := Lib.hid hblk
      rcases Nat.lt_or_ge 1 pl.length with h2 | h2
      · have C2 := Lib.hid (by
          have z := sort_many ml g0 cap0 (w.heap.size + 1) cur wr (by omega) (by omega) hblk hcc (by rw [b1 0]; simp [hmll]) (by omega) (Ne.symm hne)
          rw [hmll] at z
          exact z)
        clear hcc hblk htk
        go_wp2_with (go_at_call 92; (refine C2.out.mono ?_); rintro e w2 ⟨rfl, ml', cur', hp', hs', hb', hc', hg'⟩; have HJ2 := Lib.hid (HJ.out.grown hg' (by intro e; injection e with e; exact hne e)); have HP2 := Lib.hid hp'; have HS2 := Lib.hid hs'; have HB2 := Lib.hid hb'; have HC2 := Lib.hid hc'; have HG2 := Lib.hid hg'; clear hp' hs' hb' hc' hg'; obtain ⟨g1, g2, g3, g4⟩ := HJ2.out.use)
        go_ret
        have hl : ml'.length = pl.length := by have z := HP2.out.length_eq; omega
        refine ⟨⟨ml', _, (HP2.out.map (·.1)).trans HPm.out, HS2.out, rfl, ⟨?_, (HPS.out.keeps (keeps_row HG2.out HBk.out) (by simp)).perm HP2.out⟩⟩, below_row HB.out HG2.out hge (by omega)⟩
        rw [hl]
        exact ⟨_, _, rfl, hcap, hcm, fun _ => ⟨g0, 0, cur', _, rfl, HB2.out, fun j u hj => by rw [Nat.zero_add]; exact HC2.out j u hj⟩⟩
      · have e1 : pl.length = 1 := by omega
        have C2 := Lib.hid (sort_one pl.length e1 (some ⟨g0, 0, none⟩) cap0 #[.pointer (some ⟨w.heap.size + 1, 0, none⟩)] wr)
        have HE1 := Lib.hid e1
        clear hcc hblk htk e1
        go_wp2_with (go_at_call 92; (refine C2.out.mono ?_); rintro e w2 ⟨rfl, hb2⟩; have HW2 := Lib.hid hb2; have HJ2 := Lib.hid (HJ.out.belowS hb2); clear hb2; obtain ⟨g1, g2, g3, g4⟩ := HJ2.out.use)
        go_ret
        refine ⟨⟨ml, _, HPm.out, ?_, rfl, ⟨?_, HPS.out.below HW2.out⟩⟩, HB.out.trans (HW2.out.mono hge)⟩
        · have z : ml.length = 1 := by rw [hmll]; exact HE1.out
          match ml, z with
          | [x], _ => exact List.pairwise_singleton _ _
        · rw [hmll]
          exact (SlV.of_own HO.out).below HW2.out
end Go.Proofs.YtpgookhdffklkaaGreatDoor

namespace Go.Proofs.YtpgookhdffklkaaGreatDoor
open Go.RowKit
theorem swap193 : Tryz.prog.funcs.findIdx? (·.name == "internal/reflectlite" ++ ".Swapper$" ++ toString 1) = some 193 := by kernel_rfl
theorem sort_zero (p : Option Addr) (c : Nat) (lb : Array Value) (w : World) :
    Calls Tryz.prog 92 #[.iface 37 (.slice p 0 c), .func (.func 93) #[] lb] w fun e w' => e = .returned (.tuple #[]) ∧ Below w.heap.size w w' := by
  obtain ⟨i37, hi37, hd37⟩ := Option.map_eq_some_iff.1 desc37
  obtain ⟨i82, hi82, hd82⟩ := Option.map_eq_some_iff.1 facts82
  have hk : Lib.swapperK 0 i82 25 = 1 := rfl
  have hS := Any.sort_Slice_tiny (P := Tryz.prog) Tryz.laysGg6 37 82 i37 i82 hi37 hd37 pack37 hi82 25 kind82 p 0 c (by omega) 193 (by rw [hk]; exact swap193) (.func 93) #[] lb w
  change Calls Tryz.prog 92 _ _ _ at hS
  refine hS.mono ?_
  rintro e w' ⟨rfl, os, rfl⟩
  exact ⟨rfl, below_grow w os⟩
set_option maxRecDepth 100000 in
set_option maxHeartbeats 1000000 in
theorem members_nil (w : World) :
    Calls Tryz.prog 90 #[.agg #[.map none]] w fun e w' => e = .returned (.slice none 0 0) ∧ Below w.heap.size w w' := by
  go_enter Tryz.func90, Tryz.ntmps90
  go_wp2
  go_ret
  exact ⟨rfl, (Below.refl _ _).alloc (Nat.le_refl _) _⟩
set_option maxRecDepth 100000 in
set_option maxHeartbeats 1000000 in
theorem membersOf_nil (w : World) :
    Calls Tryz.prog 45 #[.agg #[.map none]] w fun e w' => e = .returned (.slice none 0 0) ∧ Below w.heap.size w w' := by
  have C1 := fun W => Lib.hid (members_nil W)
  have C2 := fun lb W => Lib.hid (sort_zero none 0 lb W)
  have HB0 := Lib.hid (((Below.refl w.heap.size w).alloc (Nat.le_refl _) (.cells #[.map none] 94)).alloc (by simp) (.cells #[.slice none 0 0] 37))
  have HJ0 := Lib.hid (Blk.new1 w (.cells #[.map none] 94) 37 #[.slice none 0 0])
  go_enter Tryz.func45, Tryz.ntmps45
  go_wp2_with (go_at_call 90; (with_reducible refine (C1 _).out.mono ?_); rintro e w1 ⟨rfl, hb1⟩; have HB1 := Lib.hid (HB0.out.trans (hb1.mono (by simp <;> omega))); have HJ1 := Lib.hid (HJ0.out.belowS hb1); clear hb1; obtain ⟨c1, c2, c3, c4⟩ := HJ1.out.use)
  refine wp_loop_rounds 1 ?_; rw [rounds_succ]
  go_wp2_with (go_at_call 92; (with_reducible refine (C2 _ _).out.mono ?_); rintro e w2 ⟨rfl, hb2⟩; have HB2 := Lib.hid (HB1.out.trans (hb2.mono HB1.out.size)); have HJ2 := Lib.hid (HJ1.out.belowS hb2); clear hb2; obtain ⟨d1, d2, d3, d4⟩ := HJ2.out.use)
  go_ret
  exact ⟨rfl, HB2.out⟩
end Go.Proofs.YtpgookhdffklkaaGreatDoor

namespace Go.Proofs.YtpgookhdffklkaaGreatDoor
open Go.RowKit
def toB (m : Mem) : BM := ⟨m.k, m.v, [], m.ps⟩
theorem cellsAt {w : World} {b off : Nat} {ml : List MA} (hc : ∀ (j : Nat) (u : Value), (ml.flatMap encA)[j]? = some u → w.cell? ⟨b, off + j, none⟩ = some u) (k : Nat) (h : k < ml.length) :
    w.cell? ⟨b, off + k * 3, none⟩ = some (.string (bs ml[k].1.k)) ∧ w.cell? ⟨b, off + k * 3 + 1, none⟩ = some (.string (bs ml[k].1.v)) ∧ w.cell? ⟨b, off + k * 3 + 2, none⟩ = some (.slice ml[k].2.1 ml[k].1.ps.length ml[k].2.2) := by
  have h0 := flat_get encA 3 encA_len ml k 0 h (by omega)
  have h1 := flat_get encA 3 encA_len ml k 1 h (by omega)
  have h2 := flat_get encA 3 encA_len ml k 2 h (by omega)
  exact ⟨hc (k * 3) _ h0, hc (k * 3 + 1) _ h1, hc (k * 3 + 2) _ h2⟩
theorem flatA_ne {ml : List MA} (h : ml ≠ []) : ml.flatMap encA ≠ [] := by
  intro e
  have := congrArg List.length e
  rw [flat_len encA 3 encA_len] at this
  exact h (List.eq_nil_of_length_eq_zero (by rw [List.length_nil] at this; omega))
theorem sm_of_ok {m : BM} (h : OkM m) (h0 : m.md = []) : SmM m := ⟨h.lk, h.lv, by rw [h0]; simp, fun p hp => ⟨(h.ps p hp).lk, (h.ps p hp).lv⟩, h.lp⟩
/-- The state of the loop of bagged. -/
structure BSt (w : World) (ml : List MA) (sv i : Value) (wr : World) (j : Nat) (pl : PL) : Prop where
  hj : j ≤ ml.length
  hi : i = .int .i64 j
  hown : wr.ownsRow w.heap.size 86 5 sv j (pl.flatMap encM)
  hpl : pl.map (·.1) = (ml.take j).map fun x => toB x.1
  hps : PsR wr 148 pl
  hb : Below w.heap.size w wr
end Go.Proofs.YtpgookhdffklkaaGreatDoor

namespace Go.Proofs.YtpgookhdffklkaaGreatDoor
open Go.RowKit
theorem foldB_ne (l : List BM) : ∀ acc : List BM, acc ≠ [] → l.foldl putB acc ≠ [] := by
  induction l with
  | nil => intro acc h; simpa using h
  | cons m t ih =>
    intro acc h
    refine ih _ ?_
    unfold putB
    split
    · simpa using h
    · simp
theorem dedB_ne {l : List BM} (h : l ≠ []) : dedB l ≠ [] := by
  cases l with
  | nil => exact absurd rfl h
  | cons m t => exact foldB_ne t _ (by simp [putB])
end Go.Proofs.YtpgookhdffklkaaGreatDoor

namespace Go.Proofs.YtpgookhdffklkaaGreatDoor
open Go.RowKit
theorem split_join (ts : List (List UInt8)) (h0 : ts ≠ []) (h : ∀ t ∈ ts, ∀ x ∈ t, x ≠ 44) : splitC 44 (Lib.join ts [44]) = ts := by
  induction ts with
  | nil => exact absurd rfl h0
  | cons t r ih =>
    have ht := h t (by simp)
    cases r with
    | nil => rw [Lib.join_one]; exact splitC_none (pos1_none ht)
    | cons u s =>
      have e : Lib.join (t :: u :: s) [44] = t ++ 44 :: Lib.join (u :: s) [44] := by
        rw [Lib.join_cons, Lib.join_cons]
        simp [Lib.joinTail]
      rw [e, splitC_some (pos1_at ht)]
      have e1 : (t ++ 44 :: Lib.join (u :: s) [44]).take t.length = t := by simp
      have e2 : (t ++ 44 :: Lib.join (u :: s) [44]).drop (t.length + 1) = Lib.join (u :: s) [44] := by
        rw [List.drop_append]
        simp
      rw [e1, e2, ih (by simp) (fun t' ht' => h t' (by simp [ht']))]
theorem tot_join (ms : List BM) : (Lib.join (ms.map mText) [44]).length = tot ms := by
  cases ms with
  | nil => simp [Lib.join_nil, tot, Lib.lens]
  | cons m r =>
    rw [List.map_cons, Lib.join_length]
    simp only [tot, List.map_cons, List.length_cons, List.length_nil, List.length_map]
    omega
set_option maxRecDepth 100000 in
set_option maxHeartbeats 1000000 in
theorem parse_nil (w : World) :
    Calls Tryz.prog 49 #[.string (bs [])] w fun e w' => e = .returned (.tuple #[.agg #[.map none], .nilIface]) ∧ Below w.heap.size w w' := by
  go_enter Tryz.func49, Tryz.ntmps49
  go_wp2
  have e0 := ((Blk.new1 w (.cells #[] 94) 94 #[]).cell 0)
  clear e0
  exact bodyPost_ret (v := .tuple #[.agg #[.map none], .nilIface]) (by simp [results, Tryz.results49, go_sem]) rfl ⟨rfl, (Below.refl _ _).alloc (Nat.le_refl _) _⟩
/-- The members as impl tells them. -/
def rdB (m : BM) : Mem := ⟨m.k, m.v, m.ps⟩
end Go.Proofs.YtpgookhdffklkaaGreatDoor

namespace Go.Proofs.YtpgookhdffklkaaGreatDoor
open Go.RowKit
theorem join_two (t u : List UInt8) (s : List (List UInt8)) (c : UInt8) : Lib.join (t :: u :: s) [c] = t ++ c :: Lib.join (u :: s) [c] := by
  rw [Lib.join_cons, Lib.join_cons]
  simp [Lib.joinTail]
theorem split_joinC (c : UInt8) (ts : List (List UInt8)) (h0 : ts ≠ []) (h : ∀ t ∈ ts, ∀ x ∈ t, x ≠ c) : splitC c (Lib.join ts [c]) = ts := by
  induction ts with
  | nil => exact absurd rfl h0
  | cons t r ih =>
    have ht := h t (by simp)
    cases r with
    | nil => rw [Lib.join_one]; exact splitC_none (pos1_none ht)
    | cons u s =>
      rw [join_two, splitC_some (pos1_at ht)]
      have e1 : (t ++ c :: Lib.join (u :: s) [c]).take t.length = t := by simp
      have e2 : (t ++ c :: Lib.join (u :: s) [c]).drop (t.length + 1) = Lib.join (u :: s) [c] := by
        rw [List.drop_append]
        simp
      rw [e1, e2, ih (by simp) (fun t' ht' => h t' (by simp [ht']))]
/-- What the text of some properties is like. -/
structure MdT (l : List UInt8) : Prop where
  ne : l ≠ []
  hd : l.head? ≠ some 59
  lt : l.getLast? ≠ some 59
  db : noDbl l = true
theorem noDbl_free (t : List UInt8) (h : ∀ x ∈ t, x ≠ 59) : noDbl t = true := by
  induction t with
  | nil => rfl
  | cons a t ih =>
    cases t with
    | nil => rfl
    | cons b s =>
      have ha := h a (by simp)
      unfold noDbl
      rw [ih (fun x hx => h x (by simp [hx]))]
      simp [ha]
theorem noDbl_pre (t r : List UInt8) (ht : ∀ x ∈ t, x ≠ 59) (h0 : t ≠ []) (hr : noDbl r = true) (hh : r.head? ≠ some 59) : noDbl (t ++ 59 :: r) = true := by
  induction t with
  | nil => exact absurd rfl h0
  | cons a s ih =>
    have ha := ht a (by simp)
    cases s with
    | nil =>
      show noDbl (a :: 59 :: r) = true
      have h1 : noDbl (59 :: r) = true := by
        cases r with
        | nil => rfl
        | cons y z =>
          have hy : ¬ y = 59 := fun e => hh (by rw [e]; rfl)
          unfold noDbl
          rw [hr]
          simp [hy]
      unfold noDbl
      rw [h1]
      simp [ha]
    | cons b z =>
      have ih := ih (fun x hx => ht x (by simp [hx])) (by simp)
      show noDbl (a :: b :: (z ++ 59 :: r)) = true
      unfold noDbl
      rw [show b :: (z ++ 59 :: r) = b :: z ++ 59 :: r from rfl, ih]
      simp [ha]
theorem join_md (ts : List (List UInt8)) (h0 : ts ≠ []) (h : ∀ t ∈ ts, t ≠ [] ∧ ∀ x ∈ t, x ≠ 59) : MdT (Lib.join ts [59]) := by
  induction ts with
  | nil => exact absurd rfl h0
  | cons t r ih =>
    obtain ⟨ht0, ht⟩ := h t (by simp)
    have hh : ∀ s, (t ++ s).head? ≠ some 59 := by
      intro s
      cases t with
      | nil => exact absurd rfl ht0
      | cons a z => exact fun e => ht a (by simp) (by simpa using e)
    cases r with
    | nil =>
      rw [Lib.join_one]
      refine ⟨ht0, by simpa using hh [], fun e => ?_, noDbl_free t ht⟩
      exact ht 59 (List.mem_of_getLast? e) rfl
    | cons u s =>
      have ih := ih (by simp) (fun t' ht' => h t' (by simp [ht']))
      rw [join_two]
      refine ⟨by simp, hh _, ?_, noDbl_pre _ _ ht ht0 ih.db ih.hd⟩
      rw [List.getLast?_append, List.getLast?_cons]
      cases hg : (Lib.join (u :: s) [59]).getLast? with
      | none => exact absurd (List.getLast?_eq_none_iff.1 hg) ih.ne
      | some y =>
        have := ih.lt
        rw [hg] at this
        simpa using this
/-- Properties that are written: their keys are tokens. -/
structure OkT (p : Pr) : Prop where
  tk : tok p.k = true
  vd : Lib.validD p.v = true
  no : p.has = false → p.v = []
  lk : p.k.length ≤ 100000
  lv : p.v.length ≤ 100000
theorem pText_tok {p : Pr} (h : tok p.k = true) : pText p = if p.has then p.k ++ 61 :: encL p.v else p.k := by simp [pText, h]
theorem pText_ne {p : Pr} (h : tok p.k = true) : pText p ≠ [] := by
  rw [pText_tok h]
  have := tok_ne h
  split
  · simp
  · intro e; rw [e] at this; simp at this
theorem pText_no {p : Pr} (h : tok p.k = true) : ∀ x ∈ pText p, x ≠ 59 ∧ x ≠ 44 := by
  intro x hx
  rw [pText_tok h] at hx
  split at hx
  · rcases List.mem_append.1 hx with hx | hx
    · exact (key_ne h x hx).2
    · rcases List.mem_cons.1 hx with rfl | hx
      · decide
      · exact val_ne _ x hx
  · exact (key_ne h x hx).2
theorem pTexts_tok {ps : List Pr} (h : ∀ p ∈ ps, tok p.k = true) : pTexts ps = ps.map pText := by
  unfold pTexts
  refine List.filter_eq_self.2 fun t ht => ?_
  obtain ⟨p, hp, rfl⟩ := List.mem_map.1 ht
  have := pText_ne (h p hp)
  cases hh : pText p with
  | nil => exact absurd hh this
  | cons a b => rfl
theorem psText_md {ps : List Pr} (h0 : ps ≠ []) (h : ∀ p ∈ ps, tok p.k = true) : MdT (psText ps) ∧ splitC 59 (psText ps) = ps.map pText := by
  unfold psText
  rw [pTexts_tok h]
  refine ⟨join_md _ (by simpa using h0) (fun t ht => ?_), split_joinC 59 _ (by simpa using h0) (fun t ht => ?_)⟩
  · obtain ⟨p, hp, rfl⟩ := List.mem_map.1 ht
    exact ⟨pText_ne (h p hp), fun x hx => (pText_no (h p hp) x hx).1⟩
  · obtain ⟨p, hp, rfl⟩ := List.mem_map.1 ht
    exact fun x hx => (pText_no (h p hp) x hx).1
end Go.Proofs.YtpgookhdffklkaaGreatDoor

namespace Go.Proofs.YtpgookhdffklkaaGreatDoor
open Go.RowKit
set_option maxHeartbeats 1000000 in
theorem propVal_any (p : Pr) (w : World) : Calls Tryz.prog 191 #[.agg #[.string (bs p.k), .string (bs p.v), .bool p.has]] w fun e w' => e = .returned (.tuple #[.string (bs p.v), .bool p.has]) ∧ Below w.heap.size w w' := by
  obtain ⟨k, has, v⟩ := p
  dsimp only
  go_enter Tryz.func191, Tryz.ntmps191
  go_wp2
  go_quiet (fail)
  go_wp2
  go_ret2
  exact ⟨rfl, below_drewN ((Below.refl _ _).alloc (Nat.le_refl _) _) _⟩
set_option maxHeartbeats 1000000 in
theorem propKey_any (p : Pr) (w : World) : Calls Tryz.prog 192 #[.agg #[.string (bs p.k), .string (bs p.v), .bool p.has]] w fun e w' => e = .returned (.string (bs p.k)) ∧ Below w.heap.size w w' := by
  obtain ⟨k, has, v⟩ := p
  dsimp only
  go_enter Tryz.func192, Tryz.ntmps192
  go_wp2
  go_ret
  exact ⟨rfl, (Below.refl _ _).alloc (Nat.le_refl _) _⟩
set_option maxRecDepth 100000 in
set_option maxHeartbeats 2000000 in
theorem propOf_any (p : Pr) (w : World) : Calls Tryz.prog 142 #[.agg #[.string (bs p.k), .string (bs p.v), .bool p.has]] w fun e w' => e = .returned (.agg #[.string (bs p.k), .bool p.has, .string (bs p.v)]) ∧ Below w.heap.size w w' := by
  have C1 := fun W => Lib.hid (propVal_any p W)
  have C2 := fun W => Lib.hid (propKey_any p W)
  obtain ⟨k, has, v⟩ := p
  dsimp only at *
  have HA0 := Lib.hid ((Blk.new w 148 #[.string (bs k), .string (bs v), .bool has]).alloc (.cells #[.string ⟨#[]⟩, .bool false, .string ⟨#[]⟩] 146))
  have HK0 := Lib.hid (Blk.new1 w (.cells #[.string (bs k), .string (bs v), .bool has] 148) 146 #[.string ⟨#[]⟩, .bool false, .string ⟨#[]⟩])
  have HB0 := Lib.hid (((Below.refl w.heap.size w).alloc (Nat.le_refl _) (.cells #[.string (bs k), .string (bs v), .bool has] 148)).alloc (by simp) (.cells #[.string ⟨#[]⟩, .bool false, .string ⟨#[]⟩] 146))
  go_enter Tryz.func142, Tryz.ntmps142
  go_wp2_with (first
    | (go_at_call 191; (with_reducible refine (C1 _).out.mono ?_); rintro e w1 ⟨rfl, hb1⟩; have HK1 := Lib.hid (HK0.out.belowS hb1); have HA1 := Lib.hid (HA0.out.belowS hb1); have HB1 := Lib.hid (HB0.out.trans (hb1.mono HB0.out.size)); clear hb1; obtain ⟨a1, a2, a3, a4⟩ := HA1.out.use)
    | (go_at_call 192; (with_reducible refine (C2 _).out.mono ?_); rintro e w2 ⟨rfl, hb2⟩; have HK := Lib.hid (HK1.out.belowS hb2); have HB := Lib.hid (HB1.out.trans (hb2.mono HB1.out.size)); clear hb2; obtain ⟨c1, c2, c3, c4⟩ := HK.out.use))
  have hF := ((HK.out.set_ 0 (.string (bs k))).set_ 1 (.bool has)).set_ 2 (.string (bs v))
  have c0 := hF.cell 0
  have c1 := hF.cell 1
  have c2 := hF.cell 2
  simp at c0 c1 c2
  refine bodyPost_ret (v := .agg #[.string (bs k), .bool has, .string (bs v)]) (by simp [results, Tryz.results142, go_sem, c0, c1, c2]) rfl ⟨rfl, ?_⟩
  exact ((HB.out.setCell (by simp) _).setCell (by simp) _).setCell (by simp) _
end Go.Proofs.YtpgookhdffklkaaGreatDoor
