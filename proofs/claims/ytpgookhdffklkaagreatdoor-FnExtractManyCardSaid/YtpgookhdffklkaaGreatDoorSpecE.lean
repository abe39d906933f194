/-
  laws: entries as members; sorted copies of entries; members held against entries.
-/
import Derived.Test.YtpgookhdffklkaaGreatDoorSpecD
import Derived.Test.YtpgookhdffklkaaGreatDoorImplV
import Derived.Shelf.SlSortCmp.NoneTotal
namespace Go.Proofs.YtpgookhdffklkaaGreatDoor
open Go.RowKit

def toMA (x : En) : MA := (⟨x.1, x.2, []⟩, (none, 0))
set_option maxRecDepth 100000 in
set_option maxHeartbeats 4000000 in
theorem carryTo_any (l : List En) (v : Value) (w : World) (hv : RowE w v l) (hn : l.length ≤ 4294967296) :
    Calls Tryz.prog 28 #[v] w fun e w' => (∃ v', e = .returned v' ∧ RowA w' 82 146 v' (l.map toMA)) ∧ Below w.heap.size w w' := by
  obtain ⟨A, q, hq⟩ := hv.1.form
  subst hq
  have HV := Lib.hid hv
  clear hv
  go_enter Tryz.func28, Tryz.ntmps28
  go_wp2
  go_loopw [3, 5, 8] (fun sv _ i wr => ∃ k : Nat, k ≤ l.length ∧ i = .int .i64 k ∧ wr.ownsRow w.heap.size 82 3 sv k (((l.take k).map toMA).flatMap encA) ∧ Below w.heap.size w wr) (fun _ _ i _ => l.length - (intOf i).toNat)
  case atStart => exact ⟨0, Nat.zero_le _, rfl, World.ownsRow_nil _ _ _ _, Below.refl _ _⟩
  case round =>
    obtain ⟨k, hk, rfl, hown, hb⟩ := hrel
    have HO := Lib.hid hown
    have HB := Lib.hid hb
    have hge := hb.size
    clear hown hb
    by_cases hlt : k < l.length
    · obtain ⟨b, off, c, hq, hc1, hc2, hbb, hcl⟩ := HV.out.1.cells (flatE_ne (by intro e; rw [e] at hlt; simp at hlt))
      injection hq with hq1 hq2 hq3
      subst hq1; subst hq3
      obtain ⟨i0, i1⟩ := cellsE (fun z u hz => (HB.out.cell (p := ⟨b, off + z, none⟩) hbb).trans (hcl z u hz)) k hlt
      have C := fun W => Lib.hid (carryMember_any l[k] W)
      have HT := Lib.hid (show (l.take (k + 1)).map toMA = (l.take k).map toMA ++ [toMA l[k]] by rw [List.take_succ_eq_append_getElem hlt, List.map_append]; rfl)
      have HWa := Lib.hid ((Below.refl wr.heap.size wr).alloc (Nat.le_refl _) (.cells #[.string (bs l[k].1), .string (bs l[k].2)] 64))
      have hkl : k ≤ 4294967296 := by omega
      clear hcl
      go_wp2_with (first
        | (go_at_call 62; (with_reducible refine (C _).out.mono ?_); rintro e w2 ⟨rfl, hb2⟩; have HW2 := Lib.hid (HWa.out.trans (hb2.mono (by simp))); have HO2 := Lib.hid (own_below HO.out HW2.out); have HB2 := Lib.hid (HB.out.trans (HW2.out.mono hge)); have hge2 := HB2.out.size; clear hb2)
        | (at_builtin; refine app1 rfl (.tmp 12) (.tmp 15) 37 rfl w.heap.size 82 82 _ 3 56 Tryz.underlying37 info82 rfl (by decide) (by decide) u3 k _ rfl (encA (toMA l[k])) HO2.out rfl rfl (encA_one _) hkl hge2 ?_; intro v6 w6 hown6 hg6 _))
      exact ⟨⟨k + 1, by omega, by go_num, own_cast hown6 rfl (by rw [HT.out]; simp), below_app HB2.out hge2 HO2.out (Nat.le_refl _) hg6⟩, by simp [intOf]; omega⟩
    · have e : k = l.length := by omega
      subst e
      rw [List.take_of_length_le (Nat.le_refl _)] at HO
      go_wp2
      go_ret
      exact ⟨⟨_, rfl, by have z := SlV.of_own HO.out; simpa using z, fun x hx => by
        obtain ⟨y, _, rfl⟩ := List.mem_map.1 hx
        exact SlV.nil _ _⟩, HB.out⟩

/-! ### The sorted copy -/
theorem info64 : (Tryz.prog.info? 64).map (fun i => (i.zero, i.size, i.bytes)) = some (some (.agg #[.string ⟨#[]⟩, .string ⟨#[]⟩]), 2, 32) := by kernel_rfl
theorem encE_one (l : List En) : ∀ u ∈ l.flatMap encE, u.oneCell' = true := by
  intro u hu
  obtain ⟨x, _, hu⟩ := List.mem_flatMap.1 hu
  simp only [encE, List.mem_cons, List.not_mem_nil, or_false] at hu
  rcases hu with rfl | rfl <;> rfl
theorem own_empty {W : World} {g : Nat} {e : TypeId} {base size : Nat} (h : Blk W g e #[]) (hb : base ≤ g) : W.ownsRow base e size (.slice (some ⟨g, 0, none⟩) 0 0) 0 [] :=
  ⟨by simp, Or.inr ⟨g, 0, #[], rfl, hb, h, Nat.le_refl _, by simp [maxLen], by simp, by simp⟩⟩
set_option maxRecDepth 100000 in
set_option maxHeartbeats 2000000 in
theorem cloneE_any (l : List En) (v : Value) (w : World) (hv : RowE w v l) (hn : l.length ≤ 1000000) :
    Calls Tryz.prog 65 #[v] w fun e w' => (∃ v', e = .returned v' ∧ w'.ownsRow w.heap.size 64 2 v' l.length (l.flatMap encE)) ∧ Below w.heap.size w w' := by
  obtain ⟨A, q, hq⟩ := hv.1.form
  subst hq
  have HV := Lib.hid hv
  have nn := fun (W : World) (A : Option Addr) (n c n' c' : Nat) => Lib.run_eql_slice_nil (P := Tryz.prog) W 49 64 A n c n' c' Tryz.underlying49
  by_cases h0 : l = []
  · subst h0
    cases A with
    | none =>
      clear hv
      go_enter Tryz.func65, Tryz.ntmps65
      go_wp2
      go_ret
      exact ⟨⟨_, rfl, World.ownsRow_nil _ _ _ _⟩, Below.refl _ _⟩
    | some ad =>
      clear hv
      obtain ⟨i0, hi, hz0, hz1, hz2⟩ := info_parts info64
      go_enter Tryz.func65, Tryz.ntmps65
      go_wp2_with (at_builtin; refine wpList_append_own _ rfl (.tmp 5) (.tmp 6) 49 rfl w.heap.size 64 i0 _ 2 32 Tryz.underlying49 hi hz0 hz1 hz2 rfl (by decide) (.slice (some ⟨w.heap.size, 0, none⟩) 0 0) 0 [] rfl (own_empty (Blk.new _ _ _) (Nat.le_refl _)) ad 0 q [] rfl rfl (fun j u hj => by simp at hj) (fun u hu => by cases hu) (by unfold maxLen; omega) (by omega) (by simp) ?_; intro v6 w6 hown6 hg6 _)
      go_ret
      exact ⟨⟨_, rfl, own_cast hown6 rfl (by simp)⟩, ((Below.refl _ _).alloc (Nat.le_refl _) _).grown hg6 (by simp) (fun k hk => by simp [Value.ownBlock] at hk; omega)⟩
  · obtain ⟨b, off, c, hq, hc1, hc2, hbb, hcl⟩ := hv.1.cells (flatE_ne h0)
    injection hq with hq1 hq2 hq3
    subst hq1; subst hq3
    have HC := Lib.hid (show ∀ j u, (l.flatMap encE)[j]? = some u → (w.alloc (.cells #[] 64)).cell? ⟨b, off + j, none⟩ = some u from fun j u hj => (((Below.refl w.heap.size w).alloc (Nat.le_refl _) (.cells #[] 64)).cell (p := ⟨b, off + j, none⟩) hbb).trans (hcl j u hj))
    clear hv hcl
    go_enter Tryz.func65, Tryz.ntmps65
    go_wp2_with (at_builtin; refine appM rfl (.tmp 5) (.tmp 6) 49 rfl w.heap.size 64 _ 2 32 Tryz.underlying49 info64 rfl (by decide) (by decide) (.slice (some ⟨w.heap.size, 0, none⟩) 0 0) 0 [] rfl (own_empty (Blk.new _ _ _) (Nat.le_refl _)) b off l.length q (l.flatMap encE) rfl (flat_len encE 2 encE_len l) HC.out (encE_one l) (by omega) (by simp) ?_; intro v6 w6 hown6 hg6)
    go_ret
    exact ⟨⟨_, rfl, own_cast hown6 (by simp) (by simp)⟩, ((Below.refl _ _).alloc (Nat.le_refl _) _).grown hg6 (by simp) (fun k hk => by simp [Value.ownBlock] at hk; omega)⟩

theorem cmp_lt : ∀ a b : List UInt8, Lib.compareBytes a b < 0 ↔ a < b
  | [], [] => by simp [Lib.compareBytes]
  | [], _ :: _ => by simp [Lib.compareBytes]
  | _ :: _, [] => by simp [Lib.compareBytes]
  | a :: ar, b :: br => by
    rw [List.cons_lt_cons_iff]
    unfold Lib.compareBytes
    by_cases h1 : a < b
    · simp [h1]
    · by_cases h2 : b < a
      · simp [h1, h2]
        intro e
        subst e
        exact absurd h2 (by exact fun h => absurd h (by simp))
      · have e : a = b := by
          have h1' := UInt8.not_lt.1 h1
          have h2' := UInt8.not_lt.1 h2
          exact UInt8.le_antisymm h2' h1'
        simp only [if_neg h1, if_neg h2]
        rw [cmp_lt ar br]
        simp [e]
def cfE (x y : En) : Int := Lib.compareBytes x.1 y.1
theorem ltOf_cfE (x y : En) : Go.Proofs.ltOf cfE x y = decide (x.1 < y.1) := by
  unfold Go.Proofs.ltOf cfE
  exact decide_eq_decide.2 (cmp_lt x.1 y.1)
set_option maxRecDepth 100000 in
set_option maxHeartbeats 1000000 in
theorem less67 (x y : En) (W : World) : Calls Tryz.prog 67 #[.agg #[.string (bs x.1), .string (bs x.2)], .agg #[.string (bs y.1), .string (bs y.2)]] W fun e w' => e = .returned (.int .i64 (cfE x y)) ∧ w' = (W.alloc (.cells #[.string (bs x.1), .string (bs x.2)] 64)).alloc (.cells #[.string (bs y.1), .string (bs y.2)] 64) := by
  have C : ∀ W, Hid (Calls Tryz.prog 68 #[.string (bs x.1), .string (bs y.1)] W fun e w' => e = .returned (.int .i64 (cfE x y)) ∧ W = w') := fun W => Lib.hid ((Tryz.strings_Compare (bs x.1) (bs y.1) W).mono fun e w' ⟨he, hw⟩ => ⟨by rw [he]; simp [cfE], hw.symm⟩)
  go_enter Tryz.func67, Tryz.ntmps67
  go_wp2_with (go_at_call 68; (with_reducible refine (C _).out.mono ?_); rintro e w' ⟨rfl, rfl⟩)
  go_ret
  exact ⟨rfl, rfl⟩
section
open Go.Sort
theorem holdsE [Inhabited En] {w : World} {blk : Nat} {cur : Array Value} (h : Blk w blk 64 cur) (pl : List En) (hc : ∀ (j : Nat) (u : Value), (pl.flatMap encE)[j]? = some u → cur[j]? = some u) : HoldsK encE 2 w blk 0 pl.toArray := by
  intro j hj
  simp only [size_flatK, List.size_toArray] at hj
  rw [Nat.zero_add]
  refine ⟨?_, h.frozen j⟩
  rw [h.cell j]
  refine hc j _ ?_
  have h3 : j / 2 < pl.length := by omega
  have h4 := flat_get encE 2 encE_len pl (j / 2) (j % 2) h3 (by omega)
  have h5 : j / 2 * 2 + j % 2 = j := by omega
  rw [h5] at h4
  rw [h4, get_flatK encE 2 pl.toArray j (by simpa using hj)]
  have h6 : pl.toArray[j / 2]! = pl[j / 2] := by simp [h3]
  rw [h6, id]
  have h7 : j % 2 < (encE pl[j / 2]).length := by rw [encE_len]; omega
  rw [List.getElem?_eq_getElem h7, getElem!_pos (encE pl[j / 2]) (j % 2) h7]
theorem cellsEs [Inhabited En] {w : World} {blk : Nat} {d : Array En} (h : HoldsK encE 2 w blk 0 d) : ∀ (j : Nat) (u : Value), (d.toList.flatMap encE)[j]? = some u → w.cell? ⟨blk, j, none⟩ = some u := by
  intro j u hj
  have hl : j < (d.toList.flatMap encE).length := (List.getElem?_eq_some_iff.1 hj).1
  rw [flat_len encE 2 encE_len] at hl
  have hj3 : j < d.size * 2 := by simpa using hl
  have h1 := (h j (by simpa using hj3)).1
  rw [Nat.zero_add] at h1
  rw [h1]
  have h3 : j / 2 < d.toList.length := by simp; omega
  have h4 := flat_get encE 2 encE_len d.toList (j / 2) (j % 2) h3 (by omega)
  have h5 : j / 2 * 2 + j % 2 = j := by omega
  rw [h5, hj] at h4
  rw [get_flatK encE 2 d j hj3]
  have h3' : j / 2 < d.size := by simpa using h3
  have h6 : d[j / 2]! = d.toList[j / 2] := by rw [getElem!_pos d (j / 2) h3']; simp
  rw [h6, id]
  have h7 : j % 2 < (encE d.toList[j / 2]).length := by rw [encE_len]; omega
  rw [List.getElem?_eq_getElem h7] at h4
  rw [getElem!_pos (encE d.toList[j / 2]) (j % 2) h7]
  exact h4.symm

theorem agg64 (w : World) : (isAgg 64).run Tryz.prog w = .ok true w := by kernel_rfl
theorem siz64 (w : World) : (Go.sizeOf 64).run Tryz.prog w = .ok 2 w := by kernel_rfl
theorem swoE : SWO (ltOf cfE) :=
  ⟨fun x => by rw [ltOf_cfE]; exact Sort.swo_ltStr.irrefl x.1, fun x y z => by simp only [ltOf_cfE]; exact Sort.swo_ltStr.trans x.1 y.1 z.1, fun x y z => by simp only [ltOf_cfE]; exact Sort.swo_ltStr.ntrans x.1 y.1 z.1⟩
set_option maxRecDepth 100000 in
set_option maxHeartbeats 2000000 in
/-- slices.SortFunc over entries by their keys. -/
theorem sortE_any (l : List En) (v : Value) (base : Nat) (w : World) (hn : l.length ≤ 1000000) (hown : w.ownsRow base 64 2 v l.length (l.flatMap encE)) :
    Calls Tryz.prog 66 #[v, .func (.func 67) #[] #[]] w fun e w' => e = .returned (.tuple #[]) ∧ ∃ l' : List En, l'.Perm l ∧ l'.Pairwise (fun x y => ¬ y.1 < x.1) ∧ SlV w' 64 v l'.length (l'.flatMap encE) ∧ Below base w w' := by
  letI : Inhabited En := ⟨([], [])⟩
  by_cases h0 : l = []
  · subst h0
    obtain ⟨A, q, rfl⟩ := (SlV.of_own hown).form
    have h := AnyF.slices_SortFunc_none Tryz.sortEnt A q (.func (.func 67) #[] #[]) w
    change Calls Tryz.prog 66 _ _ _ at h
    refine h.mono fun e w' ⟨he, hw⟩ => ⟨he, [], List.Perm.refl _, List.Pairwise.nil, ?_, by rw [hw]; exact Below.refl _ _⟩
    rw [hw]
    exact SlV.of_own hown
  · obtain ⟨g0, cap0, hsv⟩ : ∃ g c, v = .slice (some ⟨g, 0, none⟩) l.length c := by
      rcases hown.2 with ⟨h1, h2⟩ | ⟨g, c, cur, h1, _⟩
      · exact absurd (List.eq_nil_of_length_eq_zero h2) h0
      · exact ⟨g, c, h1⟩
    subst hsv
    obtain ⟨cur, hblk, hcs, htk, hgb, -, hcap⟩ := own_blk hown
    have hcm : cap0 ≤ maxLen := by
      obtain ⟨A', c', h1, h2, h3, _⟩ := SlV.of_own hown
      injection h1 with _ _ h4
      rw [h4]; exact h3
    have hcc : ∀ (j : Nat) (u : Value), (l.flatMap encE)[j]? = some u → cur[j]? = some u := fun j u hj => by
      rw [← htk, List.getElem?_take] at hj
      split at hj
      · simpa using hj
      · cases hj
    have hH := holdsE hblk l hcc
    have hb := hblk.lt
    have hcmp : CmpLays Tryz.prog 67 #[] encE 2 cfE g0 0 l.toArray.size w := fun m os dk _ x y => (less67 x y _).mono fun e w' ⟨he, hw⟩ => ⟨he, 0, #[.cells #[.string (bs x.1), .string (bs x.2)] 64, .cells #[.string (bs y.1), .string (bs y.2)] 64], by
      rw [hw]
      simp only [Sort.grow, World.alloc, World.drewN, Nat.add_zero]
      congr 1⟩
    have hS := AnyQ.slices_SortFunc Tryz.sortEnt 2 agg64 siz64 encE encE_len (fun x v hv => encE_one [x] v (by simpa using hv)) cfE swoE 67 #[] g0 0 cap0 l.toArray w (enters_of Tryz.func67 (by kernel_rfl) rfl) hcmp hH hb (by simp; omega)
    change Calls Tryz.prog 66 _ _ _ at hS
    simp only [List.size_toArray] at hS
    refine hS.mono ?_
    rintro e w' ⟨rfl, d', n, os, hp, hso, rfl⟩
    have hs1 : d'.size = l.length := by simpa using hp.1
    refine ⟨rfl, d'.toList, ?_, ?_, ?_, ?_⟩
    · obtain ⟨h1, h3, h4⟩ := hp
      have e1 : (d'.extract 0 l.length).toList = d'.toList := by rw [← hs1]; simp
      have e2 : (l.toArray.extract 0 l.length).toList = l := by simp
      rw [e1, e2] at h4
      exact h4
    · rw [List.pairwise_iff_getElem]
      intro i j hi hj hij
      have h5 := hso i j (Nat.zero_le _) hij (by simpa [hs1] using hj)
      simp only [Array.length_toList] at hi hj
      rw [getElem!_pos d' i hi, getElem!_pos d' j hj, ltOf_cfE] at h5
      simpa using h5
    · have hF : HoldsK encE 2 (grow (putRowK encE 2 (Sort.ahead w n) g0 0 d') os) g0 0 d' := holdsK_grow _ _ _ _ g0 0 _ (by simpa [putRowK] using hb) (holdsK_putRowK _ _ _ g0 0 _ d' (holdsK_ahead _ _ _ _ _ _ _ hH) hs1)
      have hB := blkRow hblk n (putCells id 0 (flatK encE 2 d')) os
      refine ⟨_, cap0, by simp [hs1], by rw [Array.length_toList, hs1]; exact hcap, hcm, fun _ => ⟨g0, 0, _, _, rfl, hB, fun j u hj => ?_⟩⟩
      rw [Nat.zero_add]
      exact (hB.cell j).symm.trans (cellsEs hF j u hj)
    · exact below_row (Below.refl base w) (grownRow w n g0 _ os) (by omega) hgb
end
end Go.Proofs.YtpgookhdffklkaaGreatDoor
