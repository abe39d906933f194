/-
  'copy' over rows of structs; slices.Insert at Member of spec.
-/
import Derived.Laws.IdiomCopy
import Derived.Lib.AppendZerosOnto
import Derived.Lib.Overlaps
import Derived.Shelf.Spec.SlicesInsert
import Derived.Test.YtpgookhdffklkaaGreatDoorMJ
import Derived.Test.YtpgookhdffklkaaGreatDoorMK
namespace Go.Proofs.YtpgookhdffklkaaGreatDoor
open Go.RowKit
theorem run_copy_s {P : Program} (w : World) (dT sT ty elem : TypeId) (b o dLen dCap : Nat) (a : Addr) (sLen sCap size n : Nat) (cs : List Value)
    (hu : P.underlying dT = some (.slice elem)) (hs : (P.info? elem).map (·.size) = some size) (hm : Nat.min sLen dLen = n) (hn : cs.length = n * size)
    (hsrc : ∀ j v, cs[j]? = some v → w.cell? (a.add j) = some v) (hc : w.there b o (n * size)) (h1 : ∀ v ∈ cs, v.oneCell' = true) :
    (Builtin.copy_ #[dT, sT] ty #[.slice (some ⟨b, o, none⟩) dLen dCap, .slice (some a) sLen sCap]).run P w = .ok (goInt n) (w.setCells b o cs) := by
  have hl := run_loadCells_list (P := P) w a cs hsrc
  have hst := run_storeCells_cells (P := P) b o cs 0 w (fun j hj => by simpa using (hc j (by omega)).1) (fun j hj => by simpa using (hc j (by omega)).2) h1
  cases hq : P.info? elem with
  | none => simp [hq] at hs
  | some i =>
    have hi : i.size = size := by simpa [hq] using hs
    have hm' : min sLen dLen = n := hm
    rw [hn] at hl
    simp [Builtin.copy_, run_underlying hu, Builtin.lenOf, Builtin.firstCells, sizeOf, typeInfo, hq, hi, hm, hl, hst]
theorem flat_take3 (l : List MA) (i : Nat) (hi : i ≤ l.length) : (l.take i).flatMap encA = (l.flatMap encA).take (i * 3) ∧ (l.drop i).flatMap encA = (l.flatMap encA).drop (i * 3) := by
  have e : l.flatMap encA = (l.take i).flatMap encA ++ (l.drop i).flatMap encA := by rw [← List.flatMap_append, List.take_append_drop]
  have hl : ((l.take i).flatMap encA).length = i * 3 := by rw [flat_len encA 3 encA_len, List.length_take]; omega
  rw [e]
  constructor
  · exact (List.take_left' hl).symm
  · exact (List.drop_left' hl).symm
theorem ins_row (l : List MA) (x : MA) (i : Nat) (hi : i ≤ l.length) (cur : Array Value)
    (h1 : ∀ j u, j < i * 3 → (l.flatMap encA)[j]? = some u → cur[j]? = some u)
    (h2 : ∀ (j : Nat) u, (encA x)[j]? = some u → cur[i * 3 + j]? = some u)
    (h3 : ∀ (j : Nat) u, ((l.flatMap encA).drop (i * 3))[j]? = some u → cur[(i + 1) * 3 + j]? = some u) :
    cur.toList.take ((l.length + 1) * 3) = (l.take i ++ x :: l.drop i).flatMap encA := by
  obtain ⟨e1, e2⟩ := flat_take3 l i hi
  have hfl := flat_len encA 3 encA_len l
  rw [List.flatMap_append, List.flatMap_cons, e1, e2]
  apply List.ext_getElem?
  intro z
  have hA : ((l.flatMap encA).take (i * 3)).length = i * 3 := by rw [List.length_take, hfl]; omega
  have hB : ((l.flatMap encA).drop (i * 3)).length = (l.length - i) * 3 := by rw [List.length_drop, hfl]; omega
  by_cases hz : z < (l.length + 1) * 3
  · rw [List.getElem?_take_of_lt hz, Array.getElem?_toList]
    by_cases z1 : z < i * 3
    · rw [List.getElem?_append_left (by omega), List.getElem?_take_of_lt z1]
      have z2 : z < (l.flatMap encA).length := by omega
      rw [List.getElem?_eq_getElem z2]
      exact h1 z _ z1 (List.getElem?_eq_getElem z2)
    · rw [List.getElem?_append_right (by omega), hA]
      by_cases z3 : z - i * 3 < 3
      · rw [List.getElem?_append_left (by rw [encA_len]; exact z3)]
        have z4 : z - i * 3 < (encA x).length := by rw [encA_len]; exact z3
        have h := h2 (z - i * 3) _ (List.getElem?_eq_getElem z4)
        rw [show i * 3 + (z - i * 3) = z by omega] at h
        rw [h, List.getElem?_eq_getElem z4]
      · rw [List.getElem?_append_right (by rw [encA_len]; omega), encA_len]
        have z4 : z - i * 3 - 3 < ((l.flatMap encA).drop (i * 3)).length := by omega
        have h := h3 (z - i * 3 - 3) _ (List.getElem?_eq_getElem z4)
        rw [show (i + 1) * 3 + (z - i * 3 - 3) = z by omega] at h
        rw [h, List.getElem?_eq_getElem z4]
  · rw [List.getElem?_eq_none (by rw [List.length_take]; omega), List.getElem?_eq_none (by simp only [List.length_append, hA, hB, encA_len]; omega)]
theorem run_append_two {P : Program} (W : World) (t t' ty e e' : TypeId) (i : TypeInfo) (hi : P.info? e = some i) (ht : P.underlying t = some (.slice e)) (ht' : P.underlying t' = some (.slice e')) (p : Option Addr) (n c : Nat) (u : Value) : (Builtin.append_ #[t, t'] ty #[.slice p n c, u]).run P W = (Builtin.append_ #[t, t] ty #[.slice p n c, u]).run P W := by
  simp [Builtin.append_, run_underlying ht, run_underlying ht', sizeOf, typeInfo, hi]
/-- 'append(s, t...)' onto a row of the call's own, the two of different types. -/
theorem appM2 {W : World} {ops : Array Oper} {rest : List Oper} {o : Oper} {a : Act} {Q : Exit → Act → World → Prop} (hgd : o.guard = none) (s x : Operand) (t t' : TypeId)
    (ho : o.op = .call { callee := .builtin .append, args := #[s, x], argTypes := #[t, t'] })
    (base : Nat) (e e' : TypeId) (z : Value) (size bytes : Nat) (ht : Tryz.prog.underlying t = some (.slice e)) (ht' : Tryz.prog.underlying t' = some (.slice e')) (hinfo : (Tryz.prog.info? e).map (fun i => (i.zero, i.size, i.bytes)) = some (some z, size, bytes))
    (hzs : z.cells.size = size) (hsz : 0 < size) (hby : bytes ≤ 1000) (v : Value) (n : Nat) (xs : List Value) (hs : a.eval s = v) (hown : W.ownsRow base e size v n xs)
    (b off m c : Nat) (news : List Value) (hx : a.eval x = .slice (some ⟨b, off, none⟩) m c) (hl : news.length = m * size) (hnews : ∀ j u, news[j]? = some u → W.cell? ⟨b, off + j, none⟩ = some u) (h1 : ∀ u ∈ news, u.oneCell' = true) (hn : n + m ≤ 4294967296) (hbase : base ≤ W.heap.size)
    (h : ∀ v' w', w'.ownsRow base e size v' (n + m) (xs ++ news) → W.grownBy w' v.ownBlock → wpList Tryz.prog ops Q rest (a.put o.dst v') w') : wpList Tryz.prog ops Q (o :: rest) a W := by
  obtain ⟨i0, hi, hz0, hz1, hz2⟩ := info_parts hinfo
  have hb : (n + m) * bytes ≤ 140737488355328 := by
    calc (n + m) * bytes ≤ 4294967296 * 1000 := Nat.mul_le_mul hn hby
      _ ≤ _ := by decide
  obtain ⟨v', w', hr, h2, h3, _⟩ := run_append_own W base t o.type e i0 z size bytes ht hi hz0 hz1 hz2 hzs hsz v n xs hown ⟨b, off, none⟩ m c news hl (fun j u hj => by rw [add_off]; exact hnews j u hj) h1 (by unfold maxLen; omega) hb hbase
  obtain ⟨p, c0, hp⟩ := (SlV.of_own hown).form
  rw [hp, ← run_append_two W t t' o.type e e' i0 hi ht ht', ← hp] at hr
  exact Lib.wpList_append_run _ hgd s x t t' ho v _ hs hx v' w' hr (h v' w' h2 h3)
theorem own_some {w : World} {base : Nat} {e : TypeId} {size : Nat} {v : Value} {n : Nat} {xs : List Value} (h : w.ownsRow base e size v n xs) (h0 : 0 < n) : ∃ g cap cur, v = .slice (some ⟨g, 0, none⟩) n cap ∧ base ≤ g ∧ Blk w g e cur ∧ n ≤ cap ∧ cap ≤ maxLen ∧ cur.size = cap * size ∧ cur.toList.take (n * size) = xs := by
  rcases h.2 with ⟨_, h1⟩ | ⟨g, cap, cur, h1, h2, h3, h4, h5, h6, h7⟩
  · omega
  · exact ⟨g, cap, cur, h1, h2, h3, h4, h5, h6, h7⟩
theorem size29 : (Tryz.prog.info? 29).map (·.size) = some 3 := by
  obtain ⟨i0, hi, hz0, hz1, hz2⟩ := info_parts info29
  rw [hi]; simp [hz1]
theorem siz29 (w : World) : (Go.sizeOf 29).run Tryz.prog w = .ok 3 w := by kernel_rfl
set_option maxRecDepth 100000 in
set_option maxHeartbeats 4000000 in
/-- At the end. -/
theorem insertM_end (l : List MA) (x : MA) (base vb : Nat) (v : Value) (w : World) (hown : w.ownsRow base 29 3 v l.length (l.flatMap encA)) (hbase : base ≤ w.heap.size) (hn : l.length ≤ 1000) (hv : Blk w vb 29 (encA x).toArray) :
    Calls Tryz.prog 42 #[v, .int .i64 l.length, .slice (some ⟨vb, 0, none⟩) 1 1] w fun e w' => (∃ v', e = .returned v' ∧ w'.ownsRow base 29 3 v' (l.length + 1) ((l ++ [x]).flatMap encA)) ∧ Below base w w' := by
  have HO := Lib.hid hown
  have hnv : ∀ j u, (encA x)[j]? = some u → w.cell? ⟨vb, 0 + j, none⟩ = some u := fun j u hj => by rw [Nat.zero_add, hv.cell j]; simpa using hj
  have HN := Lib.hid hnv
  have hz1 : ((1 : Int) == 0) = false := by decide
  rcases hown.2 with ⟨hq, h0⟩ | ⟨g, q, cur, hq, hg0, hg1, hcap, hmx, -, -⟩
  · subst hq
    obtain rfl : l = [] := List.eq_nil_of_length_eq_zero h0
    clear hown hv hnv h0
    go_enter Tryz.func42, Tryz.ntmps42
    go_wp2_with (at_builtin; refine appM2 rfl (.tmp 23) (.tmp 24) 26 22 rfl base 29 29 _ 3 56 Tryz.underlying26 Tryz.underlying22 info29 rfl (by decide) (by decide) (.slice none 0 0) 0 _ rfl HO.out vb 0 1 1 (encA x) rfl rfl HN.out (encA_one x) (by omega) hbase ?_; intro v6 w6 hown6 hg6; have HO6 := Lib.hid hown6; have HG6 := Lib.hid hg6; clear hown6 hg6)
    go_ret
    exact ⟨⟨_, rfl, own_cast HO6.out rfl (by simp)⟩, below_app (Below.refl _ _) hbase HO.out (Nat.le_refl _) HG6.out⟩
  · subst hq
    have hm63 : q ≤ 9223372036854775807 := by unfold maxLen at hmx; omega
    clear hown hv hnv hg1
    by_cases hqn : q = l.length
    · subst hqn
      go_enter Tryz.func42, Tryz.ntmps42
      go_wp2_with (at_builtin; refine appM2 rfl (.tmp 23) (.tmp 24) 26 22 rfl base 29 29 _ 3 56 Tryz.underlying26 Tryz.underlying22 info29 rfl (by decide) (by decide) (.slice (some ⟨g, 0, none⟩) l.length l.length) l.length _ rfl HO.out vb 0 1 1 (encA x) rfl rfl HN.out (encA_one x) (by omega) hbase ?_; intro v6 w6 hown6 hg6; have HO6 := Lib.hid hown6; have HG6 := Lib.hid hg6; clear hown6 hg6)
      go_ret
      exact ⟨⟨_, rfl, own_cast HO6.out rfl (by simp)⟩, below_app (Below.refl _ _) hbase HO.out (Nat.le_refl _) HG6.out⟩
    · go_enter Tryz.func42, Tryz.ntmps42
      go_wp2_with (at_builtin; refine appM2 rfl (.tmp 23) (.tmp 24) 26 22 rfl base 29 29 _ 3 56 Tryz.underlying26 Tryz.underlying22 info29 rfl (by decide) (by decide) (.slice (some ⟨g, 0, none⟩) l.length q) l.length _ rfl HO.out vb 0 1 1 (encA x) rfl rfl HN.out (encA_one x) (by omega) hbase ?_; intro v6 w6 hown6 hg6; have HO6 := Lib.hid hown6; have HG6 := Lib.hid hg6; clear hown6 hg6)
      go_ret
      exact ⟨⟨_, rfl, own_cast HO6.out rfl (by simp)⟩, below_app (Below.refl _ _) hbase HO.out (Nat.le_refl _) HG6.out⟩
set_option maxRecDepth 100000 in
set_option maxHeartbeats 8000000 in
/-- In the middle, where there is no room. -/
theorem insertM_grow (l : List MA) (x : MA) (i g cap vb base : Nat) (cur : Array Value) (w : World) (hbase : base ≤ w.heap.size) (hb : Blk w g 29 cur) (hcs : ∀ (j : Nat) u, (l.flatMap encA)[j]? = some u → cur[j]? = some u) (hi : i < l.length) (hcap : l.length ≤ cap) (hroom : cap < l.length + 1) (hn : l.length ≤ 1000) (hv : Blk w vb 29 (encA x).toArray) :
    Calls Tryz.prog 42 #[.slice (some ⟨g, 0, none⟩) l.length cap, .int .i64 i, .slice (some ⟨vb, 0, none⟩) 1 1] w fun e w' => (∃ v', e = .returned v' ∧ w'.ownsRow base 29 3 v' (l.length + 1) ((l.take i ++ x :: l.drop i).flatMap encA)) ∧ Below base w w' := by
  obtain rfl : cap = l.length := by omega
  clear hcap hroom
  obtain ⟨i0, hi0, hz0, hzs, hzb⟩ := info_parts info29
  have hfl := flat_len encA 3 encA_len l
  have hgl := hb.lt
  have hvl := hv.lt
  obtain ⟨cs, hcd⟩ : ∃ cs, cs = l.flatMap encA := ⟨_, rfl⟩
  rw [← hcd] at hcs hfl
  have hcc : ∀ j u, cs[j]? = some u → w.cell? ⟨g, j, none⟩ = some u := fun j u hj => by rw [hb.cell]; exact hcs j u hj
  have hold : (Builtin.firstCells i0.size i (.slice (some ⟨g, 0, none⟩) i l.length)).run Tryz.prog w.drew = .ok (cs.take (i * 3)).toArray w.drew := by
    rw [hzs]
    exact run_firstCells_some w.drew 3 i ⟨g, 0, none⟩ i l.length (cs.take (i * 3)) (by rw [List.length_take]; omega) (fun j u hj => by
      rw [add_off, Nat.zero_add]
      rw [List.getElem?_take] at hj
      split at hj
      · exact hcc j u hj
      · cases hj)
  have hkk : (l.length : Int) + 1 - (i : Int) = ((l.length + 1 - i : Nat) : Int) := by omega
  have hik : i + (l.length + 1 - i) = l.length + 1 := by omega
  obtain ⟨G, hG⟩ : ∃ G, G = grownCap w (l.length + 1) l.length 29 := ⟨_, rfl⟩
  obtain ⟨ROW, hROW⟩ : ∃ ROW : Array Value, ROW = (cs.take (i * 3)).toArray ++ Builtin.zeroCells (Value.agg #[.string ⟨#[]⟩, .string ⟨#[]⟩, .slice none 0 0]).cells (l.length + 1 - i) ++ Builtin.zeroCells (Value.agg #[.string ⟨#[]⟩, .string ⟨#[]⟩, .slice none 0 0]).cells (G - (l.length + 1)) := ⟨_, rfl⟩
  have hrz : ∀ ty, (Builtin.append_ #[26, 3] ty #[.slice (some ⟨g, 0, none⟩) i l.length, .int .i64 ((l.length : Int) + 1 - (i : Int))]).run Tryz.prog w =
      .ok (.slice (some ⟨w.heap.size, 0, none⟩) (l.length + 1) G) (w.drew.alloc (.cells ROW 29)) := fun ty => by
    have h := Lib.run_append_grow_zeros w 26 3 ty 29 i0 _ .i64 .i64 Tryz.underlying26 Tryz.underlying3 hi0 hz0 (some ⟨g, 0, none⟩) i l.length (cs.take (i * 3)) hold (l.length + 1 - i) (by omega) (by omega) (by omega) (by omega) (by rw [hzb]; omega) (by rw [hzb, hik]; exact growslice_fits (by omega) (by omega))
    rw [hik, ← hG, ← hROW] at h
    rw [hkk]
    exact h
  have hGn : l.length + 1 ≤ G := by rw [hG]; exact grownCap_ge w _ _ _
  have hGm : G ≤ maxLen := by rw [hG]; exact grownCap_le_maxLen w (l.length + 1) l.length 29 (by unfold maxLen; omega)
  have hRs : ROW.size = G * 3 := by
    rw [hROW]
    simp [Builtin.zeroCells, Value.cells, hfl]
    omega
  have hxl : (encA x).length = 1 * 3 := by rw [encA_len]
  have HcpA := Lib.hid (fun (W : World) (hW : Blk W w.heap.size 29 ROW) (hvW : Blk W vb 29 (encA x).toArray) (o dl dc : Nat) (ho : o = i * 3) (hd : dl = l.length + 1 - i) (ty : TypeId) =>
    (show (Builtin.copy_ #[26, 22] ty #[.slice (some ⟨w.heap.size, o, none⟩) dl dc, .slice (some ⟨vb, 0, none⟩) 1 1]).run Tryz.prog W = .ok (goInt 1) (W.setCells w.heap.size o (encA x)) from
      run_copy_s W 26 22 ty 29 w.heap.size o dl dc ⟨vb, 0, none⟩ 1 1 3 1 (encA x) Tryz.underlying26 size29 (by simp only [Nat.min_def]; split <;> omega) hxl
        (fun j u hj => by rw [add_off, Nat.zero_add, hvW.cell]; simpa using hj) (blk_there hW o _ (by omega)) (encA_one x)))
  have hdl : (cs.drop (i * 3)).length = (l.length - i) * 3 := by rw [List.length_drop, hfl]; omega
  have h1c : ∀ u ∈ cs.drop (i * 3), u.oneCell' = true := fun u hu => by
    have hu := List.mem_of_mem_drop hu
    rw [hcd] at hu
    obtain ⟨y, _, hy⟩ := List.mem_flatMap.1 hu
    exact encA_one y u hy
  have HcpB := Lib.hid (fun (W : World) (cur2 : Array Value) (hW : Blk W w.heap.size 29 cur2) (hs2 : cur2.size = G * 3) (hgW : Blk W g 29 cur) (o dl dc o2 sl sc : Nat) (ho : o = (i + 1) * 3) (hd : dl = l.length - i) (ho2 : o2 = i * 3) (hs : sl = l.length - i) (ty : TypeId) =>
    (show (Builtin.copy_ #[26, 26] ty #[.slice (some ⟨w.heap.size, o, none⟩) dl dc, .slice (some ⟨g, o2, none⟩) sl sc]).run Tryz.prog W = .ok (goInt (l.length - i : Nat)) (W.setCells w.heap.size o (cs.drop (i * 3))) from
      run_copy_s W 26 26 ty 29 w.heap.size o dl dc ⟨g, o2, none⟩ sl sc 3 (l.length - i) (cs.drop (i * 3)) Tryz.underlying26 size29 (by rw [hd, hs]; simp) hdl
        (fun j u hj => by
          rw [add_off, hgW.cell, ho2]
          exact hcs (i * 3 + j) u (by rwa [List.getElem?_drop] at hj)) (blk_there hW o _ (by omega)) h1c))
  have HG1 := Lib.hid (show Blk ((w.alloc (.cells ROW 29)).drew) w.heap.size 29 ROW from Blk.new w.drew 29 ROW)
  have HV1 := Lib.hid (show Blk ((w.alloc (.cells ROW 29)).drew) vb 29 (encA x).toArray from hv.alloc (w := w.drew) _)
  have HB1 := Lib.hid (show Blk ((w.alloc (.cells ROW 29)).drew) g 29 cur from hb.alloc (w := w.drew) _)
  have hz1 : ((1 : Int) == 0) = false := by decide
  have hz2 : ((i : Int) == (l.length : Int)) = false := beq_eq_false_iff_ne.2 (by omega)
  have hz3 : (l.length : Int) < (l.length : Int) + 1 := by omega
  have hGi : ¬ (G = i) := by omega
  have hGim : ¬ (G = i + 1) := by omega
  have hci : ¬ (l.length = i) := by omega
  have hin : i ≤ l.length := by omega
  have hw1 : IntKind.i64.wrap ((i : Int) + 1) = (i : Int) + 1 := by rw [IntKind.wrap_i64]; omega
  have hb1 : (0 : Int) ≤ (i : Int) + 1 := by omega
  have htn : ((i : Int) + 1).toNat = i + 1 := by omega
  have hb3 : (i : Int) ≤ (l.length : Int) := by omega
  have hG63 : G ≤ 9223372036854775807 := by unfold maxLen at hGm; omega
  obtain ⟨cur2, d1, d2, d3, d4, d5⟩ := blk_sets (encA x) (i * 3) _ ROW HG1.out (by rw [encA_len]; omega)
  have HD1 := Lib.hid (show Blk (((w.alloc (.cells ROW 29)).drew.setCells w.heap.size (i * 3) (encA x)).drew) w.heap.size 29 cur2 from d1)
  have HB2 := Lib.hid (show Blk (((w.alloc (.cells ROW 29)).drew.setCells w.heap.size (i * 3) (encA x)).drew) g 29 cur from (by have z := HB1.out.grown (gb_sets (g := w.heap.size) (encA x) (i * 3) _ (gb_refl ((w.alloc (.cells ROW 29)).drew) (some w.heap.size))) (by intro e; injection e with e; omega); exact z))
  have HDl := Lib.hid hdl
  have HR1 := Lib.hid (show ∀ j u, j < i * 3 → cs[j]? = some u → ROW[j]? = some u from fun j u hj hu => by
    rw [hROW, Array.append_assoc, Array.getElem?_append_left (by simp [hfl]; omega)]
    rw [List.getElem?_toArray, List.getElem?_take_of_lt hj]
    exact hu)
  have HCd := Lib.hid hcd
  clear hcd
  have mixed : Tryz.prog.follows .mixedOrders = true := by kernel_rfl
  clear hkk hik hold hROW hG hb hv hcs hcc hdl h1c d1
  go_enter Tryz.func42, Tryz.ntmps42
  go_wp2_with (first
    | (at_builtin; refine Lib.wpList_append_run _ rfl _ _ _ _ rfl _ _ rfl rfl _ _ (hrz _) ?_)
    | ((refine wpList_copy_runI _ rfl (.tmp 43) (.tmp 44) 26 22 rfl _ _ rfl rfl (HcpA.out _ HG1.out HV1.out _ _ _ rfl rfl _) ?_)))
  go_region_law_o (refine step_copy_runI rfl (.tmp 50) (.tmp 53) 26 26 rfl (.slice (some ⟨w.heap.size, (i + 1) * 3, none⟩) (l.length - i) (G - (i + 1))) (.slice (some ⟨g, i * 3, none⟩) (l.length - i) (l.length - i)) (by simp [Act.eval, Act.put]) (by simp [Act.eval, Act.put]) (HcpB.out _ cur2 HD1.out (by rw [d2]; exact hRs) HB2.out _ _ _ _ _ _ rfl rfl rfl rfl 3) ?_)
  go_wp2
  go_ret
  obtain ⟨cur3, f1, f2, f3, -, f5⟩ := blk_sets (cs.drop (i * 3)) ((i + 1) * 3) _ cur2 HD1.out (by rw [HDl.out]; omega)
  refine ⟨⟨_, rfl, by rw [flat_len encA 3 encA_len]; simp; omega, Or.inr ⟨w.heap.size, G, cur3, rfl, hbase, f1, by omega, hGm, by rw [f2, d2, hRs], ins_row l x i hin cur3 ?_ ?_ ?_⟩⟩, ?_⟩
  · intro j u hj hu
    rw [f3 j (by omega), d3 j hj]
    exact HR1.out j u hj (by rw [HCd.out]; exact hu)
  · intro j u hu
    have hj : j < 3 := by
      have := (List.getElem?_eq_some_iff.1 hu).1
      rwa [encA_len] at this
    rw [f3 _ (by omega)]
    exact d5 j u hu
  · intro j u hu
    exact f5 j u (by rw [HCd.out]; exact hu)
  · have b1 : Below base w ((w.alloc (.cells ROW 29)).drew) := by
      have z := (Below.refl base w).alloc hbase (.cells ROW 29)
      exact ⟨z.os, z.tape, z.output, z.size, z.block⟩
    have b2 : Below base w (((w.alloc (.cells ROW 29)).drew.setCells w.heap.size (i * 3) (encA x)).drew) := by
      have z := below_row b1 (gb_sets (g := w.heap.size) (encA x) (i * 3) _ (gb_refl ((w.alloc (.cells ROW 29)).drew) (some w.heap.size))) (Nat.le_trans hbase b1.size) hbase
      exact ⟨z.os, z.tape, z.output, z.size, z.block⟩
    exact below_row b2 (gb_sets (g := w.heap.size) _ _ _ (gb_refl _ (some w.heap.size))) (Nat.le_trans hbase b2.size) hbase
theorem blk_shape {w : World} {g : Nat} {t : TypeId} {cur : Array Value} (h : Blk w g t cur) : w.shape? g = some (t, cur.size) := by
  unfold Blk at h
  simp [World.shape?, h]
set_option maxRecDepth 100000 in
set_option maxHeartbeats 8000000 in
/-- In the middle, where there is room. -/
theorem insertM_shift (l : List MA) (x : MA) (i g cap vb base : Nat) (cur : Array Value) (w : World) (hbase : base ≤ g) (hb : Blk w g 29 cur) (hsz : cur.size = cap * 3) (hcs : ∀ (j : Nat) u, (l.flatMap encA)[j]? = some u → cur[j]? = some u) (hi : i < l.length) (hroom : l.length + 1 ≤ cap) (hcm : cap ≤ maxLen) (hn : l.length ≤ 1000) (hv : Blk w vb 29 (encA x).toArray) (hne : vb ≠ g) :
    Calls Tryz.prog 42 #[.slice (some ⟨g, 0, none⟩) l.length cap, .int .i64 i, .slice (some ⟨vb, 0, none⟩) 1 1] w fun e w' => (∃ v', e = .returned v' ∧ w'.ownsRow base 29 3 v' (l.length + 1) ((l.take i ++ x :: l.drop i).flatMap encA)) ∧ Below base w w' := by
  have hfl := flat_len encA 3 encA_len l
  have hgl := hb.lt
  obtain ⟨cs, hcd⟩ : ∃ cs, cs = l.flatMap encA := ⟨_, rfl⟩
  rw [← hcd] at hcs hfl
  have hov : ∀ lb cb, (callFunc 81 #[.slice (some ⟨vb, 0, none⟩) 1 1, .slice (some ⟨g, (i + 1) * 3, none⟩) lb cb]).run Tryz.prog w = .ok (.value (.bool false)) w := fun lb cb => by
    rw [run_callFunc_extern Tryz.func81 (by kernel_rfl) (by kernel_rfl) (by kernel_rfl) (e := Extern.SlicesOverlaps.overlaps #[22, 22] #[4]) (by kernel_rfl),
      Lib.run_overlaps_apart w 22 4 29 Tryz.underlying22 3 siz29 ⟨vb, 0, none⟩ ⟨g, (i + 1) * 3, none⟩ 1 1 lb cb hne 29 29 _ _ (blk_shape hv) (blk_shape hb) (by omega) (hv.frozen _) (hv.frozen _)]
    rfl
  have hxl : (encA x).length = 1 * 3 := by rw [encA_len]
  have hdl : (cs.drop (i * 3)).length = (l.length - i) * 3 := by rw [List.length_drop, hfl]; omega
  have h1c : ∀ u ∈ cs.drop (i * 3), u.oneCell' = true := fun u hu => by
    have hu := List.mem_of_mem_drop hu
    rw [hcd] at hu
    obtain ⟨y, _, hy⟩ := List.mem_flatMap.1 hu
    exact encA_one y u hy
  have HcpB := Lib.hid (fun (W : World) (hW : Blk W g 29 cur) (o dl dc o2 sl sc : Nat) (ho : o = (i + 1) * 3) (hd : dl = l.length - i) (ho2 : o2 = i * 3) (hs : sl = l.length + 1 - i) (ty : TypeId) =>
    (show (Builtin.copy_ #[26, 26] ty #[.slice (some ⟨g, o, none⟩) dl dc, .slice (some ⟨g, o2, none⟩) sl sc]).run Tryz.prog W = .ok (goInt (l.length - i : Nat)) (W.setCells g o (cs.drop (i * 3))) from
      run_copy_s W 26 26 ty 29 g o dl dc ⟨g, o2, none⟩ sl sc 3 (l.length - i) (cs.drop (i * 3)) Tryz.underlying26 size29 (by rw [hd, hs]; simp only [Nat.min_def]; split <;> omega) hdl
        (fun j u hj => by
          rw [add_off, hW.cell, ho2]
          exact hcs (i * 3 + j) u (by rwa [List.getElem?_drop] at hj)) (blk_there hW o _ (by omega)) h1c))
  have HcpA := Lib.hid (fun (W : World) (cur2 : Array Value) (hW : Blk W g 29 cur2) (hs2 : cur2.size = cap * 3) (hvW : Blk W vb 29 (encA x).toArray) (o dl dc : Nat) (ho : o = i * 3) (hd : dl = l.length + 1 - i) (ty : TypeId) =>
    (show (Builtin.copy_ #[26, 22] ty #[.slice (some ⟨g, o, none⟩) dl dc, .slice (some ⟨vb, 0, none⟩) 1 1]).run Tryz.prog W = .ok (goInt 1) (W.setCells g o (encA x)) from
      run_copy_s W 26 22 ty 29 g o dl dc ⟨vb, 0, none⟩ 1 1 3 1 (encA x) Tryz.underlying26 size29 (by simp only [Nat.min_def]; split <;> omega) hxl
        (fun j u hj => by rw [add_off, Nat.zero_add, hvW.cell]; simpa using hj) (blk_there hW o _ (by omega)) (encA_one x)))
  have HB0 := Lib.hid (show Blk w.drew g 29 cur from hb)
  obtain ⟨cur2, d1, d2, d3, d4, d5⟩ := blk_sets (cs.drop (i * 3)) ((i + 1) * 3) _ cur HB0.out (by rw [hdl]; omega)
  have HD1 := Lib.hid d1
  have HV2 := Lib.hid (show Blk (w.drew.setCells g ((i + 1) * 3) (cs.drop (i * 3))) vb 29 (encA x).toArray from (by have z := Blk.grown (w := w.drew) hv (gb_sets (g := g) (cs.drop (i * 3)) ((i + 1) * 3) _ (gb_refl w.drew (some g))) (by intro e; injection e with e; omega); exact z))
  have hz1 : ((1 : Int) == 0) = false := by decide
  have hz2 : ((i : Int) == (l.length : Int)) = false := beq_eq_false_iff_ne.2 (by omega)
  have hz3 : ¬ ((cap : Int) < (l.length : Int) + 1) := by omega
  have hz4 : (l.length : Int) + 1 ≤ (cap : Int) := by omega
  have hci : ¬ (cap = i) := by omega
  have hci1 : ¬ (cap = i + 1) := by omega
  have hin : i ≤ l.length := by omega
  have hw1 : IntKind.i64.wrap ((i : Int) + 1) = (i : Int) + 1 := by rw [IntKind.wrap_i64]; omega
  have hb1 : (0 : Int) ≤ (i : Int) + 1 := by omega
  have htn : ((i : Int) + 1).toNat = i + 1 := by omega
  have htn2 : ((l.length : Int) + 1).toNat = l.length + 1 := by omega
  have hb3 : (i : Int) ≤ (l.length : Int) := by omega
  have hb4 : (i : Int) ≤ (l.length : Int) + 1 := by omega
  have hG63 : cap ≤ 9223372036854775807 := by unfold maxLen at hcm; omega
  have HDl := Lib.hid hdl
  have HCd := Lib.hid hcd
  have mixed : Tryz.prog.follows .mixedOrders = true := by kernel_rfl
  clear hb hcd hdl h1c d1 hv
  go_enter Tryz.func42, Tryz.ntmps42
  go_wp2_with (simp only [hov])
  go_region_law_o (refine step_copy_runI rfl (.tmp 73) (.tmp 76) 26 26 rfl (.slice (some ⟨g, (i + 1) * 3, none⟩) (l.length - i) (cap - (i + 1))) (.slice (some ⟨g, i * 3, none⟩) (l.length + 1 - i) (cap - i)) (by simp [Act.eval, Act.put]) (by simp [Act.eval, Act.put]) (HcpB.out _ HB0.out _ _ _ _ _ _ rfl rfl rfl rfl 3) ?_)
  go_wp2_with (refine wpList_copy_runI _ rfl (.tmp 80) (.tmp 81) 26 22 rfl _ _ rfl rfl (HcpA.out _ cur2 HD1.out (by rw [d2]; exact hsz) HV2.out _ _ _ rfl rfl _) ?_)
  go_ret
  obtain ⟨cur3, f1, f2, f3, f4, f5⟩ := blk_sets (encA x) (i * 3) _ cur2 HD1.out (by rw [encA_len]; omega)
  rw [encA_len] at f4
  refine ⟨⟨_, rfl, by rw [flat_len encA 3 encA_len]; simp; omega, Or.inr ⟨g, cap, cur3, rfl, hbase, f1, hroom, hcm, by rw [f2, d2, hsz], ins_row l x i hin cur3 ?_ ?_ ?_⟩⟩, ?_⟩
  · intro j u hj hu
    rw [f3 j hj, d3 j (by omega)]
    exact hcs j u (by rw [HCd.out]; exact hu)
  · intro j u hu
    exact f5 j u hu
  · intro j u hu
    rw [f4 _ (by omega)]
    exact d5 j u (by rw [HCd.out]; exact hu)
  · have b1 : Below base w w.drew := ⟨rfl, rfl, rfl, Nat.le_refl _, fun _ _ => rfl⟩
    have hbw : base ≤ w.heap.size := by omega
    have b2 := below_row b1 (gb_sets (g := g) (cs.drop (i * 3)) ((i + 1) * 3) _ (gb_refl w.drew (some g))) hbw hbase
    exact below_row b2 (gb_sets (g := g) (encA x) (i * 3) _ (gb_refl _ (some g))) (Nat.le_trans hbw b2.size) hbase
set_option maxRecDepth 100000 in
theorem insertM_any (l : List MA) (x : MA) (i base vb : Nat) (v : Value) (w : World) (hown : w.ownsRow base 29 3 v l.length (l.flatMap encA)) (hbase : base ≤ w.heap.size) (hi : i ≤ l.length) (hn : l.length ≤ 1000) (hv : Blk w vb 29 (encA x).toArray) (hne : v.ownBlock ≠ some vb) :
    Calls Tryz.prog 42 #[v, .int .i64 i, .slice (some ⟨vb, 0, none⟩) 1 1] w fun e w' => (∃ v', e = .returned v' ∧ w'.ownsRow base 29 3 v' (l.length + 1) ((l.take i ++ x :: l.drop i).flatMap encA)) ∧ Below base w w' := by
  by_cases h1 : i = l.length
  · subst h1
    have z := insertM_end l x base vb v w hown hbase hn hv
    rw [List.take_of_length_le (Nat.le_refl _), List.drop_of_length_le (Nat.le_refl _)]
    exact z
  · obtain ⟨g, cap, cur, rfl, hg0, hg1, hcap, hmx, hs, htk⟩ := own_some hown (by omega)
    have hcs : ∀ (j : Nat) u, (l.flatMap encA)[j]? = some u → cur[j]? = some u := fun j u hj => by
      rw [← htk, List.getElem?_take] at hj
      split at hj
      · simpa using hj
      · cases hj
    by_cases h2 : cap < l.length + 1
    · exact insertM_grow l x i g cap vb base cur w hbase hg1 hcs (by omega) hcap h2 hn hv
    · exact insertM_shift l x i g cap vb base cur w hg0 hg1 hs hcs (by omega) (by omega) hmx hn hv (fun e => hne (by rw [e]; rfl))
end Go.Proofs.YtpgookhdffklkaaGreatDoor
