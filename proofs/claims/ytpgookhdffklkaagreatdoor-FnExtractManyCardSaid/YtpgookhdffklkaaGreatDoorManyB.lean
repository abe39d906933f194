/-
  laws: slices.IndexFunc and slices.DeleteFunc over entries, with FnExtractMany.s closure that asks for a key.
-/
import Derived.Test.YtpgookhdffklkaaGreatDoorSpecB
import Derived.Deep.MidRow
namespace Go.Proofs.YtpgookhdffklkaaGreatDoor
open Go.RowKit

set_option maxRecDepth 100000 in
theorem same33 (x e0 : En) (B : Nat) (W : World) (hc : W.cell? ⟨B, 0, none⟩ = some (.string (bs e0.1))) (hB : B < W.heap.size) :
    Calls Tryz.prog 33 #[.agg #[.string (bs x.1), .string (bs x.2)], .pointer (some ⟨B, 0, none⟩)] W fun e w' => e = .returned (.bool (decide (x.1 = e0.1))) ∧ Below W.heap.size W w' := by
  have hne : B ≠ W.heap.size := by omega
  by_cases h : x.1 = e0.1
  · go_enter Tryz.func33, Tryz.ntmps33
    go_wp2
    go_ret
    exact ⟨ret_bool (by simp [h]), (Below.refl _ _).alloc (Nat.le_refl _) _⟩
  · go_enter Tryz.func33, Tryz.ntmps33
    go_wp2
    go_ret
    exact ⟨ret_bool (by simp [h]), (Below.refl _ _).alloc (Nat.le_refl _) _⟩

set_option maxRecDepth 100000 in
set_option maxHeartbeats 4000000 in
theorem indexFunc_any (l : List En) (e0 : En) (v : Value) (B : Nat) (w : World) (hv : SlV w 64 v l.length (l.flatMap encE)) (hn : l.length ≤ 1000000) (hB : B < w.heap.size) (hc : w.cell? ⟨B, 0, none⟩ = some (.string (bs e0.1))) :
    Calls Tryz.prog 69 #[v, .func (.func 33) #[] #[.pointer (some ⟨B, 0, none⟩)]] w fun e w' => (((∀ x ∈ l, decide (x.1 = e0.1) = false) ∧ e = .returned (.int .i64 (-1))) ∨ ∃ k, ∃ h : k < l.length, e = .returned (.int .i64 (k : Int)) ∧ decide ((l[k]'h).1 = e0.1) = true ∧ ∀ x ∈ l.take k, decide (x.1 = e0.1) = false) ∧ Below w.heap.size w w' := by
  have eg : ∀ args w, (callFunc 33 args).run Tryz.prog w = .ok (.enter 33 args) w := enters_of Tryz.func33 (by kernel_rfl) rfl
  obtain ⟨A, q, hq⟩ := hv.form
  subst hq
  have HV := Lib.hid hv
  have HC := Lib.hid hc
  clear hv hc
  go_enter Tryz.func69, Tryz.ntmps69
  go_wp2
  go_loopw [5, 8] (fun _ i wr => ∃ k : Nat, k ≤ l.length ∧ i = .int .i64 k ∧ (∀ x ∈ l.take k, decide (x.1 = e0.1) = false) ∧ Below w.heap.size w wr) (fun _ i _ => l.length - (intOf i).toNat)
  case atStart => exact ⟨0, Nat.zero_le _, rfl, (fun x hx => by simp at hx), Below.refl _ _⟩
  case round =>
    obtain ⟨k, hk, rfl, hall, hb⟩ := hrel
    have HA := Lib.hid hall
    have HB := Lib.hid hb
    clear hall hb
    by_cases hlt : k < l.length
    · obtain ⟨b, off, c, hq, hc1, hc2, hbb, hcl⟩ := HV.out.cells (flatE_ne (by intro e; rw [e] at hlt; simp at hlt))
      injection hq with hq1 hq2 hq3
      subst hq1; subst hq3
      obtain ⟨i0, i1⟩ := cellsE (fun z u hz => (HB.out.cell (p := ⟨b, off + z, none⟩) hbb).trans (hcl z u hz)) k hlt
      have hcall := same33 l[k] e0 B wr ((HB.out.cell (p := ⟨B, 0, none⟩) hB).trans HC.out) (Nat.lt_of_lt_of_le hB HB.out.size)
      clear hcl
      cases hf : decide ((l[k]'hlt).1 = e0.1)
      · rw [hf] at hcall
        have HF := Lib.hid hf
        clear hf
        have HCL := Lib.hid hcall
        clear hcall
        go_wp2_with (go_at_fn 33; refine HCL.out.mono ?_; rintro e w1 ⟨rfl, hb1⟩; have HB1 := Lib.hid (HB.out.trans (hb1.mono HB.out.size)); clear hb1)
        refine ⟨⟨k + 1, by omega, by go_num, ?_, HB1.out⟩, by simp [intOf]; omega⟩
        intro x hx
        rw [List.take_succ_eq_append_getElem hlt] at hx
        rcases List.mem_append.1 hx with hx | hx
        · exact HA.out x hx
        · rw [List.mem_singleton.1 hx]; exact HF.out
      · rw [hf] at hcall
        have HF := Lib.hid hf
        clear hf
        have HCL := Lib.hid hcall
        clear hcall
        go_wp2_with (go_at_fn 33; refine HCL.out.mono ?_; rintro e w1 ⟨rfl, hb1⟩; have HB1 := Lib.hid (HB.out.trans (hb1.mono HB.out.size)); clear hb1)
        go_ret
        exact ⟨Or.inr ⟨k, hlt, rfl, HF.out, HA.out⟩, HB1.out⟩
    · have e : k = l.length := by omega
      subst e
      rw [List.take_of_length_le (Nat.le_refl _)] at HA
      go_wp2
      go_ret
      exact ⟨Or.inl ⟨HA.out, rfl⟩, HB.out⟩

theorem first_hit (p : En → Bool) : ∀ l : List En, (∀ x ∈ l, p x = false) ∨ ∃ k, ∃ h : k < l.length, p (l[k]'h) = true ∧ ∀ x ∈ l.take k, p x = false
  | [] => Or.inl (fun _ h => by cases h)
  | y :: t => by
    cases hy : p y
    · rcases first_hit p t with h | ⟨k, hk, h1, h2⟩
      · exact Or.inl fun x hx => by
          rcases List.mem_cons.1 hx with rfl | hx
          · exact hy
          · exact h x hx
      · refine Or.inr ⟨k + 1, by simpa using hk, by simpa using h1, fun x hx => ?_⟩
        rw [List.take_succ_cons] at hx
        rcases List.mem_cons.1 hx with rfl | hx
        · exact hy
        · exact h2 x hx
    · exact Or.inr ⟨0, by simp, hy, fun x hx => by simp at hx⟩
theorem hit_le {p : En → Bool} {l : List En} {k k' : Nat} {hk : k < l.length} (h1 : p (l[k]'hk) = true) (h2 : ∀ x ∈ l.take k', p x = false) : k' ≤ k := by
  rcases Nat.lt_or_ge k k' with h | h
  · have := h2 l[k] (List.mem_take_iff_getElem.2 ⟨k, by omega, rfl⟩)
    rw [h1] at this
    cases this
  · exact h
theorem filter_none {p : En → Bool} {l : List En} (h : ∀ x ∈ l, p x = false) : l.filter (fun x => !p x) = l :=
  List.filter_eq_self.2 fun x hx => by rw [h x hx]; rfl

/-! ### A row that is written in place -/
theorem gb_set {w W : World} {g : Nat} (h : w.grownBy W (some g)) (i : Nat) (u : Value) : w.grownBy (W.setCell ⟨g, i, none⟩ u) (some g) := by
  have z := (Below.refl g W).setCell (p := ⟨g, i, none⟩) (Nat.le_refl _) u
  exact ⟨z.os.trans h.os, z.tape.trans h.tape, z.output.trans h.output, Nat.le_trans h.size z.size, fun k hk hne => (Below.heap_setCell W ⟨g, i, none⟩ u k (fun e => hne (by rw [e]))).trans (h.block k hk hne)⟩
theorem gb_sets {w : World} {g : Nat} : ∀ (vs : List Value) (o : Nat) (W : World), w.grownBy W (some g) → w.grownBy (W.setCells g o vs) (some g)
  | [], _, _, h => h
  | v :: r, o, _, h => gb_sets r (o + 1) _ (gb_set h o v)
theorem gb_below {w W W' : World} {row : Option Nat} (h : w.grownBy W row) (hb : Below W.heap.size W W') : w.grownBy W' row :=
  ⟨hb.os.trans h.os, hb.tape.trans h.tape, hb.output.trans h.output, Nat.le_trans h.size hb.size, fun k hk hne => (hb.block k (Nat.lt_of_lt_of_le hk h.size)).trans (h.block k hk hne)⟩
theorem gb_refl (w : World) (row : Option Nat) : w.grownBy w row := ⟨rfl, rfl, rfl, Nat.le_refl _, fun _ _ _ => rfl⟩
theorem blk_sets {g : Nat} {t : TypeId} : ∀ (vs : List Value) (o : Nat) (W : World) (cur : Array Value), Blk W g t cur → o + vs.length ≤ cur.size → ∃ cur', Blk (W.setCells g o vs) g t cur' ∧ cur'.size = cur.size ∧ (∀ j, j < o → cur'[j]? = cur[j]?) ∧ (∀ j, o + vs.length ≤ j → cur'[j]? = cur[j]?) ∧ ∀ (j : Nat) u, vs[j]? = some u → cur'[o + j]? = some u
  | [], o, W, cur, h, _ => ⟨cur, h, rfl, fun _ _ => rfl, fun _ _ => rfl, fun j u hj => by simp at hj⟩
  | v :: r, o, W, cur, h, hs => by
    simp only [List.length_cons] at hs
    obtain ⟨cur', h1, h2, h3, h4, h5⟩ := blk_sets r (o + 1) _ _ (h.set_ o v) (by simp; omega)
    refine ⟨cur', h1, by simpa using h2, fun j hj => ?_, fun j hj => ?_, fun j u hj => ?_⟩
    · rw [h3 j (by omega), Array.getElem?_setIfInBounds, if_neg (by omega)]
    · simp only [List.length_cons] at hj
      rw [h4 j (by omega), Array.getElem?_setIfInBounds, if_neg (by omega)]
    · cases j with
      | zero =>
        simp only [List.getElem?_cons_zero] at hj
        rw [Nat.add_zero, h3 o (by omega), Array.getElem?_setIfInBounds, if_pos rfl, if_pos (by omega)]
        exact hj
      | succ j =>
        have := h5 j u (by simpa using hj)
        rw [show o + (j + 1) = o + 1 + j by omega]
        exact this
theorem blk_there {W : World} {g : Nat} {t : TypeId} {cur : Array Value} (h : Blk W g t cur) (o n : Nat) (hs : o + n ≤ cur.size) : W.there g o n := fun j hj =>
  ⟨by rw [h.cell, Array.getElem?_eq_getElem (by omega)]; rfl, h.frozen _⟩

theorem zeros_len (n : Nat) : (Builtin.zeroCells #[.string ⟨#[]⟩, .string ⟨#[]⟩] n).toList.length = n * 2 := by simp [Builtin.zeroCells]
theorem zeros_one (n : Nat) : ∀ u ∈ (Builtin.zeroCells #[.string ⟨#[]⟩, .string ⟨#[]⟩] n).toList, u.oneCell' = true := by
  intro u hu
  simp only [Builtin.zeroCells, Array.toList_map, List.mem_map] at hu
  obtain ⟨i, _, rfl⟩ := hu
  have h2 : i % 2 = 0 ∨ i % 2 = 1 := by omega
  rcases h2 with h | h <;> simp [h] <;> rfl
theorem run_clear_row (w : World) (g o n c : Nat) (hn : 0 < n) (ht : w.there g o (n * 2)) (ty : TypeId) : (Builtin.clear_ #[49] ty #[.slice (some ⟨g, o, none⟩) n c]).run Tryz.prog w = .ok (.tuple #[]) (w.setCells g o (Builtin.zeroCells #[.string ⟨#[]⟩, .string ⟨#[]⟩] n).toList) := by
  have hst := run_storeCells_cells (P := Tryz.prog) g o (Builtin.zeroCells #[.string ⟨#[]⟩, .string ⟨#[]⟩] n).toList 0 w (fun j hj => by rw [zeros_len] at hj; simpa using (ht j hj).1) (fun j hj => by rw [zeros_len] at hj; simpa using (ht j hj).2) (zeros_one n)
  simp only [Nat.add_zero] at hst
  obtain ⟨m, rfl⟩ : ∃ m, n = m + 1 := ⟨n - 1, by omega⟩
  simp [Builtin.clear_, run_underlying Tryz.underlying49, Value.cells, hst]

/-- The state of the second loop. -/
structure DSt (w : World) (l : List En) (np : En → Bool) (g cap : Nat) (i j : Nat) (wr : World) : Prop where
  hij : i < j
  hj : j ≤ l.length
  hi : i = ((l.take j).filter np).length
  row : ∃ cur, Blk wr g 64 cur ∧ cur.size = cap * 2 ∧ (∀ (z : Nat) u, (((l.take j).filter np).flatMap encE)[z]? = some u → cur[z]? = some u) ∧ ∀ (z : Nat) u, j * 2 ≤ z → (l.flatMap encE)[z]? = some u → cur[z]? = some u
  gb : w.grownBy wr (some g)
section
variable {w wr : World} {l : List En} {np : En → Bool} {g cap i j : Nat}
theorem DSt.skip (h : DSt w l np g cap i j wr) (hlt : j < l.length) (hp : np (l[j]'hlt) = false) {W : World} (hb : Below wr.heap.size wr W) : DSt w l np g cap i (j + 1) W := by
  have e : (l.take (j + 1)).filter np = (l.take j).filter np := by rw [List.take_succ_eq_append_getElem hlt, List.filter_append]; simp [hp]
  obtain ⟨cur, c1, c2, c3, c4⟩ := h.row
  exact ⟨by have := h.hij; omega, by omega, by rw [e]; exact h.hi, ⟨cur, c1.belowS hb, c2, by rw [e]; exact c3, fun z u hz => c4 z u (by omega)⟩, gb_below h.gb hb⟩
theorem DSt.keep (h : DSt w l np g cap i j wr) (hlt : j < l.length) (hc : l.length ≤ cap) (hp : np (l[j]'hlt) = true) {W : World} (hb : Below wr.heap.size wr W) : DSt w l np g cap (i + 1) (j + 1) (W.setCells g (i * 2) [.string (bs (l[j]'hlt).1), .string (bs (l[j]'hlt).2)]) := by
  have e : (l.take (j + 1)).filter np = (l.take j).filter np ++ [l[j]] := by rw [List.take_succ_eq_append_getElem hlt, List.filter_append]; simp [hp]
  have hij := h.hij
  have hi := h.hi
  obtain ⟨cur, c1, c2, c3, c4⟩ := h.row
  obtain ⟨cur', d1, d2, d3, d4, d5⟩ := blk_sets [.string (bs (l[j]'hlt).1), .string (bs (l[j]'hlt).2)] (i * 2) W cur (c1.belowS hb) (by simp; omega)
  simp only [List.length_cons, List.length_nil] at d4
  refine ⟨by omega, by omega, by rw [e]; simp; omega, ⟨cur', d1, d2.trans c2, fun z u hz => ?_, fun z u hz hu => ?_⟩, gb_sets _ _ _ (gb_below h.gb hb)⟩
  · rw [e, List.flatMap_append] at hz
    have hl : (((l.take j).filter np).flatMap encE).length = i * 2 := by rw [flat_len encE 2 encE_len, ← hi]
    rcases Nat.lt_or_ge z (i * 2) with hlz | hlz
    · rw [List.getElem?_append_left (by rw [hl]; exact hlz)] at hz
      rw [d3 z hlz]
      exact c3 z u hz
    · rw [List.getElem?_append_right (by rw [hl]; exact hlz), hl] at hz
      have := d5 (z - i * 2) u (by simpa [encE] using hz)
      rwa [show i * 2 + (z - i * 2) = z by omega] at this
  · rw [d4 z (by omega)]
    exact c4 z u (by omega) hu
theorem DSt.own (h : DSt w l np g cap i l.length wr) (hc : i ≤ cap) (hm : cap ≤ maxLen) {base : Nat} (hbase : base ≤ g) (vs : List Value) (hv : i * 2 + vs.length ≤ cap * 2) : (wr.setCells g (i * 2) vs).ownsRow base 64 2 (.slice (some ⟨g, 0, none⟩) i cap) (l.filter np).length ((l.filter np).flatMap encE) := by
  have hi := h.hi
  obtain ⟨cur, c1, c2, c3, -⟩ := h.row
  rw [List.take_of_length_le (Nat.le_refl _)] at c3 hi
  obtain ⟨cur', d1, d2, d3, -, -⟩ := blk_sets vs (i * 2) wr cur c1 (by omega)
  refine ⟨by rw [flat_len encE 2 encE_len], Or.inr ⟨g, cap, cur', by rw [hi], hbase, d1, by omega, hm, d2.trans c2, ?_⟩⟩
  rw [← hi]
  apply List.ext_getElem?
  intro z
  have hl : ((l.filter np).flatMap encE).length = i * 2 := by rw [flat_len encE 2 encE_len, ← hi]
  rw [List.getElem?_take]
  by_cases hz : z < i * 2
  · rw [if_pos hz]
    have h1 := List.getElem?_eq_getElem (l := (l.filter np).flatMap encE) (i := z) (by omega)
    rw [h1]
    have h2 := (d3 z hz).trans (c3 z _ h1)
    simpa using h2
  · rw [if_neg hz, List.getElem?_eq_none (by omega)]
theorem DSt.cells (h : DSt w l np g cap i j wr) (hlt : j < l.length) : wr.cell? ⟨g, j * 2, none⟩ = some (.string (bs (l[j]'hlt).1)) ∧ wr.cell? ⟨g, j * 2 + 1, none⟩ = some (.string (bs (l[j]'hlt).2)) := by
  obtain ⟨cur, c1, -, -, c4⟩ := h.row
  have h0 := flat_get encE 2 encE_len l j 0 hlt (by omega)
  have h1 := flat_get encE 2 encE_len l j 1 hlt (by omega)
  exact ⟨(c1.cell _).trans (c4 (j * 2) _ (Nat.le_refl _) h0), (c1.cell _).trans (c4 (j * 2 + 1) _ (by omega) h1)⟩
end

set_option maxRecDepth 100000 in
set_option maxHeartbeats 8000000 in
theorem deleteFunc_any (l : List En) (e0 : En) (v : Value) (base B : Nat) (w : World) (hn : l.length ≤ 1000000) (hown : w.ownsRow base 64 2 v l.length (l.flatMap encE)) (hB : B < w.heap.size) (hne : v.ownBlock ≠ some B) (hc : w.cell? ⟨B, 0, none⟩ = some (.string (bs e0.1))) :
    Calls Tryz.prog 32 #[v, .func (.func 33) #[] #[.pointer (some ⟨B, 0, none⟩)]] w fun e w' => (∃ v', e = .returned v' ∧ w'.ownsRow base 64 2 v' (l.filter fun x => !decide (x.1 = e0.1)).length ((l.filter fun x => !decide (x.1 = e0.1)).flatMap encE) ∧ v'.ownBlock = v.ownBlock) ∧ w.grownBy w' v.ownBlock := by
  have eg : ∀ args w, (callFunc 33 args).run Tryz.prog w = .ok (.enter 33 args) w := enters_of Tryz.func33 (by kernel_rfl) rfl
  have hIF := indexFunc_any l e0 v B w (SlV.of_own hown) hn hB hc
  rcases first_hit (fun x => decide (x.1 = e0.1)) l with hA | ⟨k, hk, hk1, hk2⟩
  · rw [filter_none hA]
    have hIF2 : Calls Tryz.prog 69 #[v, .func (.func 33) #[] #[.pointer (some ⟨B, 0, none⟩)]] w fun e w' => e = .returned (.int .i64 (-1)) ∧ Below w.heap.size w w' := hIF.mono fun e w' ⟨h, hb⟩ => by
      rcases h with ⟨-, he⟩ | ⟨k, hk, -, h1, -⟩
      · exact ⟨he, hb⟩
      · have := hA _ (List.getElem_mem hk)
        simp only [h1] at this
        cases this
    have H1 := Lib.hid hIF2
    have HO := Lib.hid hown
    clear hIF hIF2 hown hA
    go_enter Tryz.func32, Tryz.ntmps32
    go_wp2_with (go_at_call 69; (with_reducible refine H1.out.mono ?_); rintro e w1 ⟨rfl, hb1⟩)
    go_ret
    exact ⟨⟨_, rfl, own_below HO.out hb1, rfl⟩, gb_below (gb_refl w _) hb1⟩
  · have hIF2 : Calls Tryz.prog 69 #[v, .func (.func 33) #[] #[.pointer (some ⟨B, 0, none⟩)]] w fun e w' => e = .returned (.int .i64 (k : Int)) ∧ Below w.heap.size w w' := hIF.mono fun e w' ⟨h, hb⟩ => by
      rcases h with ⟨h, -⟩ | ⟨k', hk', he, h1, h2⟩
      · have := h _ (List.getElem_mem hk)
        simp only [hk1] at this
        cases this
      · have a1 : k' ≤ k := hit_le (p := fun x => decide (x.1 = e0.1)) hk1 h2
        have a2 : k ≤ k' := hit_le (p := fun x => decide (x.1 = e0.1)) h1 hk2
        obtain rfl : k' = k := by omega
        exact ⟨he, hb⟩
    obtain ⟨g, cap, rfl⟩ : ∃ g c, v = .slice (some ⟨g, 0, none⟩) l.length c := by
      rcases hown.2 with ⟨h1, h2⟩ | ⟨g, c, cur, h1, _⟩
      · omega
      · exact ⟨g, c, h1⟩
    obtain ⟨cur, hblk, hcs, htk, hgb, -, hcap⟩ := own_blk hown
    have hcm : cap ≤ maxLen := by
      obtain ⟨A', c', h1, h2, h3, _⟩ := SlV.of_own hown
      injection h1 with _ _ h4
      rw [h4]; exact h3
    have hgB : g ≠ B := fun e => hne (by rw [e]; rfl)
    have H1 := Lib.hid hIF2
    have HC := Lib.hid hc
    have hk1' : ((k : Int) == -1) = false := beq_eq_false_iff_ne.2 (by omega)
    have HS0 := Lib.hid (show ∀ w1, Below w.heap.size w w1 → DSt w l (fun x => !decide (x.1 = e0.1)) g cap k (k + 1) w1 from fun w1 hb1 => by
      have ef : (l.take k).filter (fun x => !decide (x.1 = e0.1)) = l.take k := filter_none hk2
      have e1 : (l.take (k + 1)).filter (fun x => !decide (x.1 = e0.1)) = l.take k := by
        rw [List.take_succ_eq_append_getElem hk, List.filter_append, ef]
        have : decide ((l[k]'hk).1 = e0.1) = true := hk1
        simp only [List.filter_cons, this, List.filter_nil]
        simp
      have hcc : ∀ (j : Nat) (u : Value), (l.flatMap encE)[j]? = some u → cur[j]? = some u := fun j u hj => by
        rw [← htk, List.getElem?_take] at hj
        split at hj
        · simpa using hj
        · cases hj
      refine ⟨by omega, by omega, by rw [e1]; simp; omega, ⟨cur, hblk.belowS hb1, hcs, fun z u hz => ?_, fun z u _ hz => hcc z u hz⟩, gb_below (gb_refl w _) hb1⟩
      rw [e1] at hz
      have h2 : l.flatMap encE = (l.take k).flatMap encE ++ (l.drop k).flatMap encE := by rw [← List.flatMap_append, List.take_append_drop]
      refine hcc z u ?_
      rw [h2, List.getElem?_append_left (List.getElem?_eq_some_iff.1 hz).1]
      exact hz)
    clear hIF hIF2 hown hc hblk hcs htk hne hk1 hk2
    go_enter Tryz.func32, Tryz.ntmps32
    go_wp2_with (go_at_call 69; (with_reducible refine H1.out.mono ?_); rintro e w1 ⟨rfl, hb1⟩; have HS1 := Lib.hid (HS0.out w1 hb1); clear hb1)
    go_loopw [5, 6, 7] (fun i j _ wr => ∃ i' j' : Nat, i = .int .i64 i' ∧ j = .int .i64 j' ∧ DSt w l (fun x => !decide (x.1 = e0.1)) g cap i' j' wr) (fun _ j _ _ => l.length - (intOf j).toNat)
    case atStart => exact ⟨k, k + 1, rfl, by go_num, HS1.out⟩
    case round =>
      obtain ⟨i, j, rfl, rfl, hst⟩ := hrel
      have HS := Lib.hid hst
      have hij := hst.hij
      have hjl := hst.hj
      have hge := hst.gb.size
      by_cases hlt : j < l.length
      · obtain ⟨c0, c1⟩ := hst.cells hlt
        have hcB : wr.cell? ⟨B, 0, none⟩ = some (.string (bs e0.1)) := (World.cell?_of_block (hst.gb.block B hB (fun e => hgB (Option.some.inj e).symm))).trans HC.out
        have hBw : Below wr.heap.size wr (wr.alloc (.cells #[.string (bs (l[j]'hlt).1), .string (bs (l[j]'hlt).2)] 64)) := (Below.refl _ _).alloc (Nat.le_refl _) _
        have hBlt : B < wr.heap.size := Nat.lt_of_lt_of_le hB hge
        have hcall := same33 l[j] e0 B (wr.alloc (.cells #[.string (bs (l[j]'hlt).1), .string (bs (l[j]'hlt).2)] 64)) ((hBw.cell (p := ⟨B, 0, none⟩) hBlt).trans hcB) (by simp; omega)
        have HBw := Lib.hid hBw
        have HNew := Lib.hid (Blk.new wr 64 #[.string (bs (l[j]'hlt).1), .string (bs (l[j]'hlt).2)])
        have hil : i < l.length := by omega
        have HOne := Lib.hid (all_oneCell_toArray (cs := [.string (bs (l[j]'hlt).1), .string (bs (l[j]'hlt).2)]) (fun u hu => by simp only [List.mem_cons, List.not_mem_nil, or_false] at hu; rcases hu with rfl | rfl <;> rfl))
        obtain ⟨cur2, k1, k2, -, -⟩ := hst.row
        have HK := Lib.hid k1
        clear hst hcB hBw k1
        cases hf : decide ((l[j]'hlt).1 = e0.1)
        · rw [hf] at hcall
          have HF := Lib.hid hf
          have HCL := Lib.hid hcall
          clear hf hcall
          go_wp2_with (first
            | (go_at_fn 33; refine HCL.out.mono ?_; rintro e w2 ⟨rfl, hb2⟩; have HB2 := Lib.hid (HBw.out.trans (hb2.mono (by simp))); have HN2 := HNew.out.belowS hb2; have e7 := HN2.cell 0; have e8 := HN2.cell 1; simp only [List.getElem?_toArray, List.getElem?_cons_zero, List.getElem?_cons_succ] at e7 e8; have HT := Lib.hid (blk_there (HK.out.belowS HB2.out) (i * 2) 2 (by omega)); clear hb2 HN2)
            | (refine wpList_store_mid rfl 64 (.tmp 33) (.tmp 32) rfl g (i * 2) #[.string (bs (l[j]'hlt).1), .string (bs (l[j]'hlt).2)] (by first | rfl | simp [go_sem]) (by first | rfl | simp [go_sem]) HT.out (by kernel_rfl) HOne.out ?_))
          exact ⟨⟨i + 1, j + 1, by go_num, by go_num, HS.out.keep hlt hcap (by show (!decide _) = true; rw [HF.out]; rfl) HB2.out⟩, by simp [intOf]; omega⟩
        · rw [hf] at hcall
          have HF := Lib.hid hf
          have HCL := Lib.hid hcall
          clear hf hcall
          go_wp2_with (go_at_fn 33; refine HCL.out.mono ?_; rintro e w2 ⟨rfl, hb2⟩; have HB2 := Lib.hid (HBw.out.trans (hb2.mono (by simp))); clear hb2)
          exact ⟨⟨i, j + 1, rfl, by go_num, HS.out.skip hlt (by show (!decide _) = false; rw [HF.out]; rfl) HB2.out⟩, by simp [intOf]; omega⟩
      · obtain rfl : j = l.length := by omega
        obtain ⟨cur2, k1, k2, -, -⟩ := hst.row
        have hcl := run_clear_row wr g (i * 2) (l.length - i) (cap - i) (by omega) (blk_there k1 _ _ (by omega))
        have hil : i ≤ l.length := by omega
        clear hst k1
        go_wp2
        go_ret
        exact ⟨⟨_, rfl, HS.out.own (by omega) hcm hgb _ (by rw [zeros_len]; omega), rfl⟩, gb_sets _ _ _ HS.out.gb⟩
end Go.Proofs.YtpgookhdffklkaaGreatDoor
