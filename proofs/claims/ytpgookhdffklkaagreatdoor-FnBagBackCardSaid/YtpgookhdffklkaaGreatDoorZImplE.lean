/-
  Package baggage: the texts of properties and members.
-/
import Derived.Test.YtpgookhdffklkaaGreatDoorZImplD
import Derived.Test.YtpgookhdffklkaaGreatDoorZShelf2
namespace Go.Proofs.YtpgookhdffklkaaGreatDoor
open Go.RowKit
theorem lens_le (ts : List (List UInt8)) (B : Nat) (h : ∀ t ∈ ts, t.length ≤ B) : Lib.lens ts ≤ ts.length * B := by
  induction ts with
  | nil => simp [Lib.lens]
  | cons t r ih =>
    have h1 := h t (by simp)
    have h2 := ih (fun x hx => h x (by simp [hx]))
    rw [List.length_cons, Nat.succ_mul]
    have : Lib.lens (t :: r) = t.length + Lib.lens r := by simp [Lib.lens]
    omega
theorem join_le (ts : List (List UInt8)) (c : UInt8) (B : Nat) (h : ∀ t ∈ ts, t.length ≤ B) : (Lib.join ts [c]).length ≤ ts.length * (B + 1) := by
  cases ts with
  | nil => simp [Lib.join_nil]
  | cons x r =>
    rw [Lib.join_length]
    have := lens_le (x :: r) B h
    simp only [List.length_cons, List.length_nil] at *
    rw [Nat.mul_add]
    omega
theorem join_str (ts : List (List UInt8)) (c : UInt8) (v : Value) (w : World) (hv : SlV w 9 v ts.length (strs ts)) (hn : ts.length ≤ 1000000) (B : Nat) (hB : B ≤ 10000000) (ht : ∀ t ∈ ts, t.length ≤ B) :
    Calls Tryz.prog 34 #[v, .string (bs [c])] w fun e w' => e = .returned (.string (bs (Lib.join ts [c]))) ∧ Below w.heap.size w w' := by
  by_cases h0 : ts = []
  · subst h0
    obtain ⟨A, cp, rfl, -, -, -⟩ := hv
    exact (Tryz.strings_Join_none A cp (bs [c]) w).mono fun e w' ⟨he, hw⟩ => ⟨he, by rw [hw]; exact Below.refl _ _⟩
  · obtain ⟨b, off, cp, rfl, hc1, hc2, hb, hc⟩ := hv.cells (by simpa [strs] using h0)
    have hj : (Lib.join ts [c]).length ≤ 140737488355328 := by
      have h1 := join_le ts c B ht
      have h2 : ts.length * (B + 1) ≤ 1000000 * 10000001 := Nat.mul_le_mul hn (by omega)
      omega
    have e1 : (ts.map bs).map (·.data.toList) = ts := by rw [List.map_map]; simp [Function.comp_def]
    have := Tryz.strings_Join b off cp (ts.map bs) (bs [c]) w (fun j x hj => hc j _ (by
      rw [List.getElem?_map] at hj
      simp only [strs, List.getElem?_map]
      cases h : ts[j]? with
      | none => rw [h] at hj; cases hj
      | some t => rw [h] at hj; simp only [Option.map_some, Option.some.injEq] at hj ⊢; rw [hj])) hb (by simp; omega) (by simpa using hc1) (by rw [e1]; simpa using hj)
    rw [e1] at this
    simp at this
    exact this
def pText (p : Pr) : List UInt8 := if tok p.k then (if p.has then p.k ++ 61 :: encL p.v else p.k) else []
def pTexts (ps : List Pr) : List (List UInt8) := (ps.map pText).filter fun s => !s.isEmpty
def psText (ps : List Pr) : List UInt8 := Lib.join (pTexts ps) [59]
def mText (m : BM) : List UInt8 := if tok m.k then (m.k ++ 61 :: encL m.v) ++ (if m.md.isEmpty then (if m.ps.isEmpty then [] else 59 :: psText m.ps) else 59 :: m.md) else []
set_option maxRecDepth 100000 in
set_option maxHeartbeats 2000000 in
theorem propString_any (p : Pr) (w : World) (hE : Env w) (hk : p.k.length ≤ 1000000) (hv : p.v.length ≤ 1000000) :
    Calls Tryz.prog 189 #[.agg #[.string (bs p.k), .string (bs p.v), .bool p.has]] w fun e w' => e = .returned (.string (bs (pText p))) ∧ Below w.heap.size w w' := by
  obtain ⟨k, has, v⟩ := p
  dsimp only at *
  have HE := Lib.hid hE
  have HK0 := Lib.hid (Blk.new w 148 #[.string (bs k), .string (bs v), .bool has])
  have HB0 := Lib.hid ((Below.refl w.heap.size w).alloc (Nat.le_refl _) (.cells #[.string (bs k), .string (bs v), .bool has] 148))
  have C := fun W h => Lib.hid (validateKey_any k W h)
  have C2 := fun W h => Lib.hid (valueEscape_any v W h hv)
  have hel := encL_len v
  have hen := escN_le v
  have hle : (encL v).length ≤ 3000000 := by omega
  clear hE hel hen
  cases ht : tok k
  · rw [ht] at C
    have HT := Lib.hid (show pText ⟨k, has, v⟩ = [] by simp [pText, ht])
    clear ht
    go_enter Tryz.func189, Tryz.ntmps189
    go_wp2_with (go_at_call 124; (with_reducible refine (C _ (HE.out.below HB0.out)).out.mono ?_); rintro e w1 ⟨rfl, hb1⟩; have HB := Lib.hid (HB0.out.trans (hb1.mono HB0.out.size)); clear hb1)
    go_ret
    exact ⟨by rw [HT.out]; rfl, HB.out⟩
  · rw [ht] at C
    cases has
    · have HT := Lib.hid (show pText ⟨k, false, v⟩ = k by simp [pText, ht])
      clear ht
      go_enter Tryz.func189, Tryz.ntmps189
      go_wp2_with (go_at_call 124; (with_reducible refine (C _ (HE.out.below HB0.out)).out.mono ?_); rintro e w1 ⟨rfl, hb1⟩; have HB := Lib.hid (HB0.out.trans (hb1.mono HB0.out.size)); have HK := Lib.hid (HK0.out.belowS hb1); clear hb1; obtain ⟨c1, c2, c3, c4⟩ := HK.out.use)
      go_ret
      exact ⟨by rw [HT.out]; rfl, HB.out⟩
    · have HT := Lib.hid (show pText ⟨k, true, v⟩ = k ++ 61 :: encL v by simp [pText, ht])
      clear ht
      go_enter Tryz.func189, Tryz.ntmps189
      go_wp2_with (go_at_call 124; (with_reducible refine (C _ (HE.out.below HB0.out)).out.mono ?_); rintro e w1 ⟨rfl, hb1⟩; have HB := Lib.hid (HB0.out.trans (hb1.mono HB0.out.size)); have HK := Lib.hid (HK0.out.belowS hb1); clear hb1; obtain ⟨c1, c2, c3, c4⟩ := HK.out.use)
      have q1 : ¬ 9223372036854775807 < k.length + 1 := by omega
      have q2 : ¬ 9223372036854775807 < k.length + 1 + (encL v).length := by omega
      go_region_law (go_simp; go_at_call 137; (refine (C2 _ (by have z := HE.out.below HB.out; exact ⟨z.key, z.val, z.err, z.utf, z.asc, z.size⟩)).out.mono ?_); rintro e w2 ⟨rfl, hb2⟩; have HB2 := Lib.hid (below_then hb2 (by have := HB.out.size; simp at this ⊢ <;> omega) ⟨HB.out.os, HB.out.tape, HB.out.output, HB.out.size, HB.out.block⟩); have HK2 := Lib.hid (Blk.by_ hb2 HK.out); clear hb2; obtain ⟨d1, d2, d3, d4⟩ := HK2.out.use)
      all_goals go_wp2
      all_goals go_ret
      all_goals exact ⟨by rw [HT.out]; show Ending.returned (.string (bs k ++ bs [61] ++ bs (encL v))) = _; simp, ⟨HB2.out.os, HB2.out.tape, HB2.out.output, HB2.out.size, HB2.out.block⟩⟩
theorem pText_le (p : Pr) (hk : p.k.length ≤ 1000000) (hv : p.v.length ≤ 1000000) : (pText p).length ≤ 5000000 := by
  have hel := encL_len p.v
  have hen := escN_le p.v
  unfold pText
  split
  · split
    · simp; omega
    · omega
  · simp
theorem pTexts_snoc (ps : List Pr) (j : Nat) (h : j < ps.length) : pTexts (ps.take (j + 1)) = pTexts (ps.take j) ++ if (pText ps[j]).isEmpty then [] else [pText ps[j]] := by
  unfold pTexts
  rw [List.take_succ_eq_append_getElem h, List.map_append, List.filter_append]
  congr 1
  simp only [List.map_cons, List.map_nil, List.filter_cons, List.filter_nil]
  cases (pText ps[j]).isEmpty <;> rfl
theorem pTexts_len (ps : List Pr) : (pTexts ps).length ≤ ps.length := by
  unfold pTexts
  refine Nat.le_trans (List.length_filter_le _ _) ?_
  simp
theorem pTexts_mem {ps : List Pr} (h : ∀ p ∈ ps, p.k.length ≤ 1000000 ∧ p.v.length ≤ 1000000) : ∀ t ∈ pTexts ps, t.length ≤ 5000000 := by
  intro t ht
  obtain ⟨ht, _⟩ := List.mem_filter.1 ht
  obtain ⟨p, hp, rfl⟩ := List.mem_map.1 ht
  exact pText_le p (h p hp).1 (h p hp).2
/-- 'make([]T, 0, n)'. -/
theorem mk_zero {W : World} {ops : Array Oper} {rest : List Oper} {o : Oper} {a : Act} {Q : Exit → Act → World → Prop} (hgd : o.guard = none) (l c : Operand) (t : TypeId) (hop : o.op = Op.makeSlice t l c)
    (e : TypeId) (z : Value) (size bytes : Nat) (ht : Tryz.prog.underlying t = some (.slice e)) (hinfo : (Tryz.prog.info? e).map (fun i => (i.zero, i.size, i.bytes)) = some (some z, size, bytes)) (hby : bytes ≤ 1000)
    (x : Int) (n : Nat) (hl : a.eval l = .int .i64 0) (hc : a.eval c = .int .i64 x) (hx : x = (n : Int)) (hn : n ≤ 4294967296)
    (hK : ∀ w', w'.ownsRow W.heap.size e size (.slice (some ⟨W.heap.size, 0, none⟩) 0 n) 0 [] → Below W.heap.size W w' → wpList Tryz.prog ops Q rest (a.put o.dst (.slice (some ⟨W.heap.size, 0, none⟩) 0 n)) w') :
    wpList Tryz.prog ops Q (o :: rest) a W := by
  obtain ⟨i0, hi, hz0, hz1, hz2⟩ := info_parts hinfo
  refine wpList_make_own W hgd l c t hop W.heap.size e i0 z size ht hi hz0 hz1 .i64 .i64 x n hl hc hx ?_ (by unfold maxLen; omega) (Nat.le_refl _) fun w' h1 h2 => hK w' h1 ((Below.refl _ _).grown h2 (Nat.le_refl _) (fun k hk => by cases hk))
  rw [hz2]
  calc bytes * n ≤ 1000 * 4294967296 := Nat.mul_le_mul hby hn
    _ ≤ _ := by decide
set_option maxRecDepth 100000 in
set_option maxHeartbeats 2000000 in
theorem propsString_any (ps : List Pr) (v : Value) (w : World) (hE : Env w) (hv : SlV w 148 v ps.length (ps.flatMap encB)) (hl : ∀ p ∈ ps, p.k.length ≤ 1000000 ∧ p.v.length ≤ 1000000) (hn : ps.length ≤ 1000000) :
    Calls Tryz.prog 138 #[v] w fun e w' => e = .returned (.string (bs (psText ps))) ∧ Below w.heap.size w w' := by
  obtain ⟨A, q, hq⟩ := hv.form
  subst hq
  have HE := Lib.hid hE
  have HS := Lib.hid hv
  have HL := Lib.hid hl
  have CJ := fun v W h => Lib.hid (join_str (pTexts ps) 59 v W h (Nat.le_trans (pTexts_len ps) hn) 5000000 (by omega) (pTexts_mem hl))
  clear hE hv hl
  go_enter Tryz.func138, Tryz.ntmps138
  go_wp2_with (at_make; refine mk_zero rfl (.const (.int .i64 0)) (.tmp 8) 46 rfl 9 _ 1 16 Tryz.underlying46 info9 (by decide) _ ps.length rfl rfl rfl (by omega) ?_; intro w1 hown1 hb1; have HO1 := Lib.hid hown1; have HB1 := Lib.hid hb1; clear hown1 hb1)
  go_loopw [3, 5, 6, 12] (fun sv _ _ i wr => ∃ j : Nat, j ≤ ps.length ∧ i = .int .i64 j ∧ wr.ownsRow w.heap.size 9 1 sv (pTexts (ps.take j)).length (strs (pTexts (ps.take j))) ∧ Below w.heap.size w wr) (fun _ _ _ i _ => ps.length - (intOf i).toNat)
  case atStart => exact ⟨0, Nat.zero_le _, rfl, HO1.out, HB1.out⟩
  case round =>
    obtain ⟨j, hj, rfl, hown, hb⟩ := hrel
    have HB := Lib.hid hb
    have HO := Lib.hid hown
    clear hb hown
    by_cases hlt : j < ps.length
    · obtain ⟨b, off, c, hq, hc1, hc2, hbw, hc⟩ := HS.out.cells (flat_ne (by intro e; rw [e] at hlt; simp at hlt))
      injection hq with hq1 hq2 hq3
      subst hq1; subst hq3
      obtain ⟨i0, i1, i2⟩ := cells3 (fun z u hz => (HB.out.cell (p := ⟨b, off + z, none⟩) hbw).trans (hc z u hz)) j hlt
      have hpl := HL.out ps[j] (List.getElem_mem hlt)
      have CP := fun W h => Lib.hid (propString_any ps[j] W h hpl.1 hpl.2)
      have HT := Lib.hid (pTexts_snoc ps j hlt)
      have hlp : (pTexts (ps.take j)).length ≤ 4294967296 := by have := pTexts_len (ps.take j); rw [List.length_take] at this; omega
      have hge := HB.out.size
      clear hc hpl
      cases hem : (pText ps[j]).isEmpty
      · rw [hem] at HT
        go_wp2_with (first
          | (go_at_call 189; (with_reducible refine (CP _ (HE.out.below (HB.out.alloc HB.out.size _))).out.mono ?_); rintro e w2 ⟨rfl, hb2⟩; have HO2 := Lib.hid (own_below (own_below HO.out ((Below.refl _ _).alloc (Nat.le_refl _) _)) hb2); have HB2 := Lib.hid ((HB.out.alloc HB.out.size (.cells #[.string (bs ps[j].k), .string (bs ps[j].v), .bool ps[j].has] 148)).trans (hb2.mono (by simp <;> omega))); have hsz2 := HB2.out.size; clear hb2)
          | (at_builtin; refine app1 rfl (.tmp 20) (.tmp 22) 46 rfl w.heap.size 9 9 _ 1 16 Tryz.underlying46 info9 rfl (by decide) (by decide) u3 _ _ rfl [.string (bs (pText ps[j]))] HO2.out rfl rfl (one_str _) hlp hsz2 ?_; intro v3 w3 hown3 hg3 _))
        exact ⟨⟨j + 1, by omega, by go_num, own_cast hown3 (by rw [HT.out]; simp) (by rw [HT.out]; simp [strs]), below_app HB2.out hsz2 HO2.out (Nat.le_refl _) hg3⟩, by simp [intOf]; omega⟩
      · rw [hem] at HT
        go_wp2_with (go_at_call 189; (with_reducible refine (CP _ (HE.out.below (HB.out.alloc HB.out.size _))).out.mono ?_); rintro e w2 ⟨rfl, hb2⟩; have HO2 := Lib.hid (own_below (own_below HO.out ((Below.refl _ _).alloc (Nat.le_refl _) _)) hb2); have HB2 := Lib.hid ((HB.out.alloc HB.out.size (.cells #[.string (bs ps[j].k), .string (bs ps[j].v), .bool ps[j].has] 148)).trans (hb2.mono (by simp <;> omega))); clear hb2)
        exact ⟨⟨j + 1, by omega, by go_num, own_cast HO2.out (by rw [HT.out]; simp) (by rw [HT.out]; simp), HB2.out⟩, by simp [intOf]; omega⟩
    · have e : j = ps.length := by omega
      subst e
      rw [List.take_of_length_le (Nat.le_refl _)] at HO
      go_wp2_with (go_at_call 34; (refine (CJ _ _ (SlV.of_own HO.out)).out.mono ?_); rintro e w2 ⟨rfl, hb2⟩; have HB2 := Lib.hid (HB.out.trans (hb2.mono HB.out.size)); clear hb2)
      go_ret
      exact ⟨rfl, HB2.out⟩
/-- Sizes that the walks may add up. -/
structure SmM (m : BM) : Prop where
  lk : m.k.length ≤ 1000000
  lv : m.v.length ≤ 1000000
  lm : m.md.length ≤ 1000000
  ps : ∀ p ∈ m.ps, p.k.length ≤ 1000000 ∧ p.v.length ≤ 1000000
  lp : m.ps.length ≤ 1000000
set_option maxRecDepth 100000 in
set_option maxHeartbeats 4000000 in
theorem memberString_any (m : BM) (v : Value) (w : World) (hE : Env w) (hv : MvR w v m) (hm : SmM m) :
    Calls Tryz.prog 89 #[v] w fun e w' => e = .returned (.string (bs (mText m))) ∧ Below w.heap.size w w' := by
  obtain ⟨pv, rfl, hs⟩ := hv
  obtain ⟨A, q, hq⟩ := hs.form
  subst hq
  obtain ⟨k, u, md, ps⟩ := m
  have HE := Lib.hid hE
  have HS := Lib.hid hs
  have hlv := hm.lv
  have hlk := hm.lk
  have hlm := hm.lm
  have hlp := hm.ps
  have hln := hm.lp
  clear hm hs hE
  dsimp only at *
  have HL := Lib.hid hlp
  have C := fun W h => Lib.hid (validateKey_any k W h)
  have C2 := fun W h => Lib.hid (valueEscape_any u W h hlv)
  have hel := encL_len u
  have hen := escN_le u
  have hle : (encL u).length ≤ 3000000 := by omega
  have q1 : ¬ 9223372036854775807 < k.length + 1 := by omega
  have q2 : ¬ 9223372036854775807 < k.length + 1 + (encL u).length := by omega
  clear hel hen
  cases ht : tok k
  · rw [ht] at C
    have HT := Lib.hid (show mText ⟨k, u, md, ps⟩ = [] by simp [mText, ht])
    clear ht
    go_enter Tryz.func89, Tryz.ntmps89
    go_wp2_with (go_at_call 124; (refine (C _ (by exact HE.out.below ((Below.refl _ _).alloc (Nat.le_refl _) _))).out.mono ?_); rintro e w1 ⟨rfl, hb1⟩; have HB := Lib.hid (((Below.refl w.heap.size w).alloc (Nat.le_refl _) _).trans (hb1.mono (by simp))); clear hb1)
    go_ret
    exact ⟨by rw [HT.out]; rfl, HB.out⟩
  · rw [ht] at C
    have HB0 := fun o => Lib.hid ((Below.refl w.heap.size w).alloc (Nat.le_refl _) o)
    have HK0 := fun cs => Lib.hid (Blk.new w 86 cs)
    by_cases hmd : md = []
    · subst hmd
      by_cases hps : ps = []
      · subst hps
        have HT := Lib.hid (show mText ⟨k, u, [], []⟩ = k ++ 61 :: encL u by simp [mText, ht])
        clear ht
        go_enter Tryz.func89, Tryz.ntmps89
        go_wp2_with (go_at_call 124; (refine (C _ (by exact HE.out.below (HB0 _).out)).out.mono ?_); rintro e w1 ⟨rfl, hb1⟩; have HB := Lib.hid ((HB0 _).out.trans (hb1.mono (HB0 _).out.size)); have HK := Lib.hid ((HK0 _).out.belowS hb1); clear hb1; obtain ⟨c1, c2, c3, c4⟩ := HK.out.use)
        go_region_law (go_simp; go_at_call 137; (refine (C2 _ (by have z := HE.out.below HB.out; exact ⟨z.key, z.val, z.err, z.utf, z.asc, z.size⟩)).out.mono ?_); rintro e w2 ⟨rfl, hb2⟩; have HB2 := Lib.hid (below_then hb2 (by have := HB.out.size; simp at this ⊢ <;> omega) ⟨HB.out.os, HB.out.tape, HB.out.output, HB.out.size, HB.out.block⟩); have HK2 := Lib.hid (Blk.by_ hb2 HK.out); clear hb2; obtain ⟨d1, d2, d3, d4⟩ := HK2.out.use)
        all_goals go_wp2
        all_goals go_ret
        all_goals exact ⟨by rw [HT.out]; show Ending.returned (.string (bs k ++ bs [61] ++ bs (encL u))) = _; simp, ⟨HB2.out.os, HB2.out.tape, HB2.out.output, HB2.out.size, HB2.out.block⟩⟩
      · have hl0 : 0 < ps.length := List.length_pos_iff.2 hps
        have HT := Lib.hid (show mText ⟨k, u, [], ps⟩ = k ++ 61 :: encL u ++ 59 :: psText ps by simp [mText, ht, hps])
        have C3 := fun W h h1 => Lib.hid (propsString_any ps (.slice A ps.length q) W h h1 HL.out hln)
        have hpt : (psText ps).length ≤ 1000000 * 5000001 := Nat.le_trans (join_le (pTexts ps) 59 5000000 (pTexts_mem hlp)) (Nat.mul_le_mul (Nat.le_trans (pTexts_len _) hln) (Nat.le_refl _))
        clear ht hps
        go_enter Tryz.func89, Tryz.ntmps89
        go_wp2_with (go_at_call 124; (refine (C _ (by exact HE.out.below (HB0 _).out)).out.mono ?_); rintro e w1 ⟨rfl, hb1⟩; have HB := Lib.hid ((HB0 _).out.trans (hb1.mono (HB0 _).out.size)); have HK := Lib.hid ((HK0 _).out.belowS hb1); clear hb1; obtain ⟨c1, c2, c3, c4⟩ := HK.out.use)
        go_region_law (go_simp; go_at_call 137; (refine (C2 _ (by have z := HE.out.below HB.out; exact ⟨z.key, z.val, z.err, z.utf, z.asc, z.size⟩)).out.mono ?_); rintro e w2 ⟨rfl, hb2⟩; have HB2 := Lib.hid (below_then hb2 (by have := HB.out.size; simp at this ⊢ <;> omega) ⟨HB.out.os, HB.out.tape, HB.out.output, HB.out.size, HB.out.block⟩); have HK2 := Lib.hid (Blk.by_ hb2 HK.out); clear hb2; obtain ⟨d1, d2, d3, d4⟩ := HK2.out.use)
        all_goals go_wp2_with (go_at_call 138; (refine (C3 _ (by have z := HE.out.below HB2.out; exact ⟨z.key, z.val, z.err, z.utf, z.asc, z.size⟩) (by have z := HS.out.below HB2.out; exact z)).out.mono ?_); rintro e w3 ⟨rfl, hb3⟩; have HB3 := Lib.hid (below_then hb3 (by have := HB2.out.size; simp at this ⊢ <;> omega) ⟨HB2.out.os, HB2.out.tape, HB2.out.output, HB2.out.size, HB2.out.block⟩); clear hb3)
        all_goals go_ret
        all_goals exact ⟨by rw [HT.out]; show Ending.returned (.string (bs k ++ bs [61] ++ bs (encL u) ++ (bs [59] ++ bs (psText ps)))) = _; simp, HB3.out⟩
    · have hd : md.isEmpty = false := by simpa using hmd
      have HT := Lib.hid (show mText ⟨k, u, md, ps⟩ = k ++ 61 :: encL u ++ 59 :: md by simp [mText, ht, hd])
      clear ht hmd
      go_enter Tryz.func89, Tryz.ntmps89
      go_wp2_with (go_at_call 124; (refine (C _ (by exact HE.out.below (HB0 _).out)).out.mono ?_); rintro e w1 ⟨rfl, hb1⟩; have HB := Lib.hid ((HB0 _).out.trans (hb1.mono (HB0 _).out.size)); have HK := Lib.hid ((HK0 _).out.belowS hb1); clear hb1; obtain ⟨c1, c2, c3, c4⟩ := HK.out.use)
      go_region_law (go_simp; go_at_call 137; (refine (C2 _ (by have z := HE.out.below HB.out; exact ⟨z.key, z.val, z.err, z.utf, z.asc, z.size⟩)).out.mono ?_); rintro e w2 ⟨rfl, hb2⟩; have HB2 := Lib.hid (below_then hb2 (by have := HB.out.size; simp at this ⊢ <;> omega) ⟨HB.out.os, HB.out.tape, HB.out.output, HB.out.size, HB.out.block⟩); have HK2 := Lib.hid (Blk.by_ hb2 HK.out); clear hb2; obtain ⟨d1, d2, d3, d4⟩ := HK2.out.use)
      all_goals go_wp2
      all_goals go_ret
      all_goals exact ⟨by rw [HT.out]; show Ending.returned (.string (bs k ++ bs [61] ++ bs (encL u) ++ (bs [59] ++ bs md))) = _; simp, ⟨HB2.out.os, HB2.out.tape, HB2.out.output, HB2.out.size, HB2.out.block⟩⟩
end Go.Proofs.YtpgookhdffklkaaGreatDoor
