/-
  Package baggage: names, properties, members as they are made.
  Package baggage: lists of properties, members as they are made.
  Package baggage: items of the inner package, and members from them and to them.
-/
import Derived.Laws.CopyOwn
import Derived.Test.YtpgookhdffklkaaGreatDoorMB
import Derived.Test.YtpgookhdffklkaaGreatDoorZMapS
namespace Go.Proofs.YtpgookhdffklkaaGreatDoor
open Go.RowKit
theorem okB_parts {k v : List UInt8} (h : okB k v = true) : k ≠ [] ∧ Lib.validD k = true ∧ Lib.validD v = true := by
  unfold okB at h
  simp only [Bool.and_eq_true, Bool.not_eq_true'] at h
  exact ⟨fun e => by rw [e] at h; simp at h, h.1.2, h.2⟩
theorem valid_true {l : List UInt8} (w : World) (hE : Env w) (hs : l.length ≤ 1000000) (hv : Lib.validD l = true) :
    Calls Tryz.prog 74 #[.string (bs l)] w fun e w' => e = .returned (.bool true) ∧ Below w.heap.size w w' := by
  have := valid_any l w hE hs
  rwa [hv] at this
set_option maxHeartbeats 1000000 in
theorem name_ok (k : List UInt8) (w : World) (hE : Env w) (hs : k.length ≤ 1000000) (h0 : k ≠ []) (hv : Lib.validD k = true) :
    Calls Tryz.prog 180 #[.string (bs k)] w fun e w' => e = .returned (.bool true) ∧ Below w.heap.size w w' := by
  have C := fun W h => Lib.hid (valid_true W h hs hv)
  have hd : (k == []) = false := by simpa using h0
  have HE := Lib.hid hE
  clear hE h0 hv
  go_enter Tryz.func180, Tryz.ntmps180
  go_wp2_with (go_at_call 74; (with_reducible refine (C _ HE.out).out.mono ?_); rintro e w1 ⟨rfl, hb1⟩)
  go_ret
  exact ⟨rfl, hb1⟩
set_option maxHeartbeats 1000000 in
theorem value_ok (k : List UInt8) (w : World) (hE : Env w) (hs : k.length ≤ 1000000) (hv : Lib.validD k = true) :
    Calls Tryz.prog 182 #[.string (bs k)] w fun e w' => e = .returned (.bool true) ∧ Below w.heap.size w w' := by
  have C := fun W h => Lib.hid (valid_true W h hs hv)
  have HE := Lib.hid hE
  clear hE hv
  go_enter Tryz.func182, Tryz.ntmps182
  go_wp2_with (go_at_call 74; (with_reducible refine (C _ HE.out).out.mono ?_); rintro e w1 ⟨rfl, hb1⟩)
  go_ret
  exact ⟨rfl, hb1⟩
/-- The facts of a block known whole, as the walk uses them: here, and behind a new block. -/
theorem Blk.use {w : World} {g : Nat} {t : TypeId} {cs : Array Value} (h : Blk w g t cs) : (∀ i, w.cell? ⟨g, i, none⟩ = cs[i]?) ∧ (∀ i, w.frozen? ⟨g, i, none⟩ = false) ∧ (∀ o i, (w.alloc o).cell? ⟨g, i, none⟩ = cs[i]?) ∧ (∀ o i, (w.alloc o).frozen? ⟨g, i, none⟩ = false) :=
  ⟨h.cell, h.frozen, fun o i => (h.alloc o).cell i, fun o i => (h.alloc o).frozen i⟩
set_option maxRecDepth 100000 in
set_option maxHeartbeats 1000000 in
theorem newKeyProp_ok (k : List UInt8) (w : World) (hE : Env w) (hs : k.length ≤ 1000000) (h0 : k ≠ []) (hv : Lib.validD k = true) :
    Calls Tryz.prog 121 #[.string (bs k)] w fun e w' => e = .returned (.tuple #[.agg #[.string (bs k), .string (bs []), .bool false], .nilIface]) ∧ Below w.heap.size w w' := by
  have C := fun W h => Lib.hid (name_ok k W h hs h0 hv)
  have HE := Lib.hid hE
  clear hE hv h0
  go_enter Tryz.func121, Tryz.ntmps121
  go_wp2_with (go_at_call 180; (with_reducible refine (C _ (HE.out.below ((Below.refl _ _).alloc (Nat.le_refl _) _))).out.mono ?_); rintro e w1 ⟨rfl, hb1⟩; have HK := Lib.hid ((Blk.new w 148 _).belowS hb1); have HB := Lib.hid (((Below.refl w.heap.size w).alloc (Nat.le_refl _) _).trans (hb1.mono (by simp))); clear hb1; obtain ⟨c1, c2, c3, c4⟩ := HK.out.use)
  have hF := (((HK.out.alloc (.cells #[.string (bs k), .string ⟨#[]⟩, .bool false] 148)).set_ 0 (.string (bs k))).set_ 1 (.string ⟨#[]⟩)).set_ 2 (.bool false)
  have c0 := hF.cell 0
  have c1 := hF.cell 1
  have c2 := hF.cell 2
  simp at c0 c1 c2
  refine bodyPost_ret (v := .tuple #[.agg #[.string (bs k), .string (bs []), .bool false], .nilIface]) (by simp [results, Tryz.results121, go_sem, c0, c1, c2]; rfl) rfl ⟨rfl, ?_⟩
  exact (((HB.out.alloc HB.out.size _).setCell (Nat.le_refl _) _).setCell (Nat.le_refl _) _).setCell (Nat.le_refl _) _
set_option maxRecDepth 100000 in
set_option maxHeartbeats 1000000 in
theorem newKVProp_ok (k v : List UInt8) (w : World) (hE : Env w) (hs : k.length ≤ 1000000) (hsv : v.length ≤ 1000000) (h0 : k ≠ []) (hk : Lib.validD k = true) (hv : Lib.validD v = true) :
    Calls Tryz.prog 123 #[.string (bs k), .string (bs v)] w fun e w' => e = .returned (.tuple #[.agg #[.string (bs k), .string (bs v), .bool true], .nilIface]) ∧ Below w.heap.size w w' := by
  have C := fun W h => Lib.hid (name_ok k W h hs h0 hk)
  have C2 := fun W h => Lib.hid (value_ok v W h hsv hv)
  have HE := Lib.hid hE
  clear hE hv h0 hk
  go_enter Tryz.func123, Tryz.ntmps123
  go_wp2_with (first
    | (go_at_call 180; (with_reducible refine (C _ (HE.out.below ((Below.refl _ _).alloc (Nat.le_refl _) _))).out.mono ?_); rintro e w1 ⟨rfl, hb1⟩; have HK := Lib.hid ((Blk.new w 148 _).belowS hb1); have HB := Lib.hid (((Below.refl w.heap.size w).alloc (Nat.le_refl _) _).trans (hb1.mono (by simp))); clear hb1)
    | (go_at_call 182; (with_reducible refine (C2 _ (HE.out.below HB.out)).out.mono ?_); rintro e w2 ⟨rfl, hb2⟩; have HK2 := Lib.hid (HK.out.belowS hb2); have HB2 := Lib.hid (HB.out.trans (hb2.mono HB.out.size)); clear hb2; obtain ⟨c1, c2, c3, c4⟩ := HK2.out.use))
  have hF := (((HK2.out.alloc (.cells #[.string (bs k), .string (bs v), .bool true] 148)).set_ 0 (.string (bs k))).set_ 1 (.string (bs v))).set_ 2 (.bool true)
  have c0 := hF.cell 0
  have c1 := hF.cell 1
  have c2 := hF.cell 2
  simp at c0 c1 c2
  refine bodyPost_ret (v := .tuple #[.agg #[.string (bs k), .string (bs v), .bool true], .nilIface]) (by simp [results, Tryz.results123, go_sem, c0, c1, c2]) rfl ⟨rfl, ?_⟩
  exact (((HB2.out.alloc HB2.out.size _).setCell (Nat.le_refl _) _).setCell (Nat.le_refl _) _).setCell (Nat.le_refl _) _
theorem Blk.new1 (w : World) (o : Obj) (t : TypeId) (cs : Array Value) : Blk ((w.alloc o).alloc (.cells cs t)) (w.heap.size + 1) t cs := by
  have := Blk.new (w.alloc o) t cs
  simpa using this
/-- A property that may be made as it is. -/
structure OkP (p : Pr) : Prop where
  ok : okB p.k p.v = true
  no : p.has = false → p.v = []
  lk : p.k.length ≤ 1000000
  lv : p.v.length ≤ 1000000
set_option maxRecDepth 100000 in
set_option maxHeartbeats 1000000 in
theorem propertyMade_ok (p : Pr) (w : World) (hE : Env w) (hp : OkP p) :
    Calls Tryz.prog 83 #[.int .u8 0, .agg #[.string (bs p.k), .bool p.has, .string (bs p.v)]] w fun e w' => e = .returned (.tuple #[.agg #[.string (bs p.k), .string (bs p.v), .bool p.has], .nilIface]) ∧ Below w.heap.size w w' := by
  obtain ⟨k, has, v⟩ := p
  obtain ⟨h0, hk, hv⟩ := okB_parts hp.ok
  have HE := Lib.hid hE
  have Hno := Lib.hid hp.no
  have Hlk := hp.lk
  have Hlv := hp.lv
  have C := fun W h => Lib.hid (newKeyProp_ok k W h Hlk h0 hk)
  have C2 := fun W h => Lib.hid (newKVProp_ok k v W h Hlk Hlv h0 hk hv)
  clear hE hp h0 hk hv
  have hb0 : Below w.heap.size w ((w.alloc (.cells #[.string (bs k), .bool has, .string (bs v)] 146)).alloc (.cells #[.string ⟨#[]⟩, .string ⟨#[]⟩, .bool false] 148)) := ((Below.refl _ _).alloc (Nat.le_refl _) _).alloc (by simp) _
  have HK0 := Lib.hid (Blk.new1 w (.cells #[.string (bs k), .bool has, .string (bs v)] 146) 148 #[.string ⟨#[]⟩, .string ⟨#[]⟩, .bool false])
  have HB0 := Lib.hid hb0
  clear hb0
  dsimp only at *
  cases has
  · have hv0 : v = [] := Hno.out rfl
    subst hv0
    go_enter Tryz.func83, Tryz.ntmps83
    go_wp2_with (go_at_call 121; (with_reducible refine (C _ (HE.out.below HB0.out)).out.mono ?_); rintro e w1 ⟨rfl, hb1⟩; have HK := Lib.hid (HK0.out.belowS hb1); have HB := Lib.hid (HB0.out.trans (hb1.mono HB0.out.size)); clear hb1; obtain ⟨c1, c2, c3, c4⟩ := HK.out.use)
    have hF := ((HK.out.set_ 0 (.string (bs k))).set_ 1 (.string (bs []))).set_ 2 (.bool false)
    have c0 := hF.cell 0
    have c1 := hF.cell 1
    have c2 := hF.cell 2
    simp at c0 c1 c2
    refine bodyPost_ret (v := .tuple #[.agg #[.string (bs k), .string (bs []), .bool false], .nilIface]) (by simp [results, Tryz.results83, go_sem, c0, c1, c2]) rfl ⟨rfl, ?_⟩
    exact ((HB.out.setCell (by simp) _).setCell (by simp) _).setCell (by simp) _
  · go_enter Tryz.func83, Tryz.ntmps83
    go_wp2_with (go_at_call 123; (with_reducible refine (C2 _ (HE.out.below HB0.out)).out.mono ?_); rintro e w1 ⟨rfl, hb1⟩; have HK := Lib.hid (HK0.out.belowS hb1); have HB := Lib.hid (HB0.out.trans (hb1.mono HB0.out.size)); clear hb1; obtain ⟨c1, c2, c3, c4⟩ := HK.out.use)
    have hF := ((HK.out.set_ 0 (.string (bs k))).set_ 1 (.string (bs v))).set_ 2 (.bool true)
    have c0 := hF.cell 0
    have c1 := hF.cell 1
    have c2 := hF.cell 2
    simp at c0 c1 c2
    refine bodyPost_ret (v := .tuple #[.agg #[.string (bs k), .string (bs v), .bool true], .nilIface]) (by simp [results, Tryz.results83, go_sem, c0, c1, c2]) rfl ⟨rfl, ?_⟩
    exact ((HB.out.setCell (by simp) _).setCell (by simp) _).setCell (by simp) _
set_option maxRecDepth 100000 in
set_option maxHeartbeats 1000000 in
theorem propValidate_ok (p : Pr) (w : World) (hE : Env w) (hp : OkP p) :
    Calls Tryz.prog 229 #[.agg #[.string (bs p.k), .string (bs p.v), .bool p.has]] w fun e w' => e = .returned .nilIface ∧ Below w.heap.size w w' := by
  obtain ⟨k, has, v⟩ := p
  obtain ⟨h0, hk, hv⟩ := okB_parts hp.ok
  have HE := Lib.hid hE
  have Hno := Lib.hid hp.no
  have Hlk := hp.lk
  have Hlv := hp.lv
  have C := fun W h => Lib.hid (name_ok k W h Hlk h0 hk)
  have C2 := fun W h => Lib.hid (value_ok v W h Hlv hv)
  have HK0 := Lib.hid (Blk.new w 148 #[.string (bs k), .string (bs v), .bool has])
  have HB0 := Lib.hid ((Below.refl w.heap.size w).alloc (Nat.le_refl _) (.cells #[.string (bs k), .string (bs v), .bool has] 148))
  clear hE hp h0 hk hv
  dsimp only at *
  cases has
  · have hv0 : v = [] := Hno.out rfl
    subst hv0
    go_enter Tryz.func229, Tryz.ntmps229
    go_wp2_with (go_at_call 180; (with_reducible refine (C _ (HE.out.below HB0.out)).out.mono ?_); rintro e w1 ⟨rfl, hb1⟩; have HK := Lib.hid (HK0.out.belowS hb1); have HB := Lib.hid (HB0.out.trans (hb1.mono HB0.out.size)); clear hb1; obtain ⟨c1, c2, c3, c4⟩ := HK.out.use)
    go_ret
    exact ⟨rfl, HB.out⟩
  · go_enter Tryz.func229, Tryz.ntmps229
    go_wp2_with (first
      | (go_at_call 180; (with_reducible refine (C _ (HE.out.below HB0.out)).out.mono ?_); rintro e w1 ⟨rfl, hb1⟩; have HK := Lib.hid (HK0.out.belowS hb1); have HB := Lib.hid (HB0.out.trans (hb1.mono HB0.out.size)); clear hb1; obtain ⟨c1, c2, c3, c4⟩ := HK.out.use)
      | (go_at_call 182; (with_reducible refine (C2 _ (HE.out.below HB.out)).out.mono ?_); rintro e w2 ⟨rfl, hb2⟩; have HB2 := Lib.hid (HB.out.trans (hb2.mono HB.out.size)); clear hb2))
    trace_state
    all_goals go_ret
    all_goals exact ⟨rfl, HB2.out⟩
end Go.Proofs.YtpgookhdffklkaaGreatDoor

namespace Go.Proofs.YtpgookhdffklkaaGreatDoor
open Go.RowKit
theorem encB_len (p : Pr) : (encB p).length = 3 := rfl
theorem flat_ne {ps : List Pr} (h : ps ≠ []) : ps.flatMap encB ≠ [] := by
  intro e
  have := congrArg List.length e
  rw [flat_len encB 3 encB_len] at this
  exact h (List.eq_nil_of_length_eq_zero (by rw [List.length_nil] at this; omega))
theorem encB_one (ps : List Pr) : ∀ u ∈ ps.flatMap encB, u.oneCell' = true := by
  intro u hu
  obtain ⟨p, _, hp⟩ := List.mem_flatMap.1 hu
  simp only [encB, List.mem_cons, List.not_mem_nil, or_false] at hp
  rcases hp with rfl | rfl | rfl <;> rfl
theorem cells3 {w : World} {b off : Nat} {ps : List Pr} (hc : ∀ j u, (ps.flatMap encB)[j]? = some u → w.cell? ⟨b, off + j, none⟩ = some u) (k : Nat) (h : k < ps.length) :
    w.cell? ⟨b, off + k * 3, none⟩ = some (.string (bs ps[k].k)) ∧ w.cell? ⟨b, off + k * 3 + 1, none⟩ = some (.string (bs ps[k].v)) ∧ w.cell? ⟨b, off + k * 3 + 2, none⟩ = some (.bool ps[k].has) := by
  have h0 := flat_get encB 3 encB_len ps k 0 h (by omega)
  have h1 := flat_get encB 3 encB_len ps k 1 h (by omega)
  have h2 := flat_get encB 3 encB_len ps k 2 h (by omega)
  exact ⟨hc (k * 3) _ h0, hc (k * 3 + 1) _ h1, hc (k * 3 + 2) _ h2⟩
set_option maxRecDepth 100000 in
set_option maxHeartbeats 1000000 in
theorem propsValidate_ok (ps : List Pr) (v : Value) (w : World) (hE : Env w) (hv : SlV w 148 v ps.length (ps.flatMap encB)) (hok : ∀ p ∈ ps, OkP p) (hn : ps.length ≤ 1000000) :
    Calls Tryz.prog 187 #[v] w fun e w' => e = .returned .nilIface ∧ Below w.heap.size w w' := by
  by_cases h0 : ps = []
  · subst h0
    obtain ⟨A, c, rfl, -, -, -⟩ := hv
    go_enter Tryz.func187, Tryz.ntmps187
    go_wp2
    refine wp_loop_rounds 1 ?_; rw [rounds_succ]
    go_wp2
    go_ret
    exact ⟨rfl, Below.refl _ _⟩
  · obtain ⟨b, off, c, rfl, hc1, hc2, hb, hc⟩ := hv.cells (flat_ne h0)
    have HE := Lib.hid hE
    have HC := Lib.hid hc
    have HOK := Lib.hid hok
    clear hE hc hok h0
    go_enter Tryz.func187, Tryz.ntmps187
    go_wp2
    go_loopw [4, 5, 8] (fun _ _ i wr => ∃ k : Nat, k ≤ ps.length ∧ i = .int .i64 k ∧ Below w.heap.size w wr) (fun _ _ i _ => ps.length - (intOf i).toNat)
    case atStart => exact ⟨0, Nat.zero_le _, rfl, Below.refl _ _⟩
    case round =>
      obtain ⟨k, hk, rfl, hbl⟩ := hrel
      have HB := Lib.hid hbl; clear hbl
      by_cases hlt : k < ps.length
      · obtain ⟨c0, c1, c2⟩ := cells3 (fun j u hj => (HB.out.cell (p := ⟨b, off + j, none⟩) hb).trans (HC.out j u hj)) k hlt
        have C := fun W h => Lib.hid (propValidate_ok ps[k] W h (HOK.out _ (List.getElem_mem hlt)))
        go_wp2_with (go_at_call 229; (with_reducible refine (C _ (HE.out.below (HB.out.alloc HB.out.size _))).out.mono ?_); rintro e w1 ⟨rfl, hb1⟩; have HB1 := Lib.hid ((HB.out.alloc HB.out.size _).trans (hb1.mono (by have := HB.out.size; simp; omega))); clear hb1)
        exact ⟨⟨k + 1, by omega, by go_num, HB1.out⟩, by simp [intOf]; omega⟩
      · go_wp2
        go_ret
        exact ⟨rfl, HB.out⟩
/-- 'copy(d, s)', all of s into a row of the same length. -/
theorem cp_whole {W : World} {ops : Array Oper} {rest : List Oper} {o : Oper} {a : Act} {Q : Exit → Act → World → Prop} (hgd : o.guard = none) (d s : Operand) (dT sT : TypeId)
    (ho : o.op = .call { callee := .builtin .copy, args := #[d, s], argTypes := #[dT, sT] }) (elem : TypeId) (hu : Tryz.prog.underlying dT = some (.slice elem)) (size : Nat) (hsz : (Tryz.prog.info? elem).map (·.size) = some size)
    (g dCap n : Nat) (ad : Addr) (sCap : Nat) (hd : a.eval d = .slice (some ⟨g, 0, none⟩) n dCap) (hs : a.eval s = .slice (some ad) n sCap)
    (cur : Array Value) (t : TypeId) (hg : Blk W g t cur) (cs : List Value) (hn : cs.length = n * size) (hsrc : ∀ j v, cs[j]? = some v → W.cell? (ad.add j) = some v) (hfit : cs.length = cur.size) (h1 : ∀ v ∈ cs, v.oneCell' = true)
    (h : ∀ w', Blk w' g t cs.toArray → (∀ B w0, Below B w0 W → B ≤ g → Below B w0 w') → wpList Tryz.prog ops Q rest (a.put o.dst (goInt n)) w') : wpList Tryz.prog ops Q (o :: rest) a W := by
  refine wpList_plain hgd fun K hK => ?_
  have hl := run_loadCells_list (P := Tryz.prog) W ad cs hsrc
  rw [hn] at hl
  have hst := run_storeCells_at Tryz.prog g 0 t cs 0 cur W hg (by simp; omega) h1
  have e1 : cur.toList.drop (0 + 0 + cs.length) = [] := List.drop_of_length_le (by simp; omega)
  rw [e1] at hst
  simp only [Nat.add_zero, List.take_zero, List.nil_append, List.append_nil] at hst
  have hrun : (Builtin.copy_ #[dT, sT] o.type #[.slice (some ⟨g, 0, none⟩) n dCap, .slice (some ad) n sCap]).run Tryz.prog W = .ok (goInt n) (W.setRow g cs.toArray) := by
    cases hq : Tryz.prog.info? elem with
    | none => simp [hq] at hsz
    | some i =>
      have hi : i.size = size := by simpa [hq] using hsz
      simp [Builtin.copy_, run_underlying hu, Builtin.lenOf, Builtin.firstCells, sizeOf, typeInfo, hq, hi, hl, hst]
  unfold Oper.wp
  simp [execOp, ho, resolve, invoke, builtin, hd, hs, hrun, Result.andThen]
  exact hK _ _ (h _ (setRow_heap W g cur _ t _ hg) fun B w0 hb hB => below_setRow hb hB _)
theorem SlV.of_blk {w : World} {g : Nat} {e : TypeId} {xs : List Value} {n c : Nat} (h : Blk w g e xs.toArray) (hn : n ≤ c) (hc : c ≤ maxLen) : SlV w e (.slice (some ⟨g, 0, none⟩) n c) n xs :=
  ⟨_, c, rfl, hn, hc, fun _ => ⟨g, 0, xs.toArray, _, rfl, h, fun j u hj => by simpa using hj⟩⟩
theorem SlV.form {w : World} {e : TypeId} {v : Value} {xs : List Value} {n : Nat} (h : SlV w e v n xs) : ∃ A c, v = .slice A n c := by
  obtain ⟨A, c, hv, _⟩ := h
  exact ⟨A, c, hv⟩
theorem info148 : (Tryz.prog.info? 148).map (fun i => (i.zero, i.size, i.bytes)) = some (some (.agg #[.string ⟨#[]⟩, .string ⟨#[]⟩, .bool false]), 3, 40) := by kernel_rfl
theorem size148 : (Tryz.prog.info? 148).map (·.size) = some 3 := by kernel_rfl
theorem add_at (b off j : Nat) : (⟨b, off, none⟩ : Addr).add j = ⟨b, off + j, none⟩ := by
  unfold Addr.add
  split
  · rename_i h0; rw [h0]; rfl
  · rfl
set_option maxRecDepth 100000 in
set_option maxHeartbeats 1000000 in
theorem propsCopy_any (ps : List Pr) (v : Value) (w : World) (hv : SlV w 148 v ps.length (ps.flatMap encB)) (hn : ps.length ≤ 1000000) :
    Calls Tryz.prog 128 #[v] w fun e w' => ∃ v', e = .returned v' ∧ SlV w' 148 v' ps.length (ps.flatMap encB) ∧ Below w.heap.size w w' := by
  by_cases h0 : ps = []
  · subst h0
    obtain ⟨A, c, rfl, -, -, -⟩ := hv
    go_enter Tryz.func128, Tryz.ntmps128
    go_wp2
    go_ret
    exact ⟨_, rfl, SlV.nil _ _, Below.refl _ _⟩
  · obtain ⟨b, off, c, rfl, hc1, hc2, hb, hc⟩ := hv.cells (flat_ne h0)
    have hl0 : ((ps.length : Int) == 0) = false := by
      have : ps.length ≠ 0 := by simpa using h0
      simp; omega
    have HC := Lib.hid hc
    have HL := Lib.hid (flat_len encB 3 encB_len ps)
    have HO := Lib.hid (encB_one ps)
    clear hc h0
    go_enter Tryz.func128, Tryz.ntmps128
    go_wp2_with (first
      | (at_make; refine mk_full rfl (.tmp 8) (.tmp 8) 84 rfl 148 _ 3 40 Tryz.underlying84 info148 (by decide) _ ps.length rfl rfl rfl (by omega) ?_; intro w1 hown1 hb1; obtain ⟨cur, hbk, hsz, _⟩ := own_blk hown1)
      | (refine cp_whole rfl (.tmp 10) (.tmp 11) 84 84 rfl 148 Tryz.underlying84 3 size148 w.heap.size ps.length ps.length ⟨b, off, none⟩ c rfl rfl cur 148 hbk _ HL.out (fun j v hj => by rw [add_at]; exact (hb1.cell (p := ⟨b, off + j, none⟩) hb).trans (HC.out j v hj)) (by rw [HL.out, hsz]) HO.out ?_; intro w2 hbk2 hb2))
    go_ret
    exact ⟨_, rfl, SlV.of_blk hbk2 (Nat.le_refl _) (by unfold maxLen; omega), hb2 _ _ hb1 (Nat.le_refl _)⟩
/-- A member of package baggage: its key, its value, its metadata, its properties. -/
structure BM where
  k : List UInt8
  v : List UInt8
  md : List UInt8
  ps : List Pr
/-- The value v is the member m. -/
def MvR (w : World) (v : Value) (m : BM) : Prop := ∃ pv, v = .agg #[.string (bs m.k), .string (bs m.v), .string (bs m.md), pv, .bool true] ∧ SlV w 148 pv m.ps.length (m.ps.flatMap encB)
theorem MvR.keeps {T : TypeId → Prop} {w w' : World} {v : Value} {m : BM} (h : MvR w v m) (hk : Keeps T w w') (ht : T 148) : MvR w' v m := by
  obtain ⟨pv, hv, hs⟩ := h
  exact ⟨pv, hv, hs.keeps hk ht⟩
theorem MvR.below {w w' : World} {v : Value} {m : BM} (h : MvR w v m) (hb : Below w.heap.size w w') : MvR w' v m := h.keeps (T := fun _ => True) (Keeps.of_below hb) trivial
/-- A member that may be made as it is. -/
structure OkM (m : BM) : Prop where
  ok : okB m.k m.v = true
  lk : m.k.length ≤ 1000000
  lv : m.v.length ≤ 1000000
  ps : ∀ p ∈ m.ps, OkP p
  lp : m.ps.length ≤ 1000000
set_option maxRecDepth 100000 in
set_option maxHeartbeats 1000000 in
theorem memberValidate_ok (m : BM) (v : Value) (w : World) (hE : Env w) (hm : OkM m) (hv : MvR w v m) :
    Calls Tryz.prog 129 #[v] w fun e w' => e = .returned .nilIface ∧ Below w.heap.size w w' := by
  obtain ⟨pv, rfl, hs⟩ := hv
  obtain ⟨h0, hk, hvv⟩ := okB_parts hm.ok
  have HE := Lib.hid hE
  have C := fun W h => Lib.hid (name_ok m.k W h hm.lk h0 hk)
  have C2 := fun W h => Lib.hid (value_ok m.v W h hm.lv hvv)
  have C3 := fun W h h1 => Lib.hid (propsValidate_ok m.ps pv W h h1 hm.ps hm.lp)
  have HS := Lib.hid hs
  have HK0 := Lib.hid (Blk.new w 86 #[.string (bs m.k), .string (bs m.v), .string (bs m.md), pv, .bool true])
  have HB0 := Lib.hid ((Below.refl w.heap.size w).alloc (Nat.le_refl _) (.cells #[.string (bs m.k), .string (bs m.v), .string (bs m.md), pv, .bool true] 86))
  clear hE hm h0 hk hvv hs
  go_enter Tryz.func129, Tryz.ntmps129
  go_wp2_with (first
      | (go_at_call 180; (with_reducible refine (C _ (HE.out.below HB0.out)).out.mono ?_); rintro e w1 ⟨rfl, hb1⟩; have HK := Lib.hid (HK0.out.belowS hb1); have HB := Lib.hid (HB0.out.trans (hb1.mono HB0.out.size)); clear hb1; obtain ⟨c1, c2, c3, c4⟩ := HK.out.use)
      | (go_at_call 182; (with_reducible refine (C2 _ (HE.out.below HB.out)).out.mono ?_); rintro e w2 ⟨rfl, hb2⟩; have HK2 := Lib.hid (HK.out.belowS hb2); have HB2 := Lib.hid (HB.out.trans (hb2.mono HB.out.size)); clear hb2; obtain ⟨d1, d2, d3, d4⟩ := HK2.out.use)
      | (go_at_call 187; (with_reducible refine (C3 _ (HE.out.below HB2.out) (HS.out.below HB2.out)).out.mono ?_); rintro e w3 ⟨rfl, hb3⟩; have HB3 := Lib.hid (HB2.out.trans (hb3.mono HB2.out.size)); clear hb3))
  go_ret
  exact ⟨rfl, HB3.out⟩
/-- Five stores into a block of five cells. -/
theorem sets5 {w : World} {g : Nat} {t : TypeId} {x0 x1 x2 x3 x4 : Value} (h : Blk w g t #[x0, x1, x2, x3, x4]) (a0 a1 a2 a3 a4 : Value) :
    Blk (((((w.setCell ⟨g, 0, none⟩ a0).setCell ⟨g, 1, none⟩ a1).setCell ⟨g, 2, none⟩ a2).setCell ⟨g, 3, none⟩ a3).setCell ⟨g, 4, none⟩ a4) g t #[a0, a1, a2, a3, a4] ∧
    (∀ B w0, Below B w0 w → B ≤ g → Below B w0 (((((w.setCell ⟨g, 0, none⟩ a0).setCell ⟨g, 1, none⟩ a1).setCell ⟨g, 2, none⟩ a2).setCell ⟨g, 3, none⟩ a3).setCell ⟨g, 4, none⟩ a4)) ∧
    Keeps (fun e => e ≠ t) w (((((w.setCell ⟨g, 0, none⟩ a0).setCell ⟨g, 1, none⟩ a1).setCell ⟨g, 2, none⟩ a2).setCell ⟨g, 3, none⟩ a3).setCell ⟨g, 4, none⟩ a4) := by
  have h1 := h.set_ 0 a0
  have h2 := h1.set_ 1 a1
  have h3 := h2.set_ 2 a2
  have h4 := h3.set_ 3 a3
  have h5 := h4.set_ 4 a4
  refine ⟨by simpa using h5, fun B w0 hb hB => ((((hb.setCell hB _).setCell hB _).setCell hB _).setCell hB _).setCell hB _, ?_⟩
  exact (((((Keeps.refl w).setCell h (by simp) _).setCell h1 (by simp) _).setCell h2 (by simp) _).setCell h3 (by simp) _).setCell h4 (by simp) _
theorem sets3 {w : World} {g : Nat} {t : TypeId} {x0 x1 x2 : Value} (h : Blk w g t #[x0, x1, x2]) (a0 a1 a2 : Value) :
    Blk (((w.setCell ⟨g, 0, none⟩ a0).setCell ⟨g, 1, none⟩ a1).setCell ⟨g, 2, none⟩ a2) g t #[a0, a1, a2] ∧
    (∀ B w0, Below B w0 w → B ≤ g → Below B w0 (((w.setCell ⟨g, 0, none⟩ a0).setCell ⟨g, 1, none⟩ a1).setCell ⟨g, 2, none⟩ a2)) ∧
    Keeps (fun e => e ≠ t) w (((w.setCell ⟨g, 0, none⟩ a0).setCell ⟨g, 1, none⟩ a1).setCell ⟨g, 2, none⟩ a2) := by
  have h1 := h.set_ 0 a0
  have h2 := h1.set_ 1 a1
  have h3 := h2.set_ 2 a2
  refine ⟨by simpa using h3, fun B w0 hb hB => ((hb.setCell hB _).setCell hB _).setCell hB _, ?_⟩
  exact (((Keeps.refl w).setCell h (by simp) _).setCell h1 (by simp) _).setCell h2 (by simp) _
set_option maxRecDepth 100000 in
set_option maxHeartbeats 1000000 in
theorem newMemberRaw_ok (k v : List UInt8) (ps : List Pr) (pv : Value) (w : World) (hE : Env w) (hm : OkM ⟨k, v, [], ps⟩) (hs : SlV w 148 pv ps.length (ps.flatMap encB)) :
    Calls Tryz.prog 85 #[.string (bs k), .string (bs v), pv] w fun e w' => ∃ mv, e = .returned (.tuple #[mv, .nilIface]) ∧ MvR w' mv ⟨k, v, [], ps⟩ ∧ Below w.heap.size w w' := by
  have HE := Lib.hid hE
  have HS := Lib.hid hs
  have C := fun W h => Lib.hid (propsCopy_any ps pv W h hm.lp)
  have C2 := fun mv W h1 h2 => Lib.hid (memberValidate_ok ⟨k, v, [], ps⟩ mv W h1 hm h2)
  have HB0 := Lib.hid ((Below.refl w.heap.size w).alloc (Nat.le_refl _) (.cells #[.string ⟨#[]⟩, .string ⟨#[]⟩, .string ⟨#[]⟩, .slice none 0 0, .bool false] 86))
  have HK0 := Lib.hid (Blk.new w 86 #[.string ⟨#[]⟩, .string ⟨#[]⟩, .string ⟨#[]⟩, .slice none 0 0, .bool false])
  clear hE hs hm
  go_enter Tryz.func85, Tryz.ntmps85
  go_wp2_with (first
      | (go_at_call 128; (with_reducible refine (C _ (HS.out.below HB0.out)).out.mono ?_); rintro e w1 ⟨pv', rfl, hs1, hb1⟩; have HS1 := Lib.hid hs1; have HB1 := Lib.hid (HB0.out.trans (hb1.mono HB0.out.size)); have HK1 := Lib.hid (HK0.out.belowS hb1); clear hb1 hs1; obtain ⟨A1, q1, hq1⟩ := HS1.out.form; subst hq1)
      | (go_at_call 129; (refine (C2 _ _ (HE.out.below (HB1.out.alloc HB1.out.size _)) ⟨_, rfl, HS1.out.below ((Below.refl _ _).alloc (Nat.le_refl _) _)⟩).out.mono ?_); rintro e w2 ⟨rfl, hb2⟩; have HS2 := Lib.hid ((HS1.out.below ((Below.refl _ _).alloc (Nat.le_refl _) _)).below hb2); have HK2 := Lib.hid ((HK1.out.alloc _).belowS hb2); have HJ2 := Lib.hid ((Blk.new w1 86 #[.string (bs k), .string (bs v), .string ⟨#[]⟩, .slice A1 ps.length q1, .bool true]).belowS hb2); have HB2 := Lib.hid ((HB1.out.alloc HB1.out.size _).trans (hb2.mono (by have := HB1.out.size; simp; omega))); clear hb2; obtain ⟨c1, c2, c3, c4⟩ := HK2.out.use; obtain ⟨d1, d2, d3, d4⟩ := HJ2.out.use))
  obtain ⟨hF, hFb, hFk⟩ := sets5 HK2.out (.string (bs k)) (.string (bs v)) (.string ⟨#[]⟩) (.slice A1 ps.length q1) (.bool true)
  have e0 := hF.cell 0
  have e1 := hF.cell 1
  have e2 := hF.cell 2
  have e3 := hF.cell 3
  have e4 := hF.cell 4
  simp at e0 e1 e2 e3 e4
  refine bodyPost_ret (v := .tuple #[.agg #[.string (bs k), .string (bs v), .string ⟨#[]⟩, .slice A1 ps.length q1, .bool true], .nilIface]) (by simp [results, Tryz.results85, go_sem, e0, e1, e2, e3, e4]) rfl ⟨_, rfl, ⟨_, rfl, HS2.out.keeps hFk (by simp)⟩, hFb _ _ HB2.out (Nat.le_refl _)⟩
/-- app1, where the number of the new block is spelled otherwise. -/
theorem app1g {W : World} {ops : Array Oper} {rest : List Oper} {o : Oper} {a : Act} {Q : Exit → Act → World → Prop} (hgd : o.guard = none) (s x : Operand) (t : TypeId)
    (ho : o.op = .call { callee := .builtin .append, args := #[s, x], argTypes := #[t, t] })
    (base : Nat) (e ty : TypeId) (z : Value) (size bytes : Nat) (ht : Tryz.prog.underlying t = some (.slice e)) (hinfo : (Tryz.prog.info? e).map (fun i => (i.zero, i.size, i.bytes)) = some (some z, size, bytes))
    (hzs : z.cells.size = size) (hsz : 0 < size) (hby : bytes ≤ 1000) (v : Value) (n : Nat) (xs : List Value) (hs : a.eval s = v) (news : List Value) (hown : W.ownsRow base e size v n xs) (g : Nat)
    (hx : a.eval x = .slice (some ⟨g, 0, none⟩) 1 1) (hl : news.length = size) (h1 : ∀ u ∈ news, u.oneCell' = true) (hn : n ≤ 4294967296) (hbase : base ≤ W.heap.size) (hg : g = W.heap.size)
    (h : ∀ v' w', w'.ownsRow base e size v' (n + 1) (xs ++ news) → W.grownBy w' v.ownBlock → v' ≠ .slice none 0 0 → wpList Tryz.prog ops Q rest (a.put o.dst v') w') : wpList Tryz.prog ops Q (o :: rest) a (W.alloc (.cells news.toArray ty)) := by
  subst hg
  exact app1 hgd s x t ho base e ty z size bytes ht hinfo hzs hsz hby v n xs hs news hown hx hl h1 hn hbase h
theorem encI_len (p : Pr) : (encI p).length = 3 := rfl
theorem flatI_ne {ps : List Pr} (h : ps ≠ []) : ps.flatMap encI ≠ [] := by
  intro e
  have := congrArg List.length e
  rw [flat_len encI 3 encI_len] at this
  exact h (List.eq_nil_of_length_eq_zero (by rw [List.length_nil] at this; omega))
theorem cellsI {w : World} {b off : Nat} {ps : List Pr} (hc : ∀ j u, (ps.flatMap encI)[j]? = some u → w.cell? ⟨b, off + j, none⟩ = some u) (k : Nat) (h : k < ps.length) :
    w.cell? ⟨b, off + k * 3, none⟩ = some (.string (bs ps[k].k)) ∧ w.cell? ⟨b, off + k * 3 + 1, none⟩ = some (.bool ps[k].has) ∧ w.cell? ⟨b, off + k * 3 + 2, none⟩ = some (.string (bs ps[k].v)) := by
  have h0 := flat_get encI 3 encI_len ps k 0 h (by omega)
  have h1 := flat_get encI 3 encI_len ps k 1 h (by omega)
  have h2 := flat_get encI 3 encI_len ps k 2 h (by omega)
  exact ⟨hc (k * 3) _ h0, hc (k * 3 + 1) _ h1, hc (k * 3 + 2) _ h2⟩
set_option maxRecDepth 100000 in
set_option maxHeartbeats 1000000 in
theorem memberMade_ok (k v : List UInt8) (ps : List Pr) (pv : Value) (w : World) (hE : Env w) (hm : OkM ⟨k, v, [], ps⟩) (hs : SlV w 146 pv ps.length (ps.flatMap encI)) :
    Calls Tryz.prog 43 #[.int .u8 0, .agg #[.string (bs k), .string (bs v), pv]] w fun e w' => ∃ mv, e = .returned (.tuple #[mv, .nilIface]) ∧ MvR w' mv ⟨k, v, [], ps⟩ ∧ Below w.heap.size w w' := by
  have HE := Lib.hid hE
  have HS := Lib.hid hs
  have HM := Lib.hid hm
  obtain ⟨A, q, hq⟩ := hs.form
  subst hq
  have C2 := fun pv W h1 h2 => Lib.hid (newMemberRaw_ok k v ps pv W h1 hm h2)
  have HB0 := Lib.hid (((Below.refl w.heap.size w).alloc (Nat.le_refl _) (.cells #[.string (bs k), .string (bs v), .slice A ps.length q] 82)).alloc (by simp) (.cells #[.string ⟨#[]⟩, .string ⟨#[]⟩, .string ⟨#[]⟩, .slice none 0 0, .bool false] 86))
  have HK0 := Lib.hid (Blk.new1 w (.cells #[.string (bs k), .string (bs v), .slice A ps.length q] 82) 86 #[.string ⟨#[]⟩, .string ⟨#[]⟩, .string ⟨#[]⟩, .slice none 0 0, .bool false])
  have HJ0 := Lib.hid ((Blk.new w 82 #[.string (bs k), .string (bs v), .slice A ps.length q]).alloc (.cells #[.string ⟨#[]⟩, .string ⟨#[]⟩, .string ⟨#[]⟩, .slice none 0 0, .bool false] 86))
  clear hE hs
  go_enter Tryz.func43, Tryz.ntmps43
  go_wp2
  go_loopw [6, 8, 9, 10, 14] (fun sv _ _ _ i wr => ∃ j : Nat, j ≤ ps.length ∧ i = .int .i64 j ∧ wr.ownsRow (w.heap.size + 2) 148 3 sv j ((ps.take j).flatMap encB) ∧ Below (w.heap.size + 2) ((w.alloc (.cells #[.string (bs k), .string (bs v), .slice A ps.length q] 82)).alloc (.cells #[.string ⟨#[]⟩, .string ⟨#[]⟩, .string ⟨#[]⟩, .slice none 0 0, .bool false] 86)) wr) (fun _ _ _ _ i _ => ps.length - (intOf i).toNat)
  case atStart => exact ⟨0, Nat.zero_le _, rfl, World.ownsRow_nil _ _ _ _, Below.refl _ _⟩
  case round =>
    obtain ⟨j, hj, rfl, hown, hb⟩ := hrel
    have HB := Lib.hid hb
    have HO := Lib.hid hown
    have HJ := Lib.hid (HJ0.out.below hb (by omega))
    have HK := Lib.hid (HK0.out.below hb (by omega))
    have HBw := Lib.hid (HB0.out.trans (hb.mono (by omega)))
    clear hb hown
    obtain ⟨c1, c2, c3, c4⟩ := HK.out.use
    obtain ⟨d1, d2, d3, d4⟩ := HJ.out.use
    by_cases hlt : j < ps.length
    · obtain ⟨b, off, c, hq, hc1, hc2, hbw, hc⟩ := HS.out.cells (flatI_ne (by intro e; rw [e] at hlt; simp at hlt))
      injection hq with hq1 hq2 hq3
      subst hq1; subst hq3
      obtain ⟨i0, i1, i2⟩ := cellsI (fun z u hz => (HBw.out.cell (p := ⟨b, off + z, none⟩) hbw).trans (hc z u hz)) j hlt
      have HP := Lib.hid (HM.out.ps ps[j] (List.getElem_mem hlt))
      have CP := fun W h => Lib.hid (propertyMade_ok ps[j] W h HP.out)
      have HT := Lib.hid (take_succ_flat encB ps j hlt)
      have hlp : j ≤ 4294967296 := by have := HM.out.lp; dsimp only at this; omega
      have hsz0 : w.heap.size + 2 ≤ wr.heap.size := by have := HB.out.size; simp at this; omega
      clear hc hm
      go_wp2_with (first
        | (go_at_call 83; (with_reducible refine (CP _ (HE.out.below (HBw.out.alloc HBw.out.size _))).out.mono ?_); rintro e w1 ⟨rfl, hb1⟩; have HO1 := Lib.hid (own_below (own_below HO.out ((Below.refl _ _).alloc (Nat.le_refl _) _)) hb1); have HB1 := Lib.hid ((HB.out.alloc hsz0 (.cells #[.string (bs ps[j].k), .bool ps[j].has, .string (bs ps[j].v)] 146)).trans (hb1.mono (by simp <;> omega))); have hsz1 : w.heap.size + 2 ≤ w1.heap.size := (by have := HB1.out.size; simp at this; omega); clear hb1)
        | (at_builtin; refine app1g rfl (.tmp 28) (.tmp 30) 83 rfl (w.heap.size + 2) 148 148 _ 3 40 Tryz.underlying83 info148 rfl (by decide) (by decide) u6 j _ rfl (encB ps[j]) (own_below HO1.out ((Below.refl _ _).alloc (Nat.le_refl _) _)) _ rfl rfl (fun u hu => encB_one ps u (List.mem_flatMap.2 ⟨_, List.getElem_mem hlt, hu⟩)) hlp (by simp <;> omega) (by simp) ?_; intro v2 w2 hown2 hg2 _))
      have hb2 := below_app (HB1.out.alloc hsz1 _) (by simp <;> omega) (own_below HO1.out ((Below.refl _ _).alloc (Nat.le_refl _) _)) (Nat.le_refl _) hg2
      exact ⟨⟨j + 1, by omega, by go_num, own_cast hown2 rfl HT.out.symm, hb2⟩, by simp [intOf]; omega⟩
    · have e : j = ps.length := by omega
      subst e
      have HT := Lib.hid (show (ps.take ps.length).flatMap encB = ps.flatMap encB by rw [List.take_of_length_le (Nat.le_refl _)])
      rw [HT.out] at HO
      go_wp2_with (go_at_call 85; (refine (C2 _ _ (HE.out.below HBw.out) (SlV.of_own HO.out)).out.mono ?_); rintro e w1 ⟨mv, rfl, hmv, hb1⟩; have HMV := Lib.hid hmv; have HK1 := Lib.hid (HK.out.belowS hb1); have HBF := Lib.hid (HBw.out.trans (hb1.mono HBw.out.size)); clear hmv hb1; obtain ⟨pv', hpv, hsl⟩ := HMV.out; subst hpv; obtain ⟨A3, q3, hq3⟩ := hsl.form; subst hq3; obtain ⟨f1, f2, f3, f4⟩ := HK1.out.use)
      obtain ⟨hF, hFb, hFk⟩ := sets5 HK1.out (.string (bs k)) (.string (bs v)) (.string (bs [])) (.slice A3 ps.length q3) (.bool true)
      have e0 := hF.cell 0
      have e1 := hF.cell 1
      have e2 := hF.cell 2
      have e3 := hF.cell 3
      have e4 := hF.cell 4
      simp at e0 e1 e2 e3 e4
      refine bodyPost_ret (v := .tuple #[.agg #[.string (bs k), .string (bs v), .string (bs []), .slice A3 ps.length q3, .bool true], .nilIface]) (by simp [results, Tryz.results43, go_sem, e0, e1, e2, e3, e4]) rfl ⟨_, rfl, ⟨_, rfl, hsl.keeps hFk (by simp)⟩, hFb _ _ HBF.out (by omega)⟩
end Go.Proofs.YtpgookhdffklkaaGreatDoor

namespace Go.Proofs.YtpgookhdffklkaaGreatDoor
open Go.RowKit
/-- The value it is an item with the value, the metadata and the properties of m. -/
def ItR (w : World) (it : Value) (m : BM) : Prop := ∃ pv, it = .agg #[.string (bs m.v), .string (bs m.md), pv] ∧ SlV w 255 pv m.ps.length (m.ps.flatMap encB)
theorem Blk.by_ {w w' : World} {g : Nat} {t : TypeId} {cs : Array Value} (hb : Below w.heap.size w w') (h : Blk w g t cs) : Blk w' g t cs := h.belowS hb
theorem below_then {B : Nat} {a b c : World} (hb : Below b.heap.size b c) (hB : B ≤ b.heap.size) (h : Below B a b) : Below B a c := h.trans (hb.mono hB)
section
variable (v md : List UInt8) (A : Option Addr) (n q : Nat) (w : World)
set_option maxHeartbeats 1000000 in
theorem itemValue_any : Calls Tryz.prog 133 #[.agg #[.string (bs v), .string (bs md), .slice A n q]] w fun e w' => e = .returned (.string (bs v)) ∧ Below w.heap.size w w' := by
  go_enter Tryz.func133, Tryz.ntmps133
  go_wp2
  go_ret
  exact ⟨rfl, (Below.refl _ _).alloc (Nat.le_refl _) _⟩
set_option maxHeartbeats 1000000 in
theorem itemMeta_any : Calls Tryz.prog 134 #[.agg #[.string (bs v), .string (bs md), .slice A n q]] w fun e w' => e = .returned (.string (bs md)) ∧ Below w.heap.size w w' := by
  go_enter Tryz.func134, Tryz.ntmps134
  go_wp2
  go_ret
  exact ⟨rfl, (Below.refl _ _).alloc (Nat.le_refl _) _⟩
set_option maxHeartbeats 1000000 in
theorem itemProps_any : Calls Tryz.prog 136 #[.agg #[.string (bs v), .string (bs md), .slice A n q]] w fun e w' => e = .returned (.slice A n q) ∧ Below w.heap.size w w' := by
  go_enter Tryz.func136, Tryz.ntmps136
  go_wp2
  go_ret
  exact ⟨rfl, (Below.refl _ _).alloc (Nat.le_refl _) _⟩
set_option maxRecDepth 100000 in
set_option maxHeartbeats 1000000 in
theorem newItemMeta_any : Calls Tryz.prog 130 #[.string (bs v), .string (bs md)] w fun e w' => e = .returned (.agg #[.string (bs v), .string (bs md), .slice none 0 0]) ∧ Below w.heap.size w w' := by
  go_enter Tryz.func130, Tryz.ntmps130
  go_wp2
  refine bodyPost_ret (v := .agg #[.string (bs v), .string (bs md), .slice none 0 0]) (by simp [results, Tryz.results130, go_sem]) rfl ⟨rfl, (Below.refl _ _).alloc (Nat.le_refl _) _⟩
set_option maxRecDepth 100000 in
set_option maxHeartbeats 1000000 in
theorem newItemProps_any : Calls Tryz.prog 131 #[.string (bs v), .slice A n q] w fun e w' => e = .returned (.agg #[.string (bs v), .string (bs []), .slice A n q]) ∧ Below w.heap.size w w' := by
  go_enter Tryz.func131, Tryz.ntmps131
  go_wp2
  refine bodyPost_ret (v := .agg #[.string (bs v), .string (bs []), .slice A n q]) (by simp [results, Tryz.results131, go_sem]; rfl) rfl ⟨rfl, (Below.refl _ _).alloc (Nat.le_refl _) _⟩
end
theorem info255 : (Tryz.prog.info? 255).map (fun i => (i.zero, i.size, i.bytes)) = some (some (.agg #[.string ⟨#[]⟩, .string ⟨#[]⟩, .bool false]), 3, 40) := by kernel_rfl
/-- The first cells of a row are those of the first properties. -/
def PB (w : World) (g : Nat) (T : TypeId) (n : Nat) (done : List Pr) (cur : Array Value) : Prop := Blk w g T cur ∧ cur.size = n * 3 ∧ ∀ i (h : i < (done.flatMap encB).length), cur[i]? = some (done.flatMap encB)[i]
theorem PB.put {w : World} {g : Nat} {T : TypeId} {n : Nat} {done : List Pr} {cur : Array Value} (h : PB w g T n done cur) (p : Pr) (hd : done.length < n) :
    PB (((w.setCell ⟨g, done.length * 3, none⟩ (.string (bs p.k))).setCell ⟨g, done.length * 3 + 1, none⟩ (.string (bs p.v))).setCell ⟨g, done.length * 3 + 2, none⟩ (.bool p.has)) g T n (done ++ [p])
      (((cur.setIfInBounds (done.length * 3) (.string (bs p.k))).setIfInBounds (done.length * 3 + 1) (.string (bs p.v))).setIfInBounds (done.length * 3 + 2) (.bool p.has)) := by
  obtain ⟨h1, h2, h3⟩ := h
  have hlen := flat_len encB 3 encB_len done
  refine ⟨((h1.set_ _ _).set_ _ _).set_ _ _, by simpa using h2, fun i hi => ?_⟩
  have e : (done ++ [p]).flatMap encB = done.flatMap encB ++ encB p := by simp
  simp only [e] at hi ⊢
  rw [List.length_append, hlen] at hi
  have h3' : (encB p).length = 3 := rfl
  rw [h3'] at hi
  by_cases hlt : i < done.length * 3
  · rw [Array.getElem?_setIfInBounds_ne (by omega), Array.getElem?_setIfInBounds_ne (by omega), Array.getElem?_setIfInBounds_ne (by omega), h3 i (by omega), List.getElem_append_left]
  · have hsz : done.length * 3 + 2 < cur.size := by omega
    rw [List.getElem_append_right (by omega)]
    have : i = done.length * 3 ∨ i = done.length * 3 + 1 ∨ i = done.length * 3 + 2 := by omega
    rcases this with rfl | rfl | rfl
    · rw [Array.getElem?_setIfInBounds_ne (by omega), Array.getElem?_setIfInBounds_ne (by omega), Array.getElem?_setIfInBounds_self_of_lt (by omega)]
      simp [encB, hlen]
    · rw [Array.getElem?_setIfInBounds_ne (by omega), Array.getElem?_setIfInBounds_self_of_lt (by simp; omega)]
      simp [encB, hlen]
    · rw [Array.getElem?_setIfInBounds_self_of_lt (by simp; omega)]
      simp [encB, hlen]
theorem PB.cell {w : World} {g : Nat} {T : TypeId} {n : Nat} {done : List Pr} {cur : Array Value} (h : PB w g T n done cur) (i : Nat) (hi : i < n * 3) : ∃ v, ∀ o, (w.alloc o).cell? ⟨g, i, none⟩ = some v :=
  ⟨cur[i]'(by have := h.2.1; omega), fun o => by rw [(h.1.alloc o).cell i, Array.getElem?_eq_getElem (by have := h.2.1; omega)]⟩
theorem PB.alloc {w : World} {g : Nat} {T : TypeId} {n : Nat} {done : List Pr} {cur : Array Value} (h : PB w g T n done cur) (o : Obj) : PB (w.alloc o) g T n done cur := ⟨h.1.alloc o, h.2.1, h.2.2⟩
theorem PB.full {w : World} {g : Nat} {T : TypeId} {ps : List Pr} {cur : Array Value} (h : PB w g T ps.length ps cur) (hn : ps.length ≤ 1000000) : SlV w T (.slice (some ⟨g, 0, none⟩) ps.length ps.length) ps.length (ps.flatMap encB) := by
  obtain ⟨h1, h2, h3⟩ := h
  refine ⟨_, _, rfl, Nat.le_refl _, by unfold maxLen; omega, fun _ => ⟨g, 0, cur, _, rfl, h1, fun j u hj => ?_⟩⟩
  obtain ⟨hj1, hj2⟩ := List.getElem?_eq_some_iff.1 hj
  rw [Nat.zero_add, h3 j hj1, hj2]
theorem PB.start {w : World} {g : Nat} {T : TypeId} {n : Nat} {cur : Array Value} (h : Blk w g T cur) (hs : cur.size = n * 3) : PB w g T n [] cur := ⟨h, hs, fun i hi => absurd hi (by simp)⟩
set_option maxRecDepth 100000 in
set_option maxHeartbeats 1000000 in
theorem asInternal_any (ps : List Pr) (v : Value) (w : World) (hv : SlV w 148 v ps.length (ps.flatMap encB)) (hn : ps.length ≤ 1000000) :
    Calls Tryz.prog 132 #[v] w fun e w' => ∃ v', e = .returned v' ∧ SlV w' 255 v' ps.length (ps.flatMap encB) ∧ Below w.heap.size w w' := by
  by_cases h0 : ps = []
  · subst h0
    obtain ⟨A, c, rfl, -, -, -⟩ := hv
    go_enter Tryz.func132, Tryz.ntmps132
    go_wp2
    go_ret
    exact ⟨_, rfl, SlV.nil _ _, Below.refl _ _⟩
  · obtain ⟨b, off, c, rfl, hc1, hc2, hb, hc⟩ := hv.cells (flat_ne h0)
    have hl0 : ((ps.length : Int) == 0) = false := by
      have : ps.length ≠ 0 := by simpa using h0
      simp; omega
    have HC := Lib.hid hc
    clear hc h0
    go_enter Tryz.func132, Tryz.ntmps132
    go_wp2_with (at_make; refine mk_full rfl (.tmp 10) (.tmp 10) 152 rfl 255 _ 3 40 Tryz.underlying152 info255 (by decide) _ ps.length rfl rfl rfl (by omega) ?_; intro w1 hown1 hb1; obtain ⟨cur0, hbk, hsz, _⟩ := own_blk hown1; have HB1 := Lib.hid hb1; have HK1 := Lib.hid hbk; have HZ1 := Lib.hid hsz; clear hown1 hb1 hbk hsz)
    go_loopw [4, 5, 14] (fun _ _ i wr => ∃ k : Nat, k ≤ ps.length ∧ i = .int .i64 k ∧ Below w.heap.size w wr ∧ ∃ cur, PB wr w.heap.size 255 ps.length (ps.take k) cur) (fun _ _ i _ => ps.length - (intOf i).toNat)
    case atStart => exact ⟨0, Nat.zero_le _, rfl, HB1.out, cur0, PB.start HK1.out HZ1.out⟩
    case round =>
      obtain ⟨k, hk, rfl, hbl, cur, hpb⟩ := hrel
      have HB := Lib.hid hbl; clear hbl
      by_cases hlt : k < ps.length
      · obtain ⟨c0, c1, c2⟩ := cells3 (fun j u hj => (HB.out.cell (p := ⟨b, off + j, none⟩) hb).trans (HC.out j u hj)) k hlt
        have hlen : (ps.take k).length = k := by simp; omega
        obtain ⟨y0, hy0⟩ := hpb.cell (k * 3) (by omega)
        obtain ⟨y1, hy1⟩ := hpb.cell (k * 3 + 1) (by omega)
        obtain ⟨y2, hy2⟩ := hpb.cell (k * 3 + 2) (by omega)
        have hfr := fun o i => (hpb.1.alloc o).frozen i
        have HP := Lib.hid (PB.put (hpb.alloc (.cells #[.string (bs ps[k].k), .string (bs ps[k].v), .bool ps[k].has] 148)) ps[k] (by rw [hlen]; exact hlt))
        have HB2 := Lib.hid (((((HB.out.alloc HB.out.size (.cells #[.string (bs ps[k].k), .string (bs ps[k].v), .bool ps[k].has] 148)).setCell (p := ⟨w.heap.size, k * 3, none⟩) (Nat.le_refl _) (.string (bs ps[k].k))).setCell (p := ⟨w.heap.size, k * 3 + 1, none⟩) (Nat.le_refl _) (.string (bs ps[k].v))).setCell (p := ⟨w.heap.size, k * 3 + 2, none⟩) (Nat.le_refl _) (.bool ps[k].has)))
        have hge := HB.out.size
        have HT := Lib.hid (show ps.take (k + 1) = ps.take k ++ [ps[k]] from List.take_succ_eq_append_getElem hlt)
        clear hpb
        rw [hlen] at HP
        go_wp2
        exact ⟨⟨k + 1, by omega, by go_num, HB2.out, _, by rw [HT.out]; exact HP.out⟩, by simp [intOf]; omega⟩
      · have e : k = ps.length := by omega
        subst e
        have HF := Lib.hid (PB.full (by rw [List.take_of_length_le (Nat.le_refl _)] at hpb; exact hpb) hn)
        clear hpb
        go_wp2
        go_ret
        exact ⟨_, rfl, HF.out, HB.out⟩
set_option maxRecDepth 100000 in
set_option maxHeartbeats 1000000 in
theorem fromInternal_any (ps : List Pr) (v : Value) (w : World) (hv : SlV w 255 v ps.length (ps.flatMap encB)) (hn : ps.length ≤ 1000000) :
    Calls Tryz.prog 135 #[v] w fun e w' => ∃ v', e = .returned v' ∧ SlV w' 148 v' ps.length (ps.flatMap encB) ∧ Below w.heap.size w w' := by
  by_cases h0 : ps = []
  · subst h0
    obtain ⟨A, c, rfl, -, -, -⟩ := hv
    go_enter Tryz.func135, Tryz.ntmps135
    go_wp2
    go_ret
    exact ⟨_, rfl, SlV.nil _ _, Below.refl _ _⟩
  · obtain ⟨b, off, c, rfl, hc1, hc2, hb, hc⟩ := hv.cells (flat_ne h0)
    have hl0 : ((ps.length : Int) == 0) = false := by
      have : ps.length ≠ 0 := by simpa using h0
      simp; omega
    have HC := Lib.hid hc
    clear hc h0
    go_enter Tryz.func135, Tryz.ntmps135
    go_wp2_with (at_make; refine mk_full rfl (.tmp 10) (.tmp 10) 84 rfl 148 _ 3 40 Tryz.underlying84 info148 (by decide) _ ps.length rfl rfl rfl (by omega) ?_; intro w1 hown1 hb1; obtain ⟨cur0, hbk, hsz, _⟩ := own_blk hown1; have HB1 := Lib.hid hb1; have HK1 := Lib.hid hbk; have HZ1 := Lib.hid hsz; clear hown1 hb1 hbk hsz)
    go_loopw [4, 5, 14] (fun _ _ i wr => ∃ k : Nat, k ≤ ps.length ∧ i = .int .i64 k ∧ Below w.heap.size w wr ∧ ∃ cur, PB wr w.heap.size 148 ps.length (ps.take k) cur) (fun _ _ i _ => ps.length - (intOf i).toNat)
    case atStart => exact ⟨0, Nat.zero_le _, rfl, HB1.out, cur0, PB.start HK1.out HZ1.out⟩
    case round =>
      obtain ⟨k, hk, rfl, hbl, cur, hpb⟩ := hrel
      have HB := Lib.hid hbl; clear hbl
      by_cases hlt : k < ps.length
      · obtain ⟨c0, c1, c2⟩ := cells3 (fun j u hj => (HB.out.cell (p := ⟨b, off + j, none⟩) hb).trans (HC.out j u hj)) k hlt
        have hlen : (ps.take k).length = k := by simp; omega
        obtain ⟨y0, hy0⟩ := hpb.cell (k * 3) (by omega)
        obtain ⟨y1, hy1⟩ := hpb.cell (k * 3 + 1) (by omega)
        obtain ⟨y2, hy2⟩ := hpb.cell (k * 3 + 2) (by omega)
        have hfr := fun o i => (hpb.1.alloc o).frozen i
        have HP := Lib.hid (PB.put (hpb.alloc (.cells #[.string (bs ps[k].k), .string (bs ps[k].v), .bool ps[k].has] 255)) ps[k] (by rw [hlen]; exact hlt))
        have HB2 := Lib.hid (((((HB.out.alloc HB.out.size (.cells #[.string (bs ps[k].k), .string (bs ps[k].v), .bool ps[k].has] 255)).setCell (p := ⟨w.heap.size, k * 3, none⟩) (Nat.le_refl _) (.string (bs ps[k].k))).setCell (p := ⟨w.heap.size, k * 3 + 1, none⟩) (Nat.le_refl _) (.string (bs ps[k].v))).setCell (p := ⟨w.heap.size, k * 3 + 2, none⟩) (Nat.le_refl _) (.bool ps[k].has)))
        have hge := HB.out.size
        have HT := Lib.hid (show ps.take (k + 1) = ps.take k ++ [ps[k]] from List.take_succ_eq_append_getElem hlt)
        clear hpb
        rw [hlen] at HP
        go_wp2
        exact ⟨⟨k + 1, by omega, by go_num, HB2.out, _, by rw [HT.out]; exact HP.out⟩, by simp [intOf]; omega⟩
      · have e : k = ps.length := by omega
        subst e
        have HF := Lib.hid (PB.full (by rw [List.take_of_length_le (Nat.le_refl _)] at hpb; exact hpb) hn)
        clear hpb
        go_wp2
        go_ret
        exact ⟨_, rfl, HF.out, HB.out⟩
end Go.Proofs.YtpgookhdffklkaaGreatDoor
