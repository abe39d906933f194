/-
  Package baggage: the list of members as a map; Len, Members, String.
  Package baggage: New.
-/
import Derived.Test.YtpgookhdffklkaaGreatDoorZImplE
namespace Go.Proofs.YtpgookhdffklkaaGreatDoor
open Go.RowKit
/-- Members with the values of their properties. -/
abbrev PL := List (BM × Value)
def entI (x : BM × Value) : List UInt8 × Value := (x.1.k, .agg #[.string (bs x.1.v), .string (bs x.1.md), x.2])
def encM (x : BM × Value) : List Value := [.string (bs x.1.k), .string (bs x.1.v), .string (bs x.1.md), x.2, .bool true]
theorem encM_len (x : BM × Value) : (encM x).length = 5 := rfl
/-- Their properties lie in rows of type T. -/
def PsR (w : World) (T : TypeId) (pl : PL) : Prop := ∀ x ∈ pl, SlV w T x.2 x.1.ps.length (x.1.ps.flatMap encB)
theorem PsR.keeps {S : TypeId → Prop} {w w' : World} {T : TypeId} {pl : PL} (h : PsR w T pl) (hk : Keeps S w w') (ht : S T) : PsR w' T pl := fun x hx => (h x hx).keeps hk ht
theorem PsR.below {w w' : World} {T : TypeId} {pl : PL} (h : PsR w T pl) (hb : Below w.heap.size w w') : PsR w' T pl := h.keeps (S := fun _ => True) (Keeps.of_below hb) trivial
theorem PsR.nil (w : World) (T : TypeId) : PsR w T [] := fun x hx => by cases hx
theorem PsR.snoc {w : World} {T : TypeId} {pl : PL} (h : PsR w T pl) {m : BM} {v : Value} (hv : SlV w T v m.ps.length (m.ps.flatMap encB)) : PsR w T (pl ++ [(m, v)]) := fun x hx => by
  rcases List.mem_append.1 hx with hx | hx
  · exact h x hx
  · simp only [List.mem_singleton] at hx
    subst hx
    exact hv
/-- Block b is the list that holds the members pl. -/
def ListR (w : World) (b : Nat) (pl : PL) : Prop := MapS w b (pl.map entI) ∧ PsR w 255 pl
theorem ListR.below {w w' : World} {b : Nat} {pl : PL} (h : ListR w b pl) (hb : Below w.heap.size w w') : ListR w' b pl := ⟨h.1.below hb, h.2.below hb⟩
/-- A slice of members. -/
def RowM (w : World) (v : Value) (pl : PL) : Prop := SlV w 86 v pl.length (pl.flatMap encM) ∧ PsR w 148 pl
theorem RangeS.left_eq {w : World} {b r : Nat} {l left : AL} (h : RangeS w b r l left) : w.rangeLeft b r = left.length := by
  obtain ⟨es, clock, since, seen, c0, hb, hs, hp, hr, hold, hsc, hcl, hl⟩ := h
  simp only [World.rangeLeft, hb, hr]
  have := congrArg List.length hl
  simpa [pairs] using this
section
variable {w : World} {ops : Array Oper} {rest : List Oper} {o : Oper} {a : Act} {Q : Exit → Act → World → Prop}
theorem wpl_lenN (hg : o.guard = none) (m : Operand) (t : TypeId) (hop : o.op = Op.call { callee := Callee.builtin Builtin.len, args := #[m], argTypes := #[t] }) (ht : Tryz.prog.underlying t = some (.map (Tryz.prog.mapKeyOf t) (Tryz.prog.mapElemOf t)))
    (b : Nat) (l : AL) (n : Nat) (hn : l.length = n) (h : MapS w b l) (hm : a.eval m = .map (some b))
    (hK : wpList Tryz.prog ops Q rest (a.put o.dst (.int .i64 (n : Nat))) w) : wpList Tryz.prog ops Q (o :: rest) a w := by
  subst hn
  exact wpl_len hg m t hop ht b l h hm hK
theorem wpl_next_nil (hg : o.guard = none) (it : Operand) (hop : o.op = Op.next it false) (b r : Nat) (l : AL) (hit : a.eval it = .pointer (some ⟨r, 0, none⟩)) (h : RangeS w b r l [])
    (hDone : wpList Tryz.prog ops Q rest (a.put o.dst (.tuple #[.bool false])) w) : wpList Tryz.prog ops Q (o :: rest) a w :=
  wpl_next hg it hop b r l [] hit h (fun _ => hDone) (fun pre k v post w' e => by cases pre <;> cases e)
theorem wpl_next_more (hg : o.guard = none) (it : Operand) (hop : o.op = Op.next it false) (b r : Nat) (l : AL) (lf : PL) (hne : lf ≠ []) (hit : a.eval it = .pointer (some ⟨r, 0, none⟩)) (h : RangeS w b r l (lf.map entI))
    (hMore : ∀ (lp : PL) (m : BM) (pv : Value) (lq : PL) (w' : World), lf = lp ++ (m, pv) :: lq → RangeS w' b r l ((lp ++ lq).map entI) → w.grownBy w' (some r) → w'.heap.size = w.heap.size → Keeps (fun _ => True) w w' →
      (Instr.entry (.pointer (some ⟨r, 0, none⟩))).run Tryz.prog w' = .ok (.tuple #[.string (bs m.k), .agg #[.string (bs m.v), .string (bs m.md), pv]]) w' →
      wpList Tryz.prog ops Q rest (a.put o.dst (.tuple #[.bool true, .string (bs m.k), .agg #[.string (bs m.v), .string (bs m.md), pv]])) w') :
    wpList Tryz.prog ops Q (o :: rest) a w := by
  refine wpl_next hg it hop b r l _ hit h (fun e => absurd (List.map_eq_nil_iff.1 e) hne) ?_
  intro pre k v post w' e hr hg1 hs hk hen
  obtain ⟨lp, lr, rfl, e1, e2⟩ := List.map_eq_append_iff.1 e
  obtain ⟨⟨m, pv⟩, lq, rfl, e3, e4⟩ := List.map_eq_cons_iff.1 e2
  injection e3 with e5 e6
  subst e5; subst e6; subst e1; subst e4
  exact hMore lp m pv lq w' rfl (by simpa using hr) hg1 hs hk hen
end
theorem own_keeps {T : TypeId → Prop} {w w' : World} {base : Nat} {e : TypeId} {size : Nat} {v : Value} {n : Nat} {xs : List Value} (h : w.ownsRow base e size v n xs) (hk : Keeps T w w') (ht : T e) : w'.ownsRow base e size v n xs := by
  obtain ⟨h1, h2⟩ := h
  refine ⟨h1, ?_⟩
  rcases h2 with h2 | ⟨g, cap, cur, hv, hg, hh, r⟩
  · exact Or.inl h2
  · exact Or.inr ⟨g, cap, cur, hv, hg, hk _ _ _ _ ht hh, r⟩
theorem below_row {B r : Nat} {a b c : World} (h : Below B a b) (hg : b.grownBy c (some r)) (hB : B ≤ b.heap.size) (hr : B ≤ r) : Below B a c :=
  h.grown hg hB fun k hk => by cases hk; exact hr
/-- What the loops over the list keep. -/
theorem perm_take {α : Type} {dn lp lq L : List α} {x : α} (h : (dn ++ (lp ++ x :: lq)).Perm L) : ((dn ++ [x]) ++ (lp ++ lq)).Perm L := by
  refine List.Perm.trans ?_ h
  rw [List.append_assoc]
  refine List.Perm.append_left dn ?_
  simp only [List.singleton_append]
  exact List.perm_middle.symm
theorem info46 : Tryz.prog.underlying 92 = some (.map (Tryz.prog.mapKeyOf 92) (Tryz.prog.mapElemOf 92)) := by kernel_rfl
theorem und92 : Tryz.prog.underlying 92 = some (.map 9 154) := Tryz.underlying92
set_option maxRecDepth 100000 in
set_option maxHeartbeats 1000000 in
theorem bagLen_any (pl : PL) (b : Nat) (w : World) (hL : ListR w b pl) :
    Calls Tryz.prog 46 #[.agg #[.map (some b)]] w fun e w' => e = .returned (.int .i64 pl.length) ∧ Below w.heap.size w w' := by
  have HL := Lib.hid hL
  go_enter Tryz.func46, Tryz.ntmps46
  go_wp2_with (refine wpl_lenN rfl (.tmp 4) 92 rfl info46 b (pl.map entI) pl.length (by simp) (HL.out.1.alloc _) rfl ?_)
  go_ret
  exact ⟨rfl, (Below.refl _ _).alloc (Nat.le_refl _) _⟩
set_option maxRecDepth 100000 in
set_option maxHeartbeats 1000000 in
theorem bagLen_nil (w : World) :
    Calls Tryz.prog 46 #[.agg #[.map none]] w fun e w' => e = .returned (.int .i64 0) ∧ Below w.heap.size w w' := by
  go_enter Tryz.func46, Tryz.ntmps46
  go_wp2
  go_ret
  exact ⟨rfl, (Below.refl _ _).alloc (Nat.le_refl _) _⟩
def mTexts (pl : PL) : List (List UInt8) := (pl.map fun x => mText x.1).filter fun s => !s.isEmpty
theorem mTexts_snoc (pl : PL) (m : BM) (pv : Value) : mTexts (pl ++ [(m, pv)]) = mTexts pl ++ if (mText m).isEmpty then [] else [mText m] := by
  unfold mTexts
  rw [List.map_append, List.filter_append]
  congr 1
  simp only [List.map_cons, List.map_nil, List.filter_cons, List.filter_nil]
  cases (mText m).isEmpty <;> rfl
theorem mTexts_len (pl : PL) : (mTexts pl).length ≤ pl.length := by
  unfold mTexts
  refine Nat.le_trans (List.length_filter_le _ _) ?_
  simp
/-- Sizes of all members; each member's text is short. -/
def SmL (B : Nat) (pl : PL) : Prop := ∀ x ∈ pl, SmM x.1 ∧ (mText x.1).length ≤ B
theorem mTexts_mem {B : Nat} {pl : PL} (h : SmL B pl) : ∀ t ∈ mTexts pl, t.length ≤ B := by
  intro t ht
  obtain ⟨ht, _⟩ := List.mem_filter.1 ht
  obtain ⟨p, hp, rfl⟩ := List.mem_map.1 ht
  exact (h p hp).2
theorem SmL.sub {B : Nat} {pl pl' : PL} (h : SmL B pl) (hs : ∀ x ∈ pl', x ∈ pl) : SmL B pl' := fun x hx => h x (hs x hx)
set_option maxRecDepth 100000 in
set_option maxHeartbeats 4000000 in
theorem bagString_any (pl : PL) (b : Nat) (w : World) (hE : Env w) (hL : ListR w b pl) (B : Nat) (hB : B ≤ 10000000) (hsm : SmL B pl) (hn : pl.length ≤ 1000000) :
    Calls Tryz.prog 47 #[.agg #[.map (some b)]] w fun e w' => (∃ pl' : PL, pl'.Perm pl ∧ e = .returned (.string (bs (Lib.join (mTexts pl') [44])))) ∧ Below w.heap.size w w' := by
  have HE := Lib.hid hE
  have HL := Lib.hid hL
  have HS := Lib.hid hsm
  have HB0 := Lib.hid ((Below.refl w.heap.size w).alloc (Nat.le_refl _) (.cells #[.map (some b)] 94))
  have HK0 := Lib.hid (Blk.new w 94 #[.map (some b)])
  clear hE hL hsm
  go_enter Tryz.func47, Tryz.ntmps47
  go_wp2_with (first
    | (refine wpl_lenN rfl (.tmp 8) 92 rfl info46 b (pl.map entI) pl.length (by simp) (HL.out.1.alloc _) rfl ?_)
    | (at_make; refine mk_zero rfl (.const (.int .i64 0)) (.tmp 9) 46 rfl 9 _ 1 16 Tryz.underlying46 info9 (by decide) _ pl.length rfl rfl rfl (by omega) ?_; intro w1 hown1 hb1; have HO1 := Lib.hid hown1; have HB1 := Lib.hid (HB0.out.trans (hb1.mono HB0.out.size)); have HK1 := Lib.hid (HK0.out.belowS hb1); obtain ⟨c1, c2, c3, c4⟩ := HK1.out.use; clear hown1 hb1)
    | (refine wpl_range rfl (.tmp 12) 92 rfl 154 und92 b (pl.map entI) (HL.out.1.below HB1.out) rfl ?_; intro w2 hr2 hb2; have HR2 := Lib.hid hr2; have HB2 := Lib.hid (HB1.out.trans (hb2.mono HB1.out.size)); have HO2 := Lib.hid (own_below HO1.out hb2); clear hr2 hb2; go_frame))
  have hsz1 := HB1.out.size
  go_loopw [3, 4, 5, 6] (fun sv _ _ _ wr => ∃ dn lf : PL, (dn ++ lf).Perm pl ∧ RangeS wr b w1.heap.size (pl.map entI) (lf.map entI) ∧ wr.ownsRow (w.heap.size + 1) 9 1 sv (mTexts dn).length (strs (mTexts dn)) ∧ Below w.heap.size w wr) (fun _ _ _ _ wr => wr.rangeLeft b w1.heap.size)
  case atStart => exact ⟨[], pl, by simp, HR2.out, by simpa [mTexts, strs] using HO2.out, HB2.out⟩
  case round =>
    obtain ⟨dn, lf, hperm, hr, hown, hb⟩ := hrel
    have HB := Lib.hid hb
    have HO := Lib.hid hown
    have HR := Lib.hid hr
    have HP := Lib.hid hperm
    have hge := HB.out.size
    have HLf := Lib.hid hr.left_eq
    clear hb hown hr hperm
    by_cases hlf : lf = []
    · subst hlf
      go_wp2_with (first
        | (at_next; refine wpl_next_nil rfl (.tmp 13) rfl b w1.heap.size _ rfl HR.out ?_)
        | (go_at_call 34; (refine (join_str (mTexts dn) 44 _ _ (SlV.of_own HO.out) (Nat.le_trans (mTexts_len dn) (by have z := HP.out.length_eq; simp at z; omega)) B hB (mTexts_mem (HS.out.sub (fun x hx => HP.out.mem_iff.1 (by simpa using hx))))).mono ?_); rintro e w3 ⟨rfl, hb3⟩; have HB3 := Lib.hid (HB.out.trans (hb3.mono HB.out.size)); clear hb3))
      go_ret
      exact ⟨⟨dn, by simpa using HP.out, rfl⟩, HB3.out⟩
    · have hlp : (mTexts dn).length ≤ 4294967296 := by have z := HP.out.length_eq; simp at z; have := mTexts_len dn; omega
      go_wp2_with (first
        | (at_next; refine wpl_next_more rfl (.tmp 13) rfl b w1.heap.size _ lf hlf rfl HR.out ?_; intro lp m pv lq w3 hlq hr3 hg3 hs3 hk3 hen; have HLQ := Lib.hid hlq; have HR3 := Lib.hid hr3; have HB3 := Lib.hid (below_row HB.out hg3 hge hsz1); have HO3 := Lib.hid (own_keeps HO.out hk3 trivial); have HS3 := Lib.hid hs3; have hge3 := HB3.out.size; have HMEM := Lib.hid (show (m, pv) ∈ pl from HP.out.mem_iff.1 (by rw [hlq]; simp)); clear hlq hr3 hg3 hs3 hk3; obtain ⟨A3, q3, hq3⟩ := (HL.out.2 _ HMEM.out).form; dsimp only at hq3; subst hq3)
        | (go_at_call 88; (refine (memberFromItem_any m _ _ (by exact ⟨_, rfl, (HL.out.2 _ HMEM.out).below (HB3.out.alloc hge3 _)⟩) (HS.out _ HMEM.out).1.lp).mono ?_); rintro e w4 ⟨v4, rfl, hm4, hb4⟩; have HM4 := Lib.hid hm4; have HB4 := Lib.hid ((HB3.out.alloc hge3 _).trans (hb4.mono (by simp <;> omega))); have HO4 := Lib.hid (own_below (own_below HO3.out ((Below.refl _ _).alloc (Nat.le_refl _) _)) hb4); have HR4 := Lib.hid ((HR3.out.alloc _).below hb4); have hge4 := HB4.out.size; clear hm4 hb4)
        | (go_at_call 89; (refine (memberString_any m _ _ (HE.out.below HB4.out) HM4.out (HS.out _ HMEM.out).1).mono ?_); rintro e w5 ⟨rfl, hb5⟩; have HB5 := Lib.hid (HB4.out.trans (hb5.mono hge4)); have HO5 := Lib.hid (own_below HO4.out hb5); have HR5 := Lib.hid (HR4.out.below hb5); have hge5 := HB5.out.size; clear hb5)
        | (at_builtin; refine app1 rfl (.tmp 25) (.tmp 27) 46 rfl (w.heap.size + 1) 9 9 _ 1 16 Tryz.underlying46 info9 rfl (by decide) (by decide) u3 _ _ rfl [.string (bs (mText m))] HO5.out rfl rfl (one_str _) hlp (by have := HR5.out.lt; omega) ?_; intro v6 w6 hown6 hg6 _))
      · have hem : (mText m).isEmpty = false := by have : (!(mText m).isEmpty) = true := by assumption
                                                   simpa using this
        have hsn := mTexts_snoc dn m (.slice A3 m.ps.length q3)
        rw [hem] at hsn
        have hl := HLf.out
        rw [HLQ.out] at hl
        refine ⟨⟨dn ++ [(m, .slice A3 m.ps.length q3)], lp ++ lq, perm_take (by rw [← HLQ.out]; exact HP.out), HR5.out.grown HO5.out hg6, own_cast hown6 (by rw [hsn]; simp) (by rw [hsn]; simp [strs]), below_app HB5.out hge5 HO5.out (by omega) hg6⟩, ?_⟩
        rw [(HR5.out.grown HO5.out hg6).left_eq, hl]
        simp
      · have hem : (mText m).isEmpty = true := by have : (!(mText m).isEmpty) = false := by assumption
                                                  simpa using this
        have hsn := mTexts_snoc dn m (.slice A3 m.ps.length q3)
        rw [hem] at hsn
        have hl := HLf.out
        rw [HLQ.out] at hl
        refine ⟨⟨dn ++ [(m, .slice A3 m.ps.length q3)], lp ++ lq, perm_take (by rw [← HLQ.out]; exact HP.out), HR5.out, own_cast HO5.out (by rw [hsn]; simp) (by rw [hsn]; simp), HB5.out⟩, ?_⟩
        rw [HR5.out.left_eq, hl]
        simp
theorem range_nil (W : World) : (Instr.range 92 (.map none)).run Tryz.prog W = .ok (.pointer (some ⟨W.heap.size, 0, none⟩)) (W.alloc (.mapIter none 0 #[] 0)) := by
  simp [Instr.range, run_underlying Tryz.underlying92, Result.andThen]
theorem next_nil (W : World) (ty : TypeId) : (Instr.next (.pointer (some ⟨W.heap.size, 0, none⟩)) false ty).run Tryz.prog (W.alloc (.mapIter none 0 #[] 0)) = .ok (.tuple #[.bool false]) (W.alloc (.mapIter none 0 #[] 0)) := by
  have := heap_alloc_new W (.mapIter none 0 #[] 0)
  simp only [Instr.next, getObj, Sem.run_bind, Sem.run, this, Result.andThen]
  rfl
set_option maxRecDepth 100000 in
set_option maxHeartbeats 1000000 in
theorem bagString_nil (w : World) :
    Calls Tryz.prog 47 #[.agg #[.map none]] w fun e w' => e = .returned (.string (bs [])) ∧ Below w.heap.size w w' := by
  have HB0 := Lib.hid ((Below.refl w.heap.size w).alloc (Nat.le_refl _) (.cells #[.map none] 94))
  have HK0 := Lib.hid (Blk.new w 94 #[.map none])
  go_enter Tryz.func47, Tryz.ntmps47
  go_wp2_with (at_make; refine mk_zero rfl (.const (.int .i64 0)) (.tmp 9) 46 rfl 9 _ 1 16 Tryz.underlying46 info9 (by decide) _ 0 rfl rfl rfl (by omega) ?_; intro w1 hown1 hb1; have HO1 := Lib.hid hown1; have HB1 := Lib.hid (HB0.out.trans (hb1.mono HB0.out.size)); have HK1 := Lib.hid (HK0.out.belowS hb1); obtain ⟨c1, c2, c3, c4⟩ := HK1.out.use; have hrg := range_nil w1; have hnx := next_nil w1; clear hown1 hb1)
  refine wp_loop_rounds 1 ?_; rw [rounds_succ]
  go_wp2
  go_ret
  exact ⟨rfl, HB1.out.alloc HB1.out.size _⟩
theorem info86 : (Tryz.prog.info? 86).map (fun i => (i.zero, i.size, i.bytes)) = some (some (.agg #[.string ⟨#[]⟩, .string ⟨#[]⟩, .string ⟨#[]⟩, .slice none 0 0, .bool false]), 5, 80) := by kernel_rfl
set_option maxRecDepth 100000 in
set_option maxHeartbeats 4000000 in
theorem members_any (pl : PL) (b : Nat) (w : World) (hL : ListR w b pl) (h0 : pl ≠ []) (hsm : ∀ x ∈ pl, x.1.ps.length ≤ 1000000) (hn : pl.length ≤ 1000000) :
    Calls Tryz.prog 90 #[.agg #[.map (some b)]] w fun e w' => (∃ (pl' : PL) (v : Value), (pl'.map (·.1)).Perm (pl.map (·.1)) ∧ e = .returned v ∧ RowM w' v pl') ∧ Below w.heap.size w w' := by
  have HL := Lib.hid hL
  have HS := Lib.hid hsm
  have HB0 := Lib.hid ((Below.refl w.heap.size w).alloc (Nat.le_refl _) (.cells #[.map (some b)] 94))
  have HK0 := Lib.hid (Blk.new w 94 #[.map (some b)])
  have hl0 : ((pl.length : Int) == 0) = false := by
    have : pl.length ≠ 0 := by simpa using h0
    simp; omega
  clear hL hsm h0
  go_enter Tryz.func90, Tryz.ntmps90
  go_wp2_with (first
    | (refine wpl_lenN rfl (.tmp 7) 92 rfl info46 b (pl.map entI) pl.length (by simp) (HL.out.1.alloc _) rfl ?_)
    | (refine wpl_lenN rfl (.tmp 11) 92 rfl info46 b (pl.map entI) pl.length (by simp) (HL.out.1.alloc _) rfl ?_)
    | (at_make; refine mk_zero rfl (.const (.int .i64 0)) (.tmp 12) 79 rfl 86 _ 5 80 Tryz.underlying79 info86 (by decide) _ pl.length rfl rfl rfl (by omega) ?_; intro w1 hown1 hb1; have HO1 := Lib.hid hown1; have HB1 := Lib.hid (HB0.out.trans (hb1.mono HB0.out.size)); have HK1 := Lib.hid (HK0.out.belowS hb1); obtain ⟨c1, c2, c3, c4⟩ := HK1.out.use; clear hown1 hb1)
    | (refine wpl_range rfl (.tmp 15) 92 rfl 154 und92 b (pl.map entI) (HL.out.1.below HB1.out) rfl ?_; intro w2 hr2 hb2; have HR2 := Lib.hid hr2; have HB2 := Lib.hid (HB1.out.trans (hb2.mono HB1.out.size)); have HO2 := Lib.hid (own_below HO1.out hb2); clear hr2 hb2; go_frame))
  have hsz1 := HB1.out.size
  go_loopw [3, 4, 5] (fun sv _ _ wr => ∃ dn lf dv : PL, (dn ++ lf).Perm pl ∧ dv.map (·.1) = dn.map (·.1) ∧ PsR wr 148 dv ∧ RangeS wr b w1.heap.size (pl.map entI) (lf.map entI) ∧ wr.ownsRow (w.heap.size + 1) 86 5 sv dv.length (dv.flatMap encM) ∧ Below w.heap.size w wr) (fun _ _ _ wr => wr.rangeLeft b w1.heap.size)
  case atStart => exact ⟨[], pl, [], by simp, rfl, PsR.nil _ _, HR2.out, by simpa using HO2.out, HB2.out⟩
  case round =>
    obtain ⟨dn, lf, dv, hperm, hdv, hps, hr, hown, hb⟩ := hrel
    have HB := Lib.hid hb
    have HO := Lib.hid hown
    have HR := Lib.hid hr
    have HP := Lib.hid hperm
    have HV := Lib.hid hdv
    have HQ := Lib.hid hps
    have hge := HB.out.size
    have HLf := Lib.hid hr.left_eq
    have hdl : dv.length ≤ 4294967296 := by have z := hperm.length_eq; have y := congrArg List.length hdv; simp at z y; omega
    clear hb hown hr hperm hdv hps
    by_cases hlf : lf = []
    · subst hlf
      go_wp2_with (at_next; refine wpl_next_nil rfl (.tmp 16) rfl b w1.heap.size _ rfl HR.out ?_)
      go_ret
      exact ⟨⟨dv, by rw [HV.out]; exact (by simpa using HP.out : dn.Perm pl).map _, u3, rfl, SlV.of_own HO.out, HQ.out⟩, HB.out⟩
    · go_wp2_with (first
        | (at_next; refine wpl_next_more rfl (.tmp 16) rfl b w1.heap.size _ lf hlf rfl HR.out ?_; intro lp m pv lq w3 hlq hr3 hg3 hs3 hk3 hen; have HLQ := Lib.hid hlq; have HR3 := Lib.hid hr3; have HB3 := Lib.hid (below_row HB.out hg3 hge hsz1); have HO3 := Lib.hid (own_keeps HO.out hk3 trivial); have HQ3 := Lib.hid (HQ.out.keeps hk3 trivial); have HS3 := Lib.hid hs3; have hge3 := HB3.out.size; have HMEM := Lib.hid (show (m, pv) ∈ pl from HP.out.mem_iff.1 (by rw [hlq]; simp)); clear hlq hr3 hg3 hs3 hk3; obtain ⟨A3, q3, hq3⟩ := (HL.out.2 _ HMEM.out).form; dsimp only at hq3; subst hq3)
        | (go_at_call 88; (refine (memberFromItem_any m _ _ (by exact ⟨_, rfl, (HL.out.2 _ HMEM.out).below (HB3.out.alloc hge3 _)⟩) (HS.out _ HMEM.out)).mono ?_); rintro e w4 ⟨v4, rfl, hm4, hb4⟩; have HB4 := Lib.hid ((HB3.out.alloc hge3 _).trans (hb4.mono (by simp <;> omega))); have HO4 := Lib.hid (own_below (own_below HO3.out ((Below.refl _ _).alloc (Nat.le_refl _) _)) hb4); have HR4 := Lib.hid ((HR3.out.alloc _).below hb4); have HQ4 := Lib.hid ((HQ3.out.below ((Below.refl _ _).alloc (Nat.le_refl _) _)).below hb4); have hge4 := HB4.out.size; obtain ⟨pv4, hv4, hsl4⟩ := hm4; subst hv4; have HSL := Lib.hid hsl4; obtain ⟨A4, q4, hq4⟩ := hsl4.form; subst hq4; clear hb4 hsl4)
        | (at_builtin; refine app1 rfl (.tmp 22) (.tmp 26) 79 rfl (w.heap.size + 1) 86 86 _ 5 80 Tryz.underlying79 info86 rfl (by decide) (by decide) u3 _ _ rfl (encM (m, .slice A4 m.ps.length q4)) HO4.out rfl rfl (by intro u hu; simp only [encM, List.mem_cons, List.not_mem_nil, or_false] at hu; rcases hu with rfl | rfl | rfl | rfl | rfl <;> rfl) hdl (by have := HR4.out.lt; omega) ?_; intro v6 w6 hown6 hg6 _))
      have hl := HLf.out
      rw [HLQ.out] at hl
      refine ⟨⟨dn ++ [(m, .slice A3 m.ps.length q3)], lp ++ lq, dv ++ [(m, .slice A4 m.ps.length q4)], perm_take (by rw [← HLQ.out]; exact HP.out), by simp [HV.out], (HQ4.out.snoc HSL.out).keeps ((Keeps.refl w4).grown (T := fun e => e ≠ 86) HO4.out hg6 (by simp)) (by simp), HR4.out.grown HO4.out hg6, own_cast hown6 (by simp) (by simp), below_app HB4.out hge4 HO4.out (by omega) hg6⟩, ?_⟩
      rw [(HR4.out.grown HO4.out hg6).left_eq, hl]
      simp
end Go.Proofs.YtpgookhdffklkaaGreatDoor

namespace Go.Proofs.YtpgookhdffklkaaGreatDoor
open Go.RowKit
/-- A member laid into a list, in the place of one with its key. -/
def putB (l : List BM) (m : BM) : List BM := if l.any (fun x => x.k = m.k) then l.map (fun x => if x.k = m.k then m else x) else l ++ [m]
def dedB (l : List BM) : List BM := l.foldl putB []
def putP (l : PL) (y : BM × Value) : PL := if l.any (fun x => x.1.k = y.1.k) then l.map (fun x => if x.1.k = y.1.k then y else x) else l ++ [y]
theorem putP_fst (l : PL) (y : BM × Value) : (putP l y).map (·.1) = putB (l.map (·.1)) y.1 := by
  unfold putP putB
  rw [List.any_map]
  simp only [Function.comp_def]
  split
  · rw [List.map_map, List.map_map]
    apply List.map_congr_left
    intro x _
    simp only [Function.comp_def]
    split <;> rfl
  · simp
theorem getS_entI (l : PL) (k : List UInt8) : (getS (l.map entI) k).isSome = l.any (fun x => x.1.k = k) := by
  unfold getS
  rw [Option.isSome_map, List.find?_map, Option.isSome_map, List.isSome_find?]
  rfl
theorem putS_entI (l : PL) (m : BM) (pv : Value) : putS (l.map entI) m.k (entI (m, pv)).2 = (putP l (m, pv)).map entI := by
  unfold putS putP
  rw [getS_entI]
  split
  · rw [List.map_map, List.map_map]
    apply List.map_congr_left
    intro x _
    simp only [Function.comp_def, entI]
    by_cases hx : x.1.k = m.k <;> simp [hx]
  · simp [entI]
theorem putP_mem {l : PL} {y x : BM × Value} (h : x ∈ putP l y) : x ∈ l ∨ x = y := by
  unfold putP at h
  split at h
  · obtain ⟨z, hz, rfl⟩ := List.mem_map.1 h
    split
    · exact Or.inr rfl
    · exact Or.inl hz
  · simpa using h
theorem putB_mem {l : List BM} {m x : BM} (h : x ∈ putB l m) : x ∈ l ∨ x = m := by
  unfold putB at h
  split at h
  · obtain ⟨z, hz, rfl⟩ := List.mem_map.1 h
    split
    · exact Or.inr rfl
    · exact Or.inl hz
  · simpa using h
theorem foldB_all {P : BM → Prop} (l : List BM) : ∀ acc : List BM, (∀ m ∈ acc, P m) → (∀ m ∈ l, P m) → ∀ m ∈ l.foldl putB acc, P m := by
  induction l with
  | nil => intro acc h1 _ m hm; exact h1 m (by simpa using hm)
  | cons x t ih =>
    intro acc h1 h2 m hm
    refine ih (putB acc x) (fun y hy => ?_) (fun y hy => h2 y (by simp [hy])) m (by simpa using hm)
    rcases putB_mem hy with hy | rfl
    · exact h1 y hy
    · exact h2 y (by simp)
theorem dedB_all {P : BM → Prop} {l : List BM} (h : ∀ m ∈ l, P m) : ∀ m ∈ dedB l, P m := foldB_all l [] (by simp) h
theorem dedB_snoc (l : List BM) (m : BM) : dedB (l ++ [m]) = putB (dedB l) m := by simp [dedB]
theorem putB_len (l : List BM) (m : BM) : (putB l m).length ≤ l.length + 1 := by unfold putB; split <;> simp
theorem foldB_len (l : List BM) : ∀ acc : List BM, (l.foldl putB acc).length ≤ acc.length + l.length := by
  induction l with
  | nil => intro acc; simp
  | cons m t ih => intro acc; have h1 := ih (putB acc m); have h2 := putB_len acc m; simp only [List.foldl_cons, List.length_cons]; omega
theorem dedB_len (l : List BM) : (dedB l).length ≤ l.length := by simpa [dedB] using foldB_len l []
theorem PsR.put {w : World} {T : TypeId} {pl : PL} (h : PsR w T pl) {m : BM} {v : Value} (hv : SlV w T v m.ps.length (m.ps.flatMap encB)) : PsR w T (putP pl (m, v)) := fun x hx => by
  rcases putP_mem hx with hx | rfl
  · exact h x hx
  · exact hv
/-- The size of a list's text. -/
def tot (l : List BM) : Nat := Lib.lens (l.map mText) + (l.length - 1)
theorem lens_append (a b : List (List UInt8)) : Lib.lens (a ++ b) = Lib.lens a + Lib.lens b := by simp [Lib.lens]
theorem lens_perm {a b : List (List UInt8)} (h : a.Perm b) : Lib.lens a = Lib.lens b := by
  unfold Lib.lens
  exact (h.map _).sum_nat
theorem tot_perm {a b : List BM} (h : a.Perm b) : tot a = tot b := by
  unfold tot
  rw [lens_perm (h.map _), h.length_eq]
theorem tot_le (a b : List BM) : tot a ≤ tot (a ++ b) := by
  unfold tot
  rw [List.map_append, lens_append]
  simp
  omega
theorem tot_snoc (a : List BM) (m : BM) : tot (a ++ [m]) = tot a + (mText m).length + (if a.isEmpty then 0 else 1) := by
  unfold tot
  rw [List.map_append, lens_append]
  cases a with
  | nil => simp [Lib.lens]
  | cons x t => simp [Lib.lens]; omega
theorem cellsM {w : World} {b off : Nat} {pl : PL} (hc : ∀ j u, (pl.flatMap encM)[j]? = some u → w.cell? ⟨b, off + j, none⟩ = some u) (k : Nat) (h : k < pl.length) :
    w.cell? ⟨b, off + k * 5, none⟩ = some (.string (bs pl[k].1.k)) ∧ w.cell? ⟨b, off + k * 5 + 1, none⟩ = some (.string (bs pl[k].1.v)) ∧ w.cell? ⟨b, off + k * 5 + 2, none⟩ = some (.string (bs pl[k].1.md)) ∧ w.cell? ⟨b, off + k * 5 + 3, none⟩ = some pl[k].2 ∧ w.cell? ⟨b, off + k * 5 + 4, none⟩ = some (.bool true) := by
  have h0 := flat_get encM 5 encM_len pl k 0 h (by omega)
  have h1 := flat_get encM 5 encM_len pl k 1 h (by omega)
  have h2 := flat_get encM 5 encM_len pl k 2 h (by omega)
  have h3 := flat_get encM 5 encM_len pl k 3 h (by omega)
  have h4 := flat_get encM 5 encM_len pl k 4 h (by omega)
  exact ⟨hc (k * 5) _ h0, hc (k * 5 + 1) _ h1, hc (k * 5 + 2) _ h2, hc (k * 5 + 3) _ h3, hc (k * 5 + 4) _ h4⟩
theorem flatM_ne {pl : PL} (h : pl ≠ []) : pl.flatMap encM ≠ [] := by
  intro e
  have := congrArg List.length e
  rw [flat_len encM 5 encM_len] at this
  exact h (List.eq_nil_of_length_eq_zero (by rw [List.length_nil] at this; omega))
set_option maxRecDepth 100000 in
theorem MapS.lookup_some {w : World} {b : Nat} {l : AL} (h : MapS w b l) {t e : TypeId} (ht : Tryz.prog.underlying t = some (.map 9 e)) (k : List UInt8) (v : Value) (hg : getS l k = some v) (ok : Bool) :
    (Instr.lookup t (.map (some b)) (.string (bs k)) ok).run Tryz.prog w = .ok (if ok then .tuple #[v, .bool true] else v) w := by
  obtain ⟨es, clock, hb, hs, hp⟩ := h
  have hc : ∀ em, (Instr.checkKey em 10000 9 (.string (bs k))).run Tryz.prog w = .ok () w := fun em => MapKept.run_checkKey (d := .string) (k := .string (bs k)) Tryz.underlying9 trivial em 9999
  rcases MapS.find k hs hp with ⟨h1, h2, _⟩ | ⟨j, v', e0, h1, h2, _⟩
  · rw [h2] at hg; cases hg
  · rw [h2] at hg
    injection hg with hg
    subst hg
    have hf := MapKept.run_findKey (P := Tryz.prog) (w := w) (kt := 9) Tryz.underlying9 h1
    cases ok <;> simp [Instr.lookup, run_underlying ht, MapKept.run_getObj_map hb, hc, hf, Result.andThen]
theorem getS_mem {D : PL} (hn : ((D.map entI).map (·.1)).Nodup) {m : BM} {pv : Value} (h : (m, pv) ∈ D) : getS (D.map entI) m.k = some (.agg #[.string (bs m.v), .string (bs m.md), pv]) := by
  obtain ⟨j, hj, he⟩ := List.getElem_of_mem h
  exact getS_at hn (j := j) (by rw [List.getElem?_map, List.getElem?_eq_getElem hj, he]; rfl)
set_option maxRecDepth 100000 in
set_option maxHeartbeats 8000000 in
theorem new_any (pl : PL) (v : Value) (w : World) (hE : Env w) (hv : RowM w v pl) (h0 : pl ≠ []) (hsm : ∀ x ∈ pl, SmM x.1) (hx : ∀ x ∈ pl, x.1.md ≠ [] → x.1.ps = []) (hn : pl.length ≤ 1000000) (h64 : (dedB (pl.map (·.1))).length ≤ 64) (h8 : tot (dedB (pl.map (·.1))) ≤ 8192) :
    Calls Tryz.prog 44 #[v] w fun e w' => (∃ (D : PL) (b : Nat), D.map (·.1) = dedB (pl.map (·.1)) ∧ e = .returned (.tuple #[.agg #[.map (some b)], .nilIface]) ∧ ListR w' b D) ∧ Below w.heap.size w w' := by
  obtain ⟨bb, off, c, rfl, hc1, hc2, hbb, hc⟩ := hv.1.cells (flatM_ne h0)
  have HE := Lib.hid hE
  have HV := Lib.hid hv.2
  have HC := Lib.hid hc
  have HS := Lib.hid hsm
  have HX := Lib.hid hx
  have H64 := Lib.hid h64
  have H8 := Lib.hid h8
  have hl0 : ((pl.length : Int) == 0) = false := by
    have : pl.length ≠ 0 := by simpa using h0
    simp; omega
  have hmm := @run_makeMap Tryz.prog
  have HB0 := Lib.hid (((Below.refl w.heap.size w).alloc (Nat.le_refl _) (.cells #[.map none] 94)).alloc (by simp) (.map #[] 0))
  have HK0 := Lib.hid ((Blk.new w 94 #[.map none]).alloc (.map #[] 0))
  clear hE hv hc hsm hx h64 h8 h0
  go_enter Tryz.func44, Tryz.ntmps44
  go_wp2
  go_loopw [6, 21] (fun _ i wr => ∃ (j : Nat) (D : PL), j ≤ pl.length ∧ i = .int .i64 j ∧ D.map (·.1) = dedB ((pl.take j).map (·.1)) ∧ ListR wr (w.heap.size + 1) D ∧ Below w.heap.size w wr ∧ Blk wr w.heap.size 94 #[.map none]) (fun _ i _ => pl.length - (intOf i).toNat)
  case atStart => exact ⟨0, [], Nat.zero_le _, rfl, rfl, ⟨by have z := MapS.made (w.alloc (.cells #[.map none] 94)); simpa using z, PsR.nil _ _⟩, HB0.out, HK0.out⟩
  case round =>
    obtain ⟨j, D, hj, rfl, hD, hL, hb, hk⟩ := hrel
    have HB := Lib.hid hb
    have HD := Lib.hid hD
    have HL := Lib.hid hL
    have HK := Lib.hid hk
    have hge := HB.out.size
    clear hb hD hL hk
    by_cases hlt : j < pl.length
    · obtain ⟨i0, i1, i2, i3, i4⟩ := cellsM (fun z u hz => (HB.out.cell (p := ⟨bb, off + z, none⟩) hbb).trans (HC.out z u hz)) j hlt
      have hmem := List.getElem_mem hlt
      have HT := Lib.hid (show (pl.take (j + 1)).map (·.1) = (pl.take j).map (·.1) ++ [pl[j].1] by rw [List.take_succ_eq_append_getElem hlt, List.map_append]; rfl)
      have HSm := Lib.hid (HS.out _ hmem)
      have HXm := Lib.hid (HX.out _ hmem)
      have HVm := Lib.hid (HV.out _ hmem)
      obtain ⟨A, q, hq⟩ := HVm.out.form
      rw [hq] at i3
      rw [hq] at HVm
      clear hmem hq
      have HKn := Lib.hid (Blk.new wr 86 #[.string (bs pl[j].1.k), .string (bs pl[j].1.v), .string (bs pl[j].1.md), .slice A pl[j].1.ps.length q, .bool true])
      have HBa := Lib.hid (HB.out.alloc hge (.cells #[.string (bs pl[j].1.k), .string (bs pl[j].1.v), .string (bs pl[j].1.md), .slice A pl[j].1.ps.length q, .bool true] 86))
      have HWa := Lib.hid ((Below.refl wr.heap.size wr).alloc (Nat.le_refl _) (.cells #[.string (bs pl[j].1.k), .string (bs pl[j].1.v), .string (bs pl[j].1.md), .slice A pl[j].1.ps.length q, .bool true] 86))
      have HKa := Lib.hid (HK.out.alloc (.cells #[.string (bs pl[j].1.k), .string (bs pl[j].1.v), .string (bs pl[j].1.md), .slice A pl[j].1.ps.length q, .bool true] 86))
      go_wp2
      go_region_law (go_simp; go_at_call 86; (refine (itemFromMember_any pl[j].1 _ _ (by exact ⟨_, rfl, (by have z := HVm.out.below HBa.out; exact z)⟩) HSm.out.lp HXm.out).mono ?_); rintro e w1 ⟨it, rfl, hit, hb1⟩; have HB1 := Lib.hid (below_then (B := w.heap.size) (a := w) hb1 (by simp <;> omega) (by have z := HBa.out; exact ⟨z.os, z.tape, z.output, z.size, z.block⟩)); have HW1 := Lib.hid (below_then (B := wr.heap.size) (a := wr) hb1 (by simp) (by have z := HWa.out; exact ⟨z.os, z.tape, z.output, z.size, z.block⟩)); have HL1 := Lib.hid (HL.out.below HW1.out); have HK1 := Lib.hid (Blk.by_ hb1 (by have z := HKa.out; exact z)); have HN1 := Lib.hid (Blk.by_ hb1 (by have z := HKn.out; exact z)); clear hb1; obtain ⟨n1, n2, n3, n4⟩ := HN1.out.use; obtain ⟨pv1, hpv1, hsl1⟩ := hit; subst hpv1; obtain ⟨A1, q1, hq1⟩ := hsl1.form; subst hq1; have HSL := Lib.hid hsl1; clear hsl1; obtain ⟨w2, hup, hm2, hg2, hs2, hk2⟩ := HL1.out.1.update und92 pl[j].1.k (entI (pl[j].1, .slice A1 pl[j].1.ps.length q1)).2; have HM2 := Lib.hid hm2; have HG2 := Lib.hid hg2; have HZ2 := Lib.hid hs2; have HKE := Lib.hid hk2; clear hm2 hg2 hs2 hk2; simp only [entI] at hup)
      all_goals go_wp2
      all_goals
        have HL2 := HM2.out
        rw [putS_entI] at HL2
        exact ⟨⟨j + 1, putP D (pl[j].1, .slice A1 pl[j].1.ps.length q1), by omega, by go_num, by rw [putP_fst, HD.out, HT.out, dedB_snoc], ⟨HL2, (HL1.out.2.put HSL.out).keeps HKE.out trivial⟩, below_row HB1.out HG2.out HB1.out.size (by omega), (HKE.out _ _ _ _ trivial HK1.out)⟩, by simp [intOf]; omega⟩
    · have e : j = pl.length := by omega
      subst e
      rw [List.take_of_length_le (Nat.le_refl _)] at HD
      have hDl : D.length ≤ 64 := by have z := congrArg List.length HD.out; have y := H64.out; simp only [List.length_map] at z; omega
      have HND := Lib.hid (HL.out.1.nodup)
      have HSd := Lib.hid (show ∀ m ∈ dedB (pl.map (·.1)), SmM m from dedB_all (fun m hm => by obtain ⟨x, hx, rfl⟩ := List.mem_map.1 hm; exact HS.out x hx))
      clear hmm
      go_wp2_with (first
        | (refine wpl_lenN rfl (.tmp 36) 92 rfl info46 (w.heap.size + 1) (D.map entI) D.length (by simp) HL.out.1 rfl ?_)
        | (refine wpl_range rfl (.tmp 53) 92 rfl 154 und92 (w.heap.size + 1) (D.map entI) HL.out.1 rfl ?_; intro w2 hr2 hb2; have HR2 := Lib.hid hr2; have HB2 := Lib.hid hb2; clear hr2 hb2; go_frame))
      have hwr : w.heap.size + 1 < wr.heap.size := HL.out.1.lt
      go_loopw [7, 9, 10, 11, 12, 13] (fun er tv fv _ _ _ w3 => ∃ dn lf : PL, (dn ++ lf).Perm D ∧ er = .nilIface ∧ tv = .int .i64 (tot (dn.map (·.1)) : Nat) ∧ fv = .bool dn.isEmpty ∧ RangeS w3 (w.heap.size + 1) wr.heap.size (D.map entI) (lf.map entI) ∧ Below wr.heap.size wr w3) (fun _ _ _ _ _ _ w3 => w3.rangeLeft (w.heap.size + 1) wr.heap.size)
      case atStart => exact ⟨[], D, by simp, rfl, by simp [tot, Lib.lens], rfl, HR2.out, HB2.out⟩
      case round =>
        obtain ⟨dn, lf, hperm, rfl, rfl, rfl, hr, hb⟩ := hrel
        have HBL := Lib.hid hb
        have HR := Lib.hid hr
        have HP := Lib.hid hperm
        have HLf := Lib.hid hr.left_eq
        have hgeL := hb.size
        have HLL := Lib.hid (HL.out.below hb)
        have HKL := Lib.hid (HK.out.belowS hb)
        have HBW := Lib.hid (HB.out.trans (hb.mono hge))
        have HTL := Lib.hid (show ∀ (m : BM) (pv : Value) (lp lq : PL), lf = lp ++ (m, pv) :: lq → tot (dn.map (·.1)) + (mText m).length + (if dn.isEmpty then 0 else 1) ≤ 8192 from fun m pv lp lq e => by
          have h1 := tot_snoc (dn.map (·.1)) m
          have h2 : (dn.map (·.1)).isEmpty = dn.isEmpty := by cases dn <;> rfl
          rw [h2] at h1
          have h3 := (perm_take (L := D) (dn := dn) (lp := lp) (lq := lq) (x := (m, pv)) (by rw [← e]; exact hperm)).map (·.1)
          have h4 := tot_perm h3
          rw [HD.out] at h4
          have h5 := tot_le ((dn ++ [(m, pv)]).map (·.1)) ((lp ++ lq).map (·.1))
          rw [← List.map_append, h4] at h5
          have h6 := H8.out
          have h7 : (dn ++ [(m, pv)]).map (·.1) = dn.map (·.1) ++ [m] := by simp
          rw [h7] at h5
          omega)
        have HTD := Lib.hid (show ∀ m : BM, ∀ pv : Value, tot ((dn ++ [(m, pv)]).map (·.1)) = tot (dn.map (·.1)) + (mText m).length + (if dn.isEmpty then 0 else 1) from fun m pv => by
          have h2 : (dn.map (·.1)).isEmpty = dn.isEmpty := by cases dn <;> rfl
          rw [← h2, ← tot_snoc]; simp)
        have hTle : tot (dn.map (·.1)) ≤ 8192 := by
          have h3 := tot_perm (hperm.map (·.1))
          rw [HD.out, List.map_append] at h3
          have h5 := tot_le (dn.map (·.1)) (lf.map (·.1))
          have h6 := H8.out
          omega
        clear hb hr hperm
        by_cases hlf : lf = []
        · subst hlf
          obtain ⟨c1, c2, c3, c4⟩ := HKL.out.use
          go_wp2_with (at_next; refine wpl_next_nil rfl (.tmp 54) rfl _ _ _ rfl HR.out ?_)
          have hF := HKL.out.set_ 0 (.map (some (w.heap.size + 1)))
          have e0 := hF.cell 0
          simp at e0
          exact bodyPost_ret (v := .tuple #[.agg #[.map (some (w.heap.size + 1))], .nilIface]) (by simp [results, Tryz.results44, go_sem, e0]) rfl ⟨⟨D, HD.out, _, rfl, HLL.out.1.setCell (by simp) _, HLL.out.2.keeps ((Keeps.refl _).setCell (T := fun e => e ≠ 94) HKL.out (by simp) _) (by simp)⟩, HBW.out.setCell (by simp) _⟩
        · generalize tot (dn.map (·.1)) = T at *
          cases hfb : dn.isEmpty
          · rw [hfb] at HTL HTD
            go_wp2_with (first
              | (at_next; refine wpl_next_more rfl (.tmp 54) rfl _ _ _ lf hlf rfl HR.out ?_; intro lp m pv lq w3 hlq hr3 hg3 hs3 hk3 hen; have HLQ := Lib.hid hlq; have HR3 := Lib.hid hr3; have HB3 := Lib.hid (below_row HBL.out hg3 hgeL (Nat.le_refl _)); have HS3 := Lib.hid hs3; have hge3 := HB3.out.size; have hq := HTL.out m pv lp lq hlq; simp only [Bool.false_eq_true, if_false] at hq; have HMEM := Lib.hid (show (m, pv) ∈ D from HP.out.mem_iff.1 (by rw [hlq]; simp)); have HSM := Lib.hid (show SmM m from by (have z := List.mem_map_of_mem (f := fun x : BM × Value => x.1) HMEM.out; rw [HD.out] at z; exact HSd.out _ z)); have hlk := fun W hW => (HL.out.1.below (w' := W) hW).lookup_some und92 m.k _ (getS_mem HND.out HMEM.out) false; clear hlq hr3 hg3 hs3 hk3; obtain ⟨A3, q3, hq3⟩ := (HL.out.2 _ HMEM.out).form; dsimp only at hq3; subst hq3; have hlk3 := hlk _ HB3.out; clear hlk)
              | (go_at_call 88; (refine (memberFromItem_any m _ _ (by exact ⟨_, rfl, (HL.out.2 _ HMEM.out).below HB3.out⟩) HSM.out.lp).mono ?_); rintro e w4 ⟨v4, rfl, hm4, hb4⟩; have HM4 := Lib.hid hm4; have HB4 := Lib.hid (HB3.out.trans (hb4.mono hge3)); have HR4 := Lib.hid (HR3.out.below hb4); have hge4 := HB4.out.size; clear hm4 hb4; obtain ⟨pv4, hv4, hsl4⟩ := HM4.out; subst hv4; obtain ⟨A4, q4, hq4⟩ := hsl4.form; subst hq4)
              | (go_at_call 89; (refine (memberString_any m _ _ (by exact HE.out.below ((HB.out.trans (HB4.out.mono hge)).alloc (by omega) _)) ⟨_, rfl, hsl4.below ((Below.refl _ _).alloc (Nat.le_refl _) _)⟩ HSM.out).mono ?_); rintro e w5 ⟨rfl, hb5⟩; have HB5 := Lib.hid ((HB4.out.alloc hge4 _).trans (hb5.mono (by simp <;> omega))); have HR5 := Lib.hid ((HR4.out.alloc _).below hb5); clear hb5))
            have hl := HLf.out
            rw [HLQ.out] at hl
            refine ⟨⟨dn ++ [(m, .slice A3 m.ps.length q3)], lp ++ lq, perm_take (by rw [← HLQ.out]; exact HP.out), rfl, ?_, by simp, HR5.out, HB5.out⟩, ?_⟩
            · rw [HTD.out]; simp; omega
            · rw [HR5.out.left_eq, hl]; simp
          · rw [hfb] at HTL HTD
            go_wp2_with (first
              | (at_next; refine wpl_next_more rfl (.tmp 54) rfl _ _ _ lf hlf rfl HR.out ?_; intro lp m pv lq w3 hlq hr3 hg3 hs3 hk3 hen; have HLQ := Lib.hid hlq; have HR3 := Lib.hid hr3; have HB3 := Lib.hid (below_row HBL.out hg3 hgeL (Nat.le_refl _)); have HS3 := Lib.hid hs3; have hge3 := HB3.out.size; have hq := HTL.out m pv lp lq hlq; simp only [if_true] at hq; have HMEM := Lib.hid (show (m, pv) ∈ D from HP.out.mem_iff.1 (by rw [hlq]; simp)); have HSM := Lib.hid (show SmM m from by (have z := List.mem_map_of_mem (f := fun x : BM × Value => x.1) HMEM.out; rw [HD.out] at z; exact HSd.out _ z)); have hlk := fun W hW => (HL.out.1.below (w' := W) hW).lookup_some und92 m.k _ (getS_mem HND.out HMEM.out) false; clear hlq hr3 hg3 hs3 hk3; obtain ⟨A3, q3, hq3⟩ := (HL.out.2 _ HMEM.out).form; dsimp only at hq3; subst hq3; have hlk3 := hlk _ HB3.out; clear hlk)
              | (go_at_call 88; (refine (memberFromItem_any m _ _ (by exact ⟨_, rfl, (HL.out.2 _ HMEM.out).below HB3.out⟩) HSM.out.lp).mono ?_); rintro e w4 ⟨v4, rfl, hm4, hb4⟩; have HM4 := Lib.hid hm4; have HB4 := Lib.hid (HB3.out.trans (hb4.mono hge3)); have HR4 := Lib.hid (HR3.out.below hb4); have hge4 := HB4.out.size; clear hm4 hb4; obtain ⟨pv4, hv4, hsl4⟩ := HM4.out; subst hv4; obtain ⟨A4, q4, hq4⟩ := hsl4.form; subst hq4)
              | (go_at_call 89; (refine (memberString_any m _ _ (by exact HE.out.below ((HB.out.trans (HB4.out.mono hge)).alloc (by omega) _)) ⟨_, rfl, hsl4.below ((Below.refl _ _).alloc (Nat.le_refl _) _)⟩ HSM.out).mono ?_); rintro e w5 ⟨rfl, hb5⟩; have HB5 := Lib.hid ((HB4.out.alloc hge4 _).trans (hb5.mono (by simp <;> omega))); have HR5 := Lib.hid ((HR4.out.alloc _).below hb5); clear hb5))
            have hl := HLf.out
            rw [HLQ.out] at hl
            refine ⟨⟨dn ++ [(m, .slice A3 m.ps.length q3)], lp ++ lq, perm_take (by rw [← HLQ.out]; exact HP.out), rfl, ?_, by simp, HR5.out, HB5.out⟩, ?_⟩
            · rw [HTD.out]; simp
            · rw [HR5.out.left_eq, hl]; simp
end Go.Proofs.YtpgookhdffklkaaGreatDoor
