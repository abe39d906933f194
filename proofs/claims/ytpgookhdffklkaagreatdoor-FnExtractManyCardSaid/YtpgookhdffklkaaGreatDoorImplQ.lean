/-
  The entries of a map carrier with at most one entry; InjectBaggage.
-/
import Derived.Test.YtpgookhdffklkaaGreatDoorImplP
namespace Go.Proofs.YtpgookhdffklkaaGreatDoor
open Go.RowKit

set_option maxRecDepth 100000 in
set_option maxHeartbeats 1000000 in
/-- Inject of nothing. -/
theorem inject_nil (b : Nat) (w : World) : Calls Tryz.prog 59 #[.agg #[], .iface 234 (.agg #[]), .iface 113 (.map (some b))] w fun e w' => e = .returned (.tuple #[]) ∧ Below w.heap.size w w' := by
  have C1 := fun W => Lib.hid (from_ctx0 W)
  have C2 := fun W => Lib.hid (bagString_nil W)
  go_enter Tryz.func59, Tryz.ntmps59
  go_wp2_with (first
    | (go_at_call 63; (with_reducible refine (C1 _).out.mono ?_); rintro e w1 ⟨rfl, hb1⟩; have HW1 := Lib.hid (((Below.refl w.heap.size w).alloc (Nat.le_refl _) (.cells #[] 115)).trans (hb1.mono (by simp))); clear hb1)
    | (go_at_call 47; (with_reducible refine (C2 _).out.mono ?_); rintro e w2 ⟨rfl, hb2⟩; have HW2 := Lib.hid (HW1.out.trans (hb2.mono HW1.out.size)); clear hb2))
  exact bodyPost_end (v := .tuple #[]) (results_none rfl _ _ _) rfl ⟨rfl, HW2.out⟩

theorem len113 : Tryz.prog.underlying 113 = some (.map (Tryz.prog.mapKeyOf 113) (Tryz.prog.mapElemOf 113)) := by kernel_rfl
theorem wpl_next_one {w : World} {ops : Array Oper} {rest : List Oper} {o : Oper} {a : Act} {Q : Exit → Act → World → Prop} (hg : o.guard = none) (it : Operand) (hop : o.op = Op.next it false) (b r : Nat) (l : AL) (k : List UInt8) (v : Value) (hit : a.eval it = .pointer (some ⟨r, 0, none⟩)) (h : RangeS w b r l [(k, v)])
    (hMore : ∀ (w' : World), RangeS w' b r l [] → w.grownBy w' (some r) → w'.heap.size = w.heap.size → Keeps (fun _ => True) w w' →
      (Instr.entry (.pointer (some ⟨r, 0, none⟩))).run Tryz.prog w' = .ok (.tuple #[.string (bs k), v]) w' → wpList Tryz.prog ops Q rest (a.put o.dst (.tuple #[.bool true, .string (bs k), v])) w') :
    wpList Tryz.prog ops Q (o :: rest) a w := by
  refine wpl_next hg it hop b r l _ hit h (fun e => by cases e) ?_
  intro pre k' v' post w' e hr hg1 hs hk hen
  cases pre with
  | nil =>
    injection e with e1 e2
    injection e1 with e3 e4
    subst e3; subst e4; subst e2
    exact hMore w' hr hg1 hs hk hen
  | cons x t => cases t <;> cases e
set_option maxRecDepth 100000 in
set_option maxHeartbeats 2000000 in
/-- Keys of a map with one entry. -/
theorem keys_one (b : Nat) (k t : List UInt8) (w : World) (h : MapS w b [(k, .string (bs t))]) :
    Calls Tryz.prog 107 #[.map (some b)] w fun e w' => (∃ sv, e = .returned sv ∧ SlV w' 9 sv 1 [.string (bs k)]) ∧ Below w.heap.size w w' := by
  have H := Lib.hid h
  clear h
  go_enter Tryz.func107, Tryz.ntmps107
  go_wp2_with (first
    | (refine wpl_lenN rfl (.tmp 5) 113 rfl len113 b [(k, .string (bs t))] 1 rfl H.out rfl ?_)
    | (at_make; refine mk_zero rfl (.const (.int .i64 0)) (.tmp 6) 46 rfl 9 _ 1 16 Tryz.underlying46 info9 (by decide) _ 1 rfl rfl rfl (by omega) ?_; intro w1 hown1 hb1; have HO1 := Lib.hid hown1; have HB1 := Lib.hid hb1; clear hown1 hb1)
    | (refine wpl_range rfl (.tmp 8) 113 rfl 9 und113 b [(k, .string (bs t))] (H.out.below HB1.out) rfl ?_; intro w2 hr2 hb2; have HR2 := Lib.hid hr2; have HB2 := Lib.hid (HB1.out.trans (hb2.mono HB1.out.size)); have HO2 := Lib.hid (own_below HO1.out hb2); have hw1 := HB1.out.size; clear hr2 hb2; go_frame))
  go_loopw [3, 4] (fun sv _ wr => ∃ left : AL, ((left = [(k, .string (bs t))] ∧ wr.ownsRow w.heap.size 9 1 sv 0 []) ∨ (left = [] ∧ wr.ownsRow w.heap.size 9 1 sv 1 [.string (bs k)])) ∧ RangeS wr b w1.heap.size [(k, .string (bs t))] left ∧ Below w.heap.size w wr) (fun _ _ wr => wr.rangeLeft b w1.heap.size)
  case atStart => exact ⟨_, Or.inl ⟨rfl, HO2.out⟩, HR2.out, HB2.out⟩
  case round =>
    obtain ⟨left, hcase, hr, hb⟩ := hrel
    have HB := Lib.hid hb
    have HR := Lib.hid hr
    have hge := hb.size
    have HLf := Lib.hid hr.left_eq
    clear hb hr
    rcases hcase with ⟨rfl, hown⟩ | ⟨rfl, hown⟩
    · have HO := Lib.hid hown
      clear hown
      go_wp2_with (first
        | (at_next; refine wpl_next_one rfl (.tmp 9) rfl b w1.heap.size _ k _ rfl HR.out ?_; intro w3 hr3 hg3 hs3 hk3 hen; have HR3 := Lib.hid hr3; have HB3 := Lib.hid (below_row HB.out hg3 hge hw1); have HO3 := Lib.hid (own_keeps HO.out hk3 trivial); have hge3 := HB3.out.size; clear hr3 hg3 hs3 hk3)
        | (at_builtin; refine app1 rfl (.tmp 14) (.tmp 16) 46 rfl w.heap.size 9 9 _ 1 16 Tryz.underlying46 info9 rfl (by decide) (by decide) u3 0 [] rfl [.string (bs k)] HO3.out rfl rfl (one_str _) (by omega) hge3 ?_; intro v6 w6 hown6 hg6 _))
      refine ⟨⟨[], Or.inr ⟨rfl, by simpa using hown6⟩, HR3.out.grown HO3.out hg6, below_app HB3.out hge3 HO3.out (Nat.le_refl _) hg6⟩, ?_⟩
      rw [(HR3.out.grown HO3.out hg6).left_eq, HLf.out]
      simp
    · have HO := Lib.hid hown
      clear hown
      go_wp2_with (at_next; refine wpl_next_nil rfl (.tmp 9) rfl b w1.heap.size _ rfl HR.out ?_)
      go_ret
      exact ⟨⟨_, rfl, SlV.of_own HO.out⟩, HB.out⟩

set_option maxRecDepth 100000 in
set_option maxHeartbeats 2000000 in
theorem keys_nil (b : Nat) (w : World) (h : MapS w b []) :
    Calls Tryz.prog 107 #[.map (some b)] w fun e w' => (∃ A q, e = .returned (.slice A 0 q)) ∧ Below w.heap.size w w' := by
  have H := Lib.hid h
  clear h
  go_enter Tryz.func107, Tryz.ntmps107
  go_wp2_with (first
    | (refine wpl_lenN rfl (.tmp 5) 113 rfl len113 b [] 0 rfl H.out rfl ?_)
    | (at_make; refine mk_zero rfl (.const (.int .i64 0)) (.tmp 6) 46 rfl 9 _ 1 16 Tryz.underlying46 info9 (by decide) _ 0 rfl rfl rfl (by omega) ?_; intro w1 hown1 hb1; have HB1 := Lib.hid hb1; clear hown1 hb1)
    | (refine wpl_range rfl (.tmp 8) 113 rfl 9 und113 b [] (H.out.below HB1.out) rfl ?_; intro w2 hr2 hb2; have HR2 := Lib.hid hr2; have HB2 := Lib.hid (HB1.out.trans (hb2.mono HB1.out.size)); clear hr2 hb2; go_frame))
  refine wp_loop_rounds 1 ?_; rw [rounds_succ]
  go_wp2_with (at_next; refine wpl_next_nil rfl (.tmp 9) rfl b w1.heap.size _ rfl HR2.out ?_)
  go_ret
  exact ⟨⟨_, _, rfl⟩, HB2.out⟩

theorem desc51 : (Tryz.prog.info? 51).map (fun i => i.desc) = some (.slice 56) := by kernel_rfl
theorem facts56 : (Tryz.prog.info? 56).map (fun i => (i.size, i.hasPointers, i.bytes)) = some (2, true, 32) := by kernel_rfl
theorem kind56 (w : World) : (Extern.Rtype.kind 56).run Tryz.prog w = .ok 25 w := by kernel_rfl
theorem pack51 : Tryz.prog.packed 51 = false := by kernel_rfl
theorem info56 : (Tryz.prog.info? 56).map (fun i => (i.zero, i.size, i.bytes)) = some (some (.agg #[.string ⟨#[]⟩, .string ⟨#[]⟩]), 2, 32) := by kernel_rfl
/-- sort.Slice over at most one entry. -/
theorem sort_ent (n : Nat) (hn : n = 0 ∨ n = 1) (p : Option Addr) (c : Nat) (lb : Array Value) (w : World) :
    Calls Tryz.prog 92 #[.iface 51 (.slice p n c), .func (.func 108) #[] lb] w fun e w' => e = .returned (.tuple #[]) ∧ Below w.heap.size w w' := by
  obtain ⟨i51, hi51, hd51⟩ := Option.map_eq_some_iff.1 desc51
  obtain ⟨i56, hi56, hd56⟩ := Option.map_eq_some_iff.1 facts56
  rcases hn with rfl | rfl
  · have hk : Lib.swapperK 0 i56 25 = 1 := rfl
    have hS := Any.sort_Slice_tiny (P := Tryz.prog) Tryz.laysGg6 51 56 i51 i56 hi51 hd51 pack51 hi56 25 kind56 p 0 c (by omega) 193 (by rw [hk]; exact swap193) (.func 108) #[] lb w
    change Calls Tryz.prog 92 _ _ _ at hS
    refine hS.mono ?_
    rintro e w' ⟨rfl, os, rfl⟩
    exact ⟨rfl, below_grow w os⟩
  · have hk : Lib.swapperK 1 i56 25 = 2 := rfl
    have hS := Any.sort_Slice_tiny (P := Tryz.prog) Tryz.laysGg6 51 56 i51 i56 hi51 hd51 pack51 hi56 25 kind56 p 1 c (by omega) 194 (by rw [hk]; exact swap194) (.func 108) #[] lb w
    change Calls Tryz.prog 92 _ _ _ at hS
    refine hS.mono ?_
    rintro e w' ⟨rfl, os, rfl⟩
    exact ⟨rfl, below_grow w os⟩

set_option maxRecDepth 100000 in
set_option maxHeartbeats 2000000 in
theorem entries_nil (b : Nat) (w : World) (h : MapS w b []) :
    Calls Tryz.prog 60 #[.map (some b)] w fun e w' => e = .returned (.slice none 0 0) ∧ Below w.heap.size w w' := by
  have H := Lib.hid h
  have C1 := fun W h => Lib.hid (keys_nil b W h)
  have C2 := fun lb W => Lib.hid (sort_ent 0 (Or.inl rfl) none 0 lb W)
  have HB0 := Lib.hid ((Below.refl w.heap.size w).alloc (Nat.le_refl _) (.cells #[.slice none 0 0] 51))
  have HJ0 := Lib.hid (Blk.new w 51 #[.slice none 0 0])
  clear h
  go_enter Tryz.func60, Tryz.ntmps60
  go_wp2_with (go_at_call 107; (with_reducible refine (C1 _ (H.out.alloc _)).out.mono ?_); rintro e w1 ⟨⟨A1, q1, rfl⟩, hb1⟩; have HB1 := Lib.hid (HB0.out.trans (hb1.mono HB0.out.size)); have HJ1 := Lib.hid (HJ0.out.belowS hb1); clear hb1; obtain ⟨c1, c2, c3, c4⟩ := HJ1.out.use)
  refine wp_loop_rounds 1 ?_; rw [rounds_succ]
  go_wp2_with (go_at_call 92; (with_reducible refine (C2 _ _).out.mono ?_); rintro e w2 ⟨rfl, hb2⟩; have HB2 := Lib.hid (HB1.out.trans (hb2.mono HB1.out.size)); have HJ2 := Lib.hid (HJ1.out.belowS hb2); clear hb2; obtain ⟨d1, d2, d3, d4⟩ := HJ2.out.use)
  go_ret
  exact ⟨rfl, HB2.out⟩

set_option maxRecDepth 100000 in
set_option maxHeartbeats 4000000 in
theorem entries_one (b : Nat) (k t : List UInt8) (w : World) (h : MapS w b [(k, .string (bs t))]) :
    Calls Tryz.prog 60 #[.map (some b)] w fun e w' => (∃ sv, e = .returned sv ∧ SlV w' 56 sv 1 [.string (bs k), .string (bs t)]) ∧ Below w.heap.size w w' := by
  have H := Lib.hid h
  have C1 := fun W h => Lib.hid (keys_one b k t W h)
  have C2 := fun p c lb W => Lib.hid (sort_ent 1 (Or.inr rfl) p c lb W)
  have HB0 := Lib.hid ((Below.refl w.heap.size w).alloc (Nat.le_refl _) (.cells #[.slice none 0 0] 51))
  have HJ0 := Lib.hid (Blk.new w 51 #[.slice none 0 0])
  clear h
  go_enter Tryz.func60, Tryz.ntmps60
  go_wp2_with (go_at_call 107; (with_reducible refine (C1 _ (H.out.alloc _)).out.mono ?_); rintro e w1 ⟨⟨sv, rfl, hsl⟩, hb1⟩; have HB1 := Lib.hid (HB0.out.trans (hb1.mono HB0.out.size)); have HJ1 := Lib.hid (HJ0.out.belowS hb1); clear hb1; obtain ⟨c1, c2, c3, c4⟩ := HJ1.out.use; obtain ⟨pb, po, pc, hq, hq2, hq3, hpb, hpc⟩ := hsl.cells (by simp); subst hq; have hcell : w1.cell? ⟨pb, po, none⟩ = some (.string (bs k)) := (by simpa using hpc 0 _ rfl); have hlk := (H.out.below HB1.out).lookup_some und113 k (.string (bs t)) (by simp [getS]) false; clear hpc hsl)
  refine wp_loop_rounds 2 ?_; rw [rounds_succ]
  go_wp2_with (at_builtin; refine app1 rfl (.tmp 13) (.tmp 19) 51 rfl (w.heap.size + 1) 56 56 _ 2 32 Tryz.underlying51 info56 rfl (by decide) (by decide) (.slice none 0 0) 0 [] rfl [.string (bs k), .string (bs t)] (World.ownsRow_nil _ _ _ _) rfl rfl (by intro u hu; simp at hu; rcases hu with rfl | rfl <;> rfl) (by omega) (by have := HJ1.out.lt; omega) ?_; intro v6 w6 hown6 hg6 _; have HO6 := Lib.hid hown6; have HG6 := Lib.hid hg6; have HJ6 := Lib.hid (HJ1.out.grown hg6 (by simp [Value.ownBlock])); clear hown6 hg6; obtain ⟨A6, q6, hv6⟩ := (SlV.of_own HO6.out).form; subst hv6; obtain ⟨d1, d2, d3, d4⟩ := HJ6.out.use)
  have HK7 := Lib.hid ((Keeps.refl w6).setCell (T := fun e => e ≠ 51) (i := 0) HJ6.out (by simp) (.slice A6 1 q6))
  have HJ7 := Lib.hid (show Blk (w6.setCell ⟨w.heap.size, 0, none⟩ (.slice A6 1 q6)) w.heap.size 51 #[.slice A6 1 q6] from by simpa using HJ6.out.set_ 0 (.slice A6 1 q6))
  have HS7 := Lib.hid ((SlV.of_own HO6.out).keeps HK7.out (by simp))
  have HB7 := Lib.hid ((below_app HB1.out HB1.out.size (World.ownsRow_nil w1 w.heap.size 56 2) (Nat.le_refl _) HG6.out).setCell (p := ⟨w.heap.size, 0, none⟩) (Nat.le_refl _) (.slice A6 1 q6))
  rw [rounds_succ]
  go_wp2_with (go_at_call 92; (refine (C2 _ _ _ _).out.mono ?_); rintro e w8 ⟨rfl, hb8⟩; have HB8 := Lib.hid (HB7.out.trans (hb8.mono HB7.out.size)); have HJ8 := Lib.hid (HJ7.out.belowS hb8); have HS8 := Lib.hid (HS7.out.below hb8); clear hb8; obtain ⟨g1, g2, g3, g4⟩ := HJ8.out.use)
  go_ret
  exact ⟨⟨_, rfl, by simpa using HS8.out⟩, HB8.out⟩
end Go.Proofs.YtpgookhdffklkaaGreatDoor
