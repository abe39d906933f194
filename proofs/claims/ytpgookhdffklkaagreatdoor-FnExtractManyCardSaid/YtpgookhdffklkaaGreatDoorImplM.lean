/-
  impl: membersOf.
-/
import Derived.Test.YtpgookhdffklkaaGreatDoorImplL
namespace Go.Proofs.YtpgookhdffklkaaGreatDoor
open Go.RowKit

def PsI (w : World) (T : TypeId) (ml : List MA) : Prop := ∀ x ∈ ml, SlV w T (.slice x.2.1 x.1.ps.length x.2.2) x.1.ps.length (x.1.ps.flatMap encI)
theorem PsI.keeps {S : TypeId → Prop} {w w' : World} {T : TypeId} {ml : List MA} (h : PsI w T ml) (hk : Keeps S w w') (ht : S T) : PsI w' T ml := fun x hx => (h x hx).keeps hk ht
theorem PsI.below {w w' : World} {T : TypeId} {ml : List MA} (h : PsI w T ml) (hb : Below w.heap.size w w') : PsI w' T ml := h.keeps (S := fun _ => True) (Keeps.of_below hb) trivial
theorem PsI.nil (w : World) (T : TypeId) : PsI w T [] := fun x hx => by cases hx
theorem PsI.snoc {w : World} {T : TypeId} {ml : List MA} (h : PsI w T ml) {x : MA} (hx : SlV w T (.slice x.2.1 x.1.ps.length x.2.2) x.1.ps.length (x.1.ps.flatMap encI)) : PsI w T (ml ++ [x]) := fun y hy => by
  rcases List.mem_append.1 hy with hy | hy
  · exact h y hy
  · simp only [List.mem_singleton] at hy
    subst hy
    exact hx
theorem PsI.perm {w : World} {T : TypeId} {ml ml' : List MA} (h : PsI w T ml) (hp : ml'.Perm ml) : PsI w T ml' := fun x hx => h x (hp.mem_iff.1 hx)
/-- A slice of members of impl (e: 82, T: 146) or of spec (29, 34). -/
def RowA (w : World) (e T : TypeId) (v : Value) (ml : List MA) : Prop := SlV w e v ml.length (ml.flatMap encA) ∧ PsI w T ml
theorem RowA.below {w w' : World} {e T : TypeId} {v : Value} {ml : List MA} (h : RowA w e T v ml) (hb : Below w.heap.size w w') : RowA w' e T v ml := ⟨h.1.below hb, h.2.below hb⟩
theorem info82 : (Tryz.prog.info? 82).map (fun i => (i.zero, i.size, i.bytes)) = some (some (.agg #[.string ⟨#[]⟩, .string ⟨#[]⟩, .slice none 0 0]), 3, 56) := by kernel_rfl

theorem swap194 : Tryz.prog.funcs.findIdx? (·.name == "internal/reflectlite" ++ ".Swapper$" ++ toString 2) = some 194 := by kernel_rfl
theorem below_grow (w : World) (os : Array Obj) : Below w.heap.size w (Sort.grow w os) :=
  ⟨rfl, rfl, rfl, by simp [Sort.grow], fun i hi => by simp only [Sort.grow]; rw [Array.getElem?_append_left hi]⟩
/-- sort.Slice over one member. -/
theorem sort_one (n : Nat) (hn : n = 1) (p : Option Addr) (c : Nat) (lb : Array Value) (w : World) :
    Calls Tryz.prog 92 #[.iface 37 (.slice p n c), .func (.func 93) #[] lb] w fun e w' => e = .returned (.tuple #[]) ∧ Below w.heap.size w w' := by
  subst hn
  obtain ⟨i37, hi37, hd37⟩ := Option.map_eq_some_iff.1 desc37
  obtain ⟨i82, hi82, hd82⟩ := Option.map_eq_some_iff.1 facts82
  have hk : Lib.swapperK 1 i82 25 = 2 := rfl
  have hS := Any.sort_Slice_tiny (P := Tryz.prog) Tryz.laysGg6 37 82 i37 i82 hi37 hd37 pack37 hi82 25 kind82 p 1 c (Nat.le_refl _) 194 (by rw [hk]; exact swap194) (.func 93) #[] lb w
  change Calls Tryz.prog 92 _ _ _ at hS
  refine hS.mono ?_
  rintro e w' ⟨rfl, os, rfl⟩
  exact ⟨rfl, below_grow w os⟩

theorem keeps_row {w w' : World} {g : Nat} {t : TypeId} {cur : Array Value} (hg : w.grownBy w' (some g)) (hb : Blk w g t cur) : Keeps (fun e => e ≠ t) w w' := fun b cur' e fz he hb' => by
  refine (hg.block b (lt_of_heap hb') ?_).trans hb'
  intro hc
  injection hc with hc
  subst hc
  unfold Blk at hb
  rw [hb] at hb'
  injection hb' with hb'
  injection hb' with _ h2
  exact he h2.symm

/-- The state of the loop of membersOf. -/
structure MSt (rd : BM → Mem) (w w1 : World) (pl : PL) (i : Value) (wr : World) (j : Nat) (ml : List MA) (sv : Value) : Prop where
  hj : j ≤ pl.length
  hi : i = .int .i64 j
  hbox : Blk wr (w.heap.size + 1) 37 #[sv]
  hown : wr.ownsRow (w.heap.size + 2) 82 3 sv j (ml.flatMap encA)
  hml : ml.map (·.1) = (pl.take j).map fun x => rd x.1
  hps : PsI wr 146 ml
  hb : Below w.heap.size w wr
  hk : Keeps (fun e => e = 86 ∨ e = 148) w1 wr

set_option maxRecDepth 100000 in
set_option maxHeartbeats 8000000 in
theorem membersOf_any (rd : BM → Mem) (pl0 : PL) (b : Nat) (w : World) (hE : Env w) (hL : ListR w b pl0) (h0 : pl0 ≠ []) (hsm : ∀ x ∈ pl0, x.1.ps.length ≤ 1000000) (hn : pl0.length ≤ 1000)
    (hmo : ∀ m ∈ pl0.map (·.1), ∀ (v : Value) (W : World), Env W → MvR W v m → Calls Tryz.prog 91 #[v] W fun e w' => ∃ A q, e = .returned (.agg #[.string (bs (rd m).k), .string (bs (rd m).v), .slice A (rd m).ps.length q]) ∧ SlV w' 146 (.slice A (rd m).ps.length q) (rd m).ps.length ((rd m).ps.flatMap encI) ∧ Below W.heap.size W w') :
    Calls Tryz.prog 45 #[.agg #[.map (some b)]] w fun e w' => (∃ (ml : List MA) (v : Value), (ml.map (·.1)).Perm (pl0.map fun x => rd x.1) ∧ ml.Pairwise (fun x y => ltK y x = false) ∧ e = .returned v ∧ RowA w' 82 146 v ml) ∧ Below w.heap.size w w' := by
  have HE := Lib.hid hE
  have HL := Lib.hid hL
  have HMO := Lib.hid hmo
  have HB0 := Lib.hid (((Below.refl w.heap.size w).alloc (Nat.le_refl _) (.cells #[.map (some b)] 94)).alloc (by simp) (.cells #[.slice none 0 0] 37))
  have HK0 := Lib.hid ((Blk.new w 94 #[.map (some b)]).alloc (.cells #[.slice none 0 0] 37))
  have HJ0 := Lib.hid (Blk.new1 w (.cells #[.map (some b)] 94) 37 #[.slice none 0 0])
  have C1 := fun W h => Lib.hid (members_any pl0 b W h h0 hsm (by omega))
  clear hE hL hmo
  go_enter Tryz.func45, Tryz.ntmps45
  go_wp2_with (go_at_call 90; (refine (C1 _ (HL.out.below HB0.out)).out.mono ?_); rintro e w1 ⟨⟨pl, pv, hperm, rfl, hrow⟩, hb1⟩; have HP := Lib.hid hperm; have HRw := Lib.hid hrow; have HB1 := Lib.hid (HB0.out.trans (hb1.mono (by simp <;> omega))); have HJ1 := Lib.hid (HJ0.out.belowS hb1); obtain ⟨A1, q1, hq1⟩ := hrow.1.form; subst hq1; clear hb1 hperm hrow)
  have hnp : pl.length ≤ 1000 := by have z := HP.out.length_eq; simp at z; omega
  have hnp0 : 0 < pl.length := by have z := HP.out.length_eq; have := List.length_pos_iff.2 h0; simp at z; omega
  have hsz1 : w.heap.size + 2 ≤ w1.heap.size := by have := HJ1.out.lt; omega
  go_loopw [5, 9] (fun _ i wr => ∃ (j : Nat) (ml : List MA) (sv : Value), MSt rd w w1 pl i wr j ml sv) (fun _ i _ => pl.length - (intOf i).toNat)
  case atStart => exact ⟨0, [], _, ⟨Nat.zero_le _, rfl, HJ1.out, World.ownsRow_nil _ _ _ _, rfl, PsI.nil _ _, HB1.out, Keeps.refl _⟩⟩
  case round =>
    obtain ⟨j, ml, sv, ⟨hj, rfl, hbox, hown, hml, hps, hb, hk⟩⟩ := hrel
    have HB := Lib.hid hb
    have HJ := Lib.hid hbox
    have HO := Lib.hid hown
    have HML := Lib.hid hml
    have HPS := Lib.hid hps
    have HKp := Lib.hid hk
    have hge := hb.size
    have hge2 : w.heap.size + 2 ≤ wr.heap.size := by have := hbox.lt; omega
    have hmll : ml.length = j := by have z := congrArg List.length hml; simp at z; omega
    clear hb hbox hown hml hps hk
    by_cases hlt : j < pl.length
    · obtain ⟨pb, poff, pc, hq, -, -, hpb, hpc⟩ := (HRw.out.1.keeps HKp.out (Or.inl rfl)).cells (flatM_ne (by intro e; rw [e] at hlt; simp at hlt))
      injection hq with hq1 hq2 hq3
      subst hq1; subst hq3
      obtain ⟨i0, i1, i2, i3, i4⟩ := cellsM hpc j hlt
      have hmem := List.getElem_mem hlt
      have HME := Lib.hid (show pl[j].1 ∈ pl0.map (·.1) from HP.out.mem_iff.1 (List.mem_map_of_mem (f := fun x : BM × Value => x.1) hmem))
      have HVm := Lib.hid ((HRw.out.2 _ hmem).keeps HKp.out (Or.inr rfl))
      obtain ⟨A, q, hq⟩ := HVm.out.form
      rw [hq] at i3
      rw [hq] at HVm
      have HT := Lib.hid (show (pl.take (j + 1)).map (fun x => rd x.1) = (pl.take j).map (fun x => rd x.1) ++ [rd pl[j].1] by rw [List.take_succ_eq_append_getElem hlt, List.map_append]; rfl)
      have HWa := Lib.hid ((Below.refl wr.heap.size wr).alloc (Nat.le_refl _) (.cells #[.string (bs pl[j].1.k), .string (bs pl[j].1.v), .string (bs pl[j].1.md), .slice A pl[j].1.ps.length q, .bool true] 86))
      have HKn := Lib.hid (Blk.new wr 86 #[.string (bs pl[j].1.k), .string (bs pl[j].1.v), .string (bs pl[j].1.md), .slice A pl[j].1.ps.length q, .bool true])
      obtain ⟨b1, b2, b3, b4⟩ := HJ.out.use
      have hjl : j ≤ 4294967296 := by omega
      clear hpc hmem hq
      go_wp2
      go_region_law (first
        | (go_simp; go_at_call 91; (refine (HMO.out _ HME.out _ _ (by have z := HE.out.below (HB.out.trans (HWa.out.mono hge)); exact ⟨z.key, z.val, z.err, z.utf, z.asc, z.size⟩) ⟨_, rfl, (by have z := HVm.out.below HWa.out; exact z)⟩).mono ?_); rintro e w5 ⟨A5, q5, rfl, hsl5, hb5⟩; have HW5 := Lib.hid (below_then (B := wr.heap.size) (a := wr) hb5 (by simp) (by have z := HWa.out; exact ⟨z.os, z.tape, z.output, z.size, z.block⟩)); have HSL5 := Lib.hid hsl5; have HJ5 := Lib.hid (HJ.out.belowS HW5.out); have HO5 := Lib.hid (own_below HO.out HW5.out); have hge5 := HW5.out.size; clear hsl5 hb5; obtain ⟨d1, d2, d3, d4⟩ := HJ5.out.use)
        | (refine step_app1 rfl (.tmp 13) (.tmp 16) 37 rfl (w.heap.size + 2) 82 82 _ 3 56 Tryz.underlying37 info82 rfl (by decide) (by decide) sv j (ml.flatMap encA) rfl (encA (rd pl[j].1, A5, q5)) (by have z := HO5.out; exact z) rfl rfl (encA_one _) hjl (by show _ ≤ w5.heap.size; omega) ?_; intro v6 w6 hown6 hg6 _; have HG6 := Lib.hid (show w5.grownBy w6 sv.ownBlock from ⟨hg6.os, hg6.tape, hg6.output, hg6.size, hg6.block⟩); have HO6 := Lib.hid hown6; have HJ6 := Lib.hid (HJ5.out.grown HG6.out (own_blk_ne HO5.out HJ5.out (by decide))); clear hg6 hown6; obtain ⟨A6, c6, hv6⟩ := (SlV.of_own HO6.out).form; subst hv6; obtain ⟨g1, g2, g3, g4⟩ := HJ6.out.use))
      all_goals go_wp2
      all_goals
        have hK1 := (Keeps.refl w5).grown (T := fun e => e ≠ 82) HO5.out HG6.out (by simp)
        have hK2 := (Keeps.refl w6).setCell (T := fun e => e ≠ 37) (i := 0) HJ6.out (by simp) (.slice A6 (j + 1) c6)
        refine ⟨⟨j + 1, ml ++ [(rd pl[j].1, A5, q5)], _, ⟨by omega, by go_num, by simpa using HJ6.out.set_ 0 (.slice A6 (j + 1) c6), own_cast (own_keeps HO6.out hK2 (by simp)) rfl (by simp), by rw [List.map_append, HML.out, HT.out]; rfl, (((HPS.out.below HW5.out).snoc (x := (rd pl[j].1, A5, q5)) HSL5.out).keeps hK1 (by simp)).keeps hK2 (by simp), (below_app (HB.out.trans (HW5.out.mono hge)) (by omega) HO5.out (by omega) HG6.out).setCell (by simp) _, ?_⟩⟩, by simp [intOf]; omega⟩
        exact ((HKp.out.trans ((Keeps.of_below HW5.out).sub (fun _ _ => trivial))).trans (hK1.sub (by rintro e (rfl | rfl) <;> simp))).trans (hK2.sub (by rintro e (rfl | rfl) <;> simp))
    · have e : j = pl.length := by omega
      subst e
      rw [List.take_of_length_le (Nat.le_refl _)] at HML
      obtain ⟨g0, cap0, hsv⟩ : ∃ g c, sv = .slice (some ⟨g, 0, none⟩) pl.length c := by
        rcases HO.out.2 with ⟨h1, h2⟩ | ⟨g, c, cur, h1, _⟩
        · omega
        · exact ⟨g, c, h1⟩
      subst hsv
      obtain ⟨cur, hblk, hcs, htk, hgb, -, hcap⟩ := own_blk HO.out
      obtain ⟨b1, b2, b3, b4⟩ := HJ.out.use
      have hne : g0 ≠ w.heap.size + 1 := Blk.ne_ hblk HJ.out (by decide)
      have HPm := Lib.hid (show (ml.map (·.1)).Perm (pl0.map fun x => rd x.1) from by
        rw [HML.out]
        have z := HP.out.map rd
        simpa [List.map_map, Function.comp_def] using z)
      have hcm : cap0 ≤ maxLen := by
        obtain ⟨A', c', h1, h2, h3, _⟩ := SlV.of_own HO.out
        injection h1 with _ _ h4
        rw [h4]; exact h3
      have hcc : ∀ (j : Nat) (u : Value), (ml.flatMap encA)[j]? = some u → cur[j]? = some u := fun j u hj => by
        rw [← htk, List.getElem?_take] at hj
        split at hj
        · simpa using hj
        · cases hj
      have HBk := Lib.hid hblk
      rcases Nat.lt_or_ge 1 pl.length with h2 | h2
      · have C2 := Lib.hid (by
          have z := sort_many ml g0 cap0 (w.heap.size + 1) cur wr (by omega) (by omega) hblk hcc (by rw [b1 0]; simp [hmll]) (by omega) (Ne.symm hne)
          rw [hmll] at z
          exact z)
        clear hcc hblk htk
        go_wp2_with (go_at_call 92; (refine C2.out.mono ?_); rintro e w2 ⟨rfl, ml', cur', hp', hs', hb', hc', hg'⟩; have HJ2 := Lib.hid (HJ.out.grown hg' (by intro e; injection e with e; exact hne e)); have HP2 := Lib.hid hp'; have HS2 := Lib.hid hs'; have HB2 := Lib.hid hb'; have HC2 := Lib.hid hc'; have HG2 := Lib.hid hg'; clear hp' hs' hb' hc' hg'; obtain ⟨g1, g2, g3, g4⟩ := HJ2.out.use)
        go_ret
        have hl : ml'.length = pl.length := by have z := HP2.out.length_eq; omega
        refine ⟨⟨ml', _, (HP2.out.map (·.1)).trans HPm.out, HS2.out, rfl, ⟨?_, (HPS.out.keeps (keeps_row HG2.out HBk.out) (by simp)).perm HP2.out⟩⟩, below_row HB.out HG2.out hge (by omega)⟩
        rw [hl]
        exact ⟨_, _, rfl, hcap, hcm, fun _ => ⟨g0, 0, cur', _, rfl, HB2.out, fun j u hj => by rw [Nat.zero_add]; exact HC2.out j u hj⟩⟩
      · have e1 : pl.length = 1 := by omega
        have C2 := Lib.hid (sort_one pl.length e1 (some ⟨g0, 0, none⟩) cap0 #[.pointer (some ⟨w.heap.size + 1, 0, none⟩)] wr)
        have HE1 := Lib.hid e1
        clear hcc hblk htk e1
        go_wp2_with (go_at_call 92; (refine C2.out.mono ?_); rintro e w2 ⟨rfl, hb2⟩; have HW2 := Lib.hid hb2; have HJ2 := Lib.hid (HJ.out.belowS hb2); clear hb2; obtain ⟨g1, g2, g3, g4⟩ := HJ2.out.use)
        go_ret
        refine ⟨⟨ml, _, HPm.out, ?_, rfl, ⟨?_, HPS.out.below HW2.out⟩⟩, HB.out.trans (HW2.out.mono hge)⟩
        · have z : ml.length = 1 := by rw [hmll]; exact HE1.out
          match ml, z with
          | [x], _ => exact List.pairwise_singleton _ _
        · rw [hmll]
          exact (SlV.of_own HO.out).below HW2.out
end Go.Proofs.YtpgookhdffklkaaGreatDoor
