/-
  propagation: Extract from a map carrier and from a header carrier; impl: ExtractBaggage.
-/
import Derived.Test.YtpgookhdffklkaaGreatDoorImplU
namespace Go.Proofs.YtpgookhdffklkaaGreatDoor
open Go.RowKit

/-- The members behind a map (none: no members). -/
def HasL (w : World) (m : Option Nat) (L : List BM) : Prop := (L = [] ∧ m = none) ∨ ∃ b D, m = some b ∧ L ≠ [] ∧ D.map (·.1) = L ∧ ListR w b D
theorem HasL.below {w w' : World} {m : Option Nat} {L : List BM} (h : HasL w m L) (hb : Below w.heap.size w w') : HasL w' m L := by
  rcases h with h | ⟨b, D, h1, h2, h3, h4⟩
  · exact Or.inl h
  · exact Or.inr ⟨b, D, h1, h2, h3, h4.below hb⟩

/-- bagged of any members. -/
theorem bagged_has (ml : List MA) (v : Value) (w : World) (hE : Env w) (hv : RowA w 82 146 v ml) (hok : ∀ x ∈ ml, OkM (toB x.1)) (hn : ml.length ≤ 1000)
    (h64 : (dedB (ml.map fun x => toB x.1)).length ≤ 64) (h8 : tot (dedB (ml.map fun x => toB x.1)) ≤ 8192) :
    Calls Tryz.prog 58 #[v] w fun e w' => (∃ c m, e = .returned (.tuple #[c, .bool true]) ∧ Ctx c m ∧ HasL w' m (dedB (ml.map fun x => toB x.1))) ∧ Below w.heap.size w w' := by
  by_cases h0 : ml = []
  · subst h0
    obtain ⟨A, q, rfl⟩ := hv.1.form
    exact (bagged_nil A q w).mono fun e w' ⟨he, hb⟩ => ⟨⟨_, none, he, Or.inl ⟨rfl, rfl⟩, Or.inl ⟨rfl, rfl⟩⟩, hb⟩
  · exact (bagged_any ml v w hE hv h0 hok hn h64 h8).mono fun e w' ⟨⟨D, b, hD, he, hL⟩, hb⟩ => ⟨⟨_, some b, he, Or.inr ⟨_, _, rfl⟩, Or.inr ⟨b, D, rfl, dedB_ne (by simpa using h0), hD, hL⟩⟩, hb⟩
theorem membersOf_has (m : Option Nat) (L : List BM) (w : World) (hE : Env w) (hL : HasL w m L) (hpl : ∀ x ∈ L, PlM x) (hn : L.length ≤ 1000) :
    Calls Tryz.prog 45 #[.agg #[.map m]] w fun e w' => (∃ (ml : List MA) (v : Value), (ml.map (·.1)).Perm (L.map rdB) ∧ ml.Pairwise (fun x y => ltK y x = false) ∧ e = .returned v ∧ RowA w' 82 146 v ml) ∧ Below w.heap.size w w' := by
  rcases hL with ⟨rfl, rfl⟩ | ⟨b, D, rfl, h0, hD, hL⟩
  · exact (membersOf_nil w).mono fun e w' ⟨he, hb⟩ => ⟨⟨[], _, by simp, List.Pairwise.nil, he, SlV.nil _ _, PsI.nil _ _⟩, hb⟩
  · have hD0 : D ≠ [] := by rintro rfl; exact h0 hD.symm
    have z := membersOf_any rdB D b w hE hL hD0 (fun x hx => by
      have y := List.mem_map_of_mem (f := fun x : BM × Value => x.1) hx
      rw [hD] at y
      exact (hpl _ y).sm.lp) (by have y := congrArg List.length hD; rw [List.length_map] at y; omega) (fun x hx v W _ hv => memberOf_pl L hpl x (by rw [← hD]; exact hx) v W hv)
    refine z.mono ?_
    rintro e w' ⟨⟨ml, v, hp, hs, he, hr⟩, hb⟩
    refine ⟨⟨ml, v, ?_, hs, he, hr⟩, hb⟩
    rw [← hD, List.map_map]
    exact hp

/-! ### Extract -/
theorem part_one {α : Type} (p : α → Bool) (x : α) : List.partition p [x] = if p x then ([x], []) else ([], [x]) := by
  cases h : p x <;> simp [List.partition, List.partition.loop, h]
theorem missing_some (want : Array (String × TypeId)) (got : Array Method) (x : String) (h : (want.toList.filter fun p => !got.any fun m => m.name == p.1 && m.sig == p.2).map (·.1) = [x]) : ∃ m, Instr.missingMethod want got = some m := by
  unfold Instr.missingMethod
  simp only [h]
  rw [part_one]
  split <;> simp [Instr.least]
theorem und180 : ∃ want, Tryz.prog.underlying 180 = some (.interface want) ∧ (Tryz.prog.info? 113).map (fun i => (want.toList.filter fun p => !i.methods.any fun m => m.name == p.1 && m.sig == p.2).map (·.1)) = some ["Values"] := ⟨_, Tryz.underlying180, by kernel_rfl⟩
theorem ta_113 (v : Value) (w : World) : (Instr.typeAssert (.iface 113 v) 120 180 true).run Tryz.prog w = .ok (.tuple #[.nilIface, .bool false]) w := by
  obtain ⟨want, hu, hm⟩ := und180
  obtain ⟨i, hi, hx⟩ := Option.map_eq_some_iff.1 hm
  obtain ⟨m, hmm⟩ := missing_some want i.methods "Values" hx
  simp [Instr.typeAssert, run_underlying hu, typeInfo, hi, hmm, Result.andThen]
theorem ta_122 (v : Value) (w : World) : (Instr.typeAssert (.iface 122 v) 120 180 true).run Tryz.prog w = .ok (.tuple #[.iface 122 v, .bool true]) w := by kernel_rfl

/-- What a carrier holds: texts of members under the key. -/
def Carr (w : World) (cv : Value) : Bool → List (List BM) → Prop
  | true, parts => ∃ b bv, cv = .iface 122 (.map (some b)) ∧ MapS w b (if parts = [] then [] else [(BagKey, bv)]) ∧ SlV w 9 bv parts.length (strs (parts.map textOf))
  | false, [] => ∃ b, cv = .iface 113 (.map (some b)) ∧ MapS w b []
  | false, p :: _ => ∃ b, cv = .iface 113 (.map (some b)) ∧ MapS w b [(bagKey, .string (bs (textOf p)))]
theorem Carr.below {w w' : World} {cv : Value} {h : Bool} {parts : List (List BM)} (hc : Carr w cv h parts) (hb : Below w.heap.size w w') : Carr w' cv h parts := by
  cases h
  · cases parts with
    | nil => obtain ⟨b, h1, h2⟩ := hc; exact ⟨b, h1, h2.below hb⟩
    | cons p r => obtain ⟨b, h1, h2⟩ := hc; exact ⟨b, h1, h2.below hb⟩
  · obtain ⟨b, bv, h1, h2, h3⟩ := hc; exact ⟨b, bv, h1, h2.below hb, h3.below hb⟩
/-- The members that a carrier with these values leaves, where Lp were there. -/
def ExtR : Bool → List (List BM) → List BM → List BM → Prop
  | true, parts, Lp, Lr => (parts.flatten = [] ∧ Lr = Lp) ∨ ∃ L : List BM, parts.flatten ≠ [] ∧ L.Perm parts.flatten ∧ (∀ k, lst L k = lst parts.flatten k) ∧ Lr = dedB L
  | false, [], Lp, Lr => Lr = Lp
  | false, p :: _, Lp, Lr => (p = [] ∧ Lr = Lp) ∨ (p ≠ [] ∧ Lr = p)
def ExtPost (header : Bool) (parts : List (List BM)) (Lp : List BM) (w : World) (e : Ending) (w' : World) : Prop := (∃ c' m' Lr, e = .returned c' ∧ Ctx c' m' ∧ HasL w' m' Lr ∧ ExtR header parts Lp Lr) ∧ Below w.heap.size w w'

set_option maxRecDepth 100000 in
set_option maxHeartbeats 2000000 in
theorem multi_nil (c : Value) (m0 : Option Nat) (hc : Ctx c m0) (b : Nat) (w : World) (h : MapS w b []) :
    Calls Tryz.prog 110 #[c, .iface 122 (.map (some b))] w fun e w' => e = .returned c ∧ Below w.heap.size w w' := by
  have C1 : ∀ W, MapS W b [] → Hid (Calls Tryz.prog 274 #[.map (some b), .string ⟨#[98, 97, 103, 103, 97, 103, 101]⟩] W fun e w' => e = .returned (.slice none 0 0) ∧ Below W.heap.size W w') := fun W hW => by
    have z := headerValues_any b _ W hW
    exact Lib.hid (by simpa [getS] using z)
  have H := Lib.hid h
  have m1 := meth122v
  obtain ⟨t, p, rfl⟩ := hc.form
  clear h hc
  go_enter Tryz.func110, Tryz.ntmps110
  go_wp2_with (go_at_call 274; (refine (C1 _ H.out).out.mono ?_); rintro e w1 ⟨rfl, hb1⟩)
  go_ret
  exact ⟨rfl, hb1⟩
theorem inner110 (parts : List (List BM)) (hP : Parts parts) (c : Value) (m : Option Nat) (hc : Ctx c m) (Lp : List BM) (b : Nat) (bv : Value) (w : World) (hE : Env w) (hL : HasL w m Lp) (h : MapS w b (if parts = [] then [] else [(BagKey, bv)])) (hbv : SlV w 9 bv parts.length (strs (parts.map textOf))) :
    Calls Tryz.prog 110 #[c, .iface 122 (.map (some b))] w (ExtPost true parts Lp w) := by
  by_cases h0 : parts = []
  · subst h0
    rw [if_pos rfl] at h
    exact (multi_nil c m hc b w h).mono fun e w' ⟨he, hb⟩ => ⟨⟨c, m, Lp, he, hc, hL.below hb, Or.inl ⟨rfl, rfl⟩⟩, hb⟩
  · rw [if_neg h0] at h
    refine (multi_any parts hP h0 c m hc b bv w hE h hbv).mono ?_
    rintro e w' ⟨⟨h1, rfl⟩ | ⟨c', D, b', L, hf, rfl, h2, h3, h4, h5, h6⟩, hb⟩
    · exact ⟨⟨c, m, Lp, rfl, hc, hL.below hb, Or.inl ⟨h1, rfl⟩⟩, hb⟩
    · have hL0 : L ≠ [] := by rintro rfl; exact hf (List.perm_nil.1 h3.symm)
      exact ⟨⟨c', some b', dedB L, rfl, h2, Or.inr ⟨b', D, rfl, dedB_ne hL0, h5, h6⟩, Or.inr ⟨L, hf, h3, h4, rfl⟩⟩, hb⟩
theorem inner111 (parts : List (List BM)) (hP : Parts parts) (c : Value) (m : Option Nat) (hc : Ctx c m) (Lp : List BM) (cv : Value) (w : World) (hE : Env w) (hL : HasL w m Lp) (hcv : Carr w cv false parts) :
    Calls Tryz.prog 111 #[c, cv] w (ExtPost false parts Lp w) := by
  cases parts with
  | nil =>
    obtain ⟨b, rfl, h⟩ := hcv
    exact (single_none c m hc b [] w h rfl).mono fun e w' ⟨he, hb⟩ => ⟨⟨c, m, Lp, he, hc, hL.below hb, rfl⟩, hb⟩
  | cons p r =>
    obtain ⟨b, rfl, h⟩ := hcv
    by_cases h0 : p = []
    · subst h0
      exact (single_none c m hc b _ w h (by simp [getS, textOf_nil]; rfl)).mono fun e w' ⟨he, hb⟩ => ⟨⟨c, m, Lp, he, hc, hL.below hb, Or.inl ⟨rfl, rfl⟩⟩, hb⟩
    · have h64 := hP.part64 0 (by simp)
      refine (single_texts p c m hc b w hE h h0 (hP.pl p (by simp)) (hP.nd p (by simp)) h64.1 h64.2).mono ?_
      rintro e w' ⟨⟨c', D, b', rfl, h1, h2, h3⟩, hb⟩
      exact ⟨⟨c', some b', p, rfl, h1, Or.inr ⟨b', D, rfl, h0, h2, h3⟩, Or.inr ⟨h0, rfl⟩⟩, hb⟩

set_option maxRecDepth 100000 in
set_option maxHeartbeats 2000000 in
theorem extract_any (header : Bool) (parts : List (List BM)) (hP : Parts parts) (c : Value) (m : Option Nat) (hc : Ctx c m) (Lp : List BM) (cv : Value) (w : World) (hE : Env w) (hL : HasL w m Lp) (hcv : Carr w cv header parts) :
    Calls Tryz.prog 64 #[.agg #[], c, cv] w (ExtPost header parts Lp w) := by
  have HA := Lib.hid ((Below.refl w.heap.size w).alloc (Nat.le_refl _) (.cells #[] 115))
  have HCv := Lib.hid (hcv.below HA.out)
  have HL := Lib.hid (hL.below HA.out)
  have HE := Lib.hid (hE.below HA.out)
  have m1 := ta_113
  have m2 := ta_122
  have HCx := Lib.hid hc
  obtain ⟨t, p, rfl⟩ := hc.form
  cases header
  · have C := Lib.hid (inner111 parts hP (.iface t p) m HCx.out Lp cv _ HE.out HL.out HCv.out)
    have hf : ∃ b, cv = .iface 113 (.map (some b)) := by
      cases parts with
      | nil => obtain ⟨b, h, _⟩ := hcv; exact ⟨b, h⟩
      | cons q r => obtain ⟨b, h, _⟩ := hcv; exact ⟨b, h⟩
    obtain ⟨b, rfl⟩ := hf
    clear hcv hE hL hc
    go_enter Tryz.func64, Tryz.ntmps64
    go_wp2_with (go_at_call 111; (with_reducible refine C.out.mono ?_); rintro e w1 ⟨⟨c', m', Lr, rfl, h1, h2, h3⟩, hb1⟩; have HX := Lib.hid h1; have HY := Lib.hid h2; have HZ := Lib.hid h3; have HB := Lib.hid (HA.out.trans (hb1.mono HA.out.size)); clear h1 h2 h3 hb1)
    go_ret
    exact ⟨⟨c', m', Lr, rfl, HX.out, HY.out, HZ.out⟩, HB.out⟩
  · obtain ⟨b, bv, rfl, h1, h2⟩ := HCv.out
    have C := Lib.hid (inner110 parts hP (.iface t p) m HCx.out Lp b bv _ HE.out HL.out h1 h2)
    clear hcv hE hL hc h1 h2
    go_enter Tryz.func64, Tryz.ntmps64
    go_wp2_with (go_at_call 110; (with_reducible refine C.out.mono ?_); rintro e w1 ⟨⟨c', m', Lr, rfl, h1, h2, h3⟩, hb1⟩; have HX := Lib.hid h1; have HY := Lib.hid h2; have HZ := Lib.hid h3; have HB := Lib.hid (HA.out.trans (hb1.mono HA.out.size)); clear h1 h2 h3 hb1)
    go_ret
    exact ⟨⟨c', m', Lr, rfl, HX.out, HY.out, HZ.out⟩, HB.out⟩

/-! ### ExtractBaggage -/
theorem extR_pl {header : Bool} {parts : List (List BM)} {Lp Lr : List BM} (hP : Parts parts) (hLp : (∀ x ∈ Lp, PlM x) ∧ Lp.length ≤ 64) (h : ExtR header parts Lp Lr) : (∀ x ∈ Lr, PlM x) ∧ Lr.length ≤ 64 := by
  cases header
  · cases parts with
    | nil => obtain rfl := h; exact hLp
    | cons p r =>
      rcases h with ⟨_, rfl⟩ | ⟨_, rfl⟩
      · exact hLp
      · exact ⟨hP.pl _ (by simp), (hP.part64 0 (by simp)).1⟩
  · rcases h with ⟨_, rfl⟩ | ⟨L, _, h1, _, rfl⟩
    · exact hLp
    · refine ⟨dedB_all fun x hx => ?_, ?_⟩
      · obtain ⟨ms, h3, h4⟩ := List.mem_flatten.1 (h1.mem_iff.1 hx)
        exact hP.pl _ h3 _ h4
      · have h3 := dedB_len L
        have h4 := h1.length_eq
        have h5 := hP.n64
        omega
/-- What ExtractBaggage answers. -/
def EbPost (header : Bool) (parts : List (List BM)) (Lp : List BM) (w : World) (e : Ending) (w' : World) : Prop := (∃ (Lr : List BM) (ml : List MA) (v : Value), ExtR header parts Lp Lr ∧ (ml.map (·.1)).Perm (Lr.map rdB) ∧ ml.Pairwise (fun x y => ltK y x = false) ∧ e = .returned (.tuple #[v, .bool true]) ∧ RowA w' 82 146 v ml) ∧ Below w.heap.size w w'
theorem und122 : Tryz.prog.underlying 122 = some (.map 9 46) := Tryz.underlying122

set_option maxRecDepth 100000 in
set_option maxHeartbeats 4000000 in
theorem extractBaggage_any (header : Bool) (parts : List (List BM)) (hP : Parts parts) (ml : List MA) (v vv : Value) (w : World) (hE : Env w) (hv : RowA w 82 146 v ml) (hok : ∀ x ∈ ml, OkM (toB x.1)) (hpl : ∀ x ∈ ml, PlM (toB x.1)) (hn : ml.length ≤ 64)
    (h8 : tot (dedB (ml.map fun x => toB x.1)) ≤ 8192) (hvv : SlV w 9 vv parts.length (strs (parts.map textOf))) :
    Calls Tryz.prog 29 #[v, .bool header, vv] w (EbPost header parts (dedB (ml.map fun x => toB x.1)) w) := by
  have hLp : (∀ x ∈ dedB (ml.map fun x => toB x.1), PlM x) ∧ (dedB (ml.map fun x => toB x.1)).length ≤ 64 := ⟨dedB_all fun x hx => by
    obtain ⟨y, hy, rfl⟩ := List.mem_map.1 hx
    exact hpl y hy, by have := dedB_len (ml.map fun x => toB x.1); rw [List.length_map] at this; omega⟩
  have C1 := fun W h h1 => Lib.hid (bagged_has ml v W h h1 hok (by omega) hLp.2 h8)
  have HP := Lib.hid hP
  have HLp := Lib.hid hLp
  generalize dedB (ml.map fun x => toB x.1) = Lp at *
  have HE := Lib.hid hE
  have HV := Lib.hid hv
  have HVV := Lib.hid hvv
  have hmm := @run_makeMap Tryz.prog
  obtain ⟨A1, q1, rfl⟩ := hv.1.form
  obtain ⟨A2, q2, rfl⟩ := hvv.form
  have hn8 : parts.length ≤ 8193 := by
    have h1 := hP.n8
    rw [join_len, List.length_map] at h1
    omega
  clear hE hv hvv hP hok hpl h8 hLp
  cases header
  · cases parts with
    | nil =>
      go_enter Tryz.func29, Tryz.ntmps29
      go_wp2_with (first
    | (go_at_call 58; (with_reducible refine (C1 _ HE.out HV.out).out.mono ?_); rintro e w1 ⟨⟨c, m, rfl, hcx, hL⟩, hb1⟩; have HB1 := Lib.hid hb1; have HX := Lib.hid hcx; have HL := Lib.hid hL; have HM := Lib.hid (MapS.made w1); have HWu := Lib.hid ((Below.refl w1.heap.size w1).alloc (Nat.le_refl _) (.map #[] 0)); have HBu := Lib.hid (HB1.out.trans (HWu.out.mono HB1.out.size)); have HCr := Lib.hid (show Carr (w1.alloc (.map #[] 0)) (.iface 113 (.map (some w1.heap.size))) false [] from ⟨w1.heap.size, rfl, HM.out⟩); clear hb1 hcx hL)
    | (go_at_call 64; (with_reducible refine (extract_any false [] HP.out c m HX.out Lp _ _ (HE.out.below HBu.out) (HL.out.below HWu.out) HCr.out).mono ?_); rintro e w3 ⟨⟨c', m', Lr, rfl, h1, h2, h3⟩, hb3⟩; have HX3 := Lib.hid h1; have HL3 := Lib.hid h2; have HR3 := Lib.hid h3; have HB3 := Lib.hid ((HBu.out).trans (hb3.mono (HBu.out).size)); clear h1 h2 h3 hb3)
    | (go_at_call 63; (with_reducible refine (from_any c' m' HX3.out _).mono ?_); rintro e w4 ⟨rfl, hb4⟩; have HB4 := Lib.hid (HB3.out.trans (hb4.mono HB3.out.size)); have HL4 := Lib.hid (HL3.out.below hb4); clear hb4)
    | (go_at_call 45; (with_reducible refine (membersOf_has m' Lr _ (HE.out.below HB4.out) HL4.out (extR_pl HP.out HLp.out HR3.out).1 (Nat.le_trans (extR_pl HP.out HLp.out HR3.out).2 (by omega))).mono ?_); rintro e w5 ⟨⟨ml', v', h1, h2, rfl, h3⟩, hb5⟩; have HB5 := Lib.hid (HB4.out.trans (hb5.mono HB4.out.size)); have H1 := Lib.hid h1; have H2 := Lib.hid h2; have H3 := Lib.hid h3; clear h1 h2 h3 hb5))
      go_ret2
      exact ⟨⟨Lr, ml', v', HR3.out, H1.out, H2.out, rfl, H3.out⟩, HB5.out⟩
    | cons p r =>
      have hlp : (0 : Int) < ((r.length : Int) + 1) := by omega
      obtain ⟨bb, off, cp, hq, hc1, hc2, hbb, hcl⟩ := HVV.out.cells (by simp [strs])
      injection hq with hq1 hq2 hq3
      subst hq1; subst hq3
      have hc0 := hcl 0 (.string (bs (textOf p))) (by simp [strs])
      rw [Nat.add_zero] at hc0
      have HC0 := Lib.hid hc0
      clear hcl hc0
      go_enter Tryz.func29, Tryz.ntmps29
      go_wp2_with (first
    | (go_at_call 58; (with_reducible refine (C1 _ HE.out HV.out).out.mono ?_); rintro e w1 ⟨⟨c, m, rfl, hcx, hL⟩, hb1⟩; have HB1 := Lib.hid hb1; have HX := Lib.hid hcx; have HL := Lib.hid hL; obtain ⟨wu, hup, hu1, hu2, hu3, hu4⟩ := (MapS.made w1).update und113 bagKey (.string (bs (textOf p))); have hup1 : (Instr.mapUpdate 113 (.map (some w1.heap.size)) (.string ⟨#[98, 97, 103, 103, 97, 103, 101]⟩) (.string (bs (textOf p)))).run Tryz.prog (w1.alloc (.map #[] 0)) = .ok () wu := hup; have HU := Lib.hid hu1; have HWu := Lib.hid (below_row ((Below.refl w1.heap.size w1).alloc (Nat.le_refl _) (.map #[] 0)) hu2 (by simp) (Nat.le_refl _)); have HBu := Lib.hid (HB1.out.trans (HWu.out.mono HB1.out.size)); have HCr := Lib.hid (show Carr wu (.iface 113 (.map (some w1.heap.size))) false (p :: r) from ⟨w1.heap.size, rfl, by simpa [putS, getS] using HU.out⟩); have c0 : (w1.alloc (.map #[] 0)).cell? ⟨bb, off, none⟩ = some (.string (bs (textOf p))) := ((HB1.out.alloc HB1.out.size (.map #[] 0)).cell (p := ⟨bb, off, none⟩) hbb).trans HC0.out; clear hup hu1 hu2 hu3 hu4 hb1 hcx hL)
    | (go_at_call 64; (with_reducible refine (extract_any false (p :: r) HP.out c m HX.out Lp _ wu (HE.out.below HBu.out) (HL.out.below HWu.out) HCr.out).mono ?_); rintro e w3 ⟨⟨c', m', Lr, rfl, h1, h2, h3⟩, hb3⟩; have HX3 := Lib.hid h1; have HL3 := Lib.hid h2; have HR3 := Lib.hid h3; have HB3 := Lib.hid ((HBu.out).trans (hb3.mono (HBu.out).size)); clear h1 h2 h3 hb3)
    | (go_at_call 63; (with_reducible refine (from_any c' m' HX3.out _).mono ?_); rintro e w4 ⟨rfl, hb4⟩; have HB4 := Lib.hid (HB3.out.trans (hb4.mono HB3.out.size)); have HL4 := Lib.hid (HL3.out.below hb4); clear hb4)
    | (go_at_call 45; (with_reducible refine (membersOf_has m' Lr _ (HE.out.below HB4.out) HL4.out (extR_pl HP.out HLp.out HR3.out).1 (Nat.le_trans (extR_pl HP.out HLp.out HR3.out).2 (by omega))).mono ?_); rintro e w5 ⟨⟨ml', v', h1, h2, rfl, h3⟩, hb5⟩; have HB5 := Lib.hid (HB4.out.trans (hb5.mono HB4.out.size)); have H1 := Lib.hid h1; have H2 := Lib.hid h2; have H3 := Lib.hid h3; clear h1 h2 h3 hb5))
      go_ret2
      exact ⟨⟨Lr, ml', v', HR3.out, H1.out, H2.out, rfl, H3.out⟩, HB5.out⟩
  · by_cases h0 : parts = []
    · subst h0
      go_enter Tryz.func29, Tryz.ntmps29
      go_wp2_with (first
    | (go_at_call 58; (with_reducible refine (C1 _ HE.out HV.out).out.mono ?_); rintro e w1 ⟨⟨c, m, rfl, hcx, hL⟩, hb1⟩; have HB1 := Lib.hid hb1; have HX := Lib.hid hcx; have HL := Lib.hid hL; have HM := Lib.hid (MapS.made w1); have HWu := Lib.hid ((Below.refl w1.heap.size w1).alloc (Nat.le_refl _) (.map #[] 0)); have HBu := Lib.hid (HB1.out.trans (HWu.out.mono HB1.out.size)); have HCr := Lib.hid (show Carr (w1.alloc (.map #[] 0)) (.iface 122 (.map (some w1.heap.size))) true [] from ⟨w1.heap.size, .slice A2 0 q2, rfl, by simpa using HM.out, by simpa using HVV.out.below HBu.out⟩); clear hb1 hcx hL)
    | (go_at_call 64; (with_reducible refine (extract_any true [] HP.out c m HX.out Lp _ _ (HE.out.below HBu.out) (HL.out.below HWu.out) HCr.out).mono ?_); rintro e w3 ⟨⟨c', m', Lr, rfl, h1, h2, h3⟩, hb3⟩; have HX3 := Lib.hid h1; have HL3 := Lib.hid h2; have HR3 := Lib.hid h3; have HB3 := Lib.hid ((HBu.out).trans (hb3.mono (HBu.out).size)); clear h1 h2 h3 hb3)
    | (go_at_call 63; (with_reducible refine (from_any c' m' HX3.out _).mono ?_); rintro e w4 ⟨rfl, hb4⟩; have HB4 := Lib.hid (HB3.out.trans (hb4.mono HB3.out.size)); have HL4 := Lib.hid (HL3.out.below hb4); clear hb4)
    | (go_at_call 45; (with_reducible refine (membersOf_has m' Lr _ (HE.out.below HB4.out) HL4.out (extR_pl HP.out HLp.out HR3.out).1 (Nat.le_trans (extR_pl HP.out HLp.out HR3.out).2 (by omega))).mono ?_); rintro e w5 ⟨⟨ml', v', h1, h2, rfl, h3⟩, hb5⟩; have HB5 := Lib.hid (HB4.out.trans (hb5.mono HB4.out.size)); have H1 := Lib.hid h1; have H2 := Lib.hid h2; have H3 := Lib.hid h3; clear h1 h2 h3 hb5))
      go_ret2
      exact ⟨⟨Lr, ml', v', HR3.out, H1.out, H2.out, rfl, H3.out⟩, HB5.out⟩
    · have hlp : (0 : Int) < (parts.length : Int) := by have := List.length_pos_iff.2 h0; omega
      go_enter Tryz.func29, Tryz.ntmps29
      go_wp2_with (first
    | (go_at_call 58; (with_reducible refine (C1 _ HE.out HV.out).out.mono ?_); rintro e w1 ⟨⟨c, m, rfl, hcx, hL⟩, hb1⟩; have HB1 := Lib.hid hb1; have HX := Lib.hid hcx; have HL := Lib.hid hL; obtain ⟨wu, hup, hu1, hu2, hu3, hu4⟩ := (MapS.made w1).update und122 BagKey (.slice A2 parts.length q2); have hup1 : (Instr.mapUpdate 122 (.map (some w1.heap.size)) (.string ⟨#[66, 97, 103, 103, 97, 103, 101]⟩) (.slice A2 parts.length q2)).run Tryz.prog (w1.alloc (.map #[] 0)) = .ok () wu := hup; have HU := Lib.hid hu1; have HWu := Lib.hid (below_row ((Below.refl w1.heap.size w1).alloc (Nat.le_refl _) (.map #[] 0)) hu2 (by simp) (Nat.le_refl _)); have HBu := Lib.hid (HB1.out.trans (HWu.out.mono HB1.out.size)); have HCr := Lib.hid (show Carr wu (.iface 122 (.map (some w1.heap.size))) true parts from ⟨w1.heap.size, .slice A2 parts.length q2, rfl, by rw [if_neg h0]; simpa [putS, getS] using HU.out, HVV.out.below HBu.out⟩); clear hup hu1 hu2 hu3 hu4 hb1 hcx hL)
    | (go_at_call 64; (with_reducible refine (extract_any true parts HP.out c m HX.out Lp _ wu (HE.out.below HBu.out) (HL.out.below HWu.out) HCr.out).mono ?_); rintro e w3 ⟨⟨c', m', Lr, rfl, h1, h2, h3⟩, hb3⟩; have HX3 := Lib.hid h1; have HL3 := Lib.hid h2; have HR3 := Lib.hid h3; have HB3 := Lib.hid ((HBu.out).trans (hb3.mono (HBu.out).size)); clear h1 h2 h3 hb3)
    | (go_at_call 63; (with_reducible refine (from_any c' m' HX3.out _).mono ?_); rintro e w4 ⟨rfl, hb4⟩; have HB4 := Lib.hid (HB3.out.trans (hb4.mono HB3.out.size)); have HL4 := Lib.hid (HL3.out.below hb4); clear hb4)
    | (go_at_call 45; (with_reducible refine (membersOf_has m' Lr _ (HE.out.below HB4.out) HL4.out (extR_pl HP.out HLp.out HR3.out).1 (Nat.le_trans (extR_pl HP.out HLp.out HR3.out).2 (by omega))).mono ?_); rintro e w5 ⟨⟨ml', v', h1, h2, rfl, h3⟩, hb5⟩; have HB5 := Lib.hid (HB4.out.trans (hb5.mono HB4.out.size)); have H1 := Lib.hid h1; have H2 := Lib.hid h2; have H3 := Lib.hid h3; clear h1 h2 h3 hb5))
      go_ret2
      exact ⟨⟨Lr, ml', v', HR3.out, H1.out, H2.out, rfl, H3.out⟩, HB5.out⟩
end Go.Proofs.YtpgookhdffklkaaGreatDoor
