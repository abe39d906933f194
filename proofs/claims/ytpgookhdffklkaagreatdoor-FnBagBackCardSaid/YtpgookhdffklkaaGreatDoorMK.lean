/-
  slices.Clone at Member of spec.
  spec: the comparison behind Bag.place.
  spec: slices.BinarySearchFunc over members by their keys.
  spec: Bag.place.
  The plain law of With: a sorted list in which a member is put.
  laws and spec: texts sorted and held against each other.
  laws: bagTexts; spec: Texts.
-/
import Derived.Sort.OwnSorted
import Derived.Test.YtpgookhdffklkaaGreatDoorMH
import Derived.Test.YtpgookhdffklkaaGreatDoorMJ
import Derived.Test.YtpgookhdffklkaaGreatDoorZShelf2
namespace Go.Proofs.YtpgookhdffklkaaGreatDoor
open Go.RowKit
theorem flatA_one (l : List MA) : ∀ u ∈ l.flatMap encA, u.oneCell' = true := by
  intro u hu
  obtain ⟨x, _, hu⟩ := List.mem_flatMap.1 hu
  exact encA_one x u hu
set_option maxRecDepth 100000 in
set_option maxHeartbeats 2000000 in
theorem cloneM_any (l : List MA) (v : Value) (w : World) (hv : RowC w v l) (hn : l.length ≤ 1000000) :
    Calls Tryz.prog 40 #[v] w fun e w' => (∃ v', e = .returned v' ∧ w'.ownsRow w.heap.size 29 3 v' l.length (l.flatMap encA)) ∧ Below w.heap.size w w' := by
  obtain ⟨A, q, hq⟩ := hv.1.form
  subst hq
  have HV := Lib.hid hv
  have nn := fun (W : World) (A : Option Addr) (n c n' c' : Nat) => Lib.run_eql_slice_nil (P := Tryz.prog) W 26 29 A n c n' c' Tryz.underlying26
  by_cases h0 : l = []
  · subst h0
    cases A with
    | none =>
      clear hv
      go_enter Tryz.func40, Tryz.ntmps40
      go_wp2
      go_ret
      exact ⟨⟨_, rfl, World.ownsRow_nil _ _ _ _⟩, Below.refl _ _⟩
    | some ad =>
      clear hv
      obtain ⟨i0, hi, hz0, hz1, hz2⟩ := info_parts info29
      go_enter Tryz.func40, Tryz.ntmps40
      go_wp2_with (at_builtin; refine wpList_append_own _ rfl (.tmp 5) (.tmp 6) 26 rfl w.heap.size 29 i0 _ 3 56 Tryz.underlying26 hi hz0 hz1 hz2 rfl (by decide) (.slice (some ⟨w.heap.size, 0, none⟩) 0 0) 0 [] rfl (own_empty (Blk.new _ _ _) (Nat.le_refl _)) ad 0 q [] rfl rfl (fun j u hj => by simp at hj) (fun u hu => by cases hu) (by unfold maxLen; omega) (by omega) (by simp) ?_; intro v6 w6 hown6 hg6 _)
      go_ret
      exact ⟨⟨_, rfl, own_cast hown6 rfl (by simp)⟩, ((Below.refl _ _).alloc (Nat.le_refl _) _).grown hg6 (by simp) (fun k hk => by simp [Value.ownBlock] at hk; omega)⟩
  · obtain ⟨b, off, c, hq, hc1, hc2, hbb, hcl⟩ := hv.1.cells (flatA_ne' h0)
    injection hq with hq1 hq2 hq3
    subst hq1; subst hq3
    have HC := Lib.hid (show ∀ j u, (l.flatMap encA)[j]? = some u → (w.alloc (.cells #[] 29)).cell? ⟨b, off + j, none⟩ = some u from fun j u hj => (((Below.refl w.heap.size w).alloc (Nat.le_refl _) (.cells #[] 29)).cell (p := ⟨b, off + j, none⟩) hbb).trans (hcl j u hj))
    clear hv hcl
    go_enter Tryz.func40, Tryz.ntmps40
    go_wp2_with (at_builtin; refine appM rfl (.tmp 5) (.tmp 6) 26 rfl w.heap.size 29 _ 3 56 Tryz.underlying26 info29 rfl (by decide) (by decide) (.slice (some ⟨w.heap.size, 0, none⟩) 0 0) 0 [] rfl (own_empty (Blk.new _ _ _) (Nat.le_refl _)) b off l.length q (l.flatMap encA) rfl (flat_len encA 3 encA_len l) HC.out (flatA_one l) (by omega) (by simp) ?_; intro v6 w6 hown6 hg6)
    go_ret
    exact ⟨⟨_, rfl, own_cast hown6 (by simp) (by simp)⟩, ((Below.refl _ _).alloc (Nat.le_refl _) _).grown hg6 (by simp) (fun k hk => by simp [Value.ownBlock] at hk; omega)⟩
end Go.Proofs.YtpgookhdffklkaaGreatDoor

namespace Go.Proofs.YtpgookhdffklkaaGreatDoor
open Go.RowKit
set_option maxRecDepth 100000 in
theorem cmp80 (k v : List UInt8) (sv : Value) (A : Option Addr) (n q : Nat) (hsv : sv = .slice A n q) (t : List UInt8) (w : World) :
    Calls Tryz.prog 80 #[.agg #[.string (bs k), .string (bs v), sv], .string (bs t)] w fun e w' => e = .returned (.int .i64 (Lib.compareBytes k t)) ∧ Below w.heap.size w w' := by
  subst hsv
  have C := fun W => Lib.hid (show Calls Tryz.prog 68 #[.string (bs k), .string (bs t)] W fun e w' => e = .returned (.int .i64 (Lib.compareBytes k t)) ∧ w' = W from by
    have z := Tryz.strings_Compare (bs k) (bs t) W
    simpa using z)
  go_enter Tryz.func80, Tryz.ntmps80
  go_wp2_with (go_at_call 68; (with_reducible refine (C _).out.mono ?_); rintro e w1 ⟨rfl, rfl⟩)
  go_ret
  exact ⟨rfl, (Below.refl _ _).alloc (Nat.le_refl _) _⟩
end Go.Proofs.YtpgookhdffklkaaGreatDoor

namespace Go.Proofs.YtpgookhdffklkaaGreatDoor
open Go.RowKit
/-- The state of the search. -/
structure BsSt (w : World) (l : List MA) (t : List UInt8) (lo hi : Value) (wr : World) (i j : Nat) : Prop where
  hlo : lo = .int .i64 i
  hhi : hi = .int .i64 j
  hij : i ≤ j
  hj : j ≤ l.length
  lt : ∀ z (h : z < l.length), z < i → Lib.compareBytes (l[z]'h).1.k t < 0
  ge : ∀ z (h : z < l.length), j ≤ z → 0 ≤ Lib.compareBytes (l[z]'h).1.k t
  hb : Below w.heap.size w wr
/-- What the search finds. -/
structure Found (l : List MA) (t : List UInt8) (i : Nat) (f : Bool) : Prop where
  hi : i ≤ l.length
  lt : ∀ z (h : z < l.length), z < i → Lib.compareBytes (l[z]'h).1.k t < 0
  ge : ∀ z (h : z < l.length), i ≤ z → 0 ≤ Lib.compareBytes (l[z]'h).1.k t
  hf : f = true ↔ ∃ h : i < l.length, Lib.compareBytes (l[i]'h).1.k t = 0
set_option maxRecDepth 100000 in
set_option maxHeartbeats 4000000 in
theorem search_any (l : List MA) (t : List UInt8) (v : Value) (w : World) (hv : RowC w v l) (hn : l.length ≤ 1000000)
    (hs : ∀ (a b : Nat) (ha : a < l.length) (hb : b < l.length), a ≤ b → Lib.compareBytes (l[b]'hb).1.k t < 0 → Lib.compareBytes (l[a]'ha).1.k t < 0) :
    Calls Tryz.prog 79 #[v, .string (bs t), .func (.func 80) #[] #[]] w fun e w' => (∃ (i : Nat) (f : Bool), e = .returned (.tuple #[.int .i64 i, .bool f]) ∧ Found l t i f) ∧ Below w.heap.size w w' := by
  have eg : ∀ args w, (callFunc 80 args).run Tryz.prog w = .ok (.enter 80 args) w := enters_of Tryz.func80 (by kernel_rfl) rfl
  obtain ⟨A, q, hq⟩ := hv.1.form
  subst hq
  have HV := Lib.hid hv
  have HS := Lib.hid hs
  clear hv hs
  go_enter Tryz.func79, Tryz.ntmps79
  go_wp2
  go_loopw [9, 10, 11] (fun lo hi _ wr => ∃ i j : Nat, BsSt w l t lo hi wr i j) (fun lo hi _ _ => (intOf hi).toNat - (intOf lo).toNat)
  case atStart => exact ⟨0, l.length, ⟨rfl, rfl, Nat.zero_le _, Nat.le_refl _, fun z h hz => absurd hz (Nat.not_lt_zero _), fun z h hz => absurd h (by omega), Below.refl _ _⟩⟩
  case round =>
    obtain ⟨i, j, rfl, rfl, hij, hj, hlt, hge, hb⟩ := hrel
    have HB := Lib.hid hb
    have HLt := Lib.hid hlt
    have HGe := Lib.hid hge
    clear hb hlt hge
    have hge0 := HB.out.size
    by_cases hc : i < j
    · have hm : (i + j) / 2 < l.length := by omega
      obtain ⟨b, off, c, hq, -, -, hbw, hcl⟩ := HV.out.1.cells (flatA_ne' (by intro e; rw [e] at hm; simp at hm))
      injection hq with hq1 hq2 hq3
      subst hq1; subst hq3
      clear hq2
      obtain ⟨i0, i1, i2⟩ := cellsAt' (fun z u hz => (HB.out.cell (p := ⟨b, off + z, none⟩) hbw).trans (hcl z u hz)) ((i + j) / 2) hm
      have HX := Lib.hid (show ∀ y, y = (l[(i + j) / 2]'hm) → (y.1.k = (l[(i + j) / 2]'hm).1.k) from fun y hy => by rw [hy])
      clear hcl
      generalize hy : l[(i + j) / 2]'hm = y at i0 i1 i2
      have HY := Lib.hid hy
      clear hy HX
      have C := Lib.hid (cmp80 y.1.k y.1.v _ y.2.1 y.1.ps.length y.2.2 rfl t wr)
      by_cases hyx : Lib.compareBytes y.1.k t < 0
      · go_wp2_with (go_at_fn 80; refine C.out.mono ?_; rintro e w2 ⟨rfl, hb2⟩; have HB2 := Lib.hid (HB.out.trans (hb2.mono hge0)); clear hb2)
        refine ⟨⟨(i + j) / 2 + 1, j, ⟨by rw [show ((i : Int) + (j : Int)) / 2 + 1 = (((i + j) / 2 + 1 : Nat) : Int) by omega], rfl, by omega, hj, fun z h hz => HS.out z ((i + j) / 2) h hm (by omega) (by rw [HY.out]; exact hyx), HGe.out, HB2.out⟩⟩, by simp [intOf]; omega⟩
      · go_wp2_with (go_at_fn 80; refine C.out.mono ?_; rintro e w2 ⟨rfl, hb2⟩; have HB2 := Lib.hid (HB.out.trans (hb2.mono hge0)); clear hb2)
        refine ⟨⟨i, (i + j) / 2, ⟨rfl, by rw [show ((i : Int) + (j : Int)) / 2 = (((i + j) / 2 : Nat) : Int) by omega], by omega, by omega, HLt.out, fun z h hz => Int.not_lt.1 fun hn => absurd (by have := HS.out ((i + j) / 2) z hm h hz hn; rwa [HY.out] at this) (Int.not_lt.2 hyx), HB2.out⟩⟩, by simp [intOf]; omega⟩
    · obtain rfl : i = j := by omega
      by_cases hn2 : i < l.length
      · obtain ⟨b, off, c, hq, -, -, hbw, hcl⟩ := HV.out.1.cells (flatA_ne' (by intro e; rw [e] at hn2; simp at hn2))
        injection hq with hq1 hq2 hq3
        subst hq1; subst hq3
        clear hq2
        obtain ⟨i0, i1, i2⟩ := cellsAt' (fun z u hz => (HB.out.cell (p := ⟨b, off + z, none⟩) hbw).trans (hcl z u hz)) i hn2
        clear hcl
        generalize hy : l[i]'hn2 = y at i0 i1 i2
        have HY := Lib.hid hy
        clear hy
        have C := Lib.hid (cmp80 y.1.k y.1.v _ y.2.1 y.1.ps.length y.2.2 rfl t wr)
        by_cases hyx : Lib.compareBytes y.1.k t = 0
        · go_wp2_with (go_at_fn 80; refine C.out.mono ?_; rintro e w2 ⟨rfl, hb2⟩; have HB2 := Lib.hid (HB.out.trans (hb2.mono hge0)); clear hb2)
          go_ret2
          exact ⟨⟨i, true, rfl, ⟨hj, HLt.out, HGe.out, fun _ => ⟨hn2, by rw [HY.out]; exact hyx⟩, fun _ => rfl⟩⟩, HB2.out⟩
        · have hz : (Lib.compareBytes y.1.k t == 0) = false := beq_eq_false_iff_ne.2 hyx
          go_wp2_with (go_at_fn 80; refine C.out.mono ?_; rintro e w2 ⟨rfl, hb2⟩; have HB2 := Lib.hid (HB.out.trans (hb2.mono hge0)); clear hb2)
          go_ret2
          exact ⟨⟨i, false, rfl, ⟨hj, HLt.out, HGe.out, fun h => (by cases h), fun ⟨h, h2⟩ => absurd (by rw [HY.out] at h2; exact h2) hyx⟩⟩, HB2.out⟩
      · go_wp2
        go_ret2
        exact ⟨⟨i, false, rfl, ⟨hj, HLt.out, HGe.out, fun h => (by cases h), fun ⟨h, _⟩ => absurd h hn2⟩⟩, HB.out⟩
end Go.Proofs.YtpgookhdffklkaaGreatDoor

namespace Go.Proofs.YtpgookhdffklkaaGreatDoor
open Go.RowKit
set_option maxRecDepth 100000 in
set_option maxHeartbeats 1000000 in
theorem place_any (l : List MA) (t : List UInt8) (v : Value) (w : World) (hv : RowC w v l) (hn : l.length ≤ 1000000)
    (hs : ∀ (a b : Nat) (ha : a < l.length) (hb : b < l.length), a ≤ b → Lib.compareBytes (l[b]'hb).1.k t < 0 → Lib.compareBytes (l[a]'ha).1.k t < 0) :
    Calls Tryz.prog 41 #[v, .string (bs t)] w fun e w' => (∃ (i : Nat) (f : Bool), e = .returned (.tuple #[.int .i64 i, .bool f]) ∧ Found l t i f) ∧ Below w.heap.size w w' := by
  have C := Lib.hid (search_any l t v w hv hn hs)
  obtain ⟨A, q, hq⟩ := hv.1.form
  subst hq
  clear hv hs
  go_enter Tryz.func41, Tryz.ntmps41
  go_wp2_with (go_at_call 79; refine C.out.mono ?_; rintro e w1 ⟨⟨i, f, rfl, hF⟩, hb1⟩; have HF := Lib.hid hF; clear hF)
  go_ret2
  exact ⟨⟨i, f, rfl, HF.out⟩, hb1⟩
end Go.Proofs.YtpgookhdffklkaaGreatDoor

namespace Go.Proofs.YtpgookhdffklkaaGreatDoor
open Go.RowKit
/-- A member put into a list that is sorted by the keys. -/
def withM : List MA → MA → List MA
  | [], x => [x]
  | y :: t, x => if y.1.k < x.1.k then y :: withM t x else if y.1.k = x.1.k then x :: t else x :: y :: t
/-- Sorted by the keys, each key once. -/
def SortM (l : List MA) : Prop := l.Pairwise fun x y => x.1.k < y.1.k
theorem cmp_self : ∀ a : List UInt8, Lib.compareBytes a a = 0
  | [] => rfl
  | x :: t => by
    unfold Lib.compareBytes
    rw [if_neg (UInt8.lt_irrefl x), if_neg (UInt8.lt_irrefl x), cmp_self t]
theorem cmp_eq1 : ∀ a b : List UInt8, Lib.compareBytes a b = 0 → a = b
  | [], [], _ => rfl
  | [], _ :: _, h => by simp [Lib.compareBytes] at h
  | _ :: _, [], h => by simp [Lib.compareBytes] at h
  | x :: a, y :: b, h => by
    unfold Lib.compareBytes at h
    by_cases h1 : x < y
    · rw [if_pos h1] at h; cases h
    · rw [if_neg h1] at h
      by_cases h2 : y < x
      · rw [if_pos h2] at h; cases h
      · rw [if_neg h2] at h
        rw [cmp_eq1 a b h, UInt8.le_antisymm (UInt8.not_lt.1 h2) (UInt8.not_lt.1 h1)]
theorem lt_irr (a : List UInt8) : ¬ a < a := fun h => by
  have z := (cmp_lt a a).2 h
  rw [cmp_self] at z
  exact absurd z (by decide)
theorem withM_mem {l : List MA} {x y : MA} (h : y ∈ withM l x) : y ∈ l ∨ y = x := by
  induction l with
  | nil => simp [withM] at h; exact Or.inr h
  | cons a t ih =>
    unfold withM at h
    split at h
    · rcases List.mem_cons.1 h with h | h
      · exact Or.inl (by rw [h]; simp)
      · rcases ih h with h | h
        · exact Or.inl (List.mem_cons_of_mem _ h)
        · exact Or.inr h
    · split at h
      · rcases List.mem_cons.1 h with h | h
        · exact Or.inr h
        · exact Or.inl (List.mem_cons_of_mem _ h)
      · rcases List.mem_cons.1 h with h | h
        · exact Or.inr h
        · exact Or.inl h
theorem sortM_with {l : List MA} (x : MA) (h : SortM l) : SortM (withM l x) := by
  induction l with
  | nil => simp [withM, SortM]
  | cons a t ih =>
    unfold SortM at h ih ⊢
    rw [List.pairwise_cons] at h
    unfold withM
    split
    · rename_i h1
      rw [List.pairwise_cons]
      refine ⟨fun y hy => ?_, ih h.2⟩
      rcases withM_mem hy with hy | rfl
      · exact h.1 y hy
      · exact h1
    · rename_i h1
      split
      · rename_i h2
        rw [List.pairwise_cons]
        exact ⟨fun y hy => by rw [← h2]; exact h.1 y hy, h.2⟩
      · rename_i h2
        have h3 : x.1.k < a.1.k := Classical.byContradiction fun h3 => h2 (lt_total_u8 _ _ h1 h3)
        rw [List.pairwise_cons, List.pairwise_cons]
        refine ⟨fun y hy => ?_, h.1, h.2⟩
        rcases List.mem_cons.1 hy with rfl | hy
        · exact h3
        · exact List.lt_trans h3 (h.1 y hy)
theorem with_set : ∀ (l : List MA) (x : MA) (i : Nat) (hi : i < l.length), (∀ z (h : z < l.length), z < i → (l[z]'h).1.k < x.1.k) → (l[i]'hi).1.k = x.1.k → withM l x = l.set i x
  | [], x, i, hi, _, _ => absurd hi (by simp)
  | a :: t, x, 0, hi, _, he => by
    have he : a.1.k = x.1.k := he
    unfold withM
    rw [if_neg (by rw [he]; exact lt_irr _), if_pos he]
    rfl
  | a :: t, x, i + 1, hi, hl, he => by
    have h0 : a.1.k < x.1.k := hl 0 (by simp) (by omega)
    unfold withM
    rw [if_pos h0, with_set t x i (by simpa using hi) (fun z h hz => hl (z + 1) (by simpa using h) (by omega)) he]
    rfl
theorem with_ins : ∀ (l : List MA) (x : MA) (i : Nat), i ≤ l.length → (∀ z (h : z < l.length), z < i → (l[z]'h).1.k < x.1.k) → (∀ h : i < l.length, ¬ (l[i]'h).1.k < x.1.k ∧ ¬ (l[i]'h).1.k = x.1.k) → withM l x = l.take i ++ x :: l.drop i
  | [], x, i, hi, _, _ => by simp [withM]
  | a :: t, x, 0, hi, _, he => by
    have he := he (by simp)
    simp only [List.getElem_cons_zero] at he
    unfold withM
    rw [if_neg he.1, if_neg he.2]
    rfl
  | a :: t, x, i + 1, hi, hl, he => by
    have h0 : a.1.k < x.1.k := hl 0 (by simp) (by omega)
    unfold withM
    rw [if_pos h0, with_ins t x i (by simpa using hi) (fun z h hz => hl (z + 1) (by simpa using h) (by omega)) (fun h => he (by simpa using h))]
    rfl
theorem cmp_eq0 {a b : List UInt8} : Lib.compareBytes a b = 0 ↔ a = b := ⟨cmp_eq1 a b, fun h => by rw [h]; exact cmp_self b⟩
theorem found_set {l : List MA} {x : MA} {i : Nat} (h : Found l x.1.k i true) : i < l.length ∧ withM l x = l.set i x := by
  obtain ⟨h1, h2⟩ := h.hf.1 rfl
  exact ⟨h1, with_set l x i h1 (fun z hz hzi => (cmp_lt _ _).1 (h.lt z hz hzi)) (cmp_eq0.1 h2)⟩
theorem found_ins {l : List MA} {x : MA} {i : Nat} (h : Found l x.1.k i false) : withM l x = l.take i ++ x :: l.drop i :=
  with_ins l x i h.hi (fun z hz hzi => (cmp_lt _ _).1 (h.lt z hz hzi)) (fun hi => ⟨fun hh => by
    have := (cmp_lt _ _).2 hh
    have := h.ge i hi (Nat.le_refl _)
    omega, fun hh => by
    have := h.hf.2 ⟨hi, cmp_eq0.2 hh⟩
    cases this⟩)
theorem sortM_mono {l : List MA} (h : SortM l) (t : List UInt8) : ∀ (a b : Nat) (ha : a < l.length) (hb : b < l.length), a ≤ b → Lib.compareBytes (l[b]'hb).1.k t < 0 → Lib.compareBytes (l[a]'ha).1.k t < 0 := by
  intro a b ha hb hab hlt
  rw [cmp_lt] at hlt ⊢
  rcases Nat.lt_or_ge a b with h1 | h1
  · exact List.lt_trans (List.pairwise_iff_getElem.1 h a b ha hb h1) hlt
  · obtain rfl : a = b := by omega
    exact hlt
def fB (l : List MA) : List BM := l.map fun x => toB x.1
theorem putB_perm {l l' : List BM} (m : BM) (h : l.Perm l') : (putB l m).Perm (putB l' m) := by
  have e : l.any (fun x => x.k = m.k) = l'.any (fun x => x.k = m.k) := by
    rw [Bool.eq_iff_iff, any_key, any_key]
    exact (h.map _).mem_iff
  unfold putB
  rw [e]
  split
  · exact h.map _
  · exact h.append_right _
theorem with_perm {l : List MA} (x : MA) (h : SortM l) : (fB (withM l x)).Perm (putB (fB l) (toB x.1)) := by
  have key : ∀ (l : List MA), SortM l → (∀ y ∈ l, x.1.k < y.1.k) → toB x.1 :: fB l = fB (x :: l) ∧ ¬ (fB l).any (fun y => y.k = (toB x.1).k) = true := by
    intro l _ hl
    refine ⟨rfl, fun hh => ?_⟩
    rw [any_key] at hh
    obtain ⟨y, hy, he⟩ := List.mem_map.1 hh
    obtain ⟨z, hz, rfl⟩ := List.mem_map.1 hy
    have h1 := hl z hz
    have he : z.1.k = x.1.k := he
    rw [he] at h1
    exact lt_irr _ h1
  induction l with
  | nil => simp [withM, fB, putB]
  | cons a t ih =>
    have h' := h
    unfold SortM at h
    rw [List.pairwise_cons] at h
    have ih := ih h.2
    unfold withM
    split
    · rename_i h1
      have hne : ¬ (toB a.1).k = (toB x.1).k := fun e => by
        have e : a.1.k = x.1.k := e
        rw [e] at h1
        exact lt_irr _ h1
      have hp : putB (fB (a :: t)) (toB x.1) = toB a.1 :: putB (fB t) (toB x.1) := by
        show putB (toB a.1 :: fB t) (toB x.1) = _
        unfold putB
        rw [List.any_cons, decide_eq_false hne, Bool.false_or, List.map_cons, if_neg hne]
        split <;> rfl
      rw [hp]
      exact ih.cons _
    · rename_i h1
      split
      · rename_i h2
        have hp : putB (fB (a :: t)) (toB x.1) = toB x.1 :: fB t := by
          show putB (toB a.1 :: fB t) (toB x.1) = _
          have h2' : (toB a.1).k = (toB x.1).k := h2
          have hk := (key t h.2 (fun y hy => by rw [← h2]; exact h.1 y hy)).2
          rw [any_key] at hk
          unfold putB
          rw [List.any_cons, decide_eq_true h2', Bool.true_or, if_pos rfl, List.map_cons, if_pos h2', rep_none _ _ hk]
        rw [hp]
        exact List.Perm.refl _
      · rename_i h2
        have h3 : x.1.k < a.1.k := Classical.byContradiction fun h3 => h2 (lt_total_u8 _ _ h1 h3)
        have hk := key (a :: t) h' (fun y hy => by
          rcases List.mem_cons.1 hy with rfl | hy
          · exact h3
          · exact List.lt_trans h3 (h.1 y hy))
        have hp : putB (fB (a :: t)) (toB x.1) = fB (a :: t) ++ [toB x.1] := by
          unfold putB
          rw [if_neg hk.2]
        rw [hp]
        exact (List.perm_append_comm (l₁ := [toB x.1]) (l₂ := fB (a :: t)))
theorem rdB_toB (l : List MA) : (fB l).map rdB = l.map (·.1) := by
  unfold fB
  rw [List.map_map]
  rfl
theorem sortedM_eq {ml wl : List MA} {L : List BM} (hs : ml.Pairwise (fun x y => ltK y x = false)) (hp : (ml.map (·.1)).Perm (L.map rdB)) (hw : SortM wl) (hp' : (fB wl).Perm L) : ml.map (·.1) = wl.map (·.1) := by
  have hq : (ml.map (·.1)).Perm (wl.map (·.1)) := by rw [← rdB_toB wl]; exact hp.trans (hp'.symm.map _)
  refine List.Perm.eq_of_pairwise (le := fun a b : Mem => ¬ b.k < a.k) ?_ ?_ ?_ hq
  · intro a b ha hb h1 h2
    have ha' := hq.mem_iff.1 ha
    obtain ⟨i, hi, rfl⟩ := List.mem_iff_getElem.1 ha'
    obtain ⟨j, hj, rfl⟩ := List.mem_iff_getElem.1 hb
    have hi' : i < wl.length := by simpa using hi
    have hj' : j < wl.length := by simpa using hj
    simp only [List.getElem_map] at h1 h2 ⊢
    rcases Nat.lt_trichotomy i j with h | h | h
    · exact absurd (List.pairwise_iff_getElem.1 hw i j hi' hj' h) h2
    · subst h; rfl
    · exact absurd (List.pairwise_iff_getElem.1 hw j i hj' hi' h) h1
  · rw [List.pairwise_map]
    exact hs.imp fun {x y} h => by simpa [ltK] using h
  · rw [List.pairwise_map]
    exact hw.imp fun {x y} h h2 => lt_irr _ (List.lt_trans h h2)
end Go.Proofs.YtpgookhdffklkaaGreatDoor

namespace Go.Proofs.YtpgookhdffklkaaGreatDoor
open Go.RowKit
def srt (ts : List (List UInt8)) : List (List UInt8) := ts.mergeSort fun x y => decide (x ≤ y)
theorem srt_len (ts : List (List UInt8)) : (srt ts).length = ts.length := by simp [srt]
theorem srt_perm {a b : List (List UInt8)} (h : a.Perm b) : srt a = srt b := by
  have hs : ∀ l : List (List UInt8), (srt l).Pairwise fun x y => x ≤ y := fun l => by
    have := List.pairwise_mergeSort (le := fun x y : List UInt8 => decide (x ≤ y)) (fun a b c h1 h2 => by simp only [decide_eq_true_eq] at *; exact List.le_trans h1 h2) (fun a b => by simp only [Bool.or_eq_true, decide_eq_true_eq]; exact List.le_total a b) l
    exact this.imp fun h => by simpa using h
  refine List.Perm.eq_of_pairwise (le := fun x y : List UInt8 => x ≤ y) (fun x y _ _ h1 h2 => List.le_antisymm h1 h2) (hs a) (hs b) ?_
  exact ((List.mergeSort_perm a _).trans h).trans (List.mergeSort_perm b _).symm
theorem sort54_any (ts : List (List UInt8)) (v : Value) (base : Nat) (w : World) (hn : ts.length ≤ 1000000) (h : w.ownsRow base 9 1 v ts.length (strs ts)) :
    Calls Tryz.prog 54 #[v] w fun e w' => e = .returned (.tuple #[]) ∧ w'.ownsRow base 9 1 v (srt ts).length (strs (srt ts)) ∧ Below base w w' := by
  have h' := h
  rcases h.2 with ⟨rfl, h0⟩ | ⟨g, cap, cur, rfl, hbase, hb, h1, h2, h3, h4⟩
  · obtain rfl : ts = [] := List.eq_nil_of_length_eq_zero h0
    refine (Tryz.slices_Sort_string_none none 0 w).mono ?_
    rintro e w' ⟨rfl, rfl⟩
    exact ⟨rfl, own_cast h' (by simp [srt]) (by simp [srt]), Below.refl _ _⟩
  · have hH := holds_of_block (ss := ts) hb (by have z := h4; rw [Nat.mul_one] at z; exact z)
    have hlt : g < w.heap.size := (Array.getElem?_eq_some_iff.1 hb).1
    refine (Tryz.slices_Sort_string g 0 cap ts w hH hlt (by omega)).mono ?_
    rintro e w' ⟨rfl, n, os, rfl⟩
    refine ⟨rfl, ?_, below_row (Below.refl base w) (grownBy_sorted _) (by omega) hbase⟩
    have z := ownsRow_sorted (n := n) (os := os) (ss := ts) (ts := srt ts) (srt_len ts) hbase hb h1 h2 h3
    exact own_cast z (srt_len ts).symm rfl
theorem mem_join {c : UInt8} {ts : List (List UInt8)} {x : UInt8} (h : x ∈ Lib.join ts [c]) : x = c ∨ ∃ t ∈ ts, x ∈ t := by
  induction ts with
  | nil => rw [Lib.join_nil] at h; cases h
  | cons t r ih =>
    cases r with
    | nil => rw [Lib.join_one] at h; exact Or.inr ⟨t, by simp, h⟩
    | cons u s =>
      have e : Lib.join (t :: u :: s) [c] = t ++ c :: Lib.join (u :: s) [c] := by
        rw [Lib.join_cons, Lib.join_cons]
        simp [Lib.joinTail]
      rw [e] at h
      rcases List.mem_append.1 h with h | h
      · exact Or.inr ⟨t, by simp, h⟩
      · rcases List.mem_cons.1 h with h | h
        · exact Or.inl h
        · rcases ih h with h | ⟨t', h1, h2⟩
          · exact Or.inl h
          · exact Or.inr ⟨t', by simp [List.mem_cons.1 h1], h2⟩
end Go.Proofs.YtpgookhdffklkaaGreatDoor

namespace Go.Proofs.YtpgookhdffklkaaGreatDoor
open Go.RowKit
def spl (s : List UInt8) : List (List UInt8) := if s = [] then [] else splitC 44 s
theorem split_len (c : UInt8) (l : List UInt8) : (splitC c l).length ≤ l.length + 1 := by
  induction h : l.length using Nat.strongRecOn generalizing l with
  | ind n ih =>
    cases hp : pos1 c l with
    | none => rw [splitC_none hp]; simp
    | some i =>
      have hi := pos1_lt hp
      rw [splitC_some hp, List.length_cons]
      have := ih (l.drop (i + 1)).length (by rw [List.length_drop]; omega) (l.drop (i + 1)) rfl
      rw [List.length_drop] at this
      omega
set_option maxRecDepth 100000 in
set_option maxHeartbeats 2000000 in
theorem bagTexts_any (s : List UInt8) (w : World) (hs : s.length ≤ 900000) :
    Calls Tryz.prog 22 #[.string (bs s)] w fun e w' => (∃ v, e = .returned v ∧ w'.ownsRow w.heap.size 9 1 v (srt (spl s)).length (strs (srt (spl s)))) ∧ Below w.heap.size w w' := by
  by_cases h0 : s = []
  · subst h0
    go_enter Tryz.func22, Tryz.ntmps22
    go_wp2
    go_ret
    exact ⟨⟨_, rfl, own_cast (World.ownsRow_nil _ _ _ _) (by simp [srt, spl]) (by simp [srt, spl, strs])⟩, Below.refl _ _⟩
  · have e : spl s = splitC 44 s := by simp [spl, h0]
    have hne : (s == []) = false := by
      cases s with
      | nil => exact absurd rfl h0
      | cons a t => rfl
    rw [e]
    have hl := split_len 44 s
    have C1 := Lib.hid (bagSplit_any s 44 w (by omega))
    have C2 := fun v W h => Lib.hid (sort54_any (splitC 44 s) v w.heap.size W (by omega) h)
    clear e h0
    go_enter Tryz.func22, Tryz.ntmps22
    go_wp2_with (first
      | (go_at_call 53; (refine C1.out.mono ?_); rintro e w1 ⟨⟨v1, rfl, hown1⟩, hb1⟩; have HO1 := Lib.hid hown1; have HB1 := Lib.hid hb1; clear hown1 hb1)
      | (go_at_call 54; (with_reducible refine (C2 _ _ HO1.out).out.mono ?_); rintro e w2 ⟨rfl, hown2, hb2⟩; have HO2 := Lib.hid hown2; have HB2 := Lib.hid (HB1.out.trans hb2); clear hown2 hb2))
    go_ret
    exact ⟨⟨_, rfl, HO2.out⟩, HB2.out⟩
def txts (l : List MA) : List (List UInt8) := (l.map fun x => mText (toB x.1)).filter fun s => !s.isEmpty
theorem txts_snoc (l : List MA) (k : Nat) (h : k < l.length) : txts (l.take (k + 1)) = txts (l.take k) ++ if (mText (toB l[k].1)).isEmpty then [] else [mText (toB l[k].1)] := by
  unfold txts
  rw [List.take_succ_eq_append_getElem h, List.map_append, List.filter_append]
  congr 1
  simp only [List.map_cons, List.map_nil, List.filter_cons, List.filter_nil]
  cases (mText (toB l[k].1)).isEmpty <;> rfl
theorem txts_len (l : List MA) : (txts l).length ≤ l.length := by
  unfold txts
  exact Nat.le_trans (List.length_filter_le _ _) (by simp)
/-- What a member's text asks of it. -/
structure SmA (x : MA) : Prop where
  lk : x.1.k.length ≤ 1000
  lv : x.1.v.length ≤ 1000
  ln : x.1.ps.length ≤ 1000
  lp : ∀ p ∈ x.1.ps, p.k.length ≤ 1000 ∧ p.v.length ≤ 1000
set_option maxRecDepth 100000 in
set_option maxHeartbeats 8000000 in
theorem texts_any (l : List MA) (v : Value) (w : World) (hv : RowC w v l) (hn : l.length ≤ 1000) (hsm : ∀ x ∈ l, SmA x) :
    Calls Tryz.prog 23 #[v] w fun e w' => (∃ v', e = .returned v' ∧ w'.ownsRow w.heap.size 9 1 v' (srt (txts l)).length (strs (srt (txts l)))) ∧ Below w.heap.size w w' := by
  obtain ⟨A, q, hq⟩ := hv.1.form
  subst hq
  have HV := Lib.hid hv
  have HSm := Lib.hid hsm
  clear hv hsm
  go_enter Tryz.func23, Tryz.ntmps23
  go_wp2
  go_loopw [3, 5, 6, 9] (fun sv _ _ i wr => ∃ j : Nat, j ≤ l.length ∧ i = .int .i64 j ∧ wr.ownsRow w.heap.size 9 1 sv (txts (l.take j)).length (strs (txts (l.take j))) ∧ Below w.heap.size w wr) (fun _ _ _ i _ => l.length - (intOf i).toNat)
  case atStart => exact ⟨0, Nat.zero_le _, rfl, World.ownsRow_nil _ _ _ _, Below.refl _ _⟩
  case round =>
    obtain ⟨j, hj, rfl, hown, hb⟩ := hrel
    have HB := Lib.hid hb
    have HO := Lib.hid hown
    have hge := hb.size
    clear hb hown
    by_cases hlt : j < l.length
    · obtain ⟨b, off, c, hq, -, -, hbw, hc⟩ := HV.out.1.cells (flatA_ne' (by intro e; rw [e] at hlt; simp at hlt))
      injection hq with hq1 hq2 hq3
      subst hq1; subst hq3
      clear hq2
      obtain ⟨i0, i1, i2⟩ := cellsAt' (fun z u hz => (HB.out.cell (p := ⟨b, off + z, none⟩) hbw).trans (hc z u hz)) j hlt
      have HX := Lib.hid (HV.out.2 _ (List.getElem_mem hlt))
      have HS := Lib.hid (HSm.out _ (List.getElem_mem hlt))
      have HT2 := Lib.hid (txts_snoc l j hlt)
      have hlp : (txts (l.take j)).length ≤ 4294967296 := by have := txts_len (l.take j); rw [List.length_take] at this; omega
      clear hc
      generalize l[j]'hlt = x at i0 i1 i2 HX HS HT2
      obtain ⟨⟨xk, xv, xps⟩, xA, xq⟩ := x
      dsimp only at i0 i1 i2 HX HS HT2
      have HWa := Lib.hid ((Below.refl wr.heap.size wr).alloc (Nat.le_refl _) (.cells #[.string (bs xk), .string (bs xv), .slice xA xps.length xq] 29))
      have C := Lib.hid (memText_any xk xv xps xA xq (wr.alloc (.cells #[.string (bs xk), .string (bs xv), .slice xA xps.length xq] 29)) ((HX.out.below HB.out).below HWa.out) (fun p hp => by have z := HS.out.lp p hp; exact ⟨by omega, by omega⟩) (by have := HS.out.ln; simp only at this; omega) (by have := HS.out.lk; simp only at this; omega) (by have := HS.out.lv; simp only at this; omega))
      have htb : toB (⟨xk, xv, xps⟩ : Mem) = ⟨xk, xv, [], xps⟩ := rfl
      rw [htb] at HT2
      cases hem : (mText ⟨xk, xv, [], xps⟩).isEmpty
      · rw [hem] at HT2
        have hne : (mText ⟨xk, xv, [], xps⟩ == []) = false := by
          cases hh : mText ⟨xk, xv, [], xps⟩ with
          | nil => rw [hh] at hem; cases hem
          | cons a t => rfl
        generalize mText ⟨xk, xv, [], xps⟩ = T at *
        go_wp2_with (first
          | (go_at_call 13; (with_reducible refine C.out.mono ?_); rintro e w3 ⟨rfl, hb3⟩; have HW3 := Lib.hid (HWa.out.trans (hb3.mono (by simp))); have HO3 := Lib.hid (own_below HO.out HW3.out); have HB3 := Lib.hid (HB.out.trans (HW3.out.mono hge)); have hsz3 := HB3.out.size; clear hb3)
          | (at_builtin; refine app1 rfl (.tmp 17) (.tmp 19) 46 rfl w.heap.size 9 9 _ 1 16 Tryz.underlying46 info9 rfl (by decide) (by decide) u3 _ _ rfl [.string (bs T)] HO3.out rfl rfl (one_str _) hlp hsz3 ?_; intro v4 w4 hown4 hg4 _))
        exact ⟨⟨j + 1, by omega, by go_num, own_cast hown4 (by rw [HT2.out]; simp) (by rw [HT2.out]; simp [strs]), below_app HB3.out hsz3 HO3.out (Nat.le_refl _) hg4⟩, by simp [intOf]; omega⟩
      · rw [hem] at HT2
        have hne : mText ⟨xk, xv, [], xps⟩ = [] := List.isEmpty_iff.1 hem
        rw [hne] at C
        clear hne hem
        go_wp2_with (go_at_call 13; (with_reducible refine C.out.mono ?_); rintro e w3 ⟨rfl, hb3⟩; have HW3 := Lib.hid (HWa.out.trans (hb3.mono (by simp))); have HO3 := Lib.hid (own_below HO.out HW3.out); have HB3 := Lib.hid (HB.out.trans (HW3.out.mono hge)); clear hb3)
        exact ⟨⟨j + 1, by omega, by go_num, own_cast HO3.out (by rw [HT2.out]; simp) (by rw [HT2.out]; simp), HB3.out⟩, by simp [intOf]; omega⟩
    · obtain rfl : j = l.length := by omega
      rw [List.take_of_length_le (Nat.le_refl _)] at HO
      have hlp := txts_len l
      have C := Lib.hid (sort54_any (txts l) u3 w.heap.size wr (by omega) HO.out)
      go_wp2_with (go_at_call 54; (with_reducible refine C.out.mono ?_); rintro e w3 ⟨rfl, hown3, hb3⟩; have HO3 := Lib.hid hown3; have HB3 := Lib.hid (HB.out.trans hb3); clear hb3 hown3)
      go_ret
      exact ⟨⟨_, rfl, HO3.out⟩, HB3.out⟩
end Go.Proofs.YtpgookhdffklkaaGreatDoor
