/-
  laws: members held against entries; one member injected and extracted.
-/
import Derived.Test.YtpgookhdffklkaaGreatDoorSpecE
namespace Go.Proofs.YtpgookhdffklkaaGreatDoor
open Go.RowKit

def toMem (x : En) : Mem := ⟨x.1, x.2, []⟩
theorem en_unique {l : List En} (hn : (l.map (·.1)).Nodup) {x y : En} (hx : x ∈ l) (hy : y ∈ l) (h : x.1 = y.1) : x = y := by
  induction l with
  | nil => cases hx
  | cons a t ih =>
    rw [List.map_cons, List.nodup_cons] at hn
    rcases List.mem_cons.1 hx with e1 | hx1
    · rcases List.mem_cons.1 hy with e2 | hy1
      · rw [e1, e2]
      · exact absurd (List.mem_map_of_mem (f := fun x : En => x.1) hy1) (by rw [← h, e1]; exact hn.1)
    · rcases List.mem_cons.1 hy with e2 | hy1
      · exact absurd (List.mem_map_of_mem (f := fun x : En => x.1) hx1) (by rw [h, e2]; exact hn.1)
      · exact ih hn.2 hx1 hy1
theorem lt_total_u8 : ∀ a b : List UInt8, ¬ a < b → ¬ b < a → a = b
  | [], [] => fun _ _ => rfl
  | [], _ :: _ => fun h _ => absurd (List.nil_lt_cons _ _) h
  | _ :: _, [] => fun _ h => absurd (List.nil_lt_cons _ _) h
  | a :: ar, b :: br => fun h1 h2 => by
    rw [List.cons_lt_cons_iff] at h1 h2
    have e : a = b := by
      rcases UInt8.lt_or_lt_of_ne (a := a) (b := b) |> fun f => Classical.em (a = b) with h | h
      · exact h
      · rcases UInt8.lt_or_lt_of_ne h with h | h
        · exact absurd (Or.inl h) h1
        · exact absurd (Or.inl h) h2
    subst e
    rw [lt_total_u8 ar br (fun h => h1 (Or.inr ⟨rfl, h⟩)) (fun h => h2 (Or.inr ⟨rfl, h⟩))]
theorem sorted_eq {ml : List MA} {l l' : List En} (hs : ml.Pairwise (fun x y => ltK y x = false)) (hs' : l'.Pairwise (fun x y => ¬ y.1 < x.1)) (hp : (ml.map (·.1)).Perm (l.map toMem)) (hp' : l'.Perm l) (hnd : (l.map (·.1)).Nodup) : ml.map (·.1) = l'.map toMem := by
  refine List.Perm.eq_of_pairwise (le := fun a b : Mem => ¬ b.k < a.k) ?_ ?_ ?_ (hp.trans (hp'.symm.map _))
  · intro a b ha hb h1 h2
    obtain ⟨x, hx, rfl⟩ := List.mem_map.1 (hp.mem_iff.1 ha)
    obtain ⟨y, hy, rfl⟩ := List.mem_map.1 hb
    have := en_unique hnd hx (hp'.mem_iff.1 hy) (lt_total_u8 x.1 y.1 (fun h => h2 h) (fun h => h1 h))
    rw [this]
  · rw [List.pairwise_map]
    exact hs.imp fun {x y} h => by simpa [ltK] using h
  · rw [List.pairwise_map]
    exact hs'

set_option maxRecDepth 100000 in
set_option maxHeartbeats 4000000 in
theorem carryIs_true (ml : List MA) (l : List En) (v1 v2 : Value) (w : World) (h1 : RowA w 82 146 v1 ml) (hs : ml.Pairwise (fun x y => ltK y x = false)) (h2 : RowE w v2 l) (hp : (ml.map (·.1)).Perm (l.map toMem)) (hnd : (l.map (·.1)).Nodup) (hn : l.length ≤ 1000000) :
    Calls Tryz.prog 30 #[v1, v2] w fun e w' => e = .returned (.bool true) ∧ Below w.heap.size w w' := by
  obtain ⟨A1, q1, hq1⟩ := h1.1.form
  subst hq1
  have HV := Lib.hid h1
  have C1 := fun W h => Lib.hid (cloneE_any l v2 W h hn)
  have C2 := fun v W h => Lib.hid (sortE_any l v w.heap.size W hn h)
  have H2 := Lib.hid h2
  have HSq := Lib.hid (fun (l' : List En) (a : l'.Perm l) (b : l'.Pairwise (fun x y => ¬ y.1 < x.1)) => sorted_eq hs b hp a hnd)
  have hml : ml.length = l.length := by have := hp.length_eq; simpa using this
  have HMl := Lib.hid hml
  have hmb : ml.length ≤ 1000000 := by omega
  clear h1 h2 hs hp hnd hml
  go_enter Tryz.func30, Tryz.ntmps30
  go_wp2_with (first
    | (go_at_call 65; (with_reducible refine (C1 _ H2.out).out.mono ?_); rintro e w3 ⟨⟨v', rfl, hown⟩, hb3⟩; have HB3 := Lib.hid hb3; have HO3 := Lib.hid hown; clear hb3 hown)
    | (go_at_call 66; (with_reducible refine (C2 _ _ HO3.out).out.mono ?_); rintro e w4 ⟨rfl, l', hp', hs', hsl', hb4⟩; have HB4 := Lib.hid (HB3.out.trans hb4); have HEq := Lib.hid (HSq.out l' hp' hs'); have HS4 := Lib.hid hsl'; obtain ⟨A4, q4, hq4⟩ := hsl'.form; subst hq4; have hl' := hp'.length_eq; rw [← HMl.out] at hl'; clear hp' hs' hsl' hb4))
  go_loopw [6, 7, 19] (fun _ _ i wr => ∃ k : Nat, k ≤ ml.length ∧ i = .int .i64 k ∧ Below w4.heap.size w4 wr) (fun _ _ i _ => ml.length - (intOf i).toNat)
  case atStart => exact ⟨0, Nat.zero_le _, rfl, Below.refl _ _⟩
  case round =>
    obtain ⟨k, hk, rfl, hb⟩ := hrel
    have HB := Lib.hid hb
    have HBw := Lib.hid (HB4.out.trans (hb.mono HB4.out.size))
    have hge := HBw.out.size
    clear hb
    by_cases hlt : k < ml.length
    · have hltl : k < l'.length := by omega
      have hne1 : ml ≠ [] := by intro e; rw [e] at hlt; simp at hlt
      have hne2 : l' ≠ [] := by intro e; rw [e] at hltl; simp at hltl
      obtain ⟨b1, o1, c1, hq, hc1, hc2, hbb1, hcl1⟩ := HV.out.1.cells (flatA_ne hne1)
      injection hq with hq1 hq2 hq3
      subst hq1; subst hq3
      obtain ⟨b2, o2, c2, hq', hc1', hc2', hbb2, hcl2⟩ := HS4.out.cells (flatE_ne hne2)
      injection hq' with hq1' hq2' hq3'
      subst hq1'; subst hq3'
      have hbb3 : b2 < wr.heap.size := by have := HB.out.size; omega
      obtain ⟨i0, i1, i2⟩ := cellsAt (fun z u hz => (HBw.out.cell (p := ⟨b1, o1 + z, none⟩) hbb1).trans (hcl1 z u hz)) k hlt
      obtain ⟨j0, j1⟩ := cellsE (fun z u hz => (HB.out.cell (p := ⟨b2, o2 + z, none⟩) hbb2).trans (hcl2 z u hz)) k hltl
      have he : ml[k].1 = toMem l'[k] := by
        have z := List.getElem_of_eq HEq.out (i := k) (by simpa using hlt)
        simpa using z
      have e1 : l'[k].1 = ml[k].1.k := by rw [he]; rfl
      have e2 : l'[k].2 = ml[k].1.v := by rw [he]; rfl
      have e3 : ml[k].1.ps.length = 0 := by rw [he]; rfl
      rw [e1] at j0
      rw [e2] at j1
      rw [e3] at i2
      have hcA := fun (o : Obj) (z : Nat) => (((Below.refl wr.heap.size wr).alloc (Nat.le_refl _) o).cell (p := ⟨b2, z, none⟩) hbb3)
      have hkl : (0 : Int) ≤ (k : Int) := by omega
      have hkl2 : (k : Int) < (l'.length : Int) := by omega
      clear hcl1 hcl2 he e1 e2 e3 hne1 hne2
      go_wp2
      go_quiet (fail)
      go_wp2
      exact ⟨⟨k + 1, by omega, by go_num, below_drewN (HB.out.alloc HB.out.size _) nq⟩, by simp [intOf]; omega⟩
    · go_wp2
      go_ret
      exact ⟨rfl, HBw.out⟩

/-! ### Entries as members -/
def toBE (x : En) : BM := ⟨x.1, x.2, [], []⟩
theorem tok_valid {k : List UInt8} (h : tok k = true) : Lib.validD k = true := by
  have h1 := Lib.validD_ascii k.length k (fun b hb => by
    rw [List.take_of_length_le (Nat.le_refl _)] at hb
    exact keyN_lt (List.all_eq_true.1 (tok_all h) b hb))
  rw [h1, List.drop_of_length_le (Nat.le_refl _)]
  exact valid_nil
theorem okE_parts {x : En} (h : okE x = true) : tok x.1 = true ∧ x.1.length ≤ 40 ∧ x.2.length ≤ 40 ∧ Lib.validD x.2 = true := by
  simp only [okE, Bool.and_eq_true, decide_eq_true_eq] at h
  exact ⟨h.1.1.1, h.1.1.2, h.1.2, h.2⟩
theorem okE_pl {x : En} (h : okE x = true) : PlM (toBE x) := by
  obtain ⟨h1, h2, h3, h4⟩ := okE_parts h
  exact ⟨rfl, rfl, h1, h4, by show x.1.length ≤ _; omega, by show x.2.length ≤ _; omega⟩
theorem okE_ok {x : En} (h : okE x = true) : OkM (toBE x) := by
  obtain ⟨h1, h2, h3, h4⟩ := okE_parts h
  have h5 := tok_ne h1
  refine ⟨?_, by show x.1.length ≤ _; omega, by show x.2.length ≤ _; omega, (fun p hp => by cases hp), Nat.zero_le _⟩
  show okB x.1 x.2 = true
  have : x.1.isEmpty = false := by cases hx : x.1 with
    | nil => rw [hx] at h5; simp at h5
    | cons a t => rfl
  simp [okB, this, tok_valid h1, h4]
theorem toB_toMA (x : En) : toB (toMA x).1 = toBE x := rfl
theorem map_toB (l : List En) : ((l.map toMA).map fun x => toB x.1) = l.map toBE := by rw [List.map_map]; rfl
theorem putB_new {l : List BM} {m : BM} (h : m.k ∉ l.map (·.k)) : putB l m = l ++ [m] := by
  unfold putB
  rw [if_neg (fun e => h ((any_key l m.k).1 e))]
theorem foldB_nd (l : List BM) : ∀ acc : List BM, ((acc ++ l).map (·.k)).Nodup → l.foldl putB acc = acc ++ l := by
  induction l with
  | nil => intro acc _; simp
  | cons m t ih =>
    intro acc h
    have h2 : m.k ∉ acc.map (·.k) := by
      rw [List.map_append, List.map_cons, List.nodup_append] at h
      intro hm
      exact h.2.2 _ hm _ (by simp) rfl
    rw [List.foldl_cons, putB_new h2, ih _ (by simpa using h)]
    simp
theorem dedB_id {l : List BM} (h : (l.map (·.k)).Nodup) : dedB l = l := by
  have := foldB_nd l [] (by simpa using h)
  simpa [dedB] using this
theorem keysBE (l : List En) : (l.map toBE).map (·.k) = l.map (·.1) := by rw [List.map_map]; rfl
theorem mText_len {x : En} (h : okE x = true) : (mText (toBE x)).length ≤ 161 := by
  obtain ⟨h1, h2, h3, h4⟩ := okE_parts h
  rw [(okE_pl h).text]
  have h5 := encL_len x.2
  have h6 := escN_le x.2
  simp only [List.length_append, List.length_cons]
  show x.1.length + ((encL x.2).length + 1) ≤ 161
  omega
theorem tot_small {l : List En} (h : RightE l) : tot (l.map toBE) ≤ 8192 := by
  have h1 : Lib.lens ((l.map toBE).map mText) ≤ ((l.map toBE).map mText).length * 161 := lens_le _ _ (fun t ht => by
    obtain ⟨m, hm, rfl⟩ := List.mem_map.1 ht
    obtain ⟨x, hx, rfl⟩ := List.mem_map.1 hm
    exact mText_len (h.1 x hx))
  have h2 := h.2.2
  unfold tot
  simp only [List.length_map] at *
  omega

end Go.Proofs.YtpgookhdffklkaaGreatDoor
