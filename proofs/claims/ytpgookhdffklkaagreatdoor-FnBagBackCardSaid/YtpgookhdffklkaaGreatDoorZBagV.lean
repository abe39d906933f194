/-
  slices.Equal at string, of the same texts; plain facts of FnBagMade.
-/
import Derived.Test.YtpgookhdffklkaaGreatDoorZBagR
import Derived.Test.YtpgookhdffklkaaGreatDoorZBagU
import Derived.Test.YtpgookhdffklkaaGreatDoorZParK
namespace Go.Proofs.YtpgookhdffklkaaGreatDoor
open Go.RowKit
theorem equalS_any (ts : List (List UInt8)) (v1 v2 : Value) (w : World) (h1 : SlV w 9 v1 ts.length (strs ts)) (h2 : SlV w 9 v2 ts.length (strs ts)) (hn : ts.length ≤ 1000000) :
    Calls Tryz.prog 21 #[v1, v2] w fun e w' => e = .returned (.bool true) ∧ Below w.heap.size w w' := by
  by_cases h0 : ts = []
  · subst h0
    obtain ⟨A1, q1, rfl⟩ := h1.form
    obtain ⟨A2, q2, rfl⟩ := h2.form
    refine (Tryz.slices_Equal_string_empty A1 A2 q1 0 q2 w (by omega)).mono ?_
    rintro e w' ⟨rfl, rfl⟩
    exact ⟨rfl, Below.refl _ _⟩
  · have hne : strs ts ≠ [] := by simpa [strs] using h0
    obtain ⟨b1, o1, q1, rfl, -, -, -, hc1⟩ := h1.cells hne
    obtain ⟨b2, o2, q2, rfl, -, -, -, hc2⟩ := h2.cells hne
    have hz := Tryz.slices_Equal_string b1 o1 ts.length q1 b2 o2 ts.length q2 (ts.map bs) (ts.map bs) w (by simp) (by simp) (by omega) (by omega)
      (fun j hj => by
        have hj' : j < ts.length := by simpa using hj
        rw [hc1 j (.string (bs ts[j])) (by simp [strs, hj'])]
        simp [List.getD, hj'])
      (fun j hj => by
        have hj' : j < ts.length := by simpa using hj
        rw [hc2 j (.string (bs ts[j])) (by simp [strs, hj'])]
        simp [List.getD, hj'])
    refine hz.mono ?_
    rintro e w' ⟨rfl, n, rfl⟩
    exact ⟨by simp, below_drewN (Below.refl _ _) _⟩
theorem encL_le3 (v : List UInt8) : (encL v).length ≤ 3 * v.length := by
  have h1 := encL_len v
  have h2 := escN_le v
  omega
theorem pText_len (p : Pr) : (pText p).length ≤ p.k.length + 1 + 3 * p.v.length := by
  have h := encL_le3 p.v
  unfold pText
  split
  · split
    · simp; omega
    · omega
  · simp
theorem lens_leM {B : Nat} {l : List (List UInt8)} (h : ∀ t ∈ l, t.length ≤ B) : Lib.lens l ≤ l.length * B := by
  induction l with
  | nil => simp [Lib.lens]
  | cons t r ih =>
    have h1 := h t (by simp)
    have h2 := ih (fun t' ht' => h t' (by simp [ht']))
    rw [lens_cons, List.length_cons, Nat.succ_mul]
    omega
theorem join_len1 (l : List (List UInt8)) (c : UInt8) : (Lib.join l [c]).length ≤ Lib.lens l + l.length := by
  cases l with
  | nil => simp [Lib.join_nil]
  | cons t r =>
    rw [Lib.join_length]
    simp only [List.length_cons, List.length_nil]
    omega
theorem lens_filter (p : List UInt8 → Bool) (l : List (List UInt8)) : Lib.lens (l.filter p) ≤ Lib.lens l := by
  induction l with
  | nil => simp [Lib.lens]
  | cons t r ih =>
    rw [List.filter_cons]
    split
    · rw [lens_cons, lens_cons]; omega
    · rw [lens_cons]; omega
theorem psText_len (ps : List Pr) (h : ∀ p ∈ ps, p.k.length ≤ 1000 ∧ p.v.length ≤ 1000) : (psText ps).length ≤ ps.length * 4002 := by
  unfold psText
  have h1 := join_len1 (pTexts ps) 59
  have h2 := pTexts_len ps
  have h3 : Lib.lens (pTexts ps) ≤ (pTexts ps).length * 4001 := lens_leM fun t ht => by
    obtain ⟨ht, _⟩ := List.mem_filter.1 ht
    obtain ⟨p, hp, rfl⟩ := List.mem_map.1 ht
    have := pText_len p
    have := h p hp
    omega
  have h4 : (pTexts ps).length * 4001 ≤ ps.length * 4001 := Nat.mul_le_mul_right _ h2
  omega
theorem mTextLen (x : MA) (h : SmA x) : (mText (toB x.1)).length ≤ 5000000 := by
  have h1 := encL_le3 x.1.v
  have h2 := psText_len x.1.ps h.lp
  have h3 := h.lk
  have h4 := h.lv
  have h5 := h.ln
  have h6 : x.1.ps.length * 4002 ≤ 1000 * 4002 := Nat.mul_le_mul_right _ h5
  unfold mText toB
  simp only
  split
  · rw [List.length_append, List.length_append, List.length_cons]
    split
    · split
      · simp; omega
      · simp; omega
    · rename_i h7; exact absurd rfl h7
  · simp
/-- The size of the texts of members. -/
def szB (l : List MA) : Nat := (l.map fun x => (mText (toB x.1)).length + 1).sum
theorem szB_snoc (l : List MA) (k : Nat) (h : k < l.length) : szB (l.take (k + 1)) = szB (l.take k) + ((mText (toB l[k].1)).length + 1) := by
  unfold szB
  rw [List.take_succ_eq_append_getElem h, List.map_append, List.sum_append]
  simp
theorem szB_le (l : List MA) (h : ∀ x ∈ l, SmA x) : szB l ≤ l.length * 5000001 := by
  induction l with
  | nil => simp [szB]
  | cons a t ih =>
    have h1 := mTextLen a (h a (by simp))
    have h2 := ih (fun x hx => h x (by simp [hx]))
    unfold szB at h2 ⊢
    rw [List.map_cons, List.sum_cons, List.length_cons, Nat.succ_mul]
    omega
theorem tot_szB (l : List MA) : tot (fB l) ≤ szB l := by
  have : Lib.lens ((fB l).map mText) + (fB l).length ≤ szB l := by
    induction l with
    | nil => simp [fB, szB, Lib.lens]
    | cons a t ih =>
      unfold fB szB at ih ⊢
      rw [List.map_cons, List.map_cons, lens_cons, List.length_cons, List.map_cons, List.sum_cons]
      omega
  unfold tot
  omega
theorem fB_len (l : List MA) : (fB l).length = l.length := by simp [fB]
theorem fB_take (l : List MA) (k : Nat) (h : k < l.length) : fB (l.take (k + 1)) = fB (l.take k) ++ [toB l[k].1] := by
  unfold fB
  rw [List.take_succ_eq_append_getElem h, List.map_append]; rfl
theorem toB_inj {a b : Mem} (h : toB a = toB b) : a = b := by
  obtain ⟨k, v, ps⟩ := a
  obtain ⟨k', v', ps'⟩ := b
  simp only [toB, BM.mk.injEq] at h
  obtain ⟨rfl, rfl, _, rfl⟩ := h
  rfl
theorem ded_from {wl l : List MA} (h : (fB wl).Perm (dedB (fB l))) {x : MA} (hx : x ∈ wl) : ∃ y ∈ l, y.1 = x.1 := by
  have h1 : toB x.1 ∈ dedB (fB l) := h.mem_iff.1 (List.mem_map_of_mem (f := fun x : MA => toB x.1) hx)
  have h2 := dedB_all (P := fun m => m ∈ fB l) (l := fB l) (fun m h => h) _ h1
  obtain ⟨y, hy, e⟩ := List.mem_map.1 h2
  exact ⟨y, hy, toB_inj e⟩
theorem SmA.same {x y : MA} (h : SmA y) (e : y.1 = x.1) : SmA x := ⟨by rw [← e]; exact h.lk, by rw [← e]; exact h.lv, by rw [← e]; exact h.ln, by rw [← e]; exact h.lp⟩
theorem mText_no44 (m : Mem) : ∀ x ∈ mText (toB m), x ≠ 44 := by
  intro x hx
  unfold mText at hx
  split at hx
  · rename_i hk
    have hk : tok m.k = true := hk
    rcases List.mem_append.1 hx with hx | hx
    · rcases List.mem_append.1 hx with hx | hx
      · exact (key_ne hk x hx).2.2
      · rcases List.mem_cons.1 hx with rfl | hx
        · decide
        · exact (val_ne _ x hx).2
    · split at hx
      · split at hx
        · cases hx
        · rcases List.mem_cons.1 hx with rfl | hx
          · decide
          · unfold psText at hx
            rcases mem_join hx with rfl | ⟨t, ht, hxt⟩
            · decide
            · obtain ⟨ht, hte⟩ := List.mem_filter.1 ht
              obtain ⟨p, hp, rfl⟩ := List.mem_map.1 ht
              by_cases hpk : tok p.k = true
              · exact (pText_no hpk x hxt).2
              · have : pText p = [] := by simp [pText, hpk]
                rw [this] at hxt
                cases hxt
      · rename_i h7; exact absurd rfl h7
  · cases hx
theorem spl_join {L : List BM} {l : List MA} (h : L.Perm (dedB (fB l))) : spl (Lib.join (wTexts L) [44]) = wTexts L := by
  by_cases h0 : wTexts L = []
  · rw [h0, Lib.join_nil]; rfl
  · have hno : ∀ t ∈ wTexts L, t ≠ [] ∧ ∀ x ∈ t, x ≠ 44 := fun t ht => by
      obtain ⟨ht, hte⟩ := List.mem_filter.1 ht
      obtain ⟨m, hm, rfl⟩ := List.mem_map.1 ht
      have h2 := dedB_all (P := fun m => m ∈ fB l) (l := fB l) (fun m h => h) _ (h.mem_iff.1 hm)
      obtain ⟨y, hy, rfl⟩ := List.mem_map.1 h2
      exact ⟨fun e => (by rw [e] at hte; cases hte), mText_no44 y.1⟩
    have hs := split_join (wTexts L) h0 (fun t ht => (hno t ht).2)
    have hne : Lib.join (wTexts L) [44] ≠ [] := by
      intro e
      rw [e] at hs
      have h1 : splitC 44 [] = [[]] := rfl
      rw [h1] at hs
      exact (hno [] (by rw [← hs]; simp)).1 rfl
    unfold spl
    rw [if_neg hne, hs]
theorem joinW_len (L : List BM) : (Lib.join (wTexts L) [44]).length ≤ tot L + 1 + L.length := by
  have h1 := join_len1 (wTexts L) 44
  have h2 : Lib.lens (wTexts L) ≤ Lib.lens (L.map mText) := lens_filter _ _
  have h3 : (wTexts L).length ≤ L.length := Nat.le_trans (List.length_filter_le _ _) (by simp)
  unfold tot
  omega
theorem txts_w (l : List MA) : txts l = wTexts (fB l) := by
  unfold txts wTexts fB
  rw [List.map_map]
  rfl
theorem wTexts_perm {a b : List BM} (h : a.Perm b) : (wTexts a).Perm (wTexts b) := (h.map _).filter _
end Go.Proofs.YtpgookhdffklkaaGreatDoor
