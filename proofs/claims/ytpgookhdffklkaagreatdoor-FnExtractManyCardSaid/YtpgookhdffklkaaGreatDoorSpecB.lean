/-
  laws: tokens; the sizes of entries; entries as members.
-/
import Derived.Test.YtpgookhdffklkaaGreatDoorSpecA
import Derived.Test.YtpgookhdffklkaaGreatDoorImplD
namespace Go.Proofs.YtpgookhdffklkaaGreatDoor
open Go.RowKit

set_option maxRecDepth 100000 in
set_option maxHeartbeats 2000000 in
theorem bagToken_any (l : List UInt8) (w : World) (hs : l.length ≤ 4611686018427387904) :
    Calls Tryz.prog 56 #[.string (bs l)] w fun e w' => e = .returned (.bool (tok l)) ∧ Below w.heap.size w w' := by
  go_enter Tryz.func56, Tryz.ntmps56
  go_wp2
  go_loopw [3, 6] (fun _ i wr => ∃ k : Nat, k ≤ l.length ∧ i = .int .i64 k ∧ (l.take k).all keyB = true ∧ Below w.heap.size w wr) (fun _ i _ => l.length - (intOf i).toNat)
  case atStart => exact ⟨0, Nat.zero_le _, rfl, by simp, Below.refl _ _⟩
  case round =>
    obtain ⟨k, hk, rfl, hall, hb⟩ := hrel
    have HA := Lib.hid hall
    have HB := Lib.hid hb
    clear hall hb
    by_cases hlt : k < l.length
    · have C := fun W => Lib.hid (headerSign_any l[k] W)
      cases hb : keyB l[k]
      · have HF := Lib.hid (not_all_key hlt hb)
        rw [hb] at C
        clear hb
        go_wp2_with (go_at_call 101; (refine (C _).out.mono ?_); rintro e w1 ⟨rfl, hb1⟩; have HB1 := Lib.hid (HB.out.trans (hb1.mono HB.out.size)); clear hb1)
        go_ret
        exact ⟨ret_bool HF.out.symm, HB1.out⟩
      · have HF := Lib.hid (all_take_succ keyB l k hlt HA.out hb)
        rw [hb] at C
        clear hb
        go_wp2_with (go_at_call 101; (refine (C _).out.mono ?_); rintro e w1 ⟨rfl, hb1⟩; have HB1 := Lib.hid (HB.out.trans (hb1.mono HB.out.size)); clear hb1)
        exact ⟨⟨k + 1, by omega, by go_num, HF.out, HB1.out⟩, by simp [intOf]; omega⟩
    · have e : k = l.length := by omega
      subst e
      rw [List.take_of_length_le (Nat.le_refl _)] at HA
      by_cases h0 : l = []
      · subst h0
        go_wp2
        go_ret
        exact ⟨ret_bool rfl, HB.out⟩
      · have hne : l.isEmpty = false := by simpa using h0
        have HT := Lib.hid (show tok l = true by simp [tok, hne, HA.out])
        clear h0
        go_wp2
        go_ret
        exact ⟨ret_bool (by rw [HT.out]), HB.out⟩

/-! ### Entries -/
abbrev En := List UInt8 × List UInt8
def encE (x : En) : List Value := [.string (bs x.1), .string (bs x.2)]
theorem encE_len (x : En) : (encE x).length = 2 := rfl
theorem cellsE {w : World} {b off : Nat} {l : List En} (hc : ∀ j u, (l.flatMap encE)[j]? = some u → w.cell? ⟨b, off + j, none⟩ = some u) (k : Nat) (h : k < l.length) :
    w.cell? ⟨b, off + k * 2, none⟩ = some (.string (bs l[k].1)) ∧ w.cell? ⟨b, off + k * 2 + 1, none⟩ = some (.string (bs l[k].2)) := by
  have h0 := flat_get encE 2 encE_len l k 0 h (by omega)
  have h1 := flat_get encE 2 encE_len l k 1 h (by omega)
  exact ⟨hc (k * 2) _ h0, hc (k * 2 + 1) _ h1⟩
theorem flatE_ne {l : List En} (h : l ≠ []) : l.flatMap encE ≠ [] := by
  intro e
  have := congrArg List.length e
  rw [flat_len encE 2 encE_len] at this
  exact h (List.eq_nil_of_length_eq_zero (by rw [List.length_nil] at this; omega))
/-- The slice v has n elements; its cells, wherever they lie, read xs. -/
def ArgV (w : World) (v : Value) (n : Nat) (xs : List Value) : Prop :=
  ∃ A c, v = .slice A n c ∧ n ≤ c ∧ c ≤ maxLen ∧ (xs ≠ [] → ∃ b off, A = some ⟨b, off, none⟩ ∧ b < w.heap.size ∧ ∀ j u, xs[j]? = some u → w.cell? ⟨b, off + j, none⟩ = some u)
section
variable {w w' : World} {v : Value} {n : Nat} {xs : List Value}
theorem ArgV.form (h : ArgV w v n xs) : ∃ A c, v = .slice A n c := by
  obtain ⟨A, c, hv, _⟩ := h
  exact ⟨A, c, hv⟩
theorem ArgV.cells (h : ArgV w v n xs) (hx : xs ≠ []) : ∃ b off c, v = .slice (some ⟨b, off, none⟩) n c ∧ n ≤ c ∧ c ≤ maxLen ∧ b < w.heap.size ∧ ∀ j u, xs[j]? = some u → w.cell? ⟨b, off + j, none⟩ = some u := by
  obtain ⟨A, c, rfl, h1, h2, h3⟩ := h
  obtain ⟨b, off, rfl, hb, hc⟩ := h3 hx
  exact ⟨b, off, c, rfl, h1, h2, hb, hc⟩
theorem ArgV.below (h : ArgV w v n xs) (hb : Below w.heap.size w w') : ArgV w' v n xs := by
  obtain ⟨A, c, hv, h1, h2, h3⟩ := h
  refine ⟨A, c, hv, h1, h2, fun hx => ?_⟩
  obtain ⟨b, off, hA, hlt, hc⟩ := h3 hx
  exact ⟨b, off, hA, Nat.lt_of_lt_of_le hlt hb.size, fun j u hj => (hb.cell (p := ⟨b, off + j, none⟩) hlt).trans (hc j u hj)⟩
end
/-- A slice of entries of spec, with texts that an int measures. -/
def RowE (w : World) (v : Value) (l : List En) : Prop := ArgV w v l.length (l.flatMap encE) ∧ ∀ x ∈ l, x.1.length ≤ 9223372036854775807 ∧ x.2.length ≤ 9223372036854775807
theorem RowE.below {w w' : World} {v : Value} {l : List En} (h : RowE w v l) (hb : Below w.heap.size w w') : RowE w' v l := ⟨h.1.below hb, h.2⟩

def fitE (x : En) : Bool := decide (x.1.length ≤ 2147483647) && decide (x.2.length ≤ 2147483647)
set_option maxRecDepth 100000 in
set_option maxHeartbeats 1000000 in
theorem zzFits13_any (x : En) (w : World) (h1 : x.1.length ≤ 9223372036854775807) (h2 : x.2.length ≤ 9223372036854775807) :
    Calls Tryz.prog 55 #[.agg #[.string (bs x.1), .string (bs x.2)]] w fun e w' => e = .returned (.bool (fitE x)) ∧ Below w.heap.size w w' := by
  obtain ⟨k, v⟩ := x
  dsimp only at *
  by_cases c1 : k.length ≤ 2147483647
  · by_cases c2 : v.length ≤ 2147483647
    · go_enter Tryz.func55, Tryz.ntmps55
      go_wp2
      go_ret
      exact ⟨ret_bool (by simp [fitE, c1, c2]), (Below.refl _ _).alloc (Nat.le_refl _) _⟩
    · go_enter Tryz.func55, Tryz.ntmps55
      go_wp2
      go_ret
      exact ⟨ret_bool (by simp [fitE, c2]), (Below.refl _ _).alloc (Nat.le_refl _) _⟩
  · go_enter Tryz.func55, Tryz.ntmps55
    go_wp2
    go_ret
    exact ⟨ret_bool (by simp [fitE, c1]), (Below.refl _ _).alloc (Nat.le_refl _) _⟩

def fitsE (l : List En) : Bool := decide (l.length ≤ 2147483647) && l.all fitE
theorem all_take_e (p : En → Bool) (l : List En) (k : Nat) (h : k < l.length) (h1 : (l.take k).all p = true) (h2 : p l[k] = true) : (l.take (k + 1)).all p = true := by
  rw [List.take_succ_eq_append_getElem h, List.all_append, h1]; simp [h2]
theorem all_false_e (p : En → Bool) (l : List En) (k : Nat) (h : k < l.length) (h2 : p l[k] = false) : l.all p = false := by
  rw [List.all_eq_false]; exact ⟨l[k], List.getElem_mem h, by simp [h2]⟩
set_option maxRecDepth 100000 in
set_option maxHeartbeats 2000000 in
theorem zzFits12_any (l : List En) (v : Value) (w : World) (hv : RowE w v l) :
    Calls Tryz.prog 24 #[v] w fun e w' => e = .returned (.bool (fitsE l)) ∧ Below w.heap.size w w' := by
  obtain ⟨A, q, hq⟩ := hv.1.form
  subst hq
  have hlen : l.length ≤ 9223372036854775807 := by
    obtain ⟨A', c', h1, h2, h3, _⟩ := hv.1
    unfold maxLen at h3
    omega
  have HV := Lib.hid hv
  clear hv
  by_cases hc : l.length ≤ 2147483647
  · have hd : fitsE l = l.all fitE := by simp [fitsE, hc]
    rw [hd]
    clear hd
    go_enter Tryz.func24, Tryz.ntmps24
    go_wp2
    go_loopw [4, 10] (fun _ i wr => ∃ k : Nat, k ≤ l.length ∧ i = .int .i64 k ∧ (l.take k).all fitE = true ∧ Below w.heap.size w wr) (fun _ i _ => l.length - (intOf i).toNat)
    case atStart => exact ⟨0, Nat.zero_le _, rfl, by simp, Below.refl _ _⟩
    case round =>
      obtain ⟨k, hk, rfl, hall, hb⟩ := hrel
      have HA := Lib.hid hall
      have HB := Lib.hid hb
      clear hall hb
      by_cases hlt : k < l.length
      · obtain ⟨b, off, c, hq, hc1, hc2, hbb, hcl⟩ := HV.out.1.cells (flatE_ne (by intro e; rw [e] at hlt; simp at hlt))
        injection hq with hq1 hq2 hq3
        subst hq1; subst hq3
        obtain ⟨i0, i1⟩ := cellsE (fun z u hz => (HB.out.cell (p := ⟨b, off + z, none⟩) hbb).trans (hcl z u hz)) k hlt
        have hsz := HV.out.2 _ (List.getElem_mem hlt)
        have C := fun W => Lib.hid (zzFits13_any l[k] W hsz.1 hsz.2)
        have HW := Lib.hid ((Below.refl wr.heap.size wr).alloc (Nat.le_refl _) (.cells #[.string (bs l[k].1), .string (bs l[k].2)] 64))
        clear hcl hsz
        cases hf : fitE l[k]
        · have HF := Lib.hid (all_false_e fitE l k hlt hf)
          rw [hf] at C
          clear hf
          go_wp2_with (go_at_call 55; (with_reducible refine (C _).out.mono ?_); rintro e w1 ⟨rfl, hb1⟩; have HB1 := Lib.hid (HB.out.trans ((HW.out.trans (hb1.mono (by simp))).mono HB.out.size)); clear hb1)
          go_ret
          exact ⟨ret_bool HF.out.symm, HB1.out⟩
        · have HF := Lib.hid (all_take_e fitE l k hlt HA.out hf)
          rw [hf] at C
          clear hf
          go_wp2_with (go_at_call 55; (with_reducible refine (C _).out.mono ?_); rintro e w1 ⟨rfl, hb1⟩; have HB1 := Lib.hid (HB.out.trans ((HW.out.trans (hb1.mono (by simp))).mono HB.out.size)); clear hb1)
          exact ⟨⟨k + 1, by omega, by go_num, HF.out, HB1.out⟩, by simp [intOf]; omega⟩
      · have e : k = l.length := by omega
        subst e
        rw [List.take_of_length_le (Nat.le_refl _)] at HA
        go_wp2
        go_ret
        exact ⟨ret_bool HA.out.symm, HB.out⟩
  · have hd : fitsE l = false := by simp [fitsE, hc]
    rw [hd]
    clear hd
    go_enter Tryz.func24, Tryz.ntmps24
    go_wp2
    go_ret
    exact ⟨rfl, Below.refl _ _⟩

set_option maxRecDepth 100000 in
set_option maxHeartbeats 1000000 in
theorem carryMember_any (x : En) (w : World) : Calls Tryz.prog 62 #[.agg #[.string (bs x.1), .string (bs x.2)]] w fun e w' => e = .returned (.agg #[.string (bs x.1), .string (bs x.2), .slice none 0 0]) ∧ Below w.heap.size w w' := by
  go_enter Tryz.func62, Tryz.ntmps62
  go_wp2
  exact bodyPost_ret (v := .agg #[.string (bs x.1), .string (bs x.2), .slice none 0 0]) (by simp [results, Tryz.results62, go_sem]) rfl ⟨rfl, ((Below.refl _ _).alloc (Nat.le_refl _) _).alloc (by simp) _⟩
end Go.Proofs.YtpgookhdffklkaaGreatDoor
