/-
  laws: a slice of slices of entries; zzFits14; what the loops of FnExtractMany keep.
-/
import Derived.Test.YtpgookhdffklkaaGreatDoorManyA
import Derived.Test.YtpgookhdffklkaaGreatDoorManyB
namespace Go.Proofs.YtpgookhdffklkaaGreatDoor
open Go.RowKit

/-- A slice of slices of entries. -/
def ManyE (w : World) (v : Value) (ls : List (List En)) : Prop :=
  ∃ vs : List Value, vs.length = ls.length ∧ ArgV w v ls.length vs ∧ ∀ (i : Nat) (h : i < ls.length), ∃ u, vs[i]? = some u ∧ RowE w u (ls[i]'h)
theorem ManyE.below {w w' : World} {v : Value} {ls : List (List En)} (h : ManyE w v ls) (hb : Below w.heap.size w w') : ManyE w' v ls := by
  obtain ⟨vs, h1, h2, h3⟩ := h
  exact ⟨vs, h1, h2.below hb, fun i hi => by
    obtain ⟨u, hu, hr⟩ := h3 i hi
    exact ⟨u, hu, hr.below hb⟩⟩
theorem ManyE.form {w : World} {v : Value} {ls : List (List En)} (h : ManyE w v ls) : ∃ A q, v = .slice A ls.length q := by
  obtain ⟨vs, h1, h2, h3⟩ := h
  exact h2.form
theorem ManyE.len {w : World} {v : Value} {ls : List (List En)} (h : ManyE w v ls) : ls.length ≤ 9223372036854775807 := by
  obtain ⟨vs, _, ⟨A', c', h1, h2, h3, _⟩, _⟩ := h
  unfold maxLen at h3
  omega
/-- The element at place k. -/
theorem ManyE.at {w : World} {A : Option Addr} {n q : Nat} {ls : List (List En)} (h : ManyE w (.slice A n q) ls) (k : Nat) (hk : k < ls.length) : ∃ b off Au qu, A = some ⟨b, off, none⟩ ∧ b < w.heap.size ∧ w.cell? ⟨b, off + k, none⟩ = some (.slice Au (ls[k]'hk).length qu) ∧ RowE w (.slice Au (ls[k]'hk).length qu) (ls[k]'hk) := by
  obtain ⟨vs, h1, h2, h3⟩ := h
  obtain ⟨u, hu, hr⟩ := h3 k hk
  obtain ⟨b, off, c, hq, _, _, hb, hc⟩ := h2.cells (by intro e; rw [e] at hu; cases hu)
  injection hq with hq1 hq2 hq3
  obtain ⟨Au, qu, rfl⟩ := hr.1.form
  exact ⟨b, off, Au, qu, hq1, hb, hc k _ hu, hr⟩

def fitsM (ls : List (List En)) : Bool := decide (ls.length ≤ 2147483647) && ls.all fitsE
theorem fitsM_all {ls : List (List En)} (h : fitsM ls = true) : ∀ l ∈ ls, fitsE l = true := by
  simp only [fitsM, Bool.and_eq_true, List.all_eq_true] at h
  exact h.2
theorem all_take_m (p : List En → Bool) (l : List (List En)) (k : Nat) (h : k < l.length) (h1 : (l.take k).all p = true) (h2 : p l[k] = true) : (l.take (k + 1)).all p = true := by
  rw [List.take_succ_eq_append_getElem h, List.all_append, h1]; simp [h2]
theorem all_false_m (p : List En → Bool) (l : List (List En)) (k : Nat) (h : k < l.length) (h2 : p l[k] = false) : l.all p = false := by
  rw [List.all_eq_false]; exact ⟨l[k], List.getElem_mem h, by simp [h2]⟩

set_option maxRecDepth 100000 in
set_option maxHeartbeats 2000000 in
theorem zzFits14_any (ls : List (List En)) (v : Value) (w : World) (hv : ManyE w v ls) :
    Calls Tryz.prog 31 #[v] w fun e w' => e = .returned (.bool (fitsM ls)) ∧ Below w.heap.size w w' := by
  have hlen := hv.len
  obtain ⟨A, q, hq⟩ := hv.form
  subst hq
  have HV := Lib.hid hv
  clear hv
  by_cases hc : ls.length ≤ 2147483647
  · have hd : fitsM ls = ls.all fitsE := by simp [fitsM, hc]
    rw [hd]
    clear hd
    go_enter Tryz.func31, Tryz.ntmps31
    go_wp2
    go_loopw [4, 10] (fun _ i wr => ∃ k : Nat, k ≤ ls.length ∧ i = .int .i64 k ∧ (ls.take k).all fitsE = true ∧ Below w.heap.size w wr) (fun _ i _ => ls.length - (intOf i).toNat)
    case atStart => exact ⟨0, Nat.zero_le _, rfl, by simp, Below.refl _ _⟩
    case round =>
      obtain ⟨k, hk, rfl, hall, hb⟩ := hrel
      have HA := Lib.hid hall
      have HB := Lib.hid hb
      clear hall hb
      by_cases hlt : k < ls.length
      · obtain ⟨b, off, Au, qu, rfl, hbb, hcl, hru⟩ := HV.out.at k hlt
        have i0 := (HB.out.cell (p := ⟨b, off + k, none⟩) hbb).trans hcl
        have C := Lib.hid (zzFits12_any ls[k] _ wr (hru.below HB.out))
        clear hcl hru
        cases hf : fitsE (ls[k]'hlt)
        · have HF := Lib.hid (all_false_m fitsE ls k hlt hf)
          rw [hf] at C
          clear hf
          go_wp2_with (go_at_call 24; (with_reducible refine C.out.mono ?_); rintro e w1 ⟨rfl, hb1⟩; have HB1 := Lib.hid (HB.out.trans (hb1.mono HB.out.size)); clear hb1)
          go_ret
          exact ⟨ret_bool HF.out.symm, HB1.out⟩
        · have HF := Lib.hid (all_take_m fitsE ls k hlt HA.out hf)
          rw [hf] at C
          clear hf
          go_wp2_with (go_at_call 24; (with_reducible refine C.out.mono ?_); rintro e w1 ⟨rfl, hb1⟩; have HB1 := Lib.hid (HB.out.trans (hb1.mono HB.out.size)); clear hb1)
          exact ⟨⟨k + 1, by omega, by go_num, HF.out, HB1.out⟩, by simp [intOf]; omega⟩
      · have e : k = ls.length := by omega
        subst e
        rw [List.take_of_length_le (Nat.le_refl _)] at HA
        go_wp2
        go_ret
        exact ⟨ret_bool HA.out.symm, HB.out⟩
  · have hd : fitsM ls = false := by simp [fitsM, hc]
    rw [hd]
    clear hd
    go_enter Tryz.func31, Tryz.ntmps31
    go_wp2
    go_ret
    exact ⟨rfl, Below.refl _ _⟩

/-- One entry more: DeleteFunc, then append. -/
theorem step3 {w wr w3 w6 : World} {av av' pv : Value} {n n' np : Nat} {xs xs' ps : List Value} {o : Obj} (hb : Below w.heap.size w wr) (po : wr.ownsRow w.heap.size 9 1 pv np ps) (ao : wr.ownsRow w.heap.size 64 2 av n xs)
    (hg3 : (wr.alloc o).grownBy w3 av.ownBlock) (ao' : w3.ownsRow w.heap.size 64 2 av' n' xs') (hg6 : w3.grownBy w6 av'.ownBlock) :
    Below w.heap.size w w6 ∧ w6.ownsRow w.heap.size 9 1 pv np ps := by
  have h1 := hb.alloc hb.size o
  have a1 : (wr.alloc o).ownsRow w.heap.size 64 2 av n xs := ao.alloc _
  have p1 : (wr.alloc o).ownsRow w.heap.size 9 1 pv np ps := po.alloc _
  have h2 := below_app h1 h1.size a1 (Nat.le_refl _) hg3
  have p2 := own_keeps (T := fun e => e ≠ 64) p1 ((Keeps.refl _).grown a1 hg3 (by simp)) (by decide)
  exact ⟨below_app h2 h2.size ao' (Nat.le_refl _) hg6, own_keeps (T := fun e => e ≠ 64) p2 ((Keeps.refl _).grown ao' hg6 (by simp)) (by decide)⟩
theorem own_lt {w : World} {base : Nat} {e : TypeId} {size : Nat} {v : Value} {n : Nat} {xs : List Value} (h : w.ownsRow base e size v n xs) {B : Nat} (hB : w.heap.size ≤ B) : v.ownBlock ≠ some B := fun e1 => by
  have := (h.lt _ e1).2
  omega

/-- What the loop over the lists keeps. -/
structure MaSt (w : World) (ls : List (List En)) (pv av sz i : Value) (wr : World) (j : Nat) (Ls : List (List BM)) (X : List En) : Prop where
  hj : j ≤ ls.length
  hi : i = .int .i64 j
  hs : sz = .int .i64 X.length
  hl : X.length ≤ 20 * j
  hX : X = (ls.take j).flatten
  ok : ∀ x ∈ X, x.1.length ≤ 9223372036854775807 ∧ x.2.length ≤ 9223372036854775807
  inj : InjP (ls.take j) Ls
  po : wr.ownsRow w.heap.size 9 1 pv Ls.length (strs (Ls.map textOf))
  ao : wr.ownsRow w.heap.size 64 2 av (allE X).length ((allE X).flatMap encE)
  hb : Below w.heap.size w wr
theorem allE_step (X l : List En) (m : Nat) (h : m < l.length) : allE (X ++ l.take (m + 1)) = (allE (X ++ l.take m)).filter (fun x => !decide (x.1 = (l[m]'h).1)) ++ [l[m]'h] := by
  rw [List.take_succ_eq_append_getElem h, ← List.append_assoc, allE_snoc, addE]
theorem allE_mem {l : List En} {x : En} (h : x ∈ allE l) : x ∈ l := by
  obtain ⟨h1, -⟩ := find_some_mem ((mem_allE l x).1 h)
  obtain ⟨y, hy, he⟩ := List.mem_map.1 (List.mem_reverse.1 h1)
  rw [← toBE_inj he]
  exact hy
theorem ArgV.of_sl {w : World} {e : TypeId} {v : Value} {n : Nat} {xs : List Value} (h : SlV w e v n xs) : ArgV w v n xs := by
  obtain ⟨A, c, rfl, h1, h2, h3⟩ := h
  refine ⟨A, c, rfl, h1, h2, fun hx => ?_⟩
  obtain ⟨b, off, cur, fz, rfl, hb, hc⟩ := h3 hx
  refine ⟨b, off, rfl, lt_of_heap hb, fun j u hj => ?_⟩
  rw [World.cell?]
  simp only [hb]
  simpa using hc j u hj
end Go.Proofs.YtpgookhdffklkaaGreatDoor
