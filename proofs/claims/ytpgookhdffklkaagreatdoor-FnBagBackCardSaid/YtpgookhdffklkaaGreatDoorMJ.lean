/-
  laws: tokens; the sizes of entries; entries as members.
  propagation: the canonical name of a header of small letters.
  propagation: several values extracted.
  laws: entries as members; sorted copies of entries; members held against entries.
  laws: members held against entries; one member injected and extracted.
  laws: slices.IndexFunc and slices.DeleteFunc over entries, with FnExtractMany.s closure that asks for a key.
-/
import Derived.Deep.MidRow
import Derived.Laws.IdiomStrings
import Derived.Lib.OthersKept
import Derived.Lib.SlBytesConst
import Derived.Shelf.SlSortCmp.NoneTotal
import Derived.Test.YtpgookhdffklkaaGreatDoorMA
import Derived.Test.YtpgookhdffklkaaGreatDoorMB
import Derived.Test.YtpgookhdffklkaaGreatDoorMC
import Derived.Test.YtpgookhdffklkaaGreatDoorMF
import Derived.Test.YtpgookhdffklkaaGreatDoorZImplD
import Derived.Test.YtpgookhdffklkaaGreatDoorZMapS
import Derived.Test.YtpgookhdffklkaaGreatDoorZShelf3
namespace Go.Proofs.YtpgookhdffklkaaGreatDoor
open Go.RowKit
abbrev En := List UInt8 × List UInt8
/-- The slice v has n elements; its cells, wherever they lie, read xs. -/
def ArgV (w : World) (v : Value) (n : Nat) (xs : List Value) : Prop :=
  ∃ A c, v = .slice A n c ∧ n ≤ c ∧ c ≤ maxLen ∧ (xs ≠ [] → ∃ b off, A = some ⟨b, off, none⟩ ∧ b < w.heap.size ∧ ∀ j u, xs[j]? = some u → w.cell? ⟨b, off + j, none⟩ = some u)
section
variable {w w' : World} {v : Value} {n : Nat} {xs : List Value}
theorem ArgV.form (h : ArgV w v n xs) : ∃ A c, v = .slice A n c := by
  obtain ⟨A, c, hv, _⟩ := h
  exact ⟨A, c, hv⟩
theorem ArgV.cells (h : ArgV w v n xs) (hx : xs ≠ []) : ∃ b off c, v = .slice (some ⟨b, off, none⟩) n c ∧ n ≤ c ∧ c ≤ maxLen ∧ b < w.heap.size ∧ ∀ j u, xs[j]? = some u → w.cell? ⟨b, off + j, none⟩ = some u := by
  obtain ⟨A, c, rfl, h1, h2, h3⟩ := h
  obtain ⟨b, off, rfl, hb, hc⟩ := h3 hx
  exact ⟨b, off, c, rfl, h1, h2, hb, hc⟩
theorem ArgV.below (h : ArgV w v n xs) (hb : Below w.heap.size w w') : ArgV w' v n xs := by
  obtain ⟨A, c, hv, h1, h2, h3⟩ := h
  refine ⟨A, c, hv, h1, h2, fun hx => ?_⟩
  obtain ⟨b, off, hA, hlt, hc⟩ := h3 hx
  exact ⟨b, off, hA, Nat.lt_of_lt_of_le hlt hb.size, fun j u hj => (hb.cell (p := ⟨b, off + j, none⟩) hlt).trans (hc j u hj)⟩
end
end Go.Proofs.YtpgookhdffklkaaGreatDoor

namespace Go.Proofs.YtpgookhdffklkaaGreatDoor
open Go.RowKit
theorem add_off (b off j : Nat) : (⟨b, off, none⟩ : Addr).add j = ⟨b, off + j, none⟩ := by
  unfold Addr.add
  split
  · rename_i h0; rw [h0]; rfl
  · rfl
end Go.Proofs.YtpgookhdffklkaaGreatDoor

namespace Go.Proofs.YtpgookhdffklkaaGreatDoor
open Go.RowKit
/-- 'append(s, t...)' onto a row of the call's own. -/
theorem appM {W : World} {ops : Array Oper} {rest : List Oper} {o : Oper} {a : Act} {Q : Exit → Act → World → Prop} (hgd : o.guard = none) (s x : Operand) (t : TypeId)
    (ho : o.op = .call { callee := .builtin .append, args := #[s, x], argTypes := #[t, t] })
    (base : Nat) (e : TypeId) (z : Value) (size bytes : Nat) (ht : Tryz.prog.underlying t = some (.slice e)) (hinfo : (Tryz.prog.info? e).map (fun i => (i.zero, i.size, i.bytes)) = some (some z, size, bytes))
    (hzs : z.cells.size = size) (hsz : 0 < size) (hby : bytes ≤ 1000) (v : Value) (n : Nat) (xs : List Value) (hs : a.eval s = v) (hown : W.ownsRow base e size v n xs)
    (b off m c : Nat) (news : List Value) (hx : a.eval x = .slice (some ⟨b, off, none⟩) m c) (hl : news.length = m * size) (hnews : ∀ j u, news[j]? = some u → W.cell? ⟨b, off + j, none⟩ = some u) (h1 : ∀ u ∈ news, u.oneCell' = true) (hn : n + m ≤ 4294967296) (hbase : base ≤ W.heap.size)
    (h : ∀ v' w', w'.ownsRow base e size v' (n + m) (xs ++ news) → W.grownBy w' v.ownBlock → wpList Tryz.prog ops Q rest (a.put o.dst v') w') : wpList Tryz.prog ops Q (o :: rest) a W := by
  obtain ⟨i0, hi, hz0, hz1, hz2⟩ := info_parts hinfo
  refine wpList_append_own _ hgd s x t ho base e i0 z size bytes ht hi hz0 hz1 hz2 hzs hsz v n xs hs hown ⟨b, off, none⟩ m c news hx hl (fun j u hj => by rw [add_off]; exact hnews j u hj) h1 (by unfold maxLen; omega) ?_ hbase (fun v' w' h2 h3 _ => h v' w' h2 h3)
  calc (n + m) * bytes ≤ 4294967296 * 1000 := Nat.mul_le_mul hn hby
    _ ≤ _ := by decide
set_option maxRecDepth 100000 in
set_option maxHeartbeats 1000000 in
theorem new_nil (A : Option Addr) (q : Nat) (w : World) : Calls Tryz.prog 44 #[.slice A 0 q] w fun e w' => e = .returned (.tuple #[.agg #[.map none], .nilIface]) ∧ Below w.heap.size w w' := by
  go_enter Tryz.func44, Tryz.ntmps44
  go_wp2
  exact bodyPost_ret (v := .tuple #[.agg #[.map none], .nilIface]) (by simp [results, Tryz.results44, go_sem]) rfl ⟨rfl, (Below.refl _ _).alloc (Nat.le_refl _) _⟩
theorem encM_one (pl : PL) (h : ∀ x ∈ pl, ∃ A n q, x.2 = .slice A n q) : ∀ u ∈ pl.flatMap encM, u.oneCell' = true := by
  intro u hu
  obtain ⟨x, hx, hu⟩ := List.mem_flatMap.1 hu
  obtain ⟨A, n, q, e⟩ := h x hx
  simp only [encM, List.mem_cons, List.not_mem_nil, or_false, e] at hu
  rcases hu with rfl | rfl | rfl | rfl | rfl <;> rfl
theorem lens_cons (x : List UInt8) (l : List (List UInt8)) : Lib.lens (x :: l) = x.length + Lib.lens l := by simp [Lib.lens]
theorem rep_none (l : List BM) (m : BM) (h : m.k ∉ l.map (·.k)) : l.map (fun x => if x.k = m.k then m else x) = l := by
  induction l with
  | nil => rfl
  | cons a t ih =>
    simp only [List.map_cons, List.mem_cons, not_or] at h
    rw [List.map_cons, if_neg (fun e => h.1 e.symm), ih h.2]
theorem rep_keys (l : List BM) (m : BM) : (l.map (fun x => if x.k = m.k then m else x)).map (·.k) = l.map (·.k) := by
  rw [List.map_map]
  refine List.map_congr_left fun x _ => ?_
  simp only [Function.comp]
  split
  · rename_i e; exact e.symm
  · rfl
theorem any_key (l : List BM) (k : List UInt8) : l.any (fun x => x.k = k) = true ↔ k ∈ l.map (·.k) := by
  simp only [List.any_eq_true, decide_eq_true_eq, List.mem_map]
theorem lens_rep (l : List BM) (m : BM) (hn : (l.map (·.k)).Nodup) : Lib.lens ((l.map fun x => if x.k = m.k then m else x).map mText) ≤ Lib.lens (l.map mText) + (mText m).length := by
  induction l with
  | nil => simp [Lib.lens]
  | cons a t ih =>
    rw [List.map_cons, List.nodup_cons] at hn
    rw [List.map_cons, List.map_cons, List.map_cons, lens_cons, lens_cons]
    by_cases e : a.k = m.k
    · rw [if_pos e, rep_none t m (by rw [← e]; exact hn.1)]
      omega
    · rw [if_neg e]
      have := ih hn.2
      omega
theorem putB_nd {l : List BM} (m : BM) (hn : (l.map (·.k)).Nodup) : ((putB l m).map (·.k)).Nodup := by
  unfold putB
  split
  · rw [rep_keys]; exact hn
  · rename_i h
    rw [List.map_append, List.nodup_append]
    refine ⟨hn, by simp, fun a ha b hb e => ?_⟩
    simp only [List.map_cons, List.map_nil, List.mem_singleton] at hb
    subst hb
    subst e
    exact h ((any_key l m.k).2 ha)
theorem lens_put {l : List BM} (m : BM) (hn : (l.map (·.k)).Nodup) : Lib.lens ((putB l m).map mText) ≤ Lib.lens (l.map mText) + (mText m).length := by
  unfold putB
  split
  · exact lens_rep l m hn
  · rw [List.map_append, lens_append]; simp [Lib.lens]
theorem lens_fold (l : List BM) : ∀ acc : List BM, (acc.map (·.k)).Nodup → Lib.lens ((l.foldl putB acc).map mText) ≤ Lib.lens (acc.map mText) + Lib.lens (l.map mText) ∧ ((l.foldl putB acc).map (·.k)).Nodup := by
  induction l with
  | nil => intro acc h; simp only [List.foldl_nil, List.map_nil]; exact ⟨by omega, h⟩
  | cons m t ih =>
    intro acc h
    rw [List.foldl_cons]
    obtain ⟨h1, h2⟩ := ih (putB acc m) (putB_nd m h)
    have h3 := lens_put m h
    rw [List.map_cons, lens_cons]
    exact ⟨by omega, h2⟩
theorem dedB_nd (l : List BM) : ((dedB l).map (·.k)).Nodup := (lens_fold l [] (by simp)).2
theorem tot_dedB (l : List BM) : tot (dedB l) ≤ tot l := by
  have h1 := (lens_fold l [] (by simp)).1
  have h2 := dedB_len l
  unfold tot
  unfold dedB at h2 ⊢
  have h3 : Lib.lens ([] : List (List UInt8)) = 0 := by simp [Lib.lens]
  simp only [List.map_nil, h3] at h1
  omega
end Go.Proofs.YtpgookhdffklkaaGreatDoor

namespace Go.Proofs.YtpgookhdffklkaaGreatDoor
open Go.RowKit
theorem own_empty {W : World} {g : Nat} {e : TypeId} {base size : Nat} (h : Blk W g e #[]) (hb : base ≤ g) : W.ownsRow base e size (.slice (some ⟨g, 0, none⟩) 0 0) 0 [] :=
  ⟨by simp, Or.inr ⟨g, 0, #[], rfl, hb, h, Nat.le_refl _, by simp [maxLen], by simp, by simp⟩⟩
theorem cmp_lt : ∀ a b : List UInt8, Lib.compareBytes a b < 0 ↔ a < b
  | [], [] => by simp [Lib.compareBytes]
  | [], _ :: _ => by simp [Lib.compareBytes]
  | _ :: _, [] => by simp [Lib.compareBytes]
  | a :: ar, b :: br => by
    rw [List.cons_lt_cons_iff]
    unfold Lib.compareBytes
    by_cases h1 : a < b
    · simp [h1]
    · by_cases h2 : b < a
      · simp [h1, h2]
        intro e
        subst e
        exact absurd h2 (by exact fun h => absurd h (by simp))
      · have e : a = b := by
          have h1' := UInt8.not_lt.1 h1
          have h2' := UInt8.not_lt.1 h2
          exact UInt8.le_antisymm h2' h1'
        simp only [if_neg h1, if_neg h2]
        rw [cmp_lt ar br]
        simp [e]
section
open Go.Sort
end
end Go.Proofs.YtpgookhdffklkaaGreatDoor

namespace Go.Proofs.YtpgookhdffklkaaGreatDoor
open Go.RowKit
theorem lt_total_u8 : ∀ a b : List UInt8, ¬ a < b → ¬ b < a → a = b
  | [], [] => fun _ _ => rfl
  | [], _ :: _ => fun h _ => absurd (List.nil_lt_cons _ _) h
  | _ :: _, [] => fun _ h => absurd (List.nil_lt_cons _ _) h
  | a :: ar, b :: br => fun h1 h2 => by
    rw [List.cons_lt_cons_iff] at h1 h2
    have e : a = b := by
      rcases UInt8.lt_or_lt_of_ne (a := a) (b := b) |> fun f => Classical.em (a = b) with h | h
      · exact h
      · rcases UInt8.lt_or_lt_of_ne h with h | h
        · exact absurd (Or.inl h) h1
        · exact absurd (Or.inl h) h2
    subst e
    rw [lt_total_u8 ar br (fun h => h1 (Or.inr ⟨rfl, h⟩)) (fun h => h2 (Or.inr ⟨rfl, h⟩))]
end Go.Proofs.YtpgookhdffklkaaGreatDoor

namespace Go.Proofs.YtpgookhdffklkaaGreatDoor
open Go.RowKit
theorem gb_set {w W : World} {g : Nat} (h : w.grownBy W (some g)) (i : Nat) (u : Value) : w.grownBy (W.setCell ⟨g, i, none⟩ u) (some g) := by
  have z := (Below.refl g W).setCell (p := ⟨g, i, none⟩) (Nat.le_refl _) u
  exact ⟨z.os.trans h.os, z.tape.trans h.tape, z.output.trans h.output, Nat.le_trans h.size z.size, fun k hk hne => (Below.heap_setCell W ⟨g, i, none⟩ u k (fun e => hne (by rw [e]))).trans (h.block k hk hne)⟩
theorem gb_sets {w : World} {g : Nat} : ∀ (vs : List Value) (o : Nat) (W : World), w.grownBy W (some g) → w.grownBy (W.setCells g o vs) (some g)
  | [], _, _, h => h
  | v :: r, o, _, h => gb_sets r (o + 1) _ (gb_set h o v)
theorem gb_refl (w : World) (row : Option Nat) : w.grownBy w row := ⟨rfl, rfl, rfl, Nat.le_refl _, fun _ _ _ => rfl⟩
theorem blk_sets {g : Nat} {t : TypeId} : ∀ (vs : List Value) (o : Nat) (W : World) (cur : Array Value), Blk W g t cur → o + vs.length ≤ cur.size → ∃ cur', Blk (W.setCells g o vs) g t cur' ∧ cur'.size = cur.size ∧ (∀ j, j < o → cur'[j]? = cur[j]?) ∧ (∀ j, o + vs.length ≤ j → cur'[j]? = cur[j]?) ∧ ∀ (j : Nat) u, vs[j]? = some u → cur'[o + j]? = some u
  | [], o, W, cur, h, _ => ⟨cur, h, rfl, fun _ _ => rfl, fun _ _ => rfl, fun j u hj => by simp at hj⟩
  | v :: r, o, W, cur, h, hs => by
    simp only [List.length_cons] at hs
    obtain ⟨cur', h1, h2, h3, h4, h5⟩ := blk_sets r (o + 1) _ _ (h.set_ o v) (by simp; omega)
    refine ⟨cur', h1, by simpa using h2, fun j hj => ?_, fun j hj => ?_, fun j u hj => ?_⟩
    · rw [h3 j (by omega), Array.getElem?_setIfInBounds, if_neg (by omega)]
    · simp only [List.length_cons] at hj
      rw [h4 j (by omega), Array.getElem?_setIfInBounds, if_neg (by omega)]
    · cases j with
      | zero =>
        simp only [List.getElem?_cons_zero] at hj
        rw [Nat.add_zero, h3 o (by omega), Array.getElem?_setIfInBounds, if_pos rfl, if_pos (by omega)]
        exact hj
      | succ j =>
        have := h5 j u (by simpa using hj)
        rw [show o + (j + 1) = o + 1 + j by omega]
        exact this
theorem blk_there {W : World} {g : Nat} {t : TypeId} {cur : Array Value} (h : Blk W g t cur) (o n : Nat) (hs : o + n ≤ cur.size) : W.there g o n := fun j hj =>
  ⟨by rw [h.cell, Array.getElem?_eq_getElem (by omega)]; rfl, h.frozen _⟩
section
variable {w wr : World} {l : List En} {np : En → Bool} {g cap i j : Nat}
end
end Go.Proofs.YtpgookhdffklkaaGreatDoor
