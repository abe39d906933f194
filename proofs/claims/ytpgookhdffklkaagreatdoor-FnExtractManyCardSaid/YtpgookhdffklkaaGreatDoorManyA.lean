/-
  laws: what FnExtractMany holds the answer against: the entries of all lists, of each key the last; and what it reads back. Plain law.
-/
import Derived.Test.YtpgookhdffklkaaGreatDoorLawB
namespace Go.Proofs.YtpgookhdffklkaaGreatDoor
open Go.RowKit

def addE (acc : List En) (e : En) : List En := acc.filter (fun x => !decide (x.1 = e.1)) ++ [e]
def allE (l : List En) : List En := l.foldl addE []
theorem allE_snoc (l : List En) (e : En) : allE (l ++ [e]) = addE (allE l) e := by simp [allE]
theorem snoc_ind {α : Type} {P : List α → Prop} (h0 : P []) (h1 : ∀ l x, P l → P (l ++ [x])) (l : List α) : P l := by
  have h : ∀ r : List α, P r.reverse := fun r => by
    induction r with
    | nil => exact h0
    | cons x t ih => rw [List.reverse_cons]; exact h1 _ _ ih
  rw [← List.reverse_reverse l]
  exact h _
theorem allE_len (l : List En) : (allE l).length ≤ l.length := by
  induction l using snoc_ind with
  | h0 => exact Nat.le_refl _
  | h1 l x ih =>
    rw [allE_snoc]
    have := List.length_filter_le (fun y : En => !decide (y.1 = x.1)) (allE l)
    simp only [addE, List.length_append, List.length_singleton]
    omega
theorem allE_nd (l : List En) : ((allE l).map (·.1)).Nodup := by
  induction l using snoc_ind with
  | h0 => exact List.nodup_nil
  | h1 l x ih =>
    rw [allE_snoc, addE, List.map_append, List.nodup_append]
    refine ⟨(List.Sublist.map _ List.filter_sublist).nodup ih, by simp, fun a ha b hb => ?_⟩
    simp only [List.map_cons, List.map_nil, List.mem_singleton] at hb
    subst hb
    obtain ⟨y, hy, rfl⟩ := List.mem_map.1 ha
    have := (List.mem_filter.1 hy).2
    simpa using this
theorem toBE_inj {x y : En} (h : toBE x = toBE y) : x = y := by
  unfold toBE at h
  injection h with h1 h2
  exact Prod.ext h1 h2
theorem lst_snoc (l : List BM) (m : BM) (k : List UInt8) : lst (l ++ [m]) k = if m.k = k then some m else lst l k := by
  unfold lst
  rw [List.reverse_append, List.reverse_singleton, List.singleton_append, List.find?_cons]
  by_cases h : m.k = k <;> simp [h]
theorem mem_allE (l : List En) (x : En) : x ∈ allE l ↔ lst (l.map toBE) x.1 = some (toBE x) := by
  induction l using snoc_ind with
  | h0 => simp [allE, lst]
  | h1 l e ih =>
    rw [allE_snoc, List.map_append, List.map_singleton, lst_snoc, addE]
    simp only [List.mem_append, List.mem_filter, List.mem_singleton]
    have hk : (toBE e).k = e.1 := rfl
    rw [hk]
    by_cases h : e.1 = x.1
    · rw [if_pos h]
      constructor
      · rintro (⟨_, h2⟩ | rfl)
        · simp [h] at h2
        · rfl
      · intro h2
        injection h2 with h2
        exact Or.inr (toBE_inj h2).symm
    · rw [if_neg h, ← ih]
      constructor
      · rintro (⟨h1, _⟩ | rfl)
        · exact h1
        · exact absurd rfl h
      · intro h1
        exact Or.inl ⟨h1, by simpa using fun h2 => h h2.symm⟩
theorem mem_dedB (l : List BM) (m : BM) : m ∈ dedB l ↔ lst l m.k = some m := by
  induction l using snoc_ind with
  | h0 => simp [dedB, lst]
  | h1 l e ih =>
    rw [dedB_snoc, lst_snoc, putB]
    by_cases h : e.k = m.k
    · rw [if_pos h]
      split
      · rename_i ha
        constructor
        · intro hm
          obtain ⟨x, _, hx2⟩ := List.mem_map.1 hm
          split at hx2
          · rw [hx2]
          · rename_i hne
            subst hx2
            exact absurd h.symm hne
        · intro hm
          injection hm with hm
          subst hm
          obtain ⟨x, hx, hx2⟩ := List.any_eq_true.1 ha
          exact List.mem_map.2 ⟨x, hx, by rw [if_pos (by simpa using hx2)]⟩
      · rename_i ha
        constructor
        · intro hm
          rcases List.mem_append.1 hm with hm | hm
          · exact absurd (List.any_eq_true.2 ⟨m, hm, by simpa using h.symm⟩) ha
          · rw [List.mem_singleton.1 hm]
        · intro hm
          injection hm with hm
          exact List.mem_append.2 (Or.inr (by rw [hm]; exact List.mem_singleton.2 rfl))
    · rw [if_neg h, ← ih]
      split
      · constructor
        · intro hm
          obtain ⟨x, hx, hx2⟩ := List.mem_map.1 hm
          split at hx2
          · rw [hx2] at h
            exact absurd rfl h
          · rw [← hx2]; exact hx
        · intro hm
          exact List.mem_map.2 ⟨m, hm, if_neg fun h2 => h h2.symm⟩
      · constructor
        · intro hm
          rcases List.mem_append.1 hm with hm | hm
          · exact hm
          · rw [List.mem_singleton.1 hm] at h
            exact absurd rfl h
        · intro hm
          exact List.mem_append.2 (Or.inl hm)
theorem nodup_of_keys {l : List BM} (h : (l.map (·.k)).Nodup) : l.Nodup := List.Pairwise.of_map (fun x => x.k) (fun a b h1 h2 => h1 (by rw [h2])) h
theorem ded_all {L : List BM} {l : List En} (h : ∀ k, lst L k = lst (l.map toBE) k) : (dedB L).Perm ((allE l).map toBE) := by
  have n1 : (dedB L).Nodup := nodup_of_keys (dedB_nd L)
  have n2 : ((allE l).map toBE).Nodup := by
    have h2 : (((allE l).map toBE).map (·.k)).Nodup := by rw [keysBE]; exact allE_nd l
    exact nodup_of_keys h2
  rw [List.perm_ext_iff_of_nodup n1 n2]
  intro m
  rw [mem_dedB, h]
  constructor
  · intro hm
    obtain ⟨h1, -⟩ := find_some_mem hm
    obtain ⟨x, -, rfl⟩ := List.mem_map.1 (List.mem_reverse.1 h1)
    exact List.mem_map.2 ⟨x, (mem_allE l x).2 hm, rfl⟩
  · intro hm
    obtain ⟨x, hx, rfl⟩ := List.mem_map.1 hm
    exact (mem_allE l x).1 hx

/-- The texts Ls are those of the lists ls that are not empty. -/
structure InjP (ls : List (List En)) (Ls : List (List BM)) : Prop where
  last : ∀ k, lst Ls.flatten k = lst (ls.flatten.map toBE) k
  len : Ls.flatten.length = ls.flatten.length
  pl : ∀ ms ∈ Ls, ∀ m ∈ ms, PlM m
  nd : ∀ ms ∈ Ls, (ms.map (·.k)).Nodup
  tl : ∀ ms ∈ Ls, tot ms ≤ 8192
  n : Ls.length ≤ ls.length
theorem InjP.nil : InjP [] [] := ⟨fun _ => rfl, rfl, fun _ h => (by cases h), fun _ h => (by cases h), fun _ h => (by cases h), Nat.le_refl _⟩
theorem InjP.skip {ls : List (List En)} {Ls : List (List BM)} (h : InjP ls Ls) : InjP (ls ++ [[]]) Ls :=
  ⟨fun k => by rw [List.flatten_append]; simpa using h.last k, by rw [List.flatten_append]; simpa using h.len, h.pl, h.nd, h.tl, by have := h.n; simp; omega⟩
theorem InjP.snoc {ls : List (List En)} {Ls : List (List BM)} (h : InjP ls Ls) {l : List En} {L : List BM} (hL : L.Perm (l.map toBE)) (hR : RightE l) : InjP (ls ++ [l]) (Ls ++ [L]) := by
  obtain ⟨p1, p2, p3, p4⟩ := perm_pl hL hR
  refine ⟨fun k => ?_, ?_, fun ms hm => ?_, fun ms hm => ?_, fun ms hm => ?_, by have := h.n; simp; omega⟩
  · rw [List.flatten_append, List.flatten_append, List.map_append, lst_append, lst_append, h.last k]
    simp only [List.flatten_singleton]
    rw [lst_perm hL (right_nd hR)]
  · have := hL.length_eq
    have := h.len
    simp only [List.flatten_append, List.flatten_singleton, List.length_append, List.length_map] at *
    omega
  · rcases List.mem_append.1 hm with hm | hm
    · exact h.pl ms hm
    · rw [List.mem_singleton.1 hm]; exact p1
  · rcases List.mem_append.1 hm with hm | hm
    · exact h.nd ms hm
    · rw [List.mem_singleton.1 hm]; exact p2
  · rcases List.mem_append.1 hm with hm | hm
    · exact h.tl ms hm
    · rw [List.mem_singleton.1 hm]; exact p4
theorem InjP.parts {ls : List (List En)} {Ls : List (List BM)} (h : InjP ls Ls) (hn : ls.flatten.length ≤ 60) (h8 : (Lib.join (Ls.map textOf) [44]).length ≤ 8192) : Parts Ls :=
  ⟨h.pl, h.nd, by rw [h.len]; omega, h8⟩
theorem ext_many {ls : List (List En)} {Ls : List (List BM)} {Lr : List BM} (h : InjP ls Ls) (hx : ExtR true Ls [] Lr) : Lr.Perm ((allE ls.flatten).map toBE) := by
  rcases hx with ⟨h1, rfl⟩ | ⟨L, _, _, h2, rfl⟩
  · have h3 := h.len
    rw [h1] at h3
    rw [List.eq_nil_of_length_eq_zero h3.symm]
    exact List.Perm.refl _
  · exact ded_all fun k => (h2 k).trans (h.last k)
end Go.Proofs.YtpgookhdffklkaaGreatDoor
