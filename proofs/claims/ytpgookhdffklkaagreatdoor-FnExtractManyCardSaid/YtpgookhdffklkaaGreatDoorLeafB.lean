/-
  The searches and cuts of package baggage over texts: their contracts.
-/
import Derived.Test.YtpgookhdffklkaaGreatDoorLeafA
import Derived.Deep.QuietTactic
import Derived.BigQuiet
namespace Go.Proofs.YtpgookhdffklkaaGreatDoor
open Go.RowKit

/-- The first place from i on at which sub stands in l, or -1. -/
def idxFrom (l sub : List UInt8) (i : Nat) : Int :=
  if h : i + sub.length ≤ l.length then (if (l.drop i).take sub.length = sub then (i : Int) else if l.length = i then -1 else idxFrom l sub (i + 1)) else -1
  termination_by l.length - i
  decreasing_by omega

theorem idxFrom_hit {l sub : List UInt8} {i : Nat} (h : i + sub.length ≤ l.length) (h1 : (l.drop i).take sub.length = sub) : idxFrom l sub i = i := by
  rw [idxFrom, dif_pos h, if_pos h1]
theorem idxFrom_step {l sub : List UInt8} {i : Nat} (h : i + sub.length ≤ l.length) (h1 : (l.drop i).take sub.length ≠ sub) (h0 : 0 < sub.length) : idxFrom l sub (i + 1) = idxFrom l sub i := by
  rw [idxFrom.eq_def l sub i, dif_pos h, if_neg h1, if_neg (by omega)]
theorem idxFrom_end {l sub : List UInt8} {i : Nat} (h : ¬ i + sub.length ≤ l.length) : idxFrom l sub i = -1 := by
  rw [idxFrom, dif_neg h]

set_option maxHeartbeats 400000 in
theorem zzIndex_any (l sub : List UInt8) (w : World) (hs : l.length ≤ 4294967296) (ht : sub.length ≤ 4294967296) (h0 : 0 < sub.length) :
    Calls Tryz.prog 210 #[.string (bs l), .string (bs sub)] w fun e w' => e = .returned (.int .i64 (idxFrom l sub 0)) ∧ w = w' := by
  go_enter Tryz.func210, Tryz.ntmps210
  go_wp2
  go_loop [5] (fun i => ∃ k : Nat, k ≤ l.length + 1 ∧ i = .int .i64 k ∧ idxFrom l sub k = idxFrom l sub 0) (fun i => l.length + 1 - (intOf i).toNat)
  case atStart => exact ⟨0, Nat.zero_le _, rfl, rfl⟩
  case round =>
    obtain ⟨k, hk, rfl, hd⟩ := hrel
    have HD := Lib.hid hd; clear hd
    by_cases hlt : k + sub.length ≤ l.length
    · by_cases hm : (l.drop k).take sub.length = sub
      · have hb : ((l.drop k).take sub.length == sub) = true := by simpa using hm
        have HM := Lib.hid (idxFrom_hit hlt hm)
        clear hm
        go_wp2
        go_ret
        exact ⟨ret_int (by rw [← HD.out, HM.out]), rfl⟩
      · have hb : ((l.drop k).take sub.length == sub) = false := by simpa using hm
        have HM := Lib.hid (idxFrom_step hlt hm h0)
        clear hm
        go_wp2
        exact ⟨⟨k + 1, by omega, by go_num, by rw [HM.out]; exact HD.out⟩, by simp [intOf]; omega⟩
    · have HM := Lib.hid (idxFrom_end hlt)
      go_wp2
      go_ret
      exact ⟨ret_int (by rw [← HD.out, HM.out]), rfl⟩

/-- Where a byte stands first. -/
def pos1 (c : UInt8) : List UInt8 → Option Nat
  | [] => none
  | x :: t => if x = c then some 0 else (pos1 c t).map (· + 1)
theorem idxFrom_one (c : UInt8) (l : List UInt8) : ∀ i, i ≤ l.length → idxFrom l [c] i = match pos1 c (l.drop i) with | some j => ((i + j : Nat) : Int) | none => -1 := by
  intro i
  induction hn : l.length - i generalizing i with
  | zero =>
    intro hi
    have : i = l.length := by omega
    subst this
    rw [idxFrom_end (by simp)]
    simp [pos1]
  | succ n ih =>
    intro hi
    have hlt : i < l.length := by omega
    have hd : l.drop i = l[i] :: l.drop (i + 1) := List.drop_eq_getElem_cons hlt
    by_cases hc : l[i] = c
    · rw [idxFrom_hit (by simp; omega) (by rw [hd]; simp [hc])]
      rw [hd]
      simp [pos1, hc]
    · rw [← idxFrom_step (by simp; omega) (by rw [hd]; intro e; have e' : [l[i]] = [c] := e; injection e' with e1; exact hc e1) (by simp), ih (i + 1) (by omega) (by omega), hd]
      simp only [pos1, hc, if_false]
      cases pos1 c (l.drop (i + 1)) with
      | none => rfl
      | some j => simp only [Option.map_some]; congr 1; omega
theorem pos1_lt {c : UInt8} {l : List UInt8} {i : Nat} (h : pos1 c l = some i) : i < l.length := by
  induction l generalizing i with
  | nil => simp [pos1] at h
  | cons x t ih =>
    simp only [pos1] at h
    split at h
    · cases h; simp
    · cases hp : pos1 c t with
      | none => rw [hp] at h; cases h
      | some j => rw [hp] at h; cases h; simpa using ih hp
/-- What stands ahead of the first such byte, and behind it. -/
def cutAt (c : UInt8) (l : List UInt8) : Option (List UInt8 × List UInt8) := (pos1 c l).map fun i => (l.take i, l.drop (i + 1))
/-- The parts between such bytes. -/
def splitC (c : UInt8) : List UInt8 → List (List UInt8)
  | [] => [[]]
  | x :: t => if x = c then [] :: splitC c t else match splitC c t with | h :: r => (x :: h) :: r | [] => [[x]]
theorem splitC_ne (c : UInt8) (l : List UInt8) : splitC c l ≠ [] := by
  cases l with
  | nil => simp [splitC]
  | cons x t => simp only [splitC]; split
                · simp
                · split <;> simp
theorem splitC_none {c : UInt8} {l : List UInt8} (h : pos1 c l = none) : splitC c l = [l] := by
  induction l with
  | nil => simp [splitC]
  | cons x t ih =>
    simp only [pos1] at h
    split at h
    · cases h
    · rename_i hx
      cases hp : pos1 c t with
      | none => simp only [splitC, hx, if_false, ih hp]
      | some j => rw [hp] at h; cases h
theorem splitC_some {c : UInt8} {l : List UInt8} {i : Nat} (h : pos1 c l = some i) : splitC c l = l.take i :: splitC c (l.drop (i + 1)) := by
  induction l generalizing i with
  | nil => simp [pos1] at h
  | cons x t ih =>
    simp only [pos1] at h
    split at h
    · rename_i hx; cases h; simp [splitC, hx]
    · rename_i hx
      cases hp : pos1 c t with
      | none => rw [hp] at h; cases h
      | some j =>
        rw [hp] at h; cases h
        have := ih hp
        simp only [splitC, hx, if_false, this]
        simp

theorem zzIndex_one (l : List UInt8) (c : UInt8) (w : World) (hs : l.length ≤ 4294967296) :
    Calls Tryz.prog 210 #[.string (bs l), .string (bs [c])] w fun e w' => e = .returned (.int .i64 (match pos1 c l with | some j => (j : Int) | none => -1)) ∧ w = w' := by
  have := zzIndex_any l [c] w hs (by simp) (by simp)
  rw [idxFrom_one c l 0 (by simp)] at this
  simpa using this

set_option maxHeartbeats 400000 in
theorem zzCut_some (l : List UInt8) (c : UInt8) (w : World) (hs : l.length ≤ 4294967296) (i : Nat) (h : pos1 c l = some i) :
    Calls Tryz.prog 147 #[.string (bs l), .string (bs [c])] w fun e w' => e = .returned (.tuple #[.string (bs (l.take i)), .string (bs (l.drop (i + 1))), .bool true]) ∧ Below w.heap.size w w' := by
  have HC := Lib.hid (zzIndex_one l c w hs)
  rw [h] at HC
  have hi := pos1_lt h
  clear h
  go_enter Tryz.func147, Tryz.ntmps147
  go_wp2_with (go_at_call 210; refine HC.out.mono ?_; rintro e w' ⟨rfl, rfl⟩)
  go_quiet (fail)
  go_wp2
  go_ret3
  exact ⟨rfl, below_drewN (Below.refl _ _) _⟩
set_option maxHeartbeats 400000 in
theorem zzCut_none (l : List UInt8) (c : UInt8) (w : World) (hs : l.length ≤ 4294967296) (h : pos1 c l = none) :
    Calls Tryz.prog 147 #[.string (bs l), .string (bs [c])] w fun e w' => e = .returned (.tuple #[.string (bs l), .string (bs []), .bool false]) ∧ Below w.heap.size w w' := by
  have HC := Lib.hid (zzIndex_one l c w hs)
  rw [h] at HC
  clear h
  go_enter Tryz.func147, Tryz.ntmps147
  go_wp2_with (go_at_call 210; refine HC.out.mono ?_; rintro e w' ⟨rfl, rfl⟩)
  go_ret3
  exact ⟨rfl, Below.refl _ _⟩

theorem info9 : (Tryz.prog.info? 9).map (fun i => (i.zero, i.size, i.bytes)) = some (some (.string ⟨#[]⟩), 1, 16) := by kernel_rfl
/-- The cells of a slice of texts. -/
def strs (ts : List (List UInt8)) : List Value := ts.map fun t => .string (bs t)
def strLen : Value → Nat | .string s => s.size | _ => 0

theorem strs_len (ts : List (List UInt8)) : (strs ts).length = ts.length := by simp [strs]
theorem strs_snoc (ts : List (List UInt8)) (t : List UInt8) : strs (ts ++ [t]) = strs ts ++ [.string (bs t)] := by simp [strs]
/-- zzCut, whichever way it ends. -/
theorem zzCut_any (l : List UInt8) (c : UInt8) (w : World) (hs : l.length ≤ 4294967296) :
    Calls Tryz.prog 147 #[.string (bs l), .string (bs [c])] w fun e w' => ∃ a b f, e = .returned (.tuple #[.string (bs a), .string (bs b), .bool f]) ∧ (f = true → splitC c l = a :: splitC c b ∧ b.length < l.length) ∧ (f = false → splitC c l = [a]) ∧ Below w.heap.size w w' := by
  cases h : pos1 c l with
  | none => exact (zzCut_none l c w hs h).mono fun e w' ⟨he, hb⟩ => ⟨_, _, _, he, by simp, fun _ => splitC_none h, hb⟩
  | some i => exact (zzCut_some l c w hs i h).mono fun e w' ⟨he, hb⟩ => ⟨_, _, _, he, fun _ => ⟨splitC_some h, by have := pos1_lt h; simp; omega⟩, by simp, hb⟩

theorem one_str (s : ByteArray) : ∀ u ∈ [Value.string s], u.oneCell' = true := by intro u hu; simp at hu; subst hu; rfl
set_option maxHeartbeats 800000 in
theorem zzSplit_any (l : List UInt8) (c : UInt8) (w : World) (hs : l.length ≤ 4294967296) :
    Calls Tryz.prog 94 #[.string (bs l), .string (bs [c])] w fun e w' => ∃ v, e = .returned v ∧ w'.ownsRow w.heap.size 9 1 v (splitC c l).length (strs (splitC c l)) ∧ Below w.heap.size w w' := by
  go_enter Tryz.func94, Tryz.ntmps94
  go_wp2
  go_loopw [0, 5] (fun s sv wr => ∃ done : List (List UInt8), ∃ r, s = .string (bs r) ∧ wr.ownsRow w.heap.size 9 1 sv done.length (strs done) ∧ done ++ splitC c r = splitC c l ∧ done.length + r.length ≤ l.length ∧ Below w.heap.size w wr) (fun s _ _ => strLen s)
  case atStart => exact ⟨[], l, rfl, World.ownsRow_nil _ _ _ _, rfl, by simp, Below.refl _ _⟩
  case round =>
    obtain ⟨done, r, rfl, hown, hsp, hlen, hb⟩ := hrel
    have HS := Lib.hid hsp; clear hsp
    have HC := Lib.hid (zzCut_any r c wr (by omega))
    have hc3 : done.length ≤ 4294967296 := by omega
    have hc5 : ∀ {w1 : World}, Below wr.heap.size wr w1 → w.heap.size ≤ w1.heap.size := fun h => by have := hb.size; have := h.size; omega
    go_wp2_with (first
      | (go_at_call 147; refine HC.out.mono ?_; rintro e w1 ⟨a, b, f, rfl, hf1, hf2, hb1⟩; have HF1 := Lib.hid hf1; have HF2 := Lib.hid hf2; clear hf1 hf2)
      | (at_builtin; refine app1 rfl (.tmp 16) (.tmp 18) 46 rfl w.heap.size 9 9 _ 1 16 Tryz.underlying46 info9 rfl (by decide) (by decide) u5 done.length (strs done) rfl [.string (bs a)] (own_below hown hb1) rfl rfl (one_str _) hc3 (hc5 hb1) ?_; intro v2 w2 hown2 hg2 _))
    · have hf0 : f = false := by have : (!f) = true := by assumption
                                 simpa using this
      have e := HS.out
      rw [HF2.out hf0] at e
      go_ret
      exact ⟨_, rfl, own_cast hown2 (by rw [← e]; simp) (by rw [← e, strs_snoc]), below_app (hb.trans (hb1.mono hb.size)) (hc5 hb1) (own_below hown hb1) (Nat.le_refl _) hg2⟩
    · have hf0 : f = true := by have : (!f) = false := by assumption
                                simpa using this
      obtain ⟨e1, e2⟩ := HF1.out hf0
      have e := HS.out
      rw [e1] at e
      refine ⟨⟨done ++ [a], b, rfl, own_cast hown2 (by simp) (by rw [strs_snoc]), by simpa using e, by simp; omega, below_app (hb.trans (hb1.mono hb.size)) (hc5 hb1) (own_below hown hb1) (Nat.le_refl _) hg2⟩, ?_⟩
      simpa [strLen] using e2

/-! ### zzContains and zzCount -/
def noDbl : List UInt8 → Bool
  | x :: y :: t => !(x == 59 && y == 59) && noDbl (y :: t)
  | _ => true
theorem idx_noDbl (l : List UInt8) : ∀ i, i ≤ l.length → noDbl (l.drop i) = true → idxFrom l [59, 59] i = -1 := by
  intro i
  induction hn : l.length - i generalizing i with
  | zero =>
    intro hi _
    rw [idxFrom_end (by simp; omega)]
  | succ n ih =>
    intro hi hd
    by_cases hlt : i + 1 < l.length
    · have e1 : l.drop i = l[i] :: l.drop (i + 1) := List.drop_eq_getElem_cons (by omega)
      have e2 : l.drop (i + 1) = l[i + 1] :: l.drop (i + 2) := List.drop_eq_getElem_cons hlt
      have h2 := hd
      rw [e1, e2, noDbl, ← e2] at h2
      simp only [Bool.and_eq_true, Bool.not_eq_true'] at h2
      rw [← idxFrom_step (by simp; omega) ?_ (by simp)]
      · exact ih (i + 1) (by omega) (by omega) h2.2
      · rw [e1, e2]
        intro e
        have e' : [l[i], l[i + 1]] = [59, 59] := e
        injection e' with a1 a2
        injection a2 with a3
        rw [a1, a3] at h2
        simp at h2
    · rw [idxFrom_end (by simp; omega)]
set_option maxHeartbeats 400000 in
theorem zzContains_no (l : List UInt8) (w : World) (hs : l.length ≤ 4294967296) (hd : noDbl l = true) :
    Calls Tryz.prog 212 #[.string (bs l), .string (bs [59, 59])] w fun e w' => e = .returned (.bool false) ∧ w = w' := by
  have HC := Lib.hid (zzIndex_any l [59, 59] w hs (by simp) (by simp))
  rw [idx_noDbl l 0 (by simp) (by simpa using hd)] at HC
  clear hd
  go_enter Tryz.func212, Tryz.ntmps212
  go_wp2_with (go_at_call 210; refine HC.out.mono ?_; rintro e w' ⟨rfl, rfl⟩)
  go_ret
  exact ⟨rfl, rfl⟩

def cnt (c : UInt8) (l : List UInt8) : Nat := (l.filter (· == c)).length
theorem cnt_snoc (c : UInt8) (l : List UInt8) (k : Nat) (h : k < l.length) : cnt c (l.take (k + 1)) = cnt c (l.take k) + if l[k] = c then 1 else 0 := by
  unfold cnt
  rw [List.take_succ_eq_append_getElem h, List.filter_append]
  by_cases hc : l[k] = c <;> simp [hc]
theorem cnt_le (c : UInt8) (l : List UInt8) : cnt c l ≤ l.length := List.length_filter_le _ _
theorem take1_drop (l : List UInt8) (k : Nat) (h : k < l.length) : (l.drop k).take 1 = [l[k]] := by
  rw [List.drop_eq_getElem_cons h]; rfl
set_option maxHeartbeats 400000 in
theorem zzCount_one (l : List UInt8) (c : UInt8) (w : World) (hs : l.length ≤ 4294967296) :
    Calls Tryz.prog 230 #[.string (bs l), .string (bs [c])] w fun e w' => e = .returned (.int .i64 (cnt c l : Nat)) ∧ w = w' := by
  go_enter Tryz.func230, Tryz.ntmps230
  go_wp2
  go_loop [5, 6] (fun n i => ∃ k : Nat, k ≤ l.length ∧ i = .int .i64 k ∧ n = .int .i64 (cnt c (l.take k) : Nat)) (fun _ i => l.length - (intOf i).toNat)
  case atStart => exact ⟨0, Nat.zero_le _, rfl, rfl⟩
  case round =>
    obtain ⟨k, hk, rfl, rfl⟩ := hrel
    have hle := cnt_le c (l.take k)
    rw [List.length_take] at hle
    have hle' : cnt c (l.take k) ≤ 4294967296 := by omega
    clear hle
    by_cases hlt : k < l.length
    · have HS := Lib.hid (cnt_snoc c l k hlt)
      have ht := take1_drop l k hlt
      by_cases hc : l[k] = c
      · have hb : (List.take 1 (List.drop k l) == [c]) = true := by rw [ht, hc]; simp
        have HC := Lib.hid hc
        clear ht hc
        go_wp2
        exact ⟨⟨k + 1, by omega, by go_num, by rw [HS.out, if_pos HC.out]; go_num⟩, by simp [intOf]; omega⟩
      · have hb : (List.take 1 (List.drop k l) == [c]) = false := by rw [ht]; simpa using hc
        have HC := Lib.hid hc
        clear ht hc
        go_wp2
        exact ⟨⟨k + 1, by omega, by go_num, by rw [HS.out, if_neg HC.out]; go_num⟩, by simp [intOf]; omega⟩
    · go_wp2
      go_ret
      exact ⟨ret_int (by rw [List.take_of_length_le (by omega)]), rfl⟩

/-! ### skipSpace where there is none -/
set_option maxHeartbeats 400000 in
theorem skipSpace_none (l : List UInt8) (k : Nat) (w : World) (_hk : k ≤ l.length) (_hs : l.length ≤ 4294967296) (hn : ∀ h : k < l.length, l[k] ≠ 32 ∧ l[k] ≠ 9) :
    Calls Tryz.prog 237 #[.string (bs l), .int .i64 k] w fun e w' => e = .returned (.int .i64 k) ∧ w = w' := by
  by_cases hlt : k < l.length
  · obtain ⟨h1, h2⟩ := hn hlt
    have h1' : ((l[k].toNat : Int) != 32) = true := by
      simp; intro e; exact h1 (UInt8.toNat_inj.1 (show l[k].toNat = 32 by omega))
    have h2' : ((l[k].toNat : Int) != 9) = true := by
      simp; intro e; exact h2 (UInt8.toNat_inj.1 (show l[k].toNat = 9 by omega))
    clear hn h1 h2
    go_enter Tryz.func237, Tryz.ntmps237
    go_wp2
    refine wp_loop_rounds 1 ?_; rw [rounds_succ]
    go_wp2
    go_ret
    exact ⟨rfl, rfl⟩
  · clear hn
    go_enter Tryz.func237, Tryz.ntmps237
    go_wp2
    refine wp_loop_rounds 1 ?_; rw [rounds_succ]
    go_wp2
    go_ret
    exact ⟨rfl, rfl⟩
end Go.Proofs.YtpgookhdffklkaaGreatDoor
