/-
  The searches and cuts of package baggage over texts: their contracts.
  valueEscape: a text with the bytes that may not stand in a value written as percent signs and digits.
  What has been escaped is read back.
  A property's text is read: parsePropertyFields at the texts that a property is written as.
-/
import Derived.BigQuiet
import Derived.Deep.QuietTactic
import Derived.Test.YtpgookhdffklkaaGreatDoorZLeafA
namespace Go.Proofs.YtpgookhdffklkaaGreatDoor
open Go.RowKit
/-- The first place from i on at which sub stands in l, or -1. -/
def idxFrom (l sub : List UInt8) (i : Nat) : Int :=
  if h : i + sub.length ≤ l.length then (if (l.drop i).take sub.length = sub then (i : Int) else if l.length = i then -1 else idxFrom l sub (i + 1)) else -1
  termination_by l.length - i
  decreasing_by omega
theorem idxFrom_hit {l sub : List UInt8} {i : Nat} (h : i + sub.length ≤ l.length) (h1 : (l.drop i).take sub.length = sub) : idxFrom l sub i = i := by
  rw [idxFrom, dif_pos h, if_pos h1]
theorem idxFrom_step {l sub : List UInt8} {i : Nat} (h : i + sub.length ≤ l.length) (h1 : (l.drop i).take sub.length ≠ sub) (h0 : 0 < sub.length) : idxFrom l sub (i + 1) = idxFrom l sub i := by
  rw [idxFrom.eq_def l sub i, dif_pos h, if_neg h1, if_neg (by omega)]
theorem idxFrom_end {l sub : List UInt8} {i : Nat} (h : ¬ i + sub.length ≤ l.length) : idxFrom l sub i = -1 := by
  rw [idxFrom, dif_neg h]
set_option maxHeartbeats 400000 in
theorem zzIndex_any (l sub : List UInt8) (w : World) (hs : l.length ≤ 4294967296) (ht : sub.length ≤ 4294967296) (h0 : 0 < sub.length) :
    Calls Tryz.prog 210 #[.string (bs l), .string (bs sub)] w fun e w' => e = .returned (.int .i64 (idxFrom l sub 0)) ∧ w = w' := by
  go_enter Tryz.func210, Tryz.ntmps210
  go_wp2
  go_loop [5] (fun i => ∃ k : Nat, k ≤ l.length + 1 ∧ i = .int .i64 k ∧ idxFrom l sub k = idxFrom l sub 0) (fun i => l.length + 1 - (intOf i).toNat)
  case atStart => exact ⟨0, Nat.zero_le _, rfl, rfl⟩
  case round =>
    obtain ⟨k, hk, rfl, hd⟩ := hrel
    have HD := Lib.hid hd; clear hd
    by_cases hlt : k + sub.length ≤ l.length
    · by_cases hm : (l.drop k).take sub.length = sub
      · have hb : ((l.drop k).take sub.length == sub) = true := by simpa using hm
        have HM := Lib.hid (idxFrom_hit hlt hm)
        clear hm
        go_wp2
        go_ret
        exact ⟨ret_int (by rw [← HD.out, HM.out]), rfl⟩
      · have hb : ((l.drop k).take sub.length == sub) = false := by simpa using hm
        have HM := Lib.hid (idxFrom_step hlt hm h0)
        clear hm
        go_wp2
        exact ⟨⟨k + 1, by omega, by go_num, by rw [HM.out]; exact HD.out⟩, by simp [intOf]; omega⟩
    · have HM := Lib.hid (idxFrom_end hlt)
      go_wp2
      go_ret
      exact ⟨ret_int (by rw [← HD.out, HM.out]), rfl⟩
/-- Where a byte stands first. -/
def pos1 (c : UInt8) : List UInt8 → Option Nat
  | [] => none
  | x :: t => if x = c then some 0 else (pos1 c t).map (· + 1)
theorem idxFrom_one (c : UInt8) (l : List UInt8) : ∀ i, i ≤ l.length → idxFrom l [c] i = match pos1 c (l.drop i) with | some j => ((i + j : Nat) : Int) | none => -1 := by
  intro i
  induction hn : l.length - i generalizing i with
  | zero =>
    intro hi
    have : i = l.length := by omega
    subst this
    rw [idxFrom_end (by simp)]
    simp [pos1]
  | succ n ih =>
    intro hi
    have hlt : i < l.length := by omega
    have hd : l.drop i = l[i] :: l.drop (i + 1) := List.drop_eq_getElem_cons hlt
    by_cases hc : l[i] = c
    · rw [idxFrom_hit (by simp; omega) (by rw [hd]; simp [hc])]
      rw [hd]
      simp [pos1, hc]
    · rw [← idxFrom_step (by simp; omega) (by rw [hd]; intro e; have e' : [l[i]] = [c] := e; injection e' with e1; exact hc e1) (by simp), ih (i + 1) (by omega) (by omega), hd]
      simp only [pos1, hc, if_false]
      cases pos1 c (l.drop (i + 1)) with
      | none => rfl
      | some j => simp only [Option.map_some]; congr 1; omega
theorem pos1_lt {c : UInt8} {l : List UInt8} {i : Nat} (h : pos1 c l = some i) : i < l.length := by
  induction l generalizing i with
  | nil => simp [pos1] at h
  | cons x t ih =>
    simp only [pos1] at h
    split at h
    · cases h; simp
    · cases hp : pos1 c t with
      | none => rw [hp] at h; cases h
      | some j => rw [hp] at h; cases h; simpa using ih hp
/-- The parts between such bytes. -/
def splitC (c : UInt8) : List UInt8 → List (List UInt8)
  | [] => [[]]
  | x :: t => if x = c then [] :: splitC c t else match splitC c t with | h :: r => (x :: h) :: r | [] => [[x]]
theorem splitC_ne (c : UInt8) (l : List UInt8) : splitC c l ≠ [] := by
  cases l with
  | nil => simp [splitC]
  | cons x t => simp only [splitC]; split
                · simp
                · split <;> simp
theorem splitC_none {c : UInt8} {l : List UInt8} (h : pos1 c l = none) : splitC c l = [l] := by
  induction l with
  | nil => simp [splitC]
  | cons x t ih =>
    simp only [pos1] at h
    split at h
    · cases h
    · rename_i hx
      cases hp : pos1 c t with
      | none => simp only [splitC, hx, if_false, ih hp]
      | some j => rw [hp] at h; cases h
theorem splitC_some {c : UInt8} {l : List UInt8} {i : Nat} (h : pos1 c l = some i) : splitC c l = l.take i :: splitC c (l.drop (i + 1)) := by
  induction l generalizing i with
  | nil => simp [pos1] at h
  | cons x t ih =>
    simp only [pos1] at h
    split at h
    · rename_i hx; cases h; simp [splitC, hx]
    · rename_i hx
      cases hp : pos1 c t with
      | none => rw [hp] at h; cases h
      | some j =>
        rw [hp] at h; cases h
        have := ih hp
        simp only [splitC, hx, if_false, this]
        simp
theorem zzIndex_one (l : List UInt8) (c : UInt8) (w : World) (hs : l.length ≤ 4294967296) :
    Calls Tryz.prog 210 #[.string (bs l), .string (bs [c])] w fun e w' => e = .returned (.int .i64 (match pos1 c l with | some j => (j : Int) | none => -1)) ∧ w = w' := by
  have := zzIndex_any l [c] w hs (by simp) (by simp)
  rw [idxFrom_one c l 0 (by simp)] at this
  simpa using this
set_option maxHeartbeats 400000 in
theorem zzCut_some (l : List UInt8) (c : UInt8) (w : World) (hs : l.length ≤ 4294967296) (i : Nat) (h : pos1 c l = some i) :
    Calls Tryz.prog 147 #[.string (bs l), .string (bs [c])] w fun e w' => e = .returned (.tuple #[.string (bs (l.take i)), .string (bs (l.drop (i + 1))), .bool true]) ∧ Below w.heap.size w w' := by
  have HC := Lib.hid (zzIndex_one l c w hs)
  rw [h] at HC
  have hi := pos1_lt h
  clear h
  go_enter Tryz.func147, Tryz.ntmps147
  go_wp2_with (go_at_call 210; refine HC.out.mono ?_; rintro e w' ⟨rfl, rfl⟩)
  go_quiet (fail)
  go_wp2
  go_ret3
  exact ⟨rfl, below_drewN (Below.refl _ _) _⟩
set_option maxHeartbeats 400000 in
theorem zzCut_none (l : List UInt8) (c : UInt8) (w : World) (hs : l.length ≤ 4294967296) (h : pos1 c l = none) :
    Calls Tryz.prog 147 #[.string (bs l), .string (bs [c])] w fun e w' => e = .returned (.tuple #[.string (bs l), .string (bs []), .bool false]) ∧ Below w.heap.size w w' := by
  have HC := Lib.hid (zzIndex_one l c w hs)
  rw [h] at HC
  clear h
  go_enter Tryz.func147, Tryz.ntmps147
  go_wp2_with (go_at_call 210; refine HC.out.mono ?_; rintro e w' ⟨rfl, rfl⟩)
  go_ret3
  exact ⟨rfl, Below.refl _ _⟩
theorem info9 : (Tryz.prog.info? 9).map (fun i => (i.zero, i.size, i.bytes)) = some (some (.string ⟨#[]⟩), 1, 16) := by kernel_rfl
/-- The cells of a slice of texts. -/
def strs (ts : List (List UInt8)) : List Value := ts.map fun t => .string (bs t)
def strLen : Value → Nat | .string s => s.size | _ => 0
theorem strs_snoc (ts : List (List UInt8)) (t : List UInt8) : strs (ts ++ [t]) = strs ts ++ [.string (bs t)] := by simp [strs]
/-- zzCut, whichever way it ends. -/
theorem zzCut_any (l : List UInt8) (c : UInt8) (w : World) (hs : l.length ≤ 4294967296) :
    Calls Tryz.prog 147 #[.string (bs l), .string (bs [c])] w fun e w' => ∃ a b f, e = .returned (.tuple #[.string (bs a), .string (bs b), .bool f]) ∧ (f = true → splitC c l = a :: splitC c b ∧ b.length < l.length) ∧ (f = false → splitC c l = [a]) ∧ Below w.heap.size w w' := by
  cases h : pos1 c l with
  | none => exact (zzCut_none l c w hs h).mono fun e w' ⟨he, hb⟩ => ⟨_, _, _, he, by simp, fun _ => splitC_none h, hb⟩
  | some i => exact (zzCut_some l c w hs i h).mono fun e w' ⟨he, hb⟩ => ⟨_, _, _, he, fun _ => ⟨splitC_some h, by have := pos1_lt h; simp; omega⟩, by simp, hb⟩
theorem one_str (s : ByteArray) : ∀ u ∈ [Value.string s], u.oneCell' = true := by intro u hu; simp at hu; subst hu; rfl
set_option maxHeartbeats 800000 in
theorem zzSplit_any (l : List UInt8) (c : UInt8) (w : World) (hs : l.length ≤ 4294967296) :
    Calls Tryz.prog 94 #[.string (bs l), .string (bs [c])] w fun e w' => ∃ v, e = .returned v ∧ w'.ownsRow w.heap.size 9 1 v (splitC c l).length (strs (splitC c l)) ∧ Below w.heap.size w w' := by
  go_enter Tryz.func94, Tryz.ntmps94
  go_wp2
  go_loopw [0, 5] (fun s sv wr => ∃ done : List (List UInt8), ∃ r, s = .string (bs r) ∧ wr.ownsRow w.heap.size 9 1 sv done.length (strs done) ∧ done ++ splitC c r = splitC c l ∧ done.length + r.length ≤ l.length ∧ Below w.heap.size w wr) (fun s _ _ => strLen s)
  case atStart => exact ⟨[], l, rfl, World.ownsRow_nil _ _ _ _, rfl, by simp, Below.refl _ _⟩
  case round =>
    obtain ⟨done, r, rfl, hown, hsp, hlen, hb⟩ := hrel
    have HS := Lib.hid hsp; clear hsp
    have HC := Lib.hid (zzCut_any r c wr (by omega))
    have hc3 : done.length ≤ 4294967296 := by omega
    have hc5 : ∀ {w1 : World}, Below wr.heap.size wr w1 → w.heap.size ≤ w1.heap.size := fun h => by have := hb.size; have := h.size; omega
    go_wp2_with (first
      | (go_at_call 147; refine HC.out.mono ?_; rintro e w1 ⟨a, b, f, rfl, hf1, hf2, hb1⟩; have HF1 := Lib.hid hf1; have HF2 := Lib.hid hf2; clear hf1 hf2)
      | (at_builtin; refine app1 rfl (.tmp 16) (.tmp 18) 46 rfl w.heap.size 9 9 _ 1 16 Tryz.underlying46 info9 rfl (by decide) (by decide) u5 done.length (strs done) rfl [.string (bs a)] (own_below hown hb1) rfl rfl (one_str _) hc3 (hc5 hb1) ?_; intro v2 w2 hown2 hg2 _))
    · have hf0 : f = false := by have : (!f) = true := by assumption
                                 simpa using this
      have e := HS.out
      rw [HF2.out hf0] at e
      go_ret
      exact ⟨_, rfl, own_cast hown2 (by rw [← e]; simp) (by rw [← e, strs_snoc]), below_app (hb.trans (hb1.mono hb.size)) (hc5 hb1) (own_below hown hb1) (Nat.le_refl _) hg2⟩
    · have hf0 : f = true := by have : (!f) = false := by assumption
                                simpa using this
      obtain ⟨e1, e2⟩ := HF1.out hf0
      have e := HS.out
      rw [e1] at e
      refine ⟨⟨done ++ [a], b, rfl, own_cast hown2 (by simp) (by rw [strs_snoc]), by simpa using e, by simp; omega, below_app (hb.trans (hb1.mono hb.size)) (hc5 hb1) (own_below hown hb1) (Nat.le_refl _) hg2⟩, ?_⟩
      simpa [strLen] using e2
def noDbl : List UInt8 → Bool
  | x :: y :: t => !(x == 59 && y == 59) && noDbl (y :: t)
  | _ => true
theorem idx_noDbl (l : List UInt8) : ∀ i, i ≤ l.length → noDbl (l.drop i) = true → idxFrom l [59, 59] i = -1 := by
  intro i
  induction hn : l.length - i generalizing i with
  | zero =>
    intro hi _
    rw [idxFrom_end (by simp; omega)]
  | succ n ih =>
    intro hi hd
    by_cases hlt : i + 1 < l.length
    · have e1 : l.drop i = l[i] :: l.drop (i + 1) := List.drop_eq_getElem_cons (by omega)
      have e2 : l.drop (i + 1) = l[i + 1] :: l.drop (i + 2) := List.drop_eq_getElem_cons hlt
      have h2 := hd
      rw [e1, e2, noDbl, ← e2] at h2
      simp only [Bool.and_eq_true, Bool.not_eq_true'] at h2
      rw [← idxFrom_step (by simp; omega) ?_ (by simp)]
      · exact ih (i + 1) (by omega) (by omega) h2.2
      · rw [e1, e2]
        intro e
        have e' : [l[i], l[i + 1]] = [59, 59] := e
        injection e' with a1 a2
        injection a2 with a3
        rw [a1, a3] at h2
        simp at h2
    · rw [idxFrom_end (by simp; omega)]
set_option maxHeartbeats 400000 in
theorem zzContains_no (l : List UInt8) (w : World) (hs : l.length ≤ 4294967296) (hd : noDbl l = true) :
    Calls Tryz.prog 212 #[.string (bs l), .string (bs [59, 59])] w fun e w' => e = .returned (.bool false) ∧ w = w' := by
  have HC := Lib.hid (zzIndex_any l [59, 59] w hs (by simp) (by simp))
  rw [idx_noDbl l 0 (by simp) (by simpa using hd)] at HC
  clear hd
  go_enter Tryz.func212, Tryz.ntmps212
  go_wp2_with (go_at_call 210; refine HC.out.mono ?_; rintro e w' ⟨rfl, rfl⟩)
  go_ret
  exact ⟨rfl, rfl⟩
def cnt (c : UInt8) (l : List UInt8) : Nat := (l.filter (· == c)).length
theorem cnt_snoc (c : UInt8) (l : List UInt8) (k : Nat) (h : k < l.length) : cnt c (l.take (k + 1)) = cnt c (l.take k) + if l[k] = c then 1 else 0 := by
  unfold cnt
  rw [List.take_succ_eq_append_getElem h, List.filter_append]
  by_cases hc : l[k] = c <;> simp [hc]
theorem cnt_le (c : UInt8) (l : List UInt8) : cnt c l ≤ l.length := List.length_filter_le _ _
theorem take1_drop (l : List UInt8) (k : Nat) (h : k < l.length) : (l.drop k).take 1 = [l[k]] := by
  rw [List.drop_eq_getElem_cons h]; rfl
set_option maxHeartbeats 400000 in
theorem zzCount_one (l : List UInt8) (c : UInt8) (w : World) (hs : l.length ≤ 4294967296) :
    Calls Tryz.prog 230 #[.string (bs l), .string (bs [c])] w fun e w' => e = .returned (.int .i64 (cnt c l : Nat)) ∧ w = w' := by
  go_enter Tryz.func230, Tryz.ntmps230
  go_wp2
  go_loop [5, 6] (fun n i => ∃ k : Nat, k ≤ l.length ∧ i = .int .i64 k ∧ n = .int .i64 (cnt c (l.take k) : Nat)) (fun _ i => l.length - (intOf i).toNat)
  case atStart => exact ⟨0, Nat.zero_le _, rfl, rfl⟩
  case round =>
    obtain ⟨k, hk, rfl, rfl⟩ := hrel
    have hle := cnt_le c (l.take k)
    rw [List.length_take] at hle
    have hle' : cnt c (l.take k) ≤ 4294967296 := by omega
    clear hle
    by_cases hlt : k < l.length
    · have HS := Lib.hid (cnt_snoc c l k hlt)
      have ht := take1_drop l k hlt
      by_cases hc : l[k] = c
      · have hb : (List.take 1 (List.drop k l) == [c]) = true := by rw [ht, hc]; simp
        have HC := Lib.hid hc
        clear ht hc
        go_wp2
        exact ⟨⟨k + 1, by omega, by go_num, by rw [HS.out, if_pos HC.out]; go_num⟩, by simp [intOf]; omega⟩
      · have hb : (List.take 1 (List.drop k l) == [c]) = false := by rw [ht]; simpa using hc
        have HC := Lib.hid hc
        clear ht hc
        go_wp2
        exact ⟨⟨k + 1, by omega, by go_num, by rw [HS.out, if_neg HC.out]; go_num⟩, by simp [intOf]; omega⟩
    · go_wp2
      go_ret
      exact ⟨ret_int (by rw [List.take_of_length_le (by omega)]), rfl⟩
set_option maxHeartbeats 400000 in
theorem skipSpace_none (l : List UInt8) (k : Nat) (w : World) (_hk : k ≤ l.length) (_hs : l.length ≤ 4294967296) (hn : ∀ h : k < l.length, l[k] ≠ 32 ∧ l[k] ≠ 9) :
    Calls Tryz.prog 237 #[.string (bs l), .int .i64 k] w fun e w' => e = .returned (.int .i64 k) ∧ w = w' := by
  by_cases hlt : k < l.length
  · obtain ⟨h1, h2⟩ := hn hlt
    have h1' : ((l[k].toNat : Int) != 32) = true := by
      simp; intro e; exact h1 (UInt8.toNat_inj.1 (show l[k].toNat = 32 by omega))
    have h2' : ((l[k].toNat : Int) != 9) = true := by
      simp; intro e; exact h2 (UInt8.toNat_inj.1 (show l[k].toNat = 9 by omega))
    clear hn h1 h2
    go_enter Tryz.func237, Tryz.ntmps237
    go_wp2
    refine wp_loop_rounds 1 ?_; rw [rounds_succ]
    go_wp2
    go_ret
    exact ⟨rfl, rfl⟩
  · clear hn
    go_enter Tryz.func237, Tryz.ntmps237
    go_wp2
    refine wp_loop_rounds 1 ?_; rw [rounds_succ]
    go_wp2
    go_ret
    exact ⟨rfl, rfl⟩
end Go.Proofs.YtpgookhdffklkaaGreatDoor

namespace Go.Proofs.YtpgookhdffklkaaGreatDoor
open Go.RowKit
def hexD (n : Nat) : UInt8 := if n < 10 then UInt8.ofNat (48 + n) else UInt8.ofNat (55 + n)
def enc1 (c : UInt8) : List UInt8 := if escB c then [37, hexD (c.toNat / 16), hexD (c.toNat % 16)] else [c]
def encL (l : List UInt8) : List UInt8 := l.flatMap enc1
def escN (l : List UInt8) : Nat := (l.filter escB).length
theorem encL_cons (c : UInt8) (l : List UInt8) : encL (c :: l) = enc1 c ++ encL l := by simp [encL]
theorem encL_snoc (l : List UInt8) (k : Nat) (h : k < l.length) : encL (l.take (k + 1)) = encL (l.take k) ++ enc1 l[k] := take_succ_flat enc1 l k h
theorem encL_len (l : List UInt8) : (encL l).length = l.length + 2 * escN l := by
  induction l with
  | nil => rfl
  | cons c t ih =>
    rw [encL_cons, List.length_append, ih]
    unfold escN enc1
    cases h : escB c <;> simp [h] <;> omega
theorem escN_le (l : List UInt8) : escN l ≤ l.length := List.length_filter_le _ _
theorem escN_snoc (l : List UInt8) (k : Nat) (h : k < l.length) : escN (l.take (k + 1)) = escN (l.take k) + if escB l[k] then 1 else 0 := by
  unfold escN
  rw [List.take_succ_eq_append_getElem h, List.filter_append]
  cases hc : escB l[k] <;> simp [hc]
theorem encL_none {l : List UInt8} (h : escN l = 0) : encL l = l := by
  induction l with
  | nil => rfl
  | cons c t ih =>
    unfold escN at h ih
    rw [encL_cons]
    cases hc : escB c
    · simp [hc] at h
      rw [ih (by simpa using h)]
      simp [enc1, hc]
    · simp [hc] at h
theorem encL_take_le (l : List UInt8) (k : Nat) : (encL (l.take k)).length ≤ (encL l).length := by
  have : encL l = encL (l.take k) ++ encL (l.drop k) := by
    unfold encL; rw [← List.flatMap_append, List.take_append_drop]
  rw [this]; simp
/-- The text so far lies in block g. -/
def TB (w : World) (g req : Nat) (T : TypeId) (out : List UInt8) (cur : Array Value) : Prop := Blk w g T cur ∧ req ≤ cur.size ∧ ∀ i (h : i < out.length), cur[i]? = some (.int .u8 out[i].toNat)
theorem TB.cell {w : World} {g req : Nat} {T : TypeId} {out : List UInt8} {cur : Array Value} (h : TB w g req T out cur) (i : Nat) (hi : i < req) : ∃ v, w.cell? ⟨g, i, none⟩ = some v := by
  rw [h.1.cell i, Array.getElem?_eq_getElem (by have := h.2.1; omega)]
  exact ⟨_, rfl⟩
theorem TB.put1 {w : World} {g req : Nat} {T : TypeId} {out : List UInt8} {cur : Array Value} (h : TB w g req T out cur) (c : UInt8) (hr : out.length < req) : TB (w.setCell ⟨g, out.length, none⟩ (.int .u8 c.toNat)) g req T (out ++ [c]) (cur.setIfInBounds out.length (.int .u8 c.toNat)) := by
  obtain ⟨h1, h2, h3⟩ := h
  refine ⟨h1.set_ _ _, by simpa using h2, fun i hi => ?_⟩
  simp only [List.length_append, List.length_cons, List.length_nil] at hi
  by_cases he : i = out.length
  · subst he
    rw [Array.getElem?_setIfInBounds_self_of_lt (by omega)]
    simp
  · rw [Array.getElem?_setIfInBounds_ne (by omega), h3 i (by omega), List.getElem_append_left]
theorem hexAt (n : Nat) (hn : n < 16) (h : n < (⟨#[48, 49, 50, 51, 52, 53, 54, 55, 56, 57, 65, 66, 67, 68, 69, 70]⟩ : ByteArray).size) : (⟨#[48, 49, 50, 51, 52, 53, 54, 55, 56, 57, 65, 66, 67, 68, 69, 70]⟩ : ByteArray)[n]'h = hexD n := by
  have : ∀ m : Fin 16, (⟨#[48, 49, 50, 51, 52, 53, 54, 55, 56, 57, 65, 66, 67, 68, 69, 70]⟩ : ByteArray)[m.val]'(m.isLt) = hexD m.val := by decide
  exact this ⟨n, hn⟩
theorem strOfNums_bs (l : List UInt8) : strOfNums (l.map fun c => (c.toNat : Int)) = bs l := by
  apply ByteArray.ext
  apply Array.toList_inj.1
  rw [strOfNums_data, List.map_map]
  have : ((fun n : Int => UInt8.ofNat n.toNat) ∘ fun c : UInt8 => (c.toNat : Int)) = id := by funext c; simp
  rw [this]
  simp
theorem info5 : (Tryz.prog.info? 5).map (fun i => (i.zero, i.size, i.bytes)) = some (some (.int .u8 0), 1, 1) := by kernel_rfl
set_option maxRecDepth 100000 in
set_option maxHeartbeats 1000000 in
theorem valueEscape_any (l : List UInt8) (w : World) (hE : Env w) (hs : l.length ≤ 1000000) :
    Calls Tryz.prog 137 #[.string (bs l)] w fun e w' => e = .returned (.string (bs (encL l))) ∧ Below w.heap.size w w' := by
  have hEL := Lib.hid (encL_len l)
  have hsl := fun (h : l.length + 2 * escN l ≤ 64) W => run_sliceAt_array_h (P := Tryz.prog) W 256 ⟨w.heap.size, 0, none⟩ (by simp [Program.arrayLen, Program.elem, Tryz.underlying256]) .i64 ((l.length : Int) + 2 * (escN l : Int)) (by omega) (by simp [Program.arrayLen, Tryz.underlying256]; omega)
  go_enter Tryz.func137, Tryz.ntmps137
  go_wp2
  go_loop [3, 4, 5] (fun n i _ => ∃ k : Nat, k ≤ l.length ∧ i = .int .i64 k ∧ n = .int .i64 (escN (l.take k) : Nat)) (fun _ i _ => l.length - (intOf i).toNat)
  case atStart => exact ⟨0, Nat.zero_le _, rfl, rfl⟩
  case round =>
    obtain ⟨k, hk, rfl, rfl⟩ := hrel
    have hle := escN_le (l.take k)
    rw [List.length_take] at hle
    have hle' : escN (l.take k) ≤ 1000000 := by omega
    clear hle
    by_cases hlt : k < l.length
    · have HS := Lib.hid (escN_snoc l k hlt)
      have HC := Lib.hid (shouldEscape_any l[k] w hE)
      clear hE
      cases hb : escB l[k]
      · rw [hb] at HS HC
        go_wp2_with (go_at_call 188; refine HC.out.mono ?_; rintro e w' ⟨rfl, rfl⟩)
        exact ⟨⟨k + 1, by omega, by go_num, by rw [HS.out]; rfl⟩, by simp [intOf]; omega⟩
      · rw [hb] at HS HC
        go_wp2_with (go_at_call 188; refine HC.out.mono ?_; rintro e w' ⟨rfl, rfl⟩)
        exact ⟨⟨k + 1, by omega, by go_num, by rw [HS.out]; go_num⟩, by simp [intOf]; omega⟩
    · have e : k = l.length := by omega
      subst e
      rw [List.take_of_length_le (Nat.le_refl _)] at *
      clear hlt hk
      by_cases h0 : escN l = 0
      · go_wp2
        go_ret
        exact ⟨ret_str (encL_none h0).symm, Below.refl _ _⟩
      · by_cases h64 : l.length + 2 * escN l ≤ 64
        · have hsl' := hsl h64
          clear hsl
          have hE := Lib.hid hE
          go_wp2
          go_loopw [9, 10, 11] (fun jv iv _ wr => ∃ k : Nat, k ≤ l.length ∧ iv = .int .i64 k ∧ jv = .int .i64 ((encL (l.take k)).length : Nat) ∧ Below w.heap.size w wr ∧ ∃ cur T, TB wr (w.heap.size) (l.length + 2 * escN l) T (encL (l.take k)) cur) (fun _ iv _ _ => l.length - (intOf iv).toNat)
          case atStart =>
            exact ⟨0, Nat.zero_le _, rfl, rfl, (Below.refl _ _).alloc (Nat.le_refl _) _, _, 256, Blk.new _ _ _, (by simpa using h64), (fun i hi => absurd hi (by simp [encL]))⟩
          case round =>
            obtain ⟨k, hk, rfl, rfl, hb, cur, T, htb⟩ := hrel
            by_cases hlt : k < l.length
            · have HS := Lib.hid (encL_snoc l k hlt)
              have HC := Lib.hid (shouldEscape_any l[k] wr (hE.out.below hb))
              have hle : (encL (l.take (k + 1))).length ≤ l.length + 2 * escN l := by rw [← hEL.out]; exact encL_take_le _ _
              rw [HS.out, List.length_append] at hle
              cases hbb : escB l[k]
              · rw [hbb] at HC
                have he1 : enc1 l[k] = [l[k]] := by simp [enc1, hbb]
                rw [he1] at hle HS
                simp only [List.length_cons, List.length_nil] at hle
                obtain ⟨x0, hx0⟩ := htb.cell (encL (l.take k)).length (by omega)
                have hf0 := htb.1.frozen (encL (l.take k)).length
                have HT := Lib.hid (htb.put1 l[k] (by omega))
                have HB := Lib.hid (hb.setCell (p := ⟨w.heap.size, (encL (l.take k)).length, none⟩) (by simp) (.int .u8 l[k].toNat))
                clear htb he1 hbb hb
                generalize hJ : (encL (l.take k)).length = J at *
                go_wp2_with (go_at_call 188; refine HC.out.mono ?_; rintro e w' ⟨rfl, rfl⟩)
                exact ⟨⟨k + 1, by omega, by go_num, by rw [HS.out, List.length_append, hJ]; go_num, HB.out, _, T, by rw [HS.out]; exact HT.out⟩, by simp [intOf]; omega⟩
              · rw [hbb] at HC
                have he1 : enc1 l[k] = [37, hexD (l[k].toNat / 16), hexD (l[k].toNat % 16)] := by simp [enc1, hbb]
                rw [he1] at hle HS
                simp only [List.length_cons, List.length_nil] at hle
                obtain ⟨x0, hx0⟩ := htb.cell (encL (l.take k)).length (by omega)
                obtain ⟨x1, hx1⟩ := htb.cell ((encL (l.take k)).length + 1) (by omega)
                obtain ⟨x2, hx2⟩ := htb.cell ((encL (l.take k)).length + 2) (by omega)
                have hf0 := htb.1.frozen (encL (l.take k)).length
                have hf1 := htb.1.frozen ((encL (l.take k)).length + 1)
                have hf2 := htb.1.frozen ((encL (l.take k)).length + 2)
                have HT := Lib.hid htb
                have HB := Lib.hid hb
                have hlt8 := l[k].toNat_lt
                clear htb he1 hbb hb
                generalize hJ : (encL (l.take k)).length = J at *
                go_wp2_with (go_at_call 188; refine HC.out.mono ?_; rintro e w' ⟨rfl, rfl⟩)
                rw [hexAt _ (by omega), hexAt _ (by omega)]
                have t1 := HT.out.put1 37 (by omega)
                have t2 := t1.put1 (hexD (l[k].toNat / 16)) (by simp; omega)
                have t3 := t2.put1 (hexD (l[k].toNat % 16)) (by simp; omega)
                simp only [List.length_append, List.length_cons, List.length_nil, hJ, Nat.zero_add, List.append_assoc, List.cons_append, List.nil_append, Nat.reduceAdd] at t1 t2 t3
                refine ⟨⟨k + 1, by omega, by go_num, by rw [HS.out, List.length_append, hJ]; go_num, ((HB.out.setCell ?_ _).setCell ?_ _).setCell ?_ _, _, T, by rw [HS.out]; exact t3⟩, by simp [intOf]; omega⟩ <;> simp
            · have e : k = l.length := by omega
              subst e
              rw [List.take_of_length_le (Nat.le_refl _)] at htb
              have hcv := run_convert_bytes_arg (P := Tryz.prog) wr 131 5 Tryz.underlying131 Tryz.underlying5 (w.heap.size) 0 (l.length + 2 * escN l) 64 ((encL l).map fun c => (c.toNat : Int)) (by rw [List.length_map, hEL.out]) (fun i hi => by
                have hi' : i < (encL l).length := by rw [hEL.out]; exact hi
                rw [Nat.zero_add, htb.1.cell i, htb.2.2 i hi']
                simp [List.getD, List.getElem?_eq_getElem hi']) 9 Tryz.underlying9
              rw [strOfNums_bs] at hcv
              have HB := Lib.hid hb
              clear htb hb hlt
              go_wp2
              go_ret
              exact ⟨rfl, HB.out⟩
        · clear hsl
          have hE := Lib.hid hE
          have hxx := Lib.hid (show ((l.length : Int) + 2 * (escN l : Int)) = ((l.length + 2 * escN l : Nat) : Int) by omega)
          have hnn := Lib.hid (show l.length + 2 * escN l ≤ 4294967296 by omega)
          go_wp2_with (at_make; refine mk_full rfl (.tmp 37) (.tmp 37) 131 rfl 5 (.int .u8 0) 1 1 Tryz.underlying131 info5 (by decide) _ (l.length + 2 * escN l) rfl rfl hxx.out hnn.out ?_; intro w1 hown1 hb1; go_frame)
          go_loopw [9, 10, 11] (fun jv iv _ wr => ∃ k : Nat, k ≤ l.length ∧ iv = .int .i64 k ∧ jv = .int .i64 ((encL (l.take k)).length : Nat) ∧ Below w.heap.size w wr ∧ ∃ cur T, TB wr (w.heap.size + 1) (l.length + 2 * escN l) T (encL (l.take k)) cur) (fun _ iv _ _ => l.length - (intOf iv).toNat)
          case atStart =>
            refine ⟨0, Nat.zero_le _, rfl, rfl, ((Below.refl _ _).alloc (Nat.le_refl _) _).trans (hb1.mono (by simp)), ?_⟩
            obtain ⟨cur, hbk, hsz, _⟩ := own_blk hown1
            exact ⟨cur, 5, by simpa using hbk, by omega, fun i hi => absurd hi (by simp [encL])⟩
          case round =>
            obtain ⟨k, hk, rfl, rfl, hb, cur, T, htb⟩ := hrel
            by_cases hlt : k < l.length
            · have HS := Lib.hid (encL_snoc l k hlt)
              have HC := Lib.hid (shouldEscape_any l[k] wr (hE.out.below hb))
              have hle : (encL (l.take (k + 1))).length ≤ l.length + 2 * escN l := by rw [← hEL.out]; exact encL_take_le _ _
              rw [HS.out, List.length_append] at hle
              cases hbb : escB l[k]
              · rw [hbb] at HC
                have he1 : enc1 l[k] = [l[k]] := by simp [enc1, hbb]
                rw [he1] at hle HS
                simp only [List.length_cons, List.length_nil] at hle
                obtain ⟨x0, hx0⟩ := htb.cell (encL (l.take k)).length (by omega)
                have hf0 := htb.1.frozen (encL (l.take k)).length
                have HT := Lib.hid (htb.put1 l[k] (by omega))
                have HB := Lib.hid (hb.setCell (p := ⟨w.heap.size + 1, (encL (l.take k)).length, none⟩) (by simp) (.int .u8 l[k].toNat))
                clear htb he1 hbb hb
                generalize hJ : (encL (l.take k)).length = J at *
                go_wp2_with (go_at_call 188; refine HC.out.mono ?_; rintro e w' ⟨rfl, rfl⟩)
                exact ⟨⟨k + 1, by omega, by go_num, by rw [HS.out, List.length_append, hJ]; go_num, HB.out, _, T, by rw [HS.out]; exact HT.out⟩, by simp [intOf]; omega⟩
              · rw [hbb] at HC
                have he1 : enc1 l[k] = [37, hexD (l[k].toNat / 16), hexD (l[k].toNat % 16)] := by simp [enc1, hbb]
                rw [he1] at hle HS
                simp only [List.length_cons, List.length_nil] at hle
                obtain ⟨x0, hx0⟩ := htb.cell (encL (l.take k)).length (by omega)
                obtain ⟨x1, hx1⟩ := htb.cell ((encL (l.take k)).length + 1) (by omega)
                obtain ⟨x2, hx2⟩ := htb.cell ((encL (l.take k)).length + 2) (by omega)
                have hf0 := htb.1.frozen (encL (l.take k)).length
                have hf1 := htb.1.frozen ((encL (l.take k)).length + 1)
                have hf2 := htb.1.frozen ((encL (l.take k)).length + 2)
                have HT := Lib.hid htb
                have HB := Lib.hid hb
                have hlt8 := l[k].toNat_lt
                clear htb he1 hbb hb
                generalize hJ : (encL (l.take k)).length = J at *
                go_wp2_with (go_at_call 188; refine HC.out.mono ?_; rintro e w' ⟨rfl, rfl⟩)
                rw [hexAt _ (by omega), hexAt _ (by omega)]
                have t1 := HT.out.put1 37 (by omega)
                have t2 := t1.put1 (hexD (l[k].toNat / 16)) (by simp; omega)
                have t3 := t2.put1 (hexD (l[k].toNat % 16)) (by simp; omega)
                simp only [List.length_append, List.length_cons, List.length_nil, hJ, Nat.zero_add, List.append_assoc, List.cons_append, List.nil_append, Nat.reduceAdd] at t1 t2 t3
                refine ⟨⟨k + 1, by omega, by go_num, by rw [HS.out, List.length_append, hJ]; go_num, ((HB.out.setCell ?_ _).setCell ?_ _).setCell ?_ _, _, T, by rw [HS.out]; exact t3⟩, by simp [intOf]; omega⟩ <;> simp
            · have e : k = l.length := by omega
              subst e
              rw [List.take_of_length_le (Nat.le_refl _)] at htb
              have hcv := run_convert_bytes_arg (P := Tryz.prog) wr 131 5 Tryz.underlying131 Tryz.underlying5 (w.heap.size + 1) 0 (l.length + 2 * escN l) (l.length + 2 * escN l) ((encL l).map fun c => (c.toNat : Int)) (by rw [List.length_map, hEL.out]) (fun i hi => by
                have hi' : i < (encL l).length := by rw [hEL.out]; exact hi
                rw [Nat.zero_add, htb.1.cell i, htb.2.2 i hi']
                simp [List.getD, List.getElem?_eq_getElem hi']) 9 Tryz.underlying9
              rw [strOfNums_bs] at hcv
              have HB := Lib.hid hb
              clear htb hb hlt
              go_wp2
              go_ret
              exact ⟨rfl, HB.out⟩
end Go.Proofs.YtpgookhdffklkaaGreatDoor

namespace Go.Proofs.YtpgookhdffklkaaGreatDoor
open Go.RowKit
theorem hexD_isHex (n : Nat) (h : n < 16) : isHexB ((hexD n).toNat : Int) = true := by
  have : ∀ m : Fin 16, isHexB ((hexD m.val).toNat : Int) = true := by decide
  exact this ⟨n, h⟩
theorem hexD_hexV (n : Nat) (h : n < 16) : hexV ((hexD n).toNat : Int) = n := by
  have : ∀ m : Fin 16, hexV ((hexD m.val).toNat : Int) = (m.val : Int) := by decide
  exact this ⟨n, h⟩
theorem isHex_D (n : Nat) (h : n < 16) (w : World) : Calls Tryz.prog 185 #[.int .u8 (hexD n).toNat] w fun e w' => e = .returned (.bool true) ∧ w = w' := by
  have := isHex_any ((hexD n).toNat : Int) w (by omega) (by have := (hexD n).toNat_lt; omega)
  rwa [hexD_isHex n h] at this
theorem zzHex_D (n : Nat) (h : n < 16) (w : World) : Calls Tryz.prog 186 #[.int .u8 (hexD n).toNat] w fun e w' => e = .returned (.int .u8 n) ∧ w = w' := by
  have := zzHex_any ((hexD n).toNat : Int) w (hexD_isHex n h)
  rwa [hexD_hexV n h] at this
/-- Where the k-th byte's text stands. -/
theorem encL_split (v : List UInt8) (k : Nat) (h : k < v.length) : encL v = encL (v.take k) ++ (enc1 v[k] ++ encL (v.drop (k + 1))) := by
  unfold encL
  rw [← List.flatMap_cons, ← List.drop_eq_getElem_cons h, ← List.flatMap_append, List.take_append_drop]
theorem encL_at0 (v : List UInt8) (k : Nat) (h : k < v.length) (hb : escB v[k] = false) : (encL (v.take k)).length < (encL v).length ∧ (encL v)[(encL (v.take k)).length]? = some v[k] := by
  have e := encL_split v k h
  have e1 : enc1 v[k] = [v[k]] := by simp [enc1, hb]
  rw [e1] at e
  have hl : (encL (v.take k)).length < (encL v).length := by rw [e]; simp
  refine ⟨hl, ?_⟩
  conv => lhs; rw [e]
  rw [List.getElem?_append_right (Nat.le_refl _)]
  simp
theorem encL_at3 (v : List UInt8) (k : Nat) (h : k < v.length) (hb : escB v[k] = true) : (encL (v.take k)).length + 2 < (encL v).length ∧ (encL v)[(encL (v.take k)).length]? = some 37 ∧ (encL v)[(encL (v.take k)).length + 1]? = some (hexD (v[k].toNat / 16)) ∧ (encL v)[(encL (v.take k)).length + 2]? = some (hexD (v[k].toNat % 16)) := by
  have e := encL_split v k h
  have e1 : enc1 v[k] = [37, hexD (v[k].toNat / 16), hexD (v[k].toNat % 16)] := by simp [enc1, hb]
  rw [e1] at e
  have hl : (encL (v.take k)).length + 2 < (encL v).length := by
    have := congrArg List.length e
    simp only [List.length_append, List.length_cons, List.length_nil] at this
    omega
  have a : ∀ i, i < 3 → (encL v)[(encL (v.take k)).length + i]? = [37, hexD (v[k].toNat / 16), hexD (v[k].toNat % 16)][i]? := by
    intro i hi
    conv => lhs; rw [e]
    rw [List.getElem?_append_right (by omega), List.getElem?_append_left (by simp; omega)]
    congr 1; omega
  exact ⟨hl, a 0 (by omega), a 1 (by omega), a 2 (by omega)⟩
theorem get_of? {l : List UInt8} {i : Nat} {c : UInt8} (h : i < l.length) (he : l[i]? = some c) : l[i] = c := by
  rw [List.getElem?_eq_getElem h] at he
  exact Option.some.inj he
theorem esc_37 {c : UInt8} (h : escB c = false) : ((c.toNat : Int) != 37) = true := by
  simp only [escB, Bool.or_eq_false_iff] at h
  simp
  intro e
  have : c = 37 := UInt8.toNat_inj.1 (show c.toNat = 37 by omega)
  rw [this] at h
  simp at h
set_option maxHeartbeats 1000000 in
theorem validPct_enc (v : List UInt8) (w : World) (hs : v.length ≤ 1000000) :
    Calls Tryz.prog 238 #[.string (bs (encL v))] w fun e w' => e = .returned (.bool true) ∧ Below w.heap.size w w' := by
  have hEL := encL_len v
  have hEN := escN_le v
  have hlen : (encL v).length ≤ 3000000 := by omega
  clear hEL hEN
  have H0 := Lib.hid (fun k h hb => encL_at0 v k h hb)
  have H3 := Lib.hid (fun k h hb => encL_at3 v k h hb)
  have HE := Lib.hid (fun k h => encL_snoc v k h)
  have HZ := Lib.hid (show encL (v.take v.length) = encL v by rw [List.take_of_length_le (Nat.le_refl _)])
  go_enter Tryz.func238, Tryz.ntmps238
  go_wp2
  go_loopw [3] (fun i wr => ∃ k : Nat, k ≤ v.length ∧ i = .int .i64 ((encL (v.take k)).length : Nat) ∧ Below w.heap.size w wr) (fun i _ => (encL v).length - (intOf i).toNat)
  case atStart => exact ⟨0, Nat.zero_le _, rfl, Below.refl _ _⟩
  case round =>
    obtain ⟨k, hk, rfl, hb⟩ := hrel
    have HB := Lib.hid hb; clear hb
    by_cases hlt : k < v.length
    · cases hb : escB v[k]
      · obtain ⟨h1, h2⟩ := H0.out k hlt hb
        have h37 := esc_37 hb
        have HS := Lib.hid (HE.out k hlt)
        have he1 := Lib.hid (show enc1 v[k] = [v[k]] by simp [enc1, hb])
        generalize hJ : (encL (v.take k)).length = J at *
        have h37' : (((encL v)[J].toNat : Int) != 37) = true := by rw [get_of? h1 h2]; exact h37
        clear h2 h37 hb
        go_wp2
        refine ⟨⟨k + 1, by omega, ?_, HB.out⟩, by simp [intOf]; omega⟩
        rw [HS.out, List.length_append, he1.out, hJ]; go_num
      · obtain ⟨h1, h2, h3, h4⟩ := H3.out k hlt hb
        have HS := Lib.hid (HE.out k hlt)
        have he1 := Lib.hid (show enc1 v[k] = [37, hexD (v[k].toNat / 16), hexD (v[k].toNat % 16)] by simp [enc1, hb])
        have hlt8 := v[k].toNat_lt
        have C1 := fun W => Lib.hid (isHex_D (v[k].toNat / 16) (by omega) W)
        have C2 := fun W => Lib.hid (isHex_D (v[k].toNat % 16) (by omega) W)
        generalize hJ : (encL (v.take k)).length = J at *
        have g0 := get_of? (by omega) h2
        have g1 := get_of? (by omega) h3
        have g2 := get_of? (by omega) h4
        clear hb h2 h3 h4
        go_wp2_with (first | (go_at_call 185; (with_reducible refine (C1 _).out.mono ?_); rintro e w' ⟨rfl, rfl⟩) | (go_at_call 185; (with_reducible refine (C2 _).out.mono ?_); rintro e w' ⟨rfl, rfl⟩))
        refine ⟨⟨k + 1, by omega, ?_, HB.out⟩, by simp [intOf]; omega⟩
        rw [HS.out, List.length_append, he1.out, hJ]; go_num
    · have e : k = v.length := by omega
      subst e
      rw [HZ.out] at *
      go_wp2
      go_ret
      exact ⟨rfl, HB.out⟩
theorem join_hex (n : Nat) (h : n < 256) : bits BinOp.or IntKind.u8 (IntKind.u8.wrap ((n : Int) / 16 * 16)) ((n : Int) % 16) = n := by
  have : ∀ m : Fin 256, bits BinOp.or IntKind.u8 (IntKind.u8.wrap ((m.val : Int) / 16 * 16)) ((m.val : Int) % 16) = (m.val : Int) := by decide +kernel
  exact this ⟨n, h⟩
/-- Bytes in a row of the call's own. -/
def byts (l : List UInt8) : List Value := l.map fun c => .int .u8 c.toNat
theorem byts_snoc (l : List UInt8) (c : UInt8) : byts (l ++ [c]) = byts l ++ [.int .u8 c.toNat] := by simp [byts]
theorem one_int (k : IntKind) (n : Int) : ∀ u ∈ [Value.int k n], u.oneCell' = true := by intro u hu; simp at hu; subst hu; rfl
/-- The text of a row of bytes of the call's own. -/
theorem conv_own {w : World} {base : Nat} {v : Value} {l : List UInt8} (h : w.ownsRow base 5 1 v l.length (byts l)) :
    (convert 131 9 v).run Tryz.prog w = .ok (.string (bs l)) w := by
  rcases h.2 with ⟨rfl, h0⟩ | ⟨g, cap, cur, rfl, _, hh, _, _, _, ht⟩
  · have : l = [] := List.eq_nil_of_length_eq_zero h0
    subst this
    rw [run_convert_bytes_nil w 131 5 Tryz.underlying131 Tryz.underlying5 _ _ 9 Tryz.underlying9]
    rfl
  · have := run_convert_bytes_arg (P := Tryz.prog) w 131 5 Tryz.underlying131 Tryz.underlying5 g 0 l.length cap (l.map fun c => (c.toNat : Int)) (by simp) (fun i hi => by
      rw [Nat.zero_add, Blk.cell (t := 5) hh i]
      have h1 : (byts l)[i]? = some (.int .u8 l[i].toNat) := by simp [byts, hi]
      rw [← ht, List.getElem?_take] at h1
      split at h1
      · rw [← Array.getElem?_toList, h1]; simp [List.getD, hi]
      · cases h1) 9 Tryz.underlying9
    rwa [strOfNums_bs] at this
set_option maxRecDepth 100000 in
set_option maxHeartbeats 4000000 in
theorem unescape_enc (v : List UInt8) (w : World) (hs : v.length ≤ 1000000) :
    Calls Tryz.prog 127 #[.string (bs (encL v))] w fun e w' => e = .returned (.tuple #[.string (bs v), .nilIface]) ∧ Below w.heap.size w w' := by
  have hEL := encL_len v
  have hEN := escN_le v
  have hlen : (encL v).length ≤ 3000000 := by omega
  clear hEL hEN
  have H0 := Lib.hid (fun k h hb => encL_at0 v k h hb)
  have H3 := Lib.hid (fun k h hb => encL_at3 v k h hb)
  have HE := Lib.hid (fun k h => encL_snoc v k h)
  have HZ := Lib.hid (show encL (v.take v.length) = encL v by rw [List.take_of_length_le (Nat.le_refl _)])
  go_enter Tryz.func127, Tryz.ntmps127
  go_wp2
  go_loopw [4, 5] (fun sv i wr => ∃ k : Nat, k ≤ v.length ∧ i = .int .i64 ((encL (v.take k)).length : Nat) ∧ wr.ownsRow w.heap.size 5 1 sv (v.take k).length (byts (v.take k)) ∧ Below w.heap.size w wr) (fun _ i _ => (encL v).length - (intOf i).toNat)
  case atStart => exact ⟨0, Nat.zero_le _, rfl, World.ownsRow_nil _ _ _ _, Below.refl _ _⟩
  case round =>
    obtain ⟨k, hk, rfl, hown, hb⟩ := hrel
    have HB := Lib.hid hb; clear hb
    by_cases hlt : k < v.length
    · have hl4 : (v.take k).length ≤ 4294967296 := by simp; omega
      have hbase := HB.out.size
      cases hb : escB v[k]
      · obtain ⟨h1, h2⟩ := H0.out k hlt hb
        have h37 := esc_37 hb
        have HS := Lib.hid (HE.out k hlt)
        have he1 := Lib.hid (show enc1 v[k] = [v[k]] by simp [enc1, hb])
        generalize hJ : (encL (v.take k)).length = J at *
        have g0 := get_of? h1 h2
        clear h2 hb
        go_wp2_with (at_builtin; refine app1 rfl (.tmp 16) (.tmp 20) 131 rfl w.heap.size 5 5 _ 1 1 Tryz.underlying131 info5 rfl (by decide) (by decide) u4 (v.take k).length (byts (v.take k)) rfl [.int .u8 v[k].toNat] hown rfl rfl (one_int _ _) hl4 hbase ?_; intro v2 w2 hown2 hg2 _)
        have HT := Lib.hid (show v.take (k + 1) = v.take k ++ [v[k]] from List.take_succ_eq_append_getElem hlt)
        refine ⟨⟨k + 1, by omega, by rw [HS.out, List.length_append, he1.out, hJ]; go_num, own_cast hown2 (by simp; omega) (by rw [HT.out, byts_snoc]), below_app HB.out hbase hown (Nat.le_refl _) hg2⟩, by simp [intOf]; omega⟩
      · obtain ⟨h1, h2, h3, h4⟩ := H3.out k hlt hb
        have HS := Lib.hid (HE.out k hlt)
        have he1 := Lib.hid (show enc1 v[k] = [37, hexD (v[k].toNat / 16), hexD (v[k].toNat % 16)] by simp [enc1, hb])
        have hlt8 := v[k].toNat_lt
        have C1 := fun W => Lib.hid (isHex_D (v[k].toNat / 16) (by omega) W)
        have C2 := fun W => Lib.hid (isHex_D (v[k].toNat % 16) (by omega) W)
        have D1 := fun W => Lib.hid (zzHex_D (v[k].toNat / 16) (by omega) W)
        have D2 := fun W => Lib.hid (zzHex_D (v[k].toNat % 16) (by omega) W)
        generalize hJ : (encL (v.take k)).length = J at *
        have g0 := get_of? (by omega) h2
        have g1 := get_of? (by omega) h3
        have g2 := get_of? (by omega) h4
        clear hb h2 h3 h4
        go_wp2_with (first | (go_at_call 185; (with_reducible refine (C1 _).out.mono ?_); rintro e w' ⟨rfl, rfl⟩) | (go_at_call 185; (with_reducible refine (C2 _).out.mono ?_); rintro e w' ⟨rfl, rfl⟩))
        have b1 : (0 : Int) ≤ (J : Int) + 1 := by omega
        have b2 : (J : Int) + 1 < (encL v).length := by omega
        have b3 : (0 : Int) ≤ (J : Int) + 2 := by omega
        have b4 : (J : Int) + 2 < (encL v).length := by omega
        have w1 : IntKind.i64.wrap ((J : Int) + 1) = (J : Int) + 1 := IntWalk.i64_in _ (by omega)
        have w2 : IntKind.i64.wrap ((J : Int) + 2) = (J : Int) + 2 := IntWalk.i64_in _ (by omega)
        have t1 : ((J : Int) + 1).toNat = J + 1 := by omega
        have t2 : ((J : Int) + 2).toNat = J + 2 := by omega
        have hownd : wr.drew.ownsRow w.heap.size 5 1 u4 (v.take k).length (byts (v.take k)) := hown
        go_region_law (first | (refine step_app1 rfl (.tmp 44) (.tmp 57) 131 rfl w.heap.size 5 5 _ 1 1 Tryz.underlying131 info5 rfl (by decide) (by decide) u4 (v.take k).length (byts (v.take k)) rfl [_] hownd rfl rfl (one_int _ _) hl4 hbase ?_; intro v2 w2 hown2 hg2 _) | (go_simp; go_at_call 186; (with_reducible refine (D1 _).out.mono ?_); rintro e w' ⟨rfl, rfl⟩) | (go_simp; go_at_call 186; (with_reducible refine (D2 _).out.mono ?_); rintro e w' ⟨rfl, rfl⟩))
        all_goals go_wp2
        all_goals
          have HT := Lib.hid (show v.take (k + 1) = v.take k ++ [v[k]] from List.take_succ_eq_append_getElem hlt)
          rw [join_hex _ hlt8] at hown2
          refine ⟨⟨k + 1, by omega, by rw [HS.out, List.length_append, he1.out, hJ]; go_num, own_cast hown2 (by simp; omega) (by rw [HT.out, byts_snoc]), below_app HB.out.drew hbase hownd (Nat.le_refl _) hg2⟩, by simp [intOf]; omega⟩
    · have e : k = v.length := by omega
      subst e
      rw [HZ.out] at *
      rw [List.take_of_length_le (Nat.le_refl _)] at hown
      have hcv := conv_own hown
      go_wp2
      go_ret2
      exact ⟨rfl, HB.out⟩
end Go.Proofs.YtpgookhdffklkaaGreatDoor

namespace Go.Proofs.YtpgookhdffklkaaGreatDoor
open Go.RowKit
theorem skip0 (l : List UInt8) (w : World) (hs : l.length ≤ 4294967296) (hn : ∀ h : 0 < l.length, l[0] ≠ 32 ∧ l[0] ≠ 9) :
    Calls Tryz.prog 237 #[.string (bs l), .int .i64 0] w fun e w' => e = .returned (.int .i64 0) ∧ w = w' := by
  simpa using skipSpace_none l 0 w (Nat.zero_le _) hs hn
theorem key_not_space {c : UInt8} (h : keyB c = true) : c ≠ 32 ∧ c ≠ 9 := by
  constructor <;> (rintro rfl; revert h; decide)
theorem val_not_space {c : UInt8} (h : valB c = true) : c ≠ 32 ∧ c ≠ 9 := by
  constructor <;> (rintro rfl; revert h; decide)
theorem key61 : keyB 61 = false := by decide
theorem val_of_enc (v : List UInt8) : (encL v).all valB = true := by
  have hh : ∀ n : Fin 16, valB (hexD n.val) = true := by decide
  rw [List.all_eq_true]
  intro c hc
  unfold encL at hc
  rw [List.mem_flatMap] at hc
  obtain ⟨x, _, hx⟩ := hc
  unfold enc1 at hx
  cases he : escB x
  · simp [he] at hx
    subst hx
    simp [escB] at he
    exact he.2
  · have := x.toNat_lt
    simp [he] at hx
    rcases hx with rfl | rfl | rfl
    · decide
    · exact hh ⟨x.toNat / 16, by omega⟩
    · exact hh ⟨x.toNat % 16, by omega⟩
theorem tok_ne {k : List UInt8} (h : tok k = true) : 0 < k.length := by
  simp [tok] at h
  exact List.length_pos_iff.2 h.1
theorem tok_all {k : List UInt8} (h : tok k = true) : k.all keyB = true := by
  simp only [tok, Bool.and_eq_true] at h
  exact h.2
theorem all_get {p : UInt8 → Bool} {l : List UInt8} (h : l.all p = true) (i : Nat) (hi : i < l.length) : p l[i] = true := List.all_eq_true.1 h _ (List.getElem_mem hi)
/-- One step of a range over a text whose iterator is the last block. -/
theorem next1 (W : World) (g : Nat) (hg : W.heap.size = g) (l : List UInt8) (k : Nat) (h : k < l.length) (ty : TypeId) :
    (Instr.next (.pointer (some ⟨g, 0, none⟩)) true ty).run Tryz.prog (W.iter (bs l) k) =
      .ok (.tuple #[.bool true, .int .i64 k, .int .i32 (Utf8.decode (bs l) k).1]) (W.iter (bs l) (k + (Utf8.decode (bs l) k).2)) := by
  subst hg; exact run_next_any W (bs l) k ty (by simpa using h)
theorem nextE (W : World) (g : Nat) (hg : W.heap.size = g) (l : List UInt8) (k : Nat) (h : ¬ k < l.length) (ty : TypeId) :
    (Instr.next (.pointer (some ⟨g, 0, none⟩)) true ty).run Tryz.prog (W.iter (bs l) k) = .ok (.tuple #[.bool false]) (W.iter (bs l) k) := by
  subst hg; exact run_next_end W (bs l) k ty (by simpa using h)
theorem size1 (w : World) (o : Obj) : (w.alloc o).heap.size = w.heap.size + 1 := by simp
theorem iterPos1 (W : World) (g : Nat) (hg : W.heap.size = g) (s : ByteArray) (p : Nat) : (W.iter s p).iterPos g = p := by subst hg; exact World.iterPos_iter W s p
set_option maxRecDepth 100000 in
set_option maxHeartbeats 2000000 in
theorem fields_key (k : List UInt8) (w : World) (hE : Env w) (hk : tok k = true) (hs : k.length ≤ 1000000) :
    Calls Tryz.prog 211 #[.string (bs k)] w fun e w' => e = .returned (.tuple #[.agg #[.string (bs k), .string (bs []), .bool false], .bool true]) ∧ Below w.heap.size w w' := by
  have hpos := tok_ne hk
  have hall := Lib.hid (tok_all hk)
  have C0 := fun W => Lib.hid (skip0 k W (by omega) (fun h => key_not_space (all_get hall.out 0 h)))
  have C1 := fun W => Lib.hid (skipSpace_none k k.length W (Nat.le_refl _) (by omega) (fun h => absurd h (by omega)))
  have HE := Lib.hid hE
  clear hk hE
  go_enter Tryz.func211, Tryz.ntmps211
  go_wp2_with (go_at_call 237; (with_reducible refine (C0 _).out.mono ?_); rintro e w' ⟨rfl, rfl⟩)
  go_loopw [6, 8] (fun n _ wr => ∃ j : Nat, j ≤ k.length ∧ n = .int .i64 j ∧ wr = (w.alloc (Obj.cells #[.string ⟨#[]⟩, .string ⟨#[]⟩, .bool false] 270)).iter (bs k) j) (fun _ _ wr => k.length - wr.iterPos (w.heap.size + 1))
  case atStart => exact ⟨0, Nat.zero_le _, rfl, rfl⟩
  case round =>
    obtain ⟨j, hj, rfl, rfl⟩ := hrel
    by_cases hlt : j < k.length
    · have hkb := all_get hall.out j hlt
      have hnx := fun ty => next1 (w.alloc (Obj.cells #[.string ⟨#[]⟩, .string ⟨#[]⟩, .bool false] 270)) (w.heap.size + 1) (size1 _ _) k j hlt ty
      have HC := Lib.hid (keyCharD k j hlt ((w.alloc (Obj.cells #[.string ⟨#[]⟩, .string ⟨#[]⟩, .bool false] 270)).iter (bs k) (j + (Utf8.decode (bs k) j).2)) (env_iter (HE.out.below ((Below.refl _ _).alloc (Nat.le_refl _) _)) _ _) hkb)
      have d2 := (decode_key k j hlt).2 hkb
      rw [d2] at hnx HC
      have HP := Lib.hid (fun p => iterPos1 (w.alloc (Obj.cells #[.string ⟨#[]⟩, .string ⟨#[]⟩, .bool false] 270)) (w.heap.size + 1) (size1 _ _) (bs k) p)
      clear hkb d2
      go_wp2_with (go_at_call 183; refine HC.out.mono ?_; rintro e w' ⟨rfl, rfl⟩)
      go_roundw
      case rel => exact ⟨j + 1, by omega, by go_num, rfl⟩
      case measure => rw [HP.out, HP.out]; omega
    · have e : j = k.length := by omega
      subst e
      have hnx := fun ty => nextE (w.alloc (Obj.cells #[.string ⟨#[]⟩, .string ⟨#[]⟩, .bool false] 270)) (w.heap.size + 1) (size1 _ _) k k.length hlt ty
      have hB := Lib.hid (((Below.refl w.heap.size w).alloc (Nat.le_refl _) (Obj.cells #[.string ⟨#[]⟩, .string ⟨#[]⟩, .bool false] 270)).alloc (by simp) (.stringIter (bs k) k.length))
      have hc0 : ((w.alloc (Obj.cells #[.string ⟨#[]⟩, .string ⟨#[]⟩, .bool false] 270)).iter (bs k) k.length).cell? ⟨w.heap.size, 0, none⟩ = some (.string ⟨#[]⟩) := ((Blk.new w 270 #[.string ⟨#[]⟩, .string ⟨#[]⟩, .bool false]).alloc _).cell 0
      have hc1 : ((w.alloc (Obj.cells #[.string ⟨#[]⟩, .string ⟨#[]⟩, .bool false] 270)).iter (bs k) k.length).cell? ⟨w.heap.size, 1, none⟩ = some (.string ⟨#[]⟩) := ((Blk.new w 270 #[.string ⟨#[]⟩, .string ⟨#[]⟩, .bool false]).alloc _).cell 1
      have hc2 : ((w.alloc (Obj.cells #[.string ⟨#[]⟩, .string ⟨#[]⟩, .bool false] 270)).iter (bs k) k.length).cell? ⟨w.heap.size, 2, none⟩ = some (.bool false) := ((Blk.new w 270 #[.string ⟨#[]⟩, .string ⟨#[]⟩, .bool false]).alloc _).cell 2
      have hf : ∀ i, ((w.alloc (Obj.cells #[.string ⟨#[]⟩, .string ⟨#[]⟩, .bool false] 270)).iter (bs k) k.length).frozen? ⟨w.heap.size, i, none⟩ = false := fun i => ((Blk.new w 270 #[.string ⟨#[]⟩, .string ⟨#[]⟩, .bool false]).alloc _).frozen i
      have hK := (Blk.new w 270 #[.string ⟨#[]⟩, .string ⟨#[]⟩, .bool false]).alloc (.stringIter (bs k) k.length)
      change Below w.heap.size w ((w.alloc (Obj.cells #[.string ⟨#[]⟩, .string ⟨#[]⟩, .bool false] 270)).iter (bs k) k.length) at hB
      change Blk ((w.alloc (Obj.cells #[.string ⟨#[]⟩, .string ⟨#[]⟩, .bool false] 270)).iter (bs k) k.length) _ _ _ at hK
      generalize (w.alloc (Obj.cells #[.string ⟨#[]⟩, .string ⟨#[]⟩, .bool false] 270)).iter (bs k) k.length = W at *
      go_wp2_with (go_at_call 237; (with_reducible refine (C1 _).out.mono ?_); rintro e w' ⟨rfl, rfl⟩)
      have hF := (((hK.set_ 0 (.string (bs k))).set_ 0 (.string (bs k))).set_ 1 (.string ⟨#[]⟩)).set_ 2 (.bool false)
      have c0 := hF.cell 0
      have c1 := hF.cell 1
      have c2 := hF.cell 2
      simp at c0 c1 c2
      refine bodyPost_ret (v := .tuple #[.agg #[.string (bs k), .string (bs []), .bool false], .bool true]) (by simp [results, Tryz.results211, go_sem, c0, c1, c2]; rfl) rfl ⟨rfl, ?_⟩
      exact ((((hB.setCell (Nat.le_refl _) _).setCell (Nat.le_refl _) _).setCell (Nat.le_refl _) _).setCell (Nat.le_refl _) _)
set_option maxRecDepth 100000 in
set_option maxHeartbeats 4000000 in
theorem fields_val (k v : List UInt8) (w : World) (hE : Env w) (hk : tok k = true) (hs : k.length ≤ 100000) (hv : v.length ≤ 100000) :
    Calls Tryz.prog 211 #[.string (bs (k ++ 61 :: encL v))] w fun e w' => e = .returned (.tuple #[.agg #[.string (bs k), .string (bs (encL v)), .bool true], .bool true]) ∧ Below w.heap.size w w' := by
  have hpos := tok_ne hk
  have hall := Lib.hid (tok_all hk)
  have hval := Lib.hid (val_of_enc v)
  have hEL := encL_len v
  have hEN := escN_le v
  have hm : (encL v).length ≤ 300000 := by omega
  clear hEL hEN
  have CP := fun W => Lib.hid (validPct_enc v W (by omega))
  have HE := Lib.hid hE
  obtain ⟨S, hS⟩ : ∃ S, S = k ++ 61 :: encL v := ⟨_, rfl⟩
  rw [← hS]
  have hl1 : S.length ≤ k.length + 1 + (encL v).length := by rw [hS]; simp; omega
  have hl2 : k.length + 1 + (encL v).length ≤ S.length := by rw [hS]; simp; omega
  have hk1 := Lib.hid (show ∀ j (h : j < k.length), S[j]'(by omega) = k[j] by intro j h; subst hS; rw [List.getElem_append_left h])
  have hn := Lib.hid (show S[k.length]'(by omega) = 61 by subst hS; rw [List.getElem_append_right (Nat.le_refl _)]; simp)
  have hdrop := Lib.hid (show S.drop (k.length + 1) = encL v by subst hS; rw [List.drop_append]; simp)
  have htake := Lib.hid (show S.take k.length = k by subst hS; simp)
  have hv1 := Lib.hid (show ∀ (h : k.length + 1 < S.length), valB S[k.length + 1] = true by
    intro h
    have h0 : 0 < (encL v).length := by omega
    have e1 : S[k.length + 1] = (encL v)[0] := by
      have := List.getElem_drop (xs := S) (i := k.length + 1) (j := 0) (h := by simp; omega)
      simp only [Nat.add_zero] at this
      rw [← this]
      simp only [hdrop.out]
    rw [e1]; exact all_get hval.out 0 h0)
  have hk0 := Lib.hid (show keyB (S[0]'(by omega)) = true by rw [hk1.out 0 hpos]; exact all_get hall.out 0 hpos)
  clear hS hk hE
  have C0 := fun W => Lib.hid (skip0 S W (by omega) (fun h => key_not_space hk0.out))
  have C1 := fun W => Lib.hid (skipSpace_none S k.length W (by omega) (by omega) (fun h => by rw [hn.out]; decide))
  have C2 := fun W => Lib.hid (show Calls Tryz.prog 237 #[.string (bs S), .int .i64 ((k.length : Int) + 1)] W fun e w' => e = .returned (.int .i64 ((k.length : Int) + 1)) ∧ W = w' from by
    have := skipSpace_none S (k.length + 1) W (by omega) (by omega) (fun h => val_not_space (hv1.out h))
    simpa using this)
  have C3 := fun W => Lib.hid (show Calls Tryz.prog 237 #[.string (bs S), .int .i64 ((k.length : Int) + 1 + ((encL v).length : Int))] W fun e w' => e = .returned (.int .i64 ((k.length : Int) + 1 + ((encL v).length : Int))) ∧ W = w' from by
    have := skipSpace_none S (k.length + 1 + (encL v).length) W (by omega) (by omega) (fun h => absurd h (by omega))
    simpa using this)
  go_enter Tryz.func211, Tryz.ntmps211
  go_wp2_with (go_at_call 237; (with_reducible refine (C0 _).out.mono ?_); rintro e w' ⟨rfl, rfl⟩)
  go_loopw [6, 8] (fun n _ wr => ∃ j : Nat, j ≤ k.length ∧ n = .int .i64 j ∧ wr = (w.alloc (Obj.cells #[.string ⟨#[]⟩, .string ⟨#[]⟩, .bool false] 270)).iter (bs S) j) (fun _ _ wr => S.length - wr.iterPos (w.heap.size + 1))
  case atStart => exact ⟨0, Nat.zero_le _, rfl, rfl⟩
  case round =>
    obtain ⟨j, hj, rfl, rfl⟩ := hrel
    have hltS : j < S.length := by omega
    by_cases hlt : j < k.length
    · have hkb : keyB S[j] = true := by rw [hk1.out j hlt]; exact all_get hall.out j hlt
      have hnx := fun ty => next1 (w.alloc (Obj.cells #[.string ⟨#[]⟩, .string ⟨#[]⟩, .bool false] 270)) (w.heap.size + 1) (size1 _ _) S j hltS ty
      have HC := Lib.hid (keyCharD S j hltS ((w.alloc (Obj.cells #[.string ⟨#[]⟩, .string ⟨#[]⟩, .bool false] 270)).iter (bs S) (j + (Utf8.decode (bs S) j).2)) (env_iter (HE.out.below ((Below.refl _ _).alloc (Nat.le_refl _) _)) _ _) hkb)
      have d2 := (decode_key S j hltS).2 hkb
      rw [d2] at hnx HC
      have HP := Lib.hid (fun p => iterPos1 (w.alloc (Obj.cells #[.string ⟨#[]⟩, .string ⟨#[]⟩, .bool false] 270)) (w.heap.size + 1) (size1 _ _) (bs S) p)
      clear hkb d2
      go_wp2_with (go_at_call 183; refine HC.out.mono ?_; rintro e w' ⟨rfl, rfl⟩)
      go_roundw
      case rel => exact ⟨j + 1, by omega, by go_num, rfl⟩
      case measure => rw [HP.out, HP.out]; omega
    · have e : j = k.length := by omega
      subst e
      have hkb : keyB S[k.length] = false := by rw [hn.out]; exact key61
      have hnx := fun ty => next1 (w.alloc (Obj.cells #[.string ⟨#[]⟩, .string ⟨#[]⟩, .bool false] 270)) (w.heap.size + 1) (size1 _ _) S k.length hltS ty
      have HC := Lib.hid (keyCharD S k.length hltS ((w.alloc (Obj.cells #[.string ⟨#[]⟩, .string ⟨#[]⟩, .bool false] 270)).iter (bs S) (k.length + (Utf8.decode (bs S) k.length).2)) (env_iter (HE.out.below ((Below.refl _ _).alloc (Nat.le_refl _) _)) _ _) hkb)
      have hB := Lib.hid (((Below.refl w.heap.size w).alloc (Nat.le_refl _) (Obj.cells #[.string ⟨#[]⟩, .string ⟨#[]⟩, .bool false] 270)).alloc (by simp) (.stringIter (bs S) (k.length + (Utf8.decode (bs S) k.length).2)))
      have hK := Lib.hid ((Blk.new w 270 #[.string ⟨#[]⟩, .string ⟨#[]⟩, .bool false]).alloc (.stringIter (bs S) (k.length + (Utf8.decode (bs S) k.length).2)))
      clear hkb
      go_wp2_with (first | (go_at_call 183; refine HC.out.mono ?_; rintro e w' ⟨rfl, rfl⟩; change Hid (Below w.heap.size w ((w.alloc (Obj.cells #[.string ⟨#[]⟩, .string ⟨#[]⟩, .bool false] 270)).iter (bs S) (k.length + (Utf8.decode (bs S) k.length).2))) at hB; change Hid (Blk ((w.alloc (Obj.cells #[.string ⟨#[]⟩, .string ⟨#[]⟩, .bool false] 270)).iter (bs S) (k.length + (Utf8.decode (bs S) k.length).2)) _ _ _) at hK; clear hnx HC; generalize (w.alloc (Obj.cells #[.string ⟨#[]⟩, .string ⟨#[]⟩, .bool false] 270)).iter (bs S) (k.length + (Utf8.decode (bs S) k.length).2) = W at *) | (go_at_call 237; (with_reducible refine (C1 _).out.mono ?_); rintro e w' ⟨rfl, rfl⟩))
      have hn' := hn.out
      go_quiet (fail)
      clear hn'
      have hd' := hdrop.out
      have hd2 : List.take (S.length - (k.length + 1)) (encL v) = encL v := by rw [← hd']; exact take_drop_all _ _
      go_wp2_with (go_at_call 237; (with_reducible refine (C2 _).out.mono ?_); rintro e w' ⟨rfl, rfl⟩)
      have hBd := Lib.hid (below_drewN hB.out nq)
      have hKd := Lib.hid (hK.out.drewN nq)
      clear hd' hd2 hB hK
      generalize hWW : W.drewN nq = W2 at *
      have hg2 := Lib.hid (show W2.heap.size = W.heap.size by rw [← hWW]; rfl)
      clear hWW
      go_loopw [10, 12] (fun n _ wr => ∃ j : Nat, j ≤ (encL v).length ∧ n = .int .i64 ((k.length : Int) + 1 + j) ∧ wr = W2.iter (bs (encL v)) j) (fun _ _ wr => (encL v).length - wr.iterPos W.heap.size)
      case atStart => exact ⟨0, Nat.zero_le _, by simp, rfl⟩
      case round =>
        obtain ⟨j, hj, rfl, rfl⟩ := hrel
        by_cases hlt : j < (encL v).length
        · have hkb := all_get hval.out j hlt
          have hnx := fun ty => next1 W2 W.heap.size hg2.out (encL v) j hlt ty
          have HC := Lib.hid (valCharD (encL v) j hlt (W2.iter (bs (encL v)) (j + (Utf8.decode (bs (encL v)) j).2)) (env_iter (HE.out.below hBd.out) _ _) hkb)
          have d2 := (decode_val (encL v) j hlt).2 hkb
          rw [d2] at hnx HC
          have HP := Lib.hid (fun p => iterPos1 W2 W.heap.size hg2.out (bs (encL v)) p)
          clear hkb d2
          go_wp2_with (go_at_call 184; refine HC.out.mono ?_; rintro e w' ⟨rfl, rfl⟩)
          go_roundw
          case rel => exact ⟨j + 1, by omega, by go_num, rfl⟩
          case measure => rw [HP.out, HP.out]; omega
        · have e : j = (encL v).length := by omega
          subst e
          have hnx := fun ty => nextE W2 W.heap.size hg2.out (encL v) (encL v).length hlt ty
          have hB3 := Lib.hid (hBd.out.trans ((below_iter W2 (bs (encL v)) (encL v).length).mono hBd.out.size))
          have hK3 := Lib.hid (hKd.out.alloc (.stringIter (bs (encL v)) (encL v).length))
          change Hid (Blk (W2.iter (bs (encL v)) (encL v).length) _ _ _) at hK3
          have ht' := htake.out
          have hd' := hdrop.out
          generalize W2.iter (bs (encL v)) (encL v).length = W3 at *
          go_wp2_with (first | (go_at_call 237; (with_reducible refine (C3 _).out.mono ?_); rintro e w' ⟨rfl, rfl⟩) | (go_at_call 238; (with_reducible refine (CP _).out.mono ?_); rintro e w4 ⟨rfl, hB4⟩; have hK4 := Lib.hid (hK3.out.belowS hB4); have hB5 := Lib.hid (hB3.out.trans (hB4.mono hB3.out.size)); clear hB4; have c0 := hK4.out.cell 0; have c1 := hK4.out.cell 1; have c2 := hK4.out.cell 2; have cf := hK4.out.frozen; simp at c0 c1 c2))
          clear c0 c1 c2 cf
          have hF := ((((((hK4.out.set_ 0 (.string (bs k))).set_ 1 (.string (bs (encL v)))).set_ 2 (.bool true)).set_ 0 (.string (bs k))).set_ 1 (.string (bs (encL v)))).set_ 2 (.bool true))
          have c0 := hF.cell 0
          have c1 := hF.cell 1
          have c2 := hF.cell 2
          simp at c0 c1 c2
          refine bodyPost_ret (v := .tuple #[.agg #[.string (bs k), .string (bs (encL v)), .bool true], .bool true]) (by simp [results, Tryz.results211, go_sem, c0, c1, c2]) rfl ⟨rfl, ?_⟩
          exact ((((((hB5.out.setCell (Nat.le_refl _) _).setCell (Nat.le_refl _) _).setCell (Nat.le_refl _) _).setCell (Nat.le_refl _) _).setCell (Nat.le_refl _) _).setCell (Nat.le_refl _) _)
end Go.Proofs.YtpgookhdffklkaaGreatDoor
