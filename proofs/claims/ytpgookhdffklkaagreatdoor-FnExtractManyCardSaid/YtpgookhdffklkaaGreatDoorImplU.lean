/-
  propagation: several values extracted.
-/
import Derived.Test.YtpgookhdffklkaaGreatDoorImplT
namespace Go.Proofs.YtpgookhdffklkaaGreatDoor
open Go.RowKit

/-! ### The last member of a key -/
def lst (l : List BM) (k : List UInt8) : Option BM := l.reverse.find? (fun m => m.k = k)
theorem lst_append (a b : List BM) (k : List UInt8) : lst (a ++ b) k = (lst b k).or (lst a k) := by
  unfold lst
  rw [List.reverse_append, List.find?_append]
theorem find_some_mem {l : List BM} {k : List UInt8} {m : BM} (h : l.find? (fun m => m.k = k) = some m) : m ∈ l ∧ m.k = k := ⟨List.mem_of_find?_eq_some h, by simpa using List.find?_some h⟩
theorem find_unique {l : List BM} (hn : (l.map (·.k)).Nodup) {m : BM} (hm : m ∈ l) : l.find? (fun x => x.k = m.k) = some m := by
  induction l with
  | nil => cases hm
  | cons a t ih =>
    rw [List.map_cons, List.nodup_cons] at hn
    rw [List.find?_cons]
    rcases List.mem_cons.1 hm with rfl | hm
    · simp
    · have : ¬ a.k = m.k := fun e => hn.1 (e ▸ List.mem_map_of_mem (f := fun x : BM => x.k) hm)
      simp only [this, decide_false]
      exact ih hn.2 hm
theorem lst_perm {a b : List BM} (hp : a.Perm b) (hn : (b.map (·.k)).Nodup) (k : List UInt8) : lst a k = lst b k := by
  have hna : (a.map (·.k)).Nodup := (hp.map _).nodup_iff.2 hn
  have hra : (a.reverse.map (·.k)).Nodup := by rw [List.map_reverse]; exact (List.reverse_perm _).nodup_iff.2 hna
  have hrb : (b.reverse.map (·.k)).Nodup := by rw [List.map_reverse]; exact (List.reverse_perm _).nodup_iff.2 hn
  unfold lst
  cases h : a.reverse.find? (fun m => m.k = k) with
  | some m =>
    obtain ⟨h1, h2⟩ := find_some_mem h
    subst h2
    exact (find_unique hrb (List.mem_reverse.2 (hp.mem_iff.1 (List.mem_reverse.1 h1)))).symm
  | none =>
    cases h' : b.reverse.find? (fun m => m.k = k) with
    | none => rfl
    | some m =>
      obtain ⟨h1, h2⟩ := find_some_mem h'
      subst h2
      rw [find_unique hra (List.mem_reverse.2 (hp.mem_iff.2 (List.mem_reverse.1 h1)))] at h
      cases h

/-- 'append(s, t...)' onto a row of the call's own. -/
theorem appM {W : World} {ops : Array Oper} {rest : List Oper} {o : Oper} {a : Act} {Q : Exit → Act → World → Prop} (hgd : o.guard = none) (s x : Operand) (t : TypeId)
    (ho : o.op = .call { callee := .builtin .append, args := #[s, x], argTypes := #[t, t] })
    (base : Nat) (e : TypeId) (z : Value) (size bytes : Nat) (ht : Tryz.prog.underlying t = some (.slice e)) (hinfo : (Tryz.prog.info? e).map (fun i => (i.zero, i.size, i.bytes)) = some (some z, size, bytes))
    (hzs : z.cells.size = size) (hsz : 0 < size) (hby : bytes ≤ 1000) (v : Value) (n : Nat) (xs : List Value) (hs : a.eval s = v) (hown : W.ownsRow base e size v n xs)
    (b off m c : Nat) (news : List Value) (hx : a.eval x = .slice (some ⟨b, off, none⟩) m c) (hl : news.length = m * size) (hnews : ∀ j u, news[j]? = some u → W.cell? ⟨b, off + j, none⟩ = some u) (h1 : ∀ u ∈ news, u.oneCell' = true) (hn : n + m ≤ 4294967296) (hbase : base ≤ W.heap.size)
    (h : ∀ v' w', w'.ownsRow base e size v' (n + m) (xs ++ news) → W.grownBy w' v.ownBlock → wpList Tryz.prog ops Q rest (a.put o.dst v') w') : wpList Tryz.prog ops Q (o :: rest) a W := by
  obtain ⟨i0, hi, hz0, hz1, hz2⟩ := info_parts hinfo
  refine wpList_append_own _ hgd s x t ho base e i0 z size bytes ht hi hz0 hz1 hz2 hzs hsz v n xs hs hown ⟨b, off, none⟩ m c news hx hl (fun j u hj => by rw [add_off]; exact hnews j u hj) h1 (by unfold maxLen; omega) ?_ hbase (fun v' w' h2 h3 _ => h v' w' h2 h3)
  calc (n + m) * bytes ≤ 4294967296 * 1000 := Nat.mul_le_mul hn hby
    _ ≤ _ := by decide

set_option maxRecDepth 100000 in
set_option maxHeartbeats 1000000 in
theorem new_nil (A : Option Addr) (q : Nat) (w : World) : Calls Tryz.prog 44 #[.slice A 0 q] w fun e w' => e = .returned (.tuple #[.agg #[.map none], .nilIface]) ∧ Below w.heap.size w w' := by
  go_enter Tryz.func44, Tryz.ntmps44
  go_wp2
  exact bodyPost_ret (v := .tuple #[.agg #[.map none], .nilIface]) (by simp [results, Tryz.results44, go_sem]) rfl ⟨rfl, (Below.refl _ _).alloc (Nat.le_refl _) _⟩

def textOf (ms : List BM) : List UInt8 := Lib.join (ms.map mText) [44]
theorem textOf_nil : textOf [] = [] := rfl
theorem meth122v (h : Value) (w : World) : (Go.method 435 122 h "Values").run Tryz.prog w = .ok (274, h) w := by kernel_rfl
theorem encM_one (pl : PL) (h : ∀ x ∈ pl, ∃ A n q, x.2 = .slice A n q) : ∀ u ∈ pl.flatMap encM, u.oneCell' = true := by
  intro u hu
  obtain ⟨x, hx, hu⟩ := List.mem_flatMap.1 hu
  obtain ⟨A, n, q, e⟩ := h x hx
  simp only [encM, List.mem_cons, List.not_mem_nil, or_false, e] at hu
  rcases hu with rfl | rfl | rfl | rfl | rfl <;> rfl

/-- What the values may be: texts of members, keys each once. -/
structure Parts (parts : List (List BM)) : Prop where
  pl : ∀ ms ∈ parts, ∀ m ∈ ms, PlM m
  nd : ∀ ms ∈ parts, (ms.map (·.k)).Nodup
  n64 : parts.flatten.length ≤ 64
  n8 : (Lib.join (parts.map textOf) [44]).length ≤ 8192
/-- The bytes that are counted ahead of value j. -/
def cntB (parts : List (List BM)) (j : Nat) : Nat := Lib.lens ((parts.take j).map textOf) + (j - 1)
theorem cntB_zero (parts : List (List BM)) : cntB parts 0 = 0 := by simp [cntB, Lib.lens]
theorem cntB_succ (parts : List (List BM)) (j : Nat) (h : j < parts.length) : cntB parts (j + 1) = cntB parts j + (if j = 0 then 0 else 1) + (textOf parts[j]).length := by
  unfold cntB
  rw [List.take_succ_eq_append_getElem h, List.map_append, lens_append]
  simp only [List.map_cons, List.map_nil, Lib.lens, List.map_nil, List.sum_cons, List.sum_nil]
  split <;> omega
theorem lens_take_le (ts : List (List UInt8)) (j : Nat) : Lib.lens (ts.take j) ≤ Lib.lens ts := by
  have := lens_append (ts.take j) (ts.drop j)
  rw [List.take_append_drop] at this
  omega
theorem join_len (ts : List (List UInt8)) (c : UInt8) : (Lib.join ts [c]).length = Lib.lens ts + (ts.length - 1) := by
  cases ts with
  | nil => simp [Lib.join_nil, Lib.lens]
  | cons x r =>
    rw [Lib.join_length]
    simp only [List.length_cons, List.length_nil]
    omega
theorem cntB_le {parts : List (List BM)} (hP : Parts parts) (j : Nat) (hj : j ≤ parts.length) : cntB parts j ≤ 8192 := by
  have h1 := hP.n8
  rw [join_len, List.length_map] at h1
  have h2 := lens_take_le (parts.map textOf) j
  rw [← List.map_take] at h2
  unfold cntB
  omega
theorem Parts.part64 {parts : List (List BM)} (hP : Parts parts) (j : Nat) (h : j < parts.length) : parts[j].length ≤ 64 ∧ tot parts[j] ≤ 8192 := by
  refine ⟨?_, ?_⟩
  · have h1 := hP.n64
    obtain ⟨a, b, e⟩ := List.append_of_mem (List.getElem_mem h)
    rw [e] at h1
    simp at h1
    omega
  · have h1 := cntB_succ parts j h
    have h2 := cntB_le hP (j + 1) h
    have h3 := tot_join parts[j]
    unfold textOf at h1
    omega

/-- The state of the loop over the values. -/
structure XSt (w : World) (parts : List (List BM)) (sv tb pe er i : Value) (wr : World) (j : Nat) (pl : PL) : Prop where
  hj : j ≤ parts.length
  hi : i = .int .i64 j
  htb : tb = .int .i64 (cntB parts j : Nat)
  hpe : pe = .int .i64 0
  her : er = .nilIface
  hown : wr.ownsRow w.heap.size 86 5 sv pl.length (pl.flatMap encM)
  hperm : (pl.map (·.1)).Perm (parts.take j).flatten
  hlst : ∀ k, lst (pl.map (·.1)) k = lst (parts.take j).flatten k
  hps : PsR wr 148 pl
  hb : Below w.heap.size w wr
theorem flat_take_succ (parts : List (List BM)) (j : Nat) (h : j < parts.length) : (parts.take (j + 1)).flatten = (parts.take j).flatten ++ parts[j] := by
  rw [List.take_succ_eq_append_getElem h, List.flatten_append]; simp
theorem flat_take_len (parts : List (List BM)) (j : Nat) : (parts.take j).flatten.length ≤ parts.flatten.length := by
  have := congrArg (fun l : List (List BM) => l.flatten.length) (List.take_append_drop j parts)
  simp only [List.flatten_append, List.length_append] at this
  omega

theorem PsR.app {w : World} {T : TypeId} {a b : PL} (ha : PsR w T a) (hb : PsR w T b) : PsR w T (a ++ b) := fun x hx => by
  rcases List.mem_append.1 hx with hx | hx
  · exact ha x hx
  · exact hb x hx
theorem PsR.forms {w : World} {T : TypeId} {a : PL} (ha : PsR w T a) : ∀ x ∈ a, ∃ A n q, x.2 = .slice A n q := fun x hx => by
  obtain ⟨A, q, e⟩ := (ha x hx).form
  exact ⟨A, _, q, e⟩
theorem len_of_perm {D pl : PL} {ms : List BM} (hp : (pl.map (·.1)).Perm (D.map (·.1))) (hD : D.map (·.1) = ms) (h : ms.length ≤ 64) : pl.length ≤ 64 := by
  have z := hp.length_eq
  rw [hD, List.length_map] at z
  omega
theorem ne_of_perm {D pl : PL} {ms : List BM} (hp : (pl.map (·.1)).Perm (D.map (·.1))) (hD : D.map (·.1) = ms) (h : ms ≠ []) : pl ≠ [] := by
  rintro rfl
  rw [hD] at hp
  exact h (List.perm_nil.1 hp.symm)
theorem lens_cons (x : List UInt8) (l : List (List UInt8)) : Lib.lens (x :: l) = x.length + Lib.lens l := by simp [Lib.lens]
theorem rep_none (l : List BM) (m : BM) (h : m.k ∉ l.map (·.k)) : l.map (fun x => if x.k = m.k then m else x) = l := by
  induction l with
  | nil => rfl
  | cons a t ih =>
    simp only [List.map_cons, List.mem_cons, not_or] at h
    rw [List.map_cons, if_neg (fun e => h.1 e.symm), ih h.2]
theorem rep_keys (l : List BM) (m : BM) : (l.map (fun x => if x.k = m.k then m else x)).map (·.k) = l.map (·.k) := by
  rw [List.map_map]
  refine List.map_congr_left fun x _ => ?_
  simp only [Function.comp]
  split
  · rename_i e; exact e.symm
  · rfl
theorem any_key (l : List BM) (k : List UInt8) : l.any (fun x => x.k = k) = true ↔ k ∈ l.map (·.k) := by
  simp only [List.any_eq_true, decide_eq_true_eq, List.mem_map]
theorem lens_rep (l : List BM) (m : BM) (hn : (l.map (·.k)).Nodup) : Lib.lens ((l.map fun x => if x.k = m.k then m else x).map mText) ≤ Lib.lens (l.map mText) + (mText m).length := by
  induction l with
  | nil => simp [Lib.lens]
  | cons a t ih =>
    rw [List.map_cons, List.nodup_cons] at hn
    rw [List.map_cons, List.map_cons, List.map_cons, lens_cons, lens_cons]
    by_cases e : a.k = m.k
    · rw [if_pos e, rep_none t m (by rw [← e]; exact hn.1)]
      omega
    · rw [if_neg e]
      have := ih hn.2
      omega
theorem putB_nd {l : List BM} (m : BM) (hn : (l.map (·.k)).Nodup) : ((putB l m).map (·.k)).Nodup := by
  unfold putB
  split
  · rw [rep_keys]; exact hn
  · rename_i h
    rw [List.map_append, List.nodup_append]
    refine ⟨hn, by simp, fun a ha b hb e => ?_⟩
    simp only [List.map_cons, List.map_nil, List.mem_singleton] at hb
    subst hb
    subst e
    exact h ((any_key l m.k).2 ha)
theorem lens_put {l : List BM} (m : BM) (hn : (l.map (·.k)).Nodup) : Lib.lens ((putB l m).map mText) ≤ Lib.lens (l.map mText) + (mText m).length := by
  unfold putB
  split
  · exact lens_rep l m hn
  · rw [List.map_append, lens_append]; simp [Lib.lens]
theorem lens_fold (l : List BM) : ∀ acc : List BM, (acc.map (·.k)).Nodup → Lib.lens ((l.foldl putB acc).map mText) ≤ Lib.lens (acc.map mText) + Lib.lens (l.map mText) ∧ ((l.foldl putB acc).map (·.k)).Nodup := by
  induction l with
  | nil => intro acc h; simp only [List.foldl_nil, List.map_nil]; exact ⟨by omega, h⟩
  | cons m t ih =>
    intro acc h
    rw [List.foldl_cons]
    obtain ⟨h1, h2⟩ := ih (putB acc m) (putB_nd m h)
    have h3 := lens_put m h
    rw [List.map_cons, lens_cons]
    exact ⟨by omega, h2⟩
theorem dedB_nd (l : List BM) : ((dedB l).map (·.k)).Nodup := (lens_fold l [] (by simp)).2
theorem tot_dedB (l : List BM) : tot (dedB l) ≤ tot l := by
  have h1 := (lens_fold l [] (by simp)).1
  have h2 := dedB_len l
  unfold tot
  unfold dedB at h2 ⊢
  have h3 : Lib.lens ([] : List (List UInt8)) = 0 := by simp [Lib.lens]
  simp only [List.map_nil, h3] at h1
  omega
theorem tot_app_le (a b : List BM) : tot (a ++ b) ≤ tot a + tot b + 1 := by
  unfold tot
  rw [List.map_append, lens_append, List.length_append]
  omega
theorem tot_flat (parts : List (List BM)) : tot parts.flatten ≤ (Lib.join (parts.map textOf) [44]).length := by
  rw [join_len, List.length_map]
  induction parts with
  | nil => simp [tot, Lib.lens]
  | cons ms r ih =>
    rw [List.flatten_cons, List.map_cons]
    have h1 : Lib.lens (textOf ms :: r.map textOf) = tot ms + Lib.lens (r.map textOf) := by
      have := tot_join ms
      simp only [Lib.lens, List.map_cons, List.sum_cons]
      unfold textOf
      omega
    rw [h1]
    cases r with
    | nil => simp [Lib.lens]
    | cons ms' r' =>
      have h2 := tot_app_le ms (ms' :: r').flatten
      simp only [List.length_cons] at ih ⊢
      omega
set_option maxRecDepth 100000 in
set_option maxHeartbeats 8000000 in
theorem multi_any (parts : List (List BM)) (hP : Parts parts) (h0 : parts ≠ []) (c : Value) (m0 : Option Nat) (hc : Ctx c m0) (b : Nat) (bv : Value) (w : World) (hE : Env w) (h : MapS w b [(BagKey, bv)]) (hbv : SlV w 9 bv parts.length (strs (parts.map textOf))) :
    Calls Tryz.prog 110 #[c, .iface 122 (.map (some b))] w fun e w' => ((parts.flatten = [] ∧ e = .returned c) ∨ ∃ (c' : Value) (D : PL) (b' : Nat) (L : List BM), parts.flatten ≠ [] ∧ e = .returned c' ∧ Ctx c' (some b') ∧ L.Perm parts.flatten ∧ (∀ k, lst L k = lst parts.flatten k) ∧ D.map (·.1) = dedB L ∧ ListR w' b' D) ∧ Below w.heap.size w w' := by
  obtain ⟨bb, off, cp, rfl, hc1, hc2, hbb, hcl⟩ := hbv.cells (by simpa [strs] using h0)
  have hn8 : parts.length ≤ 8193 := by
    have h1 := hP.n8
    rw [join_len, List.length_map] at h1
    omega
  have HP := Lib.hid hP
  have HC := Lib.hid hcl
  have HE := Lib.hid hE
  have HCx := Lib.hid hc
  have C1 : ∀ W, MapS W b [(BagKey, .slice (some ⟨bb, off, none⟩) parts.length cp)] → Hid (Calls Tryz.prog 274 #[.map (some b), .string ⟨#[98, 97, 103, 103, 97, 103, 101]⟩] W fun e w' => e = .returned (.slice (some ⟨bb, off, none⟩) parts.length cp) ∧ Below W.heap.size W w') := fun W hW => by
    have z := headerValues_any b _ W hW
    exact Lib.hid (by simpa [getS] using z)
  have H := Lib.hid h
  have m1 := meth122v
  obtain ⟨t, p, rfl⟩ := hc.form
  have hl0 : ((parts.length : Int) == 0) = false := by
    have y := List.length_pos_iff.2 h0
    have : ¬ ((parts.length : Int) = 0) := by omega
    simpa using this
  clear h hE hc h0 hcl hbv hP
  go_enter Tryz.func110, Tryz.ntmps110
  go_wp2_with (go_at_call 274; (refine (C1 _ H.out).out.mono ?_); rintro e w1 ⟨rfl, hb1⟩; have HB1 := Lib.hid hb1; clear hb1)
  go_loopw [6, 7, 8, 9, 10, 11, 12, 13, 25] (fun sv tb pe er _ _ _ _ i wr => ∃ (j : Nat) (pl : PL), XSt w parts sv tb pe er i wr j pl) (fun _ _ _ _ _ _ _ _ i _ => parts.length - (intOf i).toNat)
  case atStart => exact ⟨0, [], ⟨Nat.zero_le _, rfl, by rw [cntB_zero]; rfl, rfl, rfl, World.ownsRow_nil _ _ _ _, by simp, fun k => by simp, PsR.nil _ _, HB1.out⟩⟩
  case round =>
    obtain ⟨j, pl, ⟨hj, rfl, rfl, rfl, rfl, hown, hperm, hlst, hps, hb⟩⟩ := hrel
    obtain ⟨A6, q6, hsv⟩ := (SlV.of_own hown).form
    subst hsv
    have HB := Lib.hid hb
    have HO := Lib.hid hown
    have HPm := Lib.hid hperm
    have HLs := Lib.hid hlst
    have HPS := Lib.hid hps
    have hge := hb.size
    have hpn : pl.length ≤ 64 := by
      have z := hperm.length_eq
      rw [List.length_map] at z
      have y := flat_take_len parts j
      have x := HP.out.n64
      omega
    have hcj := cntB_le HP.out j hj
    clear hb hown hperm hlst hps
    by_cases hlt : j < parts.length
    · have hcn := cntB_le HP.out (j + 1) hlt
      have hcs := cntB_succ parts j hlt
      obtain ⟨T, hT⟩ : ∃ T, T = textOf parts[j] := ⟨_, rfl⟩
      rw [← hT] at hcs
      have i0 : wr.cell? ⟨bb, off + j, none⟩ = some (.string (bs T)) := by
        refine (HB.out.cell (p := ⟨bb, off + j, none⟩) hbb).trans (HC.out j _ ?_)
        rw [hT]
        simp [strs, hlt]
      have HFl := Lib.hid (flat_take_succ parts j hlt)
      have hpm : parts[j] ∈ parts := List.getElem_mem hlt
      by_cases hem : parts[j] = []
      · have HEm := Lib.hid hem
        have hT0 : T = [] := by rw [hT, hem]; rfl
        have C2 : ∀ W, Hid (Calls Tryz.prog 49 #[.string (bs T)] W fun e w' => e = .returned (.tuple #[.agg #[.map none], .nilIface]) ∧ Below W.heap.size W w') := fun W => by rw [hT0]; exact Lib.hid (parse_nil W)
        have C3 := fun W => Lib.hid (bagLen_nil W)
        clear hT hT0 hem
        rcases Nat.eq_zero_or_pos j with hj0 | hj0
        · rw [if_pos hj0] at hcs
          have HCs := Lib.hid hcs
          have hb1 : (cntB parts j : Int) + (T.length : Int) ≤ 8192 := by omega
          have hjn : (j : Int) ≤ 0 := by omega
          clear hcs hj0
          go_wp2_with (first
            | (go_at_call 49; (with_reducible refine (C2 _).out.mono ?_); rintro e w2 ⟨rfl, hb2⟩; have HB2 := Lib.hid (HB.out.trans (hb2.mono hge)); have HW2 := Lib.hid hb2; have HJ2 := Lib.hid (Blk.new w2 94 #[.map none]); clear hb2)
            | (go_at_call 46; (with_reducible refine (C3 _).out.mono ?_); rintro e w3 ⟨rfl, hb3⟩; have HW3 := Lib.hid ((HW2.out.alloc HW2.out.size (.cells #[.map none] 94)).trans (hb3.mono (by simp; exact Nat.le_succ_of_le HW2.out.size))); have HB3 := Lib.hid (HB.out.trans (HW3.out.mono hge)); clear hb3))
          refine ⟨⟨j + 1, pl, ⟨hlt, by go_num, by rw [HCs.out]; go_num, rfl, rfl, own_below HO.out HW3.out, by rw [HFl.out, HEm.out, List.append_nil]; exact HPm.out, fun k => by rw [HFl.out, HEm.out, List.append_nil]; exact HLs.out k, HPS.out.below HW3.out, HB3.out⟩⟩, by simp [intOf]; omega⟩
        · rw [if_neg (by omega)] at hcs
          have HCs := Lib.hid hcs
          have hb1 : (cntB parts j : Int) + 1 + (T.length : Int) ≤ 8192 := by omega
          have hjn : (0 : Int) < (j : Int) := by omega
          clear hcs
          go_wp2_with (first
            | (go_at_call 49; (with_reducible refine (C2 _).out.mono ?_); rintro e w2 ⟨rfl, hb2⟩; have HB2 := Lib.hid (HB.out.trans (hb2.mono hge)); have HW2 := Lib.hid hb2; have HJ2 := Lib.hid (Blk.new w2 94 #[.map none]); clear hb2)
            | (go_at_call 46; (with_reducible refine (C3 _).out.mono ?_); rintro e w3 ⟨rfl, hb3⟩; have HW3 := Lib.hid ((HW2.out.alloc HW2.out.size (.cells #[.map none] 94)).trans (hb3.mono (by simp; exact Nat.le_succ_of_le HW2.out.size))); have HB3 := Lib.hid (HB.out.trans (HW3.out.mono hge)); clear hb3))
          refine ⟨⟨j + 1, pl, ⟨hlt, by go_num, by rw [HCs.out]; go_num, rfl, rfl, own_below HO.out HW3.out, by rw [HFl.out, HEm.out, List.append_nil]; exact HPm.out, fun k => by rw [HFl.out, HEm.out, List.append_nil]; exact HLs.out k, HPS.out.below HW3.out, HB3.out⟩⟩, by simp [intOf]; omega⟩
      · have HEm := Lib.hid hem
        have HE64 := (HP.out.part64 j hlt).1
        have C2 : ∀ W, Env W → Hid (Calls Tryz.prog 49 #[.string (bs T)] W fun e w' => (∃ (D : PL) (b : Nat), D.map (·.1) = parts[j] ∧ e = .returned (.tuple #[.agg #[.map (some b)], .nilIface]) ∧ ListR w' b D) ∧ Below W.heap.size W w') := fun W hW => by
          rw [hT]
          exact Lib.hid (parse_texts parts[j] W hW hem (HP.out.pl _ hpm) (HP.out.nd _ hpm) (HP.out.part64 j hlt).1 (HP.out.part64 j hlt).2)
        have hsmD : ∀ {D : PL}, parts[j] ≠ [] → D.map (·.1) = parts[j] → D ≠ [] ∧ (∀ x ∈ D, x.1.ps.length ≤ 1000000) ∧ D.length ≤ 1000000 := fun {D} h1 h2 => by
          refine ⟨fun e => h1 (by rw [← h2, e]; rfl), fun x hx => ?_, ?_⟩
          · have z := List.mem_map_of_mem (f := fun x : BM × Value => x.1) hx
            rw [h2] at z
            exact (HP.out.pl _ hpm _ z).sm.lp
          · have z := congrArg List.length h2
            rw [List.length_map] at z
            omega
        clear hT hem
        rcases Nat.eq_zero_or_pos j with hj0 | hj0
        · rw [if_pos hj0] at hcs
          have HCs := Lib.hid hcs
          have hb1 : (cntB parts j : Int) + (T.length : Int) ≤ 8192 := by omega
          have hjn : (j : Int) ≤ 0 := by omega
          clear hcs hj0
          go_wp2_with (first
            | (go_at_call 49; (with_reducible refine (C2 _ (HE.out.below HB.out)).out.mono ?_); rintro e w2 ⟨⟨D, b', hD, rfl, hL⟩, hb2⟩; have HB2 := Lib.hid (HB.out.trans (hb2.mono hge)); have HW2 := Lib.hid hb2; have HD := Lib.hid hD; have HL := Lib.hid (hL.below ((Below.refl _ _).alloc (Nat.le_refl _) (.cells #[.map (some b')] 94))); have HJ2 := Lib.hid (Blk.new w2 94 #[.map (some b')]); have hlD := len_ne0 hD HEm.out; have HS1 := Lib.hid (hsmD HEm.out hD); clear hb2 hD hL)
            | (go_at_call 46; (with_reducible refine (bagLen_any D b' _ HL.out).mono ?_); rintro e w3 ⟨rfl, hb3⟩; have HW3 := Lib.hid ((HW2.out.alloc HW2.out.size (.cells #[.map (some b')] 94)).trans (hb3.mono (by simp; exact Nat.le_succ_of_le HW2.out.size))); have HB3 := Lib.hid (HB.out.trans (HW3.out.mono hge)); have HL3 := Lib.hid (HL.out.below hb3); have HJ3 := Lib.hid (HJ2.out.belowS hb3); clear hb3; obtain ⟨c1, c2, c3, c4⟩ := HJ3.out.use)
            | (go_at_call 90; (with_reducible refine (members_any D b' _ HL3.out HS1.out.1 HS1.out.2.1 HS1.out.2.2).mono ?_); rintro e w4 ⟨⟨pl', v4, hp4, rfl, hr4⟩, hb4⟩; have HW4 := Lib.hid (HW3.out.trans (hb4.mono HW3.out.size)); have HB4 := Lib.hid (HB.out.trans (HW4.out.mono hge)); have HP4 := Lib.hid hp4; have HR4 := Lib.hid hr4; have HO4 := Lib.hid (own_below HO.out HW4.out); have hge4 := HB4.out.size; have hn4 := len_of_perm hp4 HD.out HE64; obtain ⟨b4, o4, q4, hq4, -, -, -, hcl4⟩ := hr4.1.cells (flatM_ne (ne_of_perm hp4 HD.out HEm.out)); subst hq4; have HC4 := Lib.hid hcl4; clear hb4 hp4 hr4 hcl4)
            | (at_builtin; refine appM rfl (.tmp 61) (.tmp 63) 79 rfl w.heap.size 86 _ 5 80 Tryz.underlying79 info86 rfl (by decide) (by decide) (.slice A6 pl.length q6) pl.length (pl.flatMap encM) rfl HO4.out b4 o4 pl'.length q4 (pl'.flatMap encM) rfl (flat_len encM 5 encM_len pl') HC4.out (encM_one pl' HR4.out.2.forms) (by omega) hge4 ?_; intro v6 w6 hown6 hg6))
          have hK := (Keeps.refl w4).grown (T := fun e => e ≠ 86) HO4.out hg6 (by simp)
          refine ⟨⟨j + 1, pl ++ pl', ⟨hlt, by go_num, by rw [HCs.out]; go_num, rfl, rfl, own_cast hown6 (by simp) (by simp), ?_, fun k => ?_, ((HPS.out.below HW4.out).app HR4.out.2).keeps hK (by simp), below_app HB4.out hge4 HO4.out (Nat.le_refl _) hg6⟩⟩, by simp [intOf]; omega⟩
          · rw [HFl.out, List.map_append]
            exact HPm.out.append (by rw [← HD.out]; exact HP4.out)
          · rw [HFl.out, List.map_append, lst_append, lst_append, HLs.out k, lst_perm (by rw [← HD.out]; exact HP4.out) (HP.out.nd _ hpm) k]
        · rw [if_neg (by omega)] at hcs
          have HCs := Lib.hid hcs
          have hb1 : (cntB parts j : Int) + 1 + (T.length : Int) ≤ 8192 := by omega
          have hjn : (0 : Int) < (j : Int) := by omega
          clear hcs
          go_wp2_with (first
            | (go_at_call 49; (with_reducible refine (C2 _ (HE.out.below HB.out)).out.mono ?_); rintro e w2 ⟨⟨D, b', hD, rfl, hL⟩, hb2⟩; have HB2 := Lib.hid (HB.out.trans (hb2.mono hge)); have HW2 := Lib.hid hb2; have HD := Lib.hid hD; have HL := Lib.hid (hL.below ((Below.refl _ _).alloc (Nat.le_refl _) (.cells #[.map (some b')] 94))); have HJ2 := Lib.hid (Blk.new w2 94 #[.map (some b')]); have hlD := len_ne0 hD HEm.out; have HS1 := Lib.hid (hsmD HEm.out hD); clear hb2 hD hL)
            | (go_at_call 46; (with_reducible refine (bagLen_any D b' _ HL.out).mono ?_); rintro e w3 ⟨rfl, hb3⟩; have HW3 := Lib.hid ((HW2.out.alloc HW2.out.size (.cells #[.map (some b')] 94)).trans (hb3.mono (by simp; exact Nat.le_succ_of_le HW2.out.size))); have HB3 := Lib.hid (HB.out.trans (HW3.out.mono hge)); have HL3 := Lib.hid (HL.out.below hb3); have HJ3 := Lib.hid (HJ2.out.belowS hb3); clear hb3; obtain ⟨c1, c2, c3, c4⟩ := HJ3.out.use)
            | (go_at_call 90; (with_reducible refine (members_any D b' _ HL3.out HS1.out.1 HS1.out.2.1 HS1.out.2.2).mono ?_); rintro e w4 ⟨⟨pl', v4, hp4, rfl, hr4⟩, hb4⟩; have HW4 := Lib.hid (HW3.out.trans (hb4.mono HW3.out.size)); have HB4 := Lib.hid (HB.out.trans (HW4.out.mono hge)); have HP4 := Lib.hid hp4; have HR4 := Lib.hid hr4; have HO4 := Lib.hid (own_below HO.out HW4.out); have hge4 := HB4.out.size; have hn4 := len_of_perm hp4 HD.out HE64; obtain ⟨b4, o4, q4, hq4, -, -, -, hcl4⟩ := hr4.1.cells (flatM_ne (ne_of_perm hp4 HD.out HEm.out)); subst hq4; have HC4 := Lib.hid hcl4; clear hb4 hp4 hr4 hcl4)
            | (at_builtin; refine appM rfl (.tmp 61) (.tmp 63) 79 rfl w.heap.size 86 _ 5 80 Tryz.underlying79 info86 rfl (by decide) (by decide) (.slice A6 pl.length q6) pl.length (pl.flatMap encM) rfl HO4.out b4 o4 pl'.length q4 (pl'.flatMap encM) rfl (flat_len encM 5 encM_len pl') HC4.out (encM_one pl' HR4.out.2.forms) (by omega) hge4 ?_; intro v6 w6 hown6 hg6))
          have hK := (Keeps.refl w4).grown (T := fun e => e ≠ 86) HO4.out hg6 (by simp)
          refine ⟨⟨j + 1, pl ++ pl', ⟨hlt, by go_num, by rw [HCs.out]; go_num, rfl, rfl, own_cast hown6 (by simp) (by simp), ?_, fun k => ?_, ((HPS.out.below HW4.out).app HR4.out.2).keeps hK (by simp), below_app HB4.out hge4 HO4.out (Nat.le_refl _) hg6⟩⟩, by simp [intOf]; omega⟩
          · rw [HFl.out, List.map_append]
            exact HPm.out.append (by rw [← HD.out]; exact HP4.out)
          · rw [HFl.out, List.map_append, lst_append, lst_append, HLs.out k, lst_perm (by rw [← HD.out]; exact HP4.out) (HP.out.nd _ hpm) k]
    · have e : j = parts.length := by omega
      subst e
      rw [List.take_of_length_le (Nat.le_refl _)] at HPm HLs
      by_cases hp0 : pl = []
      · have hfl : parts.flatten = [] := by
          have z := HPm.out
          rw [hp0] at z
          exact List.perm_nil.1 z.symm
        have HFl := Lib.hid hfl
        have hl0 : pl.length = 0 := by rw [hp0]; rfl
        have C5 : ∀ W, Hid (Calls Tryz.prog 44 #[.slice A6 pl.length q6] W fun e w' => e = .returned (.tuple #[.agg #[.map none], .nilIface]) ∧ Below W.heap.size W w') := fun W => by rw [hl0]; exact Lib.hid (new_nil A6 q6 W)
        have C3 := fun W => Lib.hid (bagLen_nil W)
        clear hfl hl0 hp0
        go_wp2_with (first
          | (go_at_call 44; (with_reducible refine (C5 _).out.mono ?_); rintro e w2 ⟨rfl, hb2⟩; have HB2 := Lib.hid (HB.out.trans (hb2.mono hge)); have HJ2 := Lib.hid (Blk.new w2 94 #[.map none]); clear hb2)
          | (go_at_call 46; (with_reducible refine (C3 _).out.mono ?_); rintro e w3 ⟨rfl, hb3⟩; have HB3 := Lib.hid ((HB2.out.alloc HB2.out.size (.cells #[.map none] 94)).trans (hb3.mono (by simp; exact Nat.le_succ_of_le HB2.out.size))); clear hb3))
        go_ret
        exact ⟨Or.inl ⟨HFl.out, rfl⟩, HB3.out⟩
      · have HP0 := Lib.hid hp0
        have HNe := Lib.hid (show dedB (pl.map (·.1)) ≠ [] from dedB_ne (by simpa using hp0))
        have hpl : ∀ x ∈ pl, PlM x.1 := fun x hx => by
          have z := HPm.out.mem_iff.1 (List.mem_map_of_mem (f := fun x : BM × Value => x.1) hx)
          obtain ⟨ms, h1, h2⟩ := List.mem_flatten.1 z
          exact HP.out.pl _ h1 _ h2
        have CN := Lib.hid (new_any pl (.slice A6 pl.length q6) wr (HE.out.below HB.out) ⟨SlV.of_own HO.out, HPS.out⟩ hp0 (fun x hx => (hpl x hx).sm) (fun x hx _ => (hpl x hx).ps) (by omega) (by have := dedB_len (pl.map (·.1)); rw [List.length_map] at this; omega) (by
          have h1 := tot_dedB (pl.map (·.1))
          rw [tot_perm HPm.out] at h1
          have h2 := tot_flat parts
          have h3 := HP.out.n8
          omega))
        have C4 := fun m W => Lib.hid (withBag_any (.iface t p) m0 m HCx.out W)
        clear hp0 hpl
        go_wp2_with (first
          | (go_at_call 44; (with_reducible refine CN.out.mono ?_); rintro e w2 ⟨⟨D, b', hD, rfl, hL⟩, hb2⟩; have HB2 := Lib.hid (HB.out.trans (hb2.mono hge)); have HD := Lib.hid hD; have HL := Lib.hid (hL.below ((Below.refl _ _).alloc (Nat.le_refl _) (.cells #[.map (some b')] 94))); have HJ2 := Lib.hid (Blk.new w2 94 #[.map (some b')]); have hlD := len_ne0 hD HNe.out; clear hb2 hD hL)
          | (go_at_call 46; (with_reducible refine (bagLen_any D b' _ HL.out).mono ?_); rintro e w3 ⟨rfl, hb3⟩; have HB3 := Lib.hid ((HB2.out.alloc HB2.out.size (.cells #[.map (some b')] 94)).trans (hb3.mono (by simp; exact Nat.le_succ_of_le HB2.out.size))); have HL3 := Lib.hid (HL.out.below hb3); have HJ3 := Lib.hid (HJ2.out.belowS hb3); clear hb3; obtain ⟨c1, c2, c3, c4⟩ := HJ3.out.use)
          | (go_at_call 106; (with_reducible refine (C4 _ _).out.mono ?_); rintro e w4 ⟨⟨c', rfl, hcx⟩, hb4⟩; have HB4 := Lib.hid (HB3.out.trans (hb4.mono HB3.out.size)); have HL4 := Lib.hid (HL3.out.below hb4); have HX4 := Lib.hid hcx; clear hb4 hcx))
        go_ret
        exact ⟨Or.inr ⟨_, D, b', pl.map (·.1), (fun e => HP0.out (by have z := HPm.out; rw [e] at z; exact List.map_eq_nil_iff.1 (List.perm_nil.1 z))), rfl, HX4.out, HPm.out, HLs.out, HD.out, HL4.out⟩, HB4.out⟩
end Go.Proofs.YtpgookhdffklkaaGreatDoor
