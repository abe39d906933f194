/-
  Package baggage: a part of a text read as a member.
  Package baggage: Parse of a text whose parts are members with keys of their own.
-/
import Derived.Test.YtpgookhdffklkaaGreatDoorMD
namespace Go.Proofs.YtpgookhdffklkaaGreatDoor
open Go.RowKit
theorem bytes_below (w : World) (e : TypeId) (s : ByteArray) : Below w.heap.size w (Lib.bytesWorld w e s) :=
  ⟨rfl, rfl, rfl, by rw [Lib.bytesWorld_size]; omega, fun i hi => Lib.bytesWorld_at_old w e s i hi⟩
/-- TrimSpace of a text without blanks at its ends. -/
theorem trim_none (l : List UInt8) (w : World) (hE : Env w) (hs : l.length ≤ 1000000) (h : ∀ c ∈ l, c.toNat < 128 ∧ Lib.isSp c = false) :
    Calls Tryz.prog 150 #[.string (bs l)] w fun e w' => e = .returned (.string (bs l)) ∧ Below w.heap.size w w' := by
  have := Tryz.strings_TrimSpace (bs l) w (by simp; omega) (fun j b hb => (h b (by
    have := List.mem_of_getElem? (l := (bs l).data.toList) hb
    simpa using this)).1) hE.asc
  refine this.mono fun e w' ⟨he, hw⟩ => ⟨?_, ?_⟩
  · rw [he]
    simp only [bs_toList]
    have : Lib.trimSpace l = l := by
      cases l with
      | nil => rfl
      | cons x t =>
        have hx : ∀ (i : Nat) (b : UInt8), (x :: t)[i]? = some b → Lib.isSp b = false := fun i b hb => (h b (List.mem_of_getElem? hb)).2
        rw [Lib.trimSpace_cut (x :: t) 0 t.length (Nat.zero_le _) (by simp) (fun j b hj => by omega) (hx 0) (hx t.length) (fun j b hj hb => by rw [List.getElem?_eq_none (by simp; omega)] at hb; cases hb)]
        simp
    rw [this]; rfl
  · rw [hw]
    exact bytes_below w _ _
theorem isSp_key {c : UInt8} (h : keyB c = true) : c.toNat < 128 ∧ Lib.isSp c = false := by
  refine ⟨keyN_lt h, ?_⟩
  have : ∀ n : Fin 256, keyB (UInt8.ofNat n.val) = true → Lib.isSp (UInt8.ofNat n.val) = false := by decide +kernel
  have z := this ⟨c.toNat, c.toNat_lt⟩
  simp only [UInt8.ofNat_toNat] at z
  exact z h
theorem isSp_val {c : UInt8} (h : valB c = true) : c.toNat < 128 ∧ Lib.isSp c = false := by
  refine ⟨valN_lt h, ?_⟩
  have : ∀ n : Fin 256, valB (UInt8.ofNat n.val) = true → Lib.isSp (UInt8.ofNat n.val) = false := by decide +kernel
  have z := this ⟨c.toNat, c.toNat_lt⟩
  simp only [UInt8.ofNat_toNat] at z
  exact z h
theorem trim_key (k : List UInt8) (w : World) (hE : Env w) (hs : k.length ≤ 1000000) (h : tok k = true) :
    Calls Tryz.prog 150 #[.string (bs k)] w fun e w' => e = .returned (.string (bs k)) ∧ Below w.heap.size w w' :=
  trim_none k w hE hs fun c hc => isSp_key (List.all_eq_true.1 (tok_all h) c hc)
theorem trim_val (v : List UInt8) (w : World) (hE : Env w) (hs : v.length ≤ 300000) :
    Calls Tryz.prog 150 #[.string (bs (encL v))] w fun e w' => e = .returned (.string (bs (encL v))) ∧ Below w.heap.size w w' :=
  trim_none _ w hE (by have h1 := encL_len v; have h2 := escN_le v; omega) fun c hc => isSp_val (List.all_eq_true.1 (val_of_enc v) c hc)
set_option maxHeartbeats 400000 in
theorem replace_ok (n : Int) (v : List UInt8) (w : World) (hE : Env w) (hs : v.length ≤ 1000000) (hv : Lib.validD v = true) :
    Calls Tryz.prog 151 #[.int .i64 n, .string (bs v)] w fun e w' => e = .returned (.string (bs v)) ∧ Below w.heap.size w w' := by
  have C := fun W h => Lib.hid (valid_true W h hs hv)
  have HE := Lib.hid hE
  clear hE hv
  go_enter Tryz.func151, Tryz.ntmps151
  go_wp2_with (go_at_call 74; (with_reducible refine (C _ HE.out).out.mono ?_); rintro e w1 ⟨rfl, hb1⟩)
  go_ret
  exact ⟨rfl, hb1⟩
theorem pos1_none {c : UInt8} {l : List UInt8} (h : ∀ x ∈ l, x ≠ c) : pos1 c l = none := by
  induction l with
  | nil => rfl
  | cons x t ih =>
    simp only [pos1]
    rw [if_neg (h x (by simp)), ih (fun y hy => h y (by simp [hy]))]
    rfl
theorem pos1_at {c : UInt8} {a b : List UInt8} (h : ∀ x ∈ a, x ≠ c) : pos1 c (a ++ c :: b) = some a.length := by
  induction a with
  | nil => simp [pos1]
  | cons x t ih =>
    simp only [List.cons_append, pos1]
    rw [if_neg (h x (by simp)), ih (fun y hy => h y (by simp [hy]))]
    rfl
theorem key_ne {k : List UInt8} (h : tok k = true) : ∀ x ∈ k, x ≠ 61 ∧ x ≠ 59 ∧ x ≠ 44 := fun x hx => by
  have := List.all_eq_true.1 (tok_all h) x hx
  refine ⟨?_, ?_, ?_⟩ <;> (rintro rfl; revert this; decide)
theorem val_ne (v : List UInt8) : ∀ x ∈ encL v, x ≠ 59 ∧ x ≠ 44 := fun x hx => by
  have := List.all_eq_true.1 (val_of_enc v) x hx
  refine ⟨?_, ?_⟩ <;> (rintro rfl; revert this; decide)
set_option maxRecDepth 100000 in
set_option maxHeartbeats 4000000 in
theorem parse_plain (k v : List UInt8) (w : World) (hE : Env w) (hk : tok k = true) (hv : Lib.validD v = true) (hlk : k.length ≤ 300000) (hlv : v.length ≤ 300000) :
    Calls Tryz.prog 95 #[.string (bs (k ++ 61 :: encL v))] w fun e w' => ∃ mv, e = .returned (.tuple #[mv, .nilIface]) ∧ MvR w' mv ⟨k, v, [], []⟩ ∧ Below w.heap.size w w' := by
  have h1 := encL_len v
  have h2 := escN_le v
  have hle : (encL v).length ≤ 900000 := by omega
  have hlen : (k ++ 61 :: encL v).length ≤ 4294967296 := by simp; omega
  have C1 := fun W => Lib.hid (zzCut_none (k ++ 61 :: encL v) 59 W hlen (pos1_none (fun x hx => by
    simp only [List.mem_append, List.mem_cons] at hx
    rcases hx with hx | rfl | hx
    · exact (key_ne hk x hx).2.1
    · decide
    · exact (val_ne v x hx).1)))
  have C2 := fun W => Lib.hid (zzCut_some (k ++ 61 :: encL v) 61 W hlen k.length (pos1_at (fun x hx => (key_ne hk x hx).1)))
  have e1 : (k ++ 61 :: encL v).take k.length = k := by simp
  have e2 : (k ++ 61 :: encL v).drop (k.length + 1) = encL v := by
    rw [List.drop_append, List.drop_of_length_le (by omega)]; simp
  rw [e1, e2] at C2
  have C3 := fun W h => Lib.hid (trim_key k W h (by omega) hk)
  have C4 := fun W h => Lib.hid (validateKey_any k W h)
  rw [hk] at C4
  have C5 := fun W h => Lib.hid (trim_val v W h hlv)
  have C6 := fun W h => Lib.hid (validateValue_any (encL v) W h)
  rw [val_of_enc] at C6
  have C7 := fun W => Lib.hid (unescape_enc v W (by omega))
  have C8 := fun n W h => Lib.hid (replace_ok n v W h (by omega) hv)
  have HE := Lib.hid hE
  have HB := Lib.hid ((Below.refl w.heap.size w).alloc (Nat.le_refl _) (.cells #[.string ⟨#[]⟩, .string ⟨#[]⟩, .string ⟨#[]⟩, .slice none 0 0, .bool false] 86))
  have HK := Lib.hid (Blk.new w 86 #[.string ⟨#[]⟩, .string ⟨#[]⟩, .string ⟨#[]⟩, .slice none 0 0, .bool false])
  clear h1 h2 e1 e2 hE hk hv
  generalize k ++ 61 :: encL v = P at *
  generalize encL v = E at *
  go_enter Tryz.func95, Tryz.ntmps95
  go_wp2_with (first
    | (go_at_call 147; (refine (C1 _).out.mono ?_); rintro e w1 ⟨rfl, hb1⟩; have HB := Lib.hid (HB.out.trans (hb1.mono HB.out.size)); have HK := Lib.hid (HK.out.belowS hb1); clear hb1 C1)
    | (go_at_call 147; (refine (C2 _).out.mono ?_); rintro e w1 ⟨rfl, hb1⟩; have HB := Lib.hid (HB.out.trans (hb1.mono HB.out.size)); have HK := Lib.hid (HK.out.belowS hb1); clear hb1)
    | (go_at_call 150; (with_reducible refine (C3 _ (HE.out.below HB.out)).out.mono ?_); rintro e w1 ⟨rfl, hb1⟩; have HB := Lib.hid (HB.out.trans (hb1.mono HB.out.size)); have HK := Lib.hid (HK.out.belowS hb1); clear hb1)
    | (go_at_call 124; (with_reducible refine (C4 _ (HE.out.below HB.out)).out.mono ?_); rintro e w1 ⟨rfl, hb1⟩; have HB := Lib.hid (HB.out.trans (hb1.mono HB.out.size)); have HK := Lib.hid (HK.out.belowS hb1); clear hb1)
    | (go_at_call 150; (with_reducible refine (C5 _ (HE.out.below HB.out)).out.mono ?_); rintro e w1 ⟨rfl, hb1⟩; have HB := Lib.hid (HB.out.trans (hb1.mono HB.out.size)); have HK := Lib.hid (HK.out.belowS hb1); clear hb1)
    | (go_at_call 126; (with_reducible refine (C6 _ (HE.out.below HB.out)).out.mono ?_); rintro e w1 ⟨rfl, hb1⟩; have HB := Lib.hid (HB.out.trans (hb1.mono HB.out.size)); have HK := Lib.hid (HK.out.belowS hb1); clear hb1)
    | (go_at_call 127; (with_reducible refine (C7 _).out.mono ?_); rintro e w1 ⟨rfl, hb1⟩; have HB := Lib.hid (HB.out.trans (hb1.mono HB.out.size)); have HK := Lib.hid (HK.out.belowS hb1); clear hb1)
    | (go_at_call 151; (with_reducible refine (C8 _ _ (HE.out.below HB.out)).out.mono ?_); rintro e w1 ⟨rfl, hb1⟩; have HB := Lib.hid (HB.out.trans (hb1.mono HB.out.size)); have HK := Lib.hid (HK.out.belowS hb1); clear hb1; obtain ⟨c1, c2, c3, c4⟩ := HK.out.use))
  obtain ⟨hF, hFb, hFk⟩ := sets5 HK.out (.string (bs k)) (.string (bs v)) (.string ⟨#[]⟩) (.slice none 0 0) (.bool true)
  have e0 := hF.cell 0
  have e1 := hF.cell 1
  have e2 := hF.cell 2
  have e3 := hF.cell 3
  have e4 := hF.cell 4
  simp at e0 e1 e2 e3 e4
  refine bodyPost_ret (v := .tuple #[.agg #[.string (bs k), .string (bs v), .string ⟨#[]⟩, .slice none 0 0, .bool true], .nilIface]) (by simp [results, Tryz.results95, go_sem, e0, e1, e2, e3, e4]) rfl ⟨_, rfl, ⟨_, rfl, SlV.nil _ _⟩, hFb _ _ HB.out (Nat.le_refl _)⟩
end Go.Proofs.YtpgookhdffklkaaGreatDoor

namespace Go.Proofs.YtpgookhdffklkaaGreatDoor
open Go.RowKit
theorem info154 : (Tryz.prog.info? 154).map (fun i => (i.zero, i.size, i.bytes)) = some (some (.agg #[.string ⟨#[]⟩, .string ⟨#[]⟩, .slice none 0 0]), 3, 56) := by kernel_rfl
theorem zero154 (w : World) : (zeroValue 154).run Tryz.prog w = .ok (.agg #[.string ⟨#[]⟩, .string ⟨#[]⟩, .slice none 0 0]) w := by
  obtain ⟨i0, hi, hz0, hz1, hz2⟩ := info_parts info154
  simp [zeroValue, typeInfo, hi, hz0]
theorem zero3 (w : World) : (zeroValue 3).run Tryz.prog w = .ok (.int .i64 0) w := by
  obtain ⟨i0, hi, hz0, hz1, hz2⟩ := info_parts (show (Tryz.prog.info? 3).map (fun i => (i.zero, i.size, i.bytes)) = some (some (.int .i64 0), 1, 8) by kernel_rfl)
  simp [zeroValue, typeInfo, hi, hz0]
theorem und162 : Tryz.prog.underlying 162 = some (.map 9 3) := Tryz.underlying162
theorem MapS.lenJ {w : World} {b : Nat} {l : AL} (h : MapS w b l) (ty : TypeId) (j : Nat) (hj : l.length = j) : (Builtin.len_ #[92] ty #[.map (some b)]).run Tryz.prog w = .ok (.int .i64 (j : Nat)) w := by
  subst hj
  exact h.len ty 92 info46
theorem MapS.lookup_none {w : World} {b : Nat} {l : AL} (h : MapS w b l) {t e : TypeId} (ht : Tryz.prog.underlying t = some (.map 9 e)) {z : Value} (hz : (zeroValue e).run Tryz.prog w = .ok z w) (k : List UInt8) (hg : getS l k = none) :
    (Instr.lookup t (.map (some b)) (.string (bs k)) true).run Tryz.prog w = .ok (.tuple #[z, .bool false]) w := by
  have := h.lookup ht hz k true
  rw [hg] at this
  simpa using this
theorem strs_ne (l : List UInt8) (c : UInt8) : strs (splitC c l) ≠ [] := by
  intro e
  exact splitC_ne c l (List.map_eq_nil_iff.1 e)
theorem tot_take (ms : List BM) (j : Nat) (h : j < ms.length) : tot (ms.take (j + 1)) = tot (ms.take j) + (mText ms[j]).length + (if j = 0 then 0 else 1) := by
  rw [List.take_succ_eq_append_getElem h, tot_snoc]
  congr 1
  cases j with
  | zero => simp
  | succ j => cases ms with
    | nil => simp at h
    | cons x t => simp
theorem tot_take_le (ms : List BM) (j : Nat) : tot (ms.take j) ≤ tot ms := by
  have := tot_le (ms.take j) (ms.drop j)
  rwa [List.take_append_drop] at this
theorem nodup_new (ms : List BM) (j : Nat) (h : j < ms.length) (hn : (ms.map (·.k)).Nodup) : ms[j].k ∉ (ms.take j).map (·.k) := by
  intro hm
  obtain ⟨x, hx, he⟩ := List.mem_map.1 hm
  obtain ⟨i, hi, hxi⟩ := List.getElem_of_mem hx
  rw [List.getElem_take] at hxi
  rw [List.length_take] at hi
  have h1 : (ms.map (·.k))[i]'(by simp; omega) = (ms.map (·.k))[j]'(by simpa using h) := by simp [hxi, he]
  have := (List.getElem_inj hn).1 h1
  omega
theorem keys_of (D : PL) (L : List BM) (h : D.map (·.1) = L) : (D.map entI).map (·.1) = L.map (·.k) := by
  rw [← h, List.map_map, List.map_map]; rfl
theorem putS_new {l : AL} {k : List UInt8} {v : Value} (h : getS l k = none) : putS l k v = l ++ [(k, v)] := by
  unfold putS; rw [h]; rfl
theorem getS_new {l : AL} {k : List UInt8} (h : k ∉ l.map (·.1)) : getS l k = none :=
  getS_none fun _ hp e => h (e ▸ List.mem_map_of_mem (f := fun x : List UInt8 × Value => x.1) hp)
/-- The state of Parse's loop. -/
structure PSt (w w1 : World) (ms : List BM) (tv pe er i : Value) (wr : World) (j : Nat) (D : PL) (S : AL) : Prop where
  hj : j ≤ ms.length
  hi : i = .int .i64 j
  ht : tv = .int .i64 (tot (ms.take j) : Nat)
  hp : pe = .int .i64 0
  he : er = .nilIface
  hD : D.map (·.1) = ms.take j
  hL : ListR wr (w.heap.size + 1) D
  hS : MapS wr (w.heap.size + 1 + 1) S
  hSk : S.map (·.1) = (ms.take j).map (·.k)
  hb : Below w.heap.size w wr
  hk : Keeps (fun e => e = 9 ∨ e = 94) w1 wr
set_option maxRecDepth 100000 in
set_option maxHeartbeats 16000000 in
theorem parse_any (l : List UInt8) (ms : List BM) (w : World) (hE : Env w) (hl : l.length ≤ 8192) (h0 : l ≠ [])
    (hlen : (splitC 44 l).length = ms.length) (hms : ∀ m ∈ ms, SmM m) (hmd : ∀ m ∈ ms, m.md ≠ [] → m.ps = []) (hnd : (ms.map (·.k)).Nodup) (h64 : ms.length ≤ 64) (h8 : tot ms ≤ 8192)
    (hpm : ∀ (i : Nat) (h : i < ms.length) (h' : i < (splitC 44 l).length) (W : World), Env W → Calls Tryz.prog 95 #[.string (bs (splitC 44 l)[i])] W fun e w' => ∃ mv, e = .returned (.tuple #[mv, .nilIface]) ∧ MvR w' mv ms[i] ∧ Below W.heap.size W w') :
    Calls Tryz.prog 49 #[.string (bs l)] w fun e w' => (∃ (D : PL) (b : Nat), D.map (·.1) = ms ∧ e = .returned (.tuple #[.agg #[.map (some b)], .nilIface]) ∧ ListR w' b D) ∧ Below w.heap.size w w' := by
  have HE := Lib.hid hE
  have HM := Lib.hid hms
  have HX := Lib.hid hmd
  have HND := Lib.hid hnd
  have H8 := Lib.hid h8
  have HP := Lib.hid hpm
  have HL := Lib.hid hlen
  have hmm := @run_makeMap Tryz.prog
  have hd0 : (l == []) = false := by simpa using h0
  have hge : ¬ 8192 < l.length := by omega
  have hm0 : 0 < ms.length := by rw [← hlen]; exact List.length_pos_iff.2 (splitC_ne 44 l)
  have C1 := fun W => Lib.hid (zzSplit_any l 44 W (by omega))
  have HB0 := Lib.hid ((((Below.refl w.heap.size w).alloc (Nat.le_refl _) (.cells #[.map none] 94)).alloc (by simp) (.map #[] 0)).alloc (by simp <;> omega) (.map #[] 0))
  have HK0 := Lib.hid (((Blk.new w 94 #[.map none]).alloc (.map #[] 0)).alloc (.map #[] 0))
  have HM1 := Lib.hid ((MapS.made (w.alloc (.cells #[.map none] 94))).alloc (.map #[] 0))
  have HM2 := Lib.hid (MapS.made ((w.alloc (.cells #[.map none] 94)).alloc (.map #[] 0)))
  clear hE hms hmd hnd h8 hpm hlen h0
  go_enter Tryz.func49, Tryz.ntmps49
  go_wp2_with (go_at_call 94; (refine (C1 _).out.mono ?_); rintro e w1 ⟨pv, rfl, hown, hb1⟩; rw [HL.out] at hown; have HO1 := Lib.hid hown; have HB1 := Lib.hid (HB0.out.trans (hb1.mono (by simp <;> omega))); have HK1 := Lib.hid (HK0.out.belowS hb1); have HMa := Lib.hid (HM1.out.below hb1); have HMb := Lib.hid (HM2.out.below hb1); clear hb1 hown; obtain ⟨A1, q1, hq1⟩ := (SlV.of_own HO1.out).form; subst hq1)
  have HA := Lib.hid (by simpa using HMa.out : MapS w1 (w.heap.size + 1) [])
  have HA2 := Lib.hid (by simpa using HMb.out : MapS w1 (w.heap.size + 1 + 1) [])
  clear HMa HMb HM1 HM2 hmm C1
  have hsz1 : w.heap.size + 3 ≤ w1.heap.size := by have := HA2.out.lt; omega
  go_loopw [7, 8, 9, 11, 12, 13, 14, 15, 16, 17, 18, 19, 35] (fun tv pe er _ _ _ _ _ _ _ _ _ i wr => ∃ (j : Nat) (D : PL) (S : AL), PSt w w1 ms tv pe er i wr j D S) (fun _ _ _ _ _ _ _ _ _ _ _ _ i _ => ms.length - (intOf i).toNat)
  case atStart => exact ⟨0, [], [], ⟨Nat.zero_le _, rfl, rfl, rfl, rfl, rfl, ⟨HA.out, PsR.nil _ _⟩, HA2.out, rfl, HB1.out, Keeps.refl _⟩⟩
  case round =>
    obtain ⟨j, D, S, ⟨hj, rfl, rfl, rfl, rfl, hD, hL, hS, hSk, hb, hk⟩⟩ := hrel
    have HB := Lib.hid hb
    have HD := Lib.hid hD
    have HLi := Lib.hid hL
    have HSz := Lib.hid hS
    have HSk := Lib.hid hSk
    have HKp := Lib.hid hk
    have hge2 := hb.size
    have hmlt := hS.lt
    clear hb hD hL hS hSk hk
    by_cases hlt : j < ms.length
    · have hlt2 : j < (splitC 44 l).length := by rw [HL.out]; exact hlt
      obtain ⟨pb, poff, pc, hq, -, -, hpb, hpc⟩ := ((SlV.of_own HO1.out).keeps HKp.out (Or.inl rfl)).cells (strs_ne l 44)
      injection hq with hq1 hq2 hq3
      subst hq1; subst hq3
      have hcell := hpc j (.string (bs (splitC 44 l)[j])) (by simp [strs, hlt2])
      have CP := fun W h => Lib.hid (HP.out j hlt hlt2 W h)
      have HSm := Lib.hid (HM.out _ (List.getElem_mem hlt))
      have HXm := Lib.hid (HX.out _ (List.getElem_mem hlt))
      have HTT := Lib.hid (tot_take ms j hlt)
      have htl := tot_take_le ms (j + 1)
      rw [HTT.out] at htl
      have h8' := H8.out
      have HNE := Lib.hid (nodup_new ms j hlt HND.out)
      have HG1 := Lib.hid (getS_new (l := D.map entI) (k := ms[j].k) (by rw [keys_of D _ HD.out]; exact HNE.out))
      have HG2 := Lib.hid (getS_new (l := S) (k := ms[j].k) (by rw [HSk.out]; exact HNE.out))
      have hDl : D.length = j := by have z := congrArg List.length HD.out; simp at z; omega
      clear hpc
      have hkey : (¬ ((0 : Int) < (j : Int)) ∧ tot (ms.take j) + (mText ms[j]).length ≤ 8192) ∨ ((0 : Int) < (j : Int) ∧ tot (ms.take j) + (mText ms[j]).length + 1 ≤ 8192) := by
        rcases Nat.eq_zero_or_pos j with hz | hz
        · exact Or.inl ⟨by omega, by rw [if_pos hz] at htl; omega⟩
        · exact Or.inr ⟨by omega, by rw [if_neg (by omega)] at htl; omega⟩
      clear htl
      rcases hkey with ⟨hj0, hk0⟩ | ⟨hj0, hk0⟩
      · go_wp2_with (first
          | (refine wpl_lenN rfl (.tmp 39) 92 rfl info46 (w.heap.size + 1) (D.map entI) j (by simp; exact hDl) HLi.out.1 rfl ?_)
          | (go_at_call 95; (with_reducible refine (CP _ (HE.out.below HB.out)).out.mono ?_); rintro e w2 ⟨mv, rfl, hmv, hb2⟩; have HB2 := Lib.hid (HB.out.trans (hb2.mono hge2)); have HW2 := Lib.hid hb2; obtain ⟨pv2, hpv, hsl⟩ := hmv; subst hpv; have HSL := Lib.hid hsl; obtain ⟨A2, q2, hq2⟩ := hsl.form; subst hq2; have hge3 := HW2.out.size; clear hb2)
          | (go_at_call 89; (refine (memberString_any ms[j] _ _ (by exact HE.out.below (HB2.out.alloc (by omega) _)) ⟨_, rfl, HSL.out.below ((Below.refl _ _).alloc (Nat.le_refl _) _)⟩ HSm.out).mono ?_); rintro e w3 ⟨rfl, hb3⟩; have HN3 := Lib.hid ((Blk.new w2 86 #[.string (bs ms[j].k), .string (bs ms[j].v), .string (bs ms[j].md), .slice A2 ms[j].ps.length q2, .bool true]).belowS hb3); have HW3 := Lib.hid ((HW2.out.alloc (by omega) (.cells #[.string (bs ms[j].k), .string (bs ms[j].v), .string (bs ms[j].md), .slice A2 ms[j].ps.length q2, .bool true] 86)).trans (hb3.mono (by simp <;> omega))); have HB3 := Lib.hid (HB.out.trans (HW3.out.mono hge2)); have HSL3 := Lib.hid ((HSL.out.below ((Below.refl _ _).alloc (Nat.le_refl _) _)).below hb3); have HL3 := Lib.hid (HLi.out.below HW3.out); have HS3 := Lib.hid (HSz.out.below HW3.out); have hge4 := HW3.out.size; clear hb3; obtain ⟨c1, c2, c3, c4⟩ := HN3.out.use; have hlk := HL3.out.1.lookup_none und92 (zero154 w3) ms[j].k HG1.out; have hlk2 := fun o => (HS3.out.alloc o).lookup_none und162 (zero3 (w3.alloc o)) ms[j].k HG2.out; have hln := fun (o : Obj) (ty : TypeId) => (HL3.out.1.alloc o).lenJ ty j (by simp; exact hDl)))
        go_region_law (go_simp; go_at_call 86; (refine (itemFromMember_any ms[j] _ _ (by exact ⟨_, rfl, (by have z := HSL3.out.below ((Below.refl _ _).alloc (Nat.le_refl _) (.cells #[.string ⟨#[]⟩, .string ⟨#[]⟩, .slice none 0 0] 154)); exact z)⟩) HSm.out.lp HXm.out).mono ?_); rintro e w5 ⟨it, rfl, hit, hb5⟩; have HW5 := Lib.hid (below_then (B := wr.heap.size) (a := wr) hb5 (by simp <;> omega) (by have z := HW3.out.alloc hge4 (.cells #[.string ⟨#[]⟩, .string ⟨#[]⟩, .slice none 0 0] 154); exact ⟨z.os, z.tape, z.output, z.size, z.block⟩)); have HL5 := Lib.hid (HLi.out.below HW5.out); have HS5 := Lib.hid (HSz.out.below HW5.out); have HN5 := Lib.hid (Blk.by_ hb5 (by have z := HN3.out.alloc (.cells #[.string ⟨#[]⟩, .string ⟨#[]⟩, .slice none 0 0] 154); exact z)); clear hb5; obtain ⟨n1, n2, n3, n4⟩ := HN5.out.use; obtain ⟨pv5, hpv5, hsl5⟩ := hit; subst hpv5; obtain ⟨A5, q5, hq5⟩ := hsl5.form; subst hq5; have HSL5 := Lib.hid hsl5; clear hsl5; obtain ⟨w6, hup, hm6, hg6, hs6, hk6⟩ := HL5.out.1.update und92 ms[j].k (entI (ms[j], .slice A5 ms[j].ps.length q5)).2; have HM6 := Lib.hid hm6; have HG6 := Lib.hid hg6; have HZ6 := Lib.hid hs6; have HK6 := Lib.hid hk6; clear hm6 hg6 hs6 hk6; simp only [entI] at hup; have HN6 := Lib.hid (show Blk w6 w2.heap.size 86 _ from HK6.out _ _ _ _ trivial HN5.out); obtain ⟨r1, r2, r3, r4⟩ := HN6.out.use; have HS6 := Lib.hid (HS5.out.grown HG6.out (by simp)); obtain ⟨w7, hup2, hm7, hg7, hs7, hk7⟩ := HS6.out.update und162 ms[j].k (.int .i64 (mText ms[j]).length); have HM7 := Lib.hid hm7; have HG7 := Lib.hid hg7; have HZ7 := Lib.hid hs7; have HK7 := Lib.hid hk7; clear hm7 hg7 hs7 hk7)
        all_goals go_wp2
        all_goals
          have HL7 := HM6.out.grown HG7.out (by simp)
          rw [putS_new HG1.out] at HL7
          have HM7' := HM7.out
          rw [putS_new HG2.out] at HM7'
          refine ⟨⟨j + 1, D ++ [(ms[j], .slice A5 ms[j].ps.length q5)], S ++ [(ms[j].k, .int .i64 (mText ms[j]).length)], ⟨by omega, by go_num, ?_, rfl, rfl, ?_, ⟨by simpa [entI] using HL7, ((HL5.out.2.snoc HSL5.out).keeps HK6.out trivial).keeps HK7.out trivial⟩, HM7', ?_, below_row (below_row (HB.out.trans (HW5.out.mono hge2)) HG6.out (by have := HW5.out.size; omega) (by omega)) HG7.out (by rw [HZ6.out]; have := HW5.out.size; omega) (by omega), ((HKp.out.trans ((Keeps.of_below HW5.out).sub (fun _ _ => trivial))).trans (HK6.out.sub (fun _ _ => trivial))).trans (HK7.out.sub (fun _ _ => trivial))⟩⟩, by simp [intOf]; omega⟩
          · rw [HTT.out, show (if j = 0 then 0 else 1 : Nat) = 0 from if_pos (by omega)]; go_num
          · rw [List.map_append, HD.out, List.take_succ_eq_append_getElem hlt]; rfl
          · rw [List.map_append, HSk.out, List.take_succ_eq_append_getElem hlt, List.map_append]; rfl
      · go_wp2_with (first
          | (refine wpl_lenN rfl (.tmp 39) 92 rfl info46 (w.heap.size + 1) (D.map entI) j (by simp; exact hDl) HLi.out.1 rfl ?_)
          | (go_at_call 95; (with_reducible refine (CP _ (HE.out.below HB.out)).out.mono ?_); rintro e w2 ⟨mv, rfl, hmv, hb2⟩; have HB2 := Lib.hid (HB.out.trans (hb2.mono hge2)); have HW2 := Lib.hid hb2; obtain ⟨pv2, hpv, hsl⟩ := hmv; subst hpv; have HSL := Lib.hid hsl; obtain ⟨A2, q2, hq2⟩ := hsl.form; subst hq2; have hge3 := HW2.out.size; clear hb2)
          | (go_at_call 89; (refine (memberString_any ms[j] _ _ (by exact HE.out.below (HB2.out.alloc (by omega) _)) ⟨_, rfl, HSL.out.below ((Below.refl _ _).alloc (Nat.le_refl _) _)⟩ HSm.out).mono ?_); rintro e w3 ⟨rfl, hb3⟩; have HN3 := Lib.hid ((Blk.new w2 86 #[.string (bs ms[j].k), .string (bs ms[j].v), .string (bs ms[j].md), .slice A2 ms[j].ps.length q2, .bool true]).belowS hb3); have HW3 := Lib.hid ((HW2.out.alloc (by omega) (.cells #[.string (bs ms[j].k), .string (bs ms[j].v), .string (bs ms[j].md), .slice A2 ms[j].ps.length q2, .bool true] 86)).trans (hb3.mono (by simp <;> omega))); have HB3 := Lib.hid (HB.out.trans (HW3.out.mono hge2)); have HSL3 := Lib.hid ((HSL.out.below ((Below.refl _ _).alloc (Nat.le_refl _) _)).below hb3); have HL3 := Lib.hid (HLi.out.below HW3.out); have HS3 := Lib.hid (HSz.out.below HW3.out); have hge4 := HW3.out.size; clear hb3; obtain ⟨c1, c2, c3, c4⟩ := HN3.out.use; have hlk := HL3.out.1.lookup_none und92 (zero154 w3) ms[j].k HG1.out; have hlk2 := fun o => (HS3.out.alloc o).lookup_none und162 (zero3 (w3.alloc o)) ms[j].k HG2.out; have hln := fun (o : Obj) (ty : TypeId) => (HL3.out.1.alloc o).lenJ ty j (by simp; exact hDl)))
        go_region_law (go_simp; go_at_call 86; (refine (itemFromMember_any ms[j] _ _ (by exact ⟨_, rfl, (by have z := HSL3.out.below ((Below.refl _ _).alloc (Nat.le_refl _) (.cells #[.string ⟨#[]⟩, .string ⟨#[]⟩, .slice none 0 0] 154)); exact z)⟩) HSm.out.lp HXm.out).mono ?_); rintro e w5 ⟨it, rfl, hit, hb5⟩; have HW5 := Lib.hid (below_then (B := wr.heap.size) (a := wr) hb5 (by simp <;> omega) (by have z := HW3.out.alloc hge4 (.cells #[.string ⟨#[]⟩, .string ⟨#[]⟩, .slice none 0 0] 154); exact ⟨z.os, z.tape, z.output, z.size, z.block⟩)); have HL5 := Lib.hid (HLi.out.below HW5.out); have HS5 := Lib.hid (HSz.out.below HW5.out); have HN5 := Lib.hid (Blk.by_ hb5 (by have z := HN3.out.alloc (.cells #[.string ⟨#[]⟩, .string ⟨#[]⟩, .slice none 0 0] 154); exact z)); clear hb5; obtain ⟨n1, n2, n3, n4⟩ := HN5.out.use; obtain ⟨pv5, hpv5, hsl5⟩ := hit; subst hpv5; obtain ⟨A5, q5, hq5⟩ := hsl5.form; subst hq5; have HSL5 := Lib.hid hsl5; clear hsl5; obtain ⟨w6, hup, hm6, hg6, hs6, hk6⟩ := HL5.out.1.update und92 ms[j].k (entI (ms[j], .slice A5 ms[j].ps.length q5)).2; have HM6 := Lib.hid hm6; have HG6 := Lib.hid hg6; have HZ6 := Lib.hid hs6; have HK6 := Lib.hid hk6; clear hm6 hg6 hs6 hk6; simp only [entI] at hup; have HN6 := Lib.hid (show Blk w6 w2.heap.size 86 _ from HK6.out _ _ _ _ trivial HN5.out); obtain ⟨r1, r2, r3, r4⟩ := HN6.out.use; have HS6 := Lib.hid (HS5.out.grown HG6.out (by simp)); obtain ⟨w7, hup2, hm7, hg7, hs7, hk7⟩ := HS6.out.update und162 ms[j].k (.int .i64 ((mText ms[j]).length + 1 : Int)); have HM7 := Lib.hid hm7; have HG7 := Lib.hid hg7; have HZ7 := Lib.hid hs7; have HK7 := Lib.hid hk7; clear hm7 hg7 hs7 hk7)
        all_goals go_wp2
        all_goals
          have HL7 := HM6.out.grown HG7.out (by simp)
          rw [putS_new HG1.out] at HL7
          have HM7' := HM7.out
          rw [putS_new HG2.out] at HM7'
          refine ⟨⟨j + 1, D ++ [(ms[j], .slice A5 ms[j].ps.length q5)], S ++ [(ms[j].k, .int .i64 ((mText ms[j]).length + 1 : Int))], ⟨by omega, by go_num, ?_, rfl, rfl, ?_, ⟨by simpa [entI] using HL7, ((HL5.out.2.snoc HSL5.out).keeps HK6.out trivial).keeps HK7.out trivial⟩, HM7', ?_, below_row (below_row (HB.out.trans (HW5.out.mono hge2)) HG6.out (by have := HW5.out.size; omega) (by omega)) HG7.out (by rw [HZ6.out]; have := HW5.out.size; omega) (by omega), ((HKp.out.trans ((Keeps.of_below HW5.out).sub (fun _ _ => trivial))).trans (HK6.out.sub (fun _ _ => trivial))).trans (HK7.out.sub (fun _ _ => trivial))⟩⟩, by simp [intOf]; omega⟩
          · rw [HTT.out, show (if j = 0 then 0 else 1 : Nat) = 1 from if_neg (by omega)]; go_num
          · rw [List.map_append, HD.out, List.take_succ_eq_append_getElem hlt]; rfl
          · rw [List.map_append, HSk.out, List.take_succ_eq_append_getElem hlt, List.map_append]; rfl
    · have e : j = ms.length := by omega
      subst e
      rw [List.take_of_length_le (Nat.le_refl _)] at HD
      have hDl : D.length = ms.length := by have z := congrArg List.length HD.out; simpa using z
      have hm0' : (0 : Int) < (ms.length : Int) := by omega
      have HKL := Lib.hid (show Blk wr w.heap.size 94 _ from HKp.out _ _ _ _ (Or.inr rfl) HK1.out)
      obtain ⟨c1, c2, c3, c4⟩ := HKL.out.use
      go_wp2_with (refine wpl_lenN rfl (.tmp 117) 92 rfl info46 (w.heap.size + 1) (D.map entI) ms.length (by simp; exact hDl) HLi.out.1 rfl ?_)
      have hF := HKL.out.set_ 0 (.map (some (w.heap.size + 1)))
      have e0 := hF.cell 0
      simp at e0
      exact bodyPost_ret (v := .tuple #[.agg #[.map (some (w.heap.size + 1))], .nilIface]) (by simp [results, Tryz.results49, go_sem, e0]) rfl ⟨⟨D, w.heap.size + 1, HD.out, rfl, HLi.out.1.setCell (by simp) _, HLi.out.2.keeps ((Keeps.refl _).setCell (T := fun e => e ≠ 94) HKL.out (by simp) _) (by simp)⟩, HB.out.setCell (by simp) _⟩
end Go.Proofs.YtpgookhdffklkaaGreatDoor
