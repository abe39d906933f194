/-
  valueEscape: a text with the bytes that may not stand in a value written as percent signs and digits.
-/
import Derived.Test.YtpgookhdffklkaaGreatDoorLeafB
namespace Go.Proofs.YtpgookhdffklkaaGreatDoor
open Go.RowKit

def hexD (n : Nat) : UInt8 := if n < 10 then UInt8.ofNat (48 + n) else UInt8.ofNat (55 + n)
def enc1 (c : UInt8) : List UInt8 := if escB c then [37, hexD (c.toNat / 16), hexD (c.toNat % 16)] else [c]
def encL (l : List UInt8) : List UInt8 := l.flatMap enc1
def escN (l : List UInt8) : Nat := (l.filter escB).length
theorem encL_nil : encL [] = [] := rfl
theorem encL_cons (c : UInt8) (l : List UInt8) : encL (c :: l) = enc1 c ++ encL l := by simp [encL]
theorem encL_snoc (l : List UInt8) (k : Nat) (h : k < l.length) : encL (l.take (k + 1)) = encL (l.take k) ++ enc1 l[k] := take_succ_flat enc1 l k h
theorem encL_len (l : List UInt8) : (encL l).length = l.length + 2 * escN l := by
  induction l with
  | nil => rfl
  | cons c t ih =>
    rw [encL_cons, List.length_append, ih]
    unfold escN enc1
    cases h : escB c <;> simp [h] <;> omega
theorem escN_le (l : List UInt8) : escN l ≤ l.length := List.length_filter_le _ _
theorem escN_snoc (l : List UInt8) (k : Nat) (h : k < l.length) : escN (l.take (k + 1)) = escN (l.take k) + if escB l[k] then 1 else 0 := by
  unfold escN
  rw [List.take_succ_eq_append_getElem h, List.filter_append]
  cases hc : escB l[k] <;> simp [hc]
theorem encL_none {l : List UInt8} (h : escN l = 0) : encL l = l := by
  induction l with
  | nil => rfl
  | cons c t ih =>
    unfold escN at h ih
    rw [encL_cons]
    cases hc : escB c
    · simp [hc] at h
      rw [ih (by simpa using h)]
      simp [enc1, hc]
    · simp [hc] at h
theorem encL_take_le (l : List UInt8) (k : Nat) : (encL (l.take k)).length ≤ (encL l).length := by
  have : encL l = encL (l.take k) ++ encL (l.drop k) := by
    unfold encL; rw [← List.flatMap_append, List.take_append_drop]
  rw [this]; simp

/-- The text so far lies in block g. -/
def TB (w : World) (g req : Nat) (T : TypeId) (out : List UInt8) (cur : Array Value) : Prop := Blk w g T cur ∧ req ≤ cur.size ∧ ∀ i (h : i < out.length), cur[i]? = some (.int .u8 out[i].toNat)
theorem TB.cell {w : World} {g req : Nat} {T : TypeId} {out : List UInt8} {cur : Array Value} (h : TB w g req T out cur) (i : Nat) (hi : i < req) : ∃ v, w.cell? ⟨g, i, none⟩ = some v := by
  rw [h.1.cell i, Array.getElem?_eq_getElem (by have := h.2.1; omega)]
  exact ⟨_, rfl⟩
theorem TB.put1 {w : World} {g req : Nat} {T : TypeId} {out : List UInt8} {cur : Array Value} (h : TB w g req T out cur) (c : UInt8) (hr : out.length < req) : TB (w.setCell ⟨g, out.length, none⟩ (.int .u8 c.toNat)) g req T (out ++ [c]) (cur.setIfInBounds out.length (.int .u8 c.toNat)) := by
  obtain ⟨h1, h2, h3⟩ := h
  refine ⟨h1.set_ _ _, by simpa using h2, fun i hi => ?_⟩
  simp only [List.length_append, List.length_cons, List.length_nil] at hi
  by_cases he : i = out.length
  · subst he
    rw [Array.getElem?_setIfInBounds_self_of_lt (by omega)]
    simp
  · rw [Array.getElem?_setIfInBounds_ne (by omega), h3 i (by omega), List.getElem_append_left]
theorem hexAt (n : Nat) (hn : n < 16) (h : n < (⟨#[48, 49, 50, 51, 52, 53, 54, 55, 56, 57, 65, 66, 67, 68, 69, 70]⟩ : ByteArray).size) : (⟨#[48, 49, 50, 51, 52, 53, 54, 55, 56, 57, 65, 66, 67, 68, 69, 70]⟩ : ByteArray)[n]'h = hexD n := by
  have : ∀ m : Fin 16, (⟨#[48, 49, 50, 51, 52, 53, 54, 55, 56, 57, 65, 66, 67, 68, 69, 70]⟩ : ByteArray)[m.val]'(m.isLt) = hexD m.val := by decide
  exact this ⟨n, hn⟩
theorem strOfNums_bs (l : List UInt8) : strOfNums (l.map fun c => (c.toNat : Int)) = bs l := by
  apply ByteArray.ext
  apply Array.toList_inj.1
  rw [strOfNums_data, List.map_map]
  have : ((fun n : Int => UInt8.ofNat n.toNat) ∘ fun c : UInt8 => (c.toNat : Int)) = id := by funext c; simp
  rw [this]
  simp
theorem info5 : (Tryz.prog.info? 5).map (fun i => (i.zero, i.size, i.bytes)) = some (some (.int .u8 0), 1, 1) := by kernel_rfl

set_option maxRecDepth 100000 in
set_option maxHeartbeats 1000000 in
theorem valueEscape_any (l : List UInt8) (w : World) (hE : Env w) (hs : l.length ≤ 1000000) :
    Calls Tryz.prog 137 #[.string (bs l)] w fun e w' => e = .returned (.string (bs (encL l))) ∧ Below w.heap.size w w' := by
  have hEL := Lib.hid (encL_len l)
  have hsl := fun (h : l.length + 2 * escN l ≤ 64) W => run_sliceAt_array_h (P := Tryz.prog) W 256 ⟨w.heap.size, 0, none⟩ (by simp [Program.arrayLen, Program.elem, Tryz.underlying256]) .i64 ((l.length : Int) + 2 * (escN l : Int)) (by omega) (by simp [Program.arrayLen, Tryz.underlying256]; omega)
  go_enter Tryz.func137, Tryz.ntmps137
  go_wp2
  go_loop [3, 4, 5] (fun n i _ => ∃ k : Nat, k ≤ l.length ∧ i = .int .i64 k ∧ n = .int .i64 (escN (l.take k) : Nat)) (fun _ i _ => l.length - (intOf i).toNat)
  case atStart => exact ⟨0, Nat.zero_le _, rfl, rfl⟩
  case round =>
    obtain ⟨k, hk, rfl, rfl⟩ := hrel
    have hle := escN_le (l.take k)
    rw [List.length_take] at hle
    have hle' : escN (l.take k) ≤ 1000000 := by omega
    clear hle
    by_cases hlt : k < l.length
    · have HS := Lib.hid (escN_snoc l k hlt)
      have HC := Lib.hid (shouldEscape_any l[k] w hE)
      clear hE
      cases hb : escB l[k]
      · rw [hb] at HS HC
        go_wp2_with (go_at_call 188; refine HC.out.mono ?_; rintro e w' ⟨rfl, rfl⟩)
        exact ⟨⟨k + 1, by omega, by go_num, by rw [HS.out]; rfl⟩, by simp [intOf]; omega⟩
      · rw [hb] at HS HC
        go_wp2_with (go_at_call 188; refine HC.out.mono ?_; rintro e w' ⟨rfl, rfl⟩)
        exact ⟨⟨k + 1, by omega, by go_num, by rw [HS.out]; go_num⟩, by simp [intOf]; omega⟩
    · have e : k = l.length := by omega
      subst e
      rw [List.take_of_length_le (Nat.le_refl _)] at *
      clear hlt hk
      by_cases h0 : escN l = 0
      · go_wp2
        go_ret
        exact ⟨ret_str (encL_none h0).symm, Below.refl _ _⟩
      · by_cases h64 : l.length + 2 * escN l ≤ 64
        · have hsl' := hsl h64
          clear hsl
          have hE := Lib.hid hE
          go_wp2
          go_loopw [9, 10, 11] (fun jv iv _ wr => ∃ k : Nat, k ≤ l.length ∧ iv = .int .i64 k ∧ jv = .int .i64 ((encL (l.take k)).length : Nat) ∧ Below w.heap.size w wr ∧ ∃ cur T, TB wr (w.heap.size) (l.length + 2 * escN l) T (encL (l.take k)) cur) (fun _ iv _ _ => l.length - (intOf iv).toNat)
          case atStart =>
            exact ⟨0, Nat.zero_le _, rfl, rfl, (Below.refl _ _).alloc (Nat.le_refl _) _, _, 256, Blk.new _ _ _, (by simpa using h64), (fun i hi => absurd hi (by simp [encL]))⟩
          case round =>
            obtain ⟨k, hk, rfl, rfl, hb, cur, T, htb⟩ := hrel
            by_cases hlt : k < l.length
            · have HS := Lib.hid (encL_snoc l k hlt)
              have HC := Lib.hid (shouldEscape_any l[k] wr (hE.out.below hb))
              have hle : (encL (l.take (k + 1))).length ≤ l.length + 2 * escN l := by rw [← hEL.out]; exact encL_take_le _ _
              rw [HS.out, List.length_append] at hle
              cases hbb : escB l[k]
              · rw [hbb] at HC
                have he1 : enc1 l[k] = [l[k]] := by simp [enc1, hbb]
                rw [he1] at hle HS
                simp only [List.length_cons, List.length_nil] at hle
                obtain ⟨x0, hx0⟩ := htb.cell (encL (l.take k)).length (by omega)
                have hf0 := htb.1.frozen (encL (l.take k)).length
                have HT := Lib.hid (htb.put1 l[k] (by omega))
                have HB := Lib.hid (hb.setCell (p := ⟨w.heap.size, (encL (l.take k)).length, none⟩) (by simp) (.int .u8 l[k].toNat))
                clear htb he1 hbb hb
                generalize hJ : (encL (l.take k)).length = J at *
                go_wp2_with (go_at_call 188; refine HC.out.mono ?_; rintro e w' ⟨rfl, rfl⟩)
                exact ⟨⟨k + 1, by omega, by go_num, by rw [HS.out, List.length_append, hJ]; go_num, HB.out, _, T, by rw [HS.out]; exact HT.out⟩, by simp [intOf]; omega⟩
              · rw [hbb] at HC
                have he1 : enc1 l[k] = [37, hexD (l[k].toNat / 16), hexD (l[k].toNat % 16)] := by simp [enc1, hbb]
                rw [he1] at hle HS
                simp only [List.length_cons, List.length_nil] at hle
                obtain ⟨x0, hx0⟩ := htb.cell (encL (l.take k)).length (by omega)
                obtain ⟨x1, hx1⟩ := htb.cell ((encL (l.take k)).length + 1) (by omega)
                obtain ⟨x2, hx2⟩ := htb.cell ((encL (l.take k)).length + 2) (by omega)
                have hf0 := htb.1.frozen (encL (l.take k)).length
                have hf1 := htb.1.frozen ((encL (l.take k)).length + 1)
                have hf2 := htb.1.frozen ((encL (l.take k)).length + 2)
                have HT := Lib.hid htb
                have HB := Lib.hid hb
                have hlt8 := l[k].toNat_lt
                clear htb he1 hbb hb
                generalize hJ : (encL (l.take k)).length = J at *
                go_wp2_with (go_at_call 188; refine HC.out.mono ?_; rintro e w' ⟨rfl, rfl⟩)
                rw [hexAt _ (by omega), hexAt _ (by omega)]
                have t1 := HT.out.put1 37 (by omega)
                have t2 := t1.put1 (hexD (l[k].toNat / 16)) (by simp; omega)
                have t3 := t2.put1 (hexD (l[k].toNat % 16)) (by simp; omega)
                simp only [List.length_append, List.length_cons, List.length_nil, hJ, Nat.zero_add, List.append_assoc, List.cons_append, List.nil_append, Nat.reduceAdd] at t1 t2 t3
                refine ⟨⟨k + 1, by omega, by go_num, by rw [HS.out, List.length_append, hJ]; go_num, ((HB.out.setCell ?_ _).setCell ?_ _).setCell ?_ _, _, T, by rw [HS.out]; exact t3⟩, by simp [intOf]; omega⟩ <;> simp
            · have e : k = l.length := by omega
              subst e
              rw [List.take_of_length_le (Nat.le_refl _)] at htb
              have hcv := run_convert_bytes_arg (P := Tryz.prog) wr 131 5 Tryz.underlying131 Tryz.underlying5 (w.heap.size) 0 (l.length + 2 * escN l) 64 ((encL l).map fun c => (c.toNat : Int)) (by rw [List.length_map, hEL.out]) (fun i hi => by
                have hi' : i < (encL l).length := by rw [hEL.out]; exact hi
                rw [Nat.zero_add, htb.1.cell i, htb.2.2 i hi']
                simp [List.getD, List.getElem?_eq_getElem hi']) 9 Tryz.underlying9
              rw [strOfNums_bs] at hcv
              have HB := Lib.hid hb
              clear htb hb hlt
              go_wp2
              go_ret
              exact ⟨rfl, HB.out⟩
        · clear hsl
          have hE := Lib.hid hE
          have hxx := Lib.hid (show ((l.length : Int) + 2 * (escN l : Int)) = ((l.length + 2 * escN l : Nat) : Int) by omega)
          have hnn := Lib.hid (show l.length + 2 * escN l ≤ 4294967296 by omega)
          go_wp2_with (at_make; refine mk_full rfl (.tmp 37) (.tmp 37) 131 rfl 5 (.int .u8 0) 1 1 Tryz.underlying131 info5 (by decide) _ (l.length + 2 * escN l) rfl rfl hxx.out hnn.out ?_; intro w1 hown1 hb1; go_frame)
          go_loopw [9, 10, 11] (fun jv iv _ wr => ∃ k : Nat, k ≤ l.length ∧ iv = .int .i64 k ∧ jv = .int .i64 ((encL (l.take k)).length : Nat) ∧ Below w.heap.size w wr ∧ ∃ cur T, TB wr (w.heap.size + 1) (l.length + 2 * escN l) T (encL (l.take k)) cur) (fun _ iv _ _ => l.length - (intOf iv).toNat)
          case atStart =>
            refine ⟨0, Nat.zero_le _, rfl, rfl, ((Below.refl _ _).alloc (Nat.le_refl _) _).trans (hb1.mono (by simp)), ?_⟩
            obtain ⟨cur, hbk, hsz, _⟩ := own_blk hown1
            exact ⟨cur, 5, by simpa using hbk, by omega, fun i hi => absurd hi (by simp [encL])⟩
          case round =>
            obtain ⟨k, hk, rfl, rfl, hb, cur, T, htb⟩ := hrel
            by_cases hlt : k < l.length
            · have HS := Lib.hid (encL_snoc l k hlt)
              have HC := Lib.hid (shouldEscape_any l[k] wr (hE.out.below hb))
              have hle : (encL (l.take (k + 1))).length ≤ l.length + 2 * escN l := by rw [← hEL.out]; exact encL_take_le _ _
              rw [HS.out, List.length_append] at hle
              cases hbb : escB l[k]
              · rw [hbb] at HC
                have he1 : enc1 l[k] = [l[k]] := by simp [enc1, hbb]
                rw [he1] at hle HS
                simp only [List.length_cons, List.length_nil] at hle
                obtain ⟨x0, hx0⟩ := htb.cell (encL (l.take k)).length (by omega)
                have hf0 := htb.1.frozen (encL (l.take k)).length
                have HT := Lib.hid (htb.put1 l[k] (by omega))
                have HB := Lib.hid (hb.setCell (p := ⟨w.heap.size + 1, (encL (l.take k)).length, none⟩) (by simp) (.int .u8 l[k].toNat))
                clear htb he1 hbb hb
                generalize hJ : (encL (l.take k)).length = J at *
                go_wp2_with (go_at_call 188; refine HC.out.mono ?_; rintro e w' ⟨rfl, rfl⟩)
                exact ⟨⟨k + 1, by omega, by go_num, by rw [HS.out, List.length_append, hJ]; go_num, HB.out, _, T, by rw [HS.out]; exact HT.out⟩, by simp [intOf]; omega⟩
              · rw [hbb] at HC
                have he1 : enc1 l[k] = [37, hexD (l[k].toNat / 16), hexD (l[k].toNat % 16)] := by simp [enc1, hbb]
                rw [he1] at hle HS
                simp only [List.length_cons, List.length_nil] at hle
                obtain ⟨x0, hx0⟩ := htb.cell (encL (l.take k)).length (by omega)
                obtain ⟨x1, hx1⟩ := htb.cell ((encL (l.take k)).length + 1) (by omega)
                obtain ⟨x2, hx2⟩ := htb.cell ((encL (l.take k)).length + 2) (by omega)
                have hf0 := htb.1.frozen (encL (l.take k)).length
                have hf1 := htb.1.frozen ((encL (l.take k)).length + 1)
                have hf2 := htb.1.frozen ((encL (l.take k)).length + 2)
                have HT := Lib.hid htb
                have HB := Lib.hid hb
                have hlt8 := l[k].toNat_lt
                clear htb he1 hbb hb
                generalize hJ : (encL (l.take k)).length = J at *
                go_wp2_with (go_at_call 188; refine HC.out.mono ?_; rintro e w' ⟨rfl, rfl⟩)
                rw [hexAt _ (by omega), hexAt _ (by omega)]
                have t1 := HT.out.put1 37 (by omega)
                have t2 := t1.put1 (hexD (l[k].toNat / 16)) (by simp; omega)
                have t3 := t2.put1 (hexD (l[k].toNat % 16)) (by simp; omega)
                simp only [List.length_append, List.length_cons, List.length_nil, hJ, Nat.zero_add, List.append_assoc, List.cons_append, List.nil_append, Nat.reduceAdd] at t1 t2 t3
                refine ⟨⟨k + 1, by omega, by go_num, by rw [HS.out, List.length_append, hJ]; go_num, ((HB.out.setCell ?_ _).setCell ?_ _).setCell ?_ _, _, T, by rw [HS.out]; exact t3⟩, by simp [intOf]; omega⟩ <;> simp
            · have e : k = l.length := by omega
              subst e
              rw [List.take_of_length_le (Nat.le_refl _)] at htb
              have hcv := run_convert_bytes_arg (P := Tryz.prog) wr 131 5 Tryz.underlying131 Tryz.underlying5 (w.heap.size + 1) 0 (l.length + 2 * escN l) (l.length + 2 * escN l) ((encL l).map fun c => (c.toNat : Int)) (by rw [List.length_map, hEL.out]) (fun i hi => by
                have hi' : i < (encL l).length := by rw [hEL.out]; exact hi
                rw [Nat.zero_add, htb.1.cell i, htb.2.2 i hi']
                simp [List.getD, List.getElem?_eq_getElem hi']) 9 Tryz.underlying9
              rw [strOfNums_bs] at hcv
              have HB := Lib.hid hb
              clear htb hb hlt
              go_wp2
              go_ret
              exact ⟨rfl, HB.out⟩
end Go.Proofs.YtpgookhdffklkaaGreatDoor
