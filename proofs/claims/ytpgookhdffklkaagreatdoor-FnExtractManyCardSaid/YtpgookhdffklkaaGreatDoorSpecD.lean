/-
  strings.ToValidUTF8 without a replacement: a text of UTF-8 comes back, any other text comes back shorter.
-/
import Derived.Test.YtpgookhdffklkaaGreatDoorSpecC
import Derived.Test.YtpgookhdffklkaaGreatDoorShelf3
import Derived.Test.YtpgookhdffklkaaGreatDoorMapS
import Derived.Lib.OthersKept
namespace Go.Proofs.YtpgookhdffklkaaGreatDoor
open Go.RowKit

theorem dec_drop (v : List UInt8) (k : Nat) : Lib.decodeL (v.drop k) = Utf8.decode (bs v) k := by
  have := Lib.decodeL_drop (bs v) k
  simpa using this
theorem dec_go (v : List UInt8) (k : Nat) (h : k < v.length) : Lib.decodeGo (bs (v.drop k)) = Utf8.decode (bs v) k := by
  have h1 := Lib.decodeGo_extract (bs v) k (by simpa using h)
  rw [bs_size, bs_drop] at h1
  exact h1
theorem drop_ne {v : List UInt8} {k : Nat} (h : k < v.length) : v.drop k ≠ [] := by
  intro e
  have := congrArg List.length e
  rw [List.length_drop, List.length_nil] at this
  omega
theorem dec_ge1 (v : List UInt8) (k : Nat) : 1 ≤ (Utf8.decode (bs v) k).2 := by
  rw [← dec_drop]; exact Lib.decodeL_width _
theorem dec_le (v : List UInt8) (k : Nat) (h : k < v.length) : k + (Utf8.decode (bs v) k).2 ≤ v.length := by
  have h1 := Lib.decodeL_le (v.drop k) (drop_ne h)
  rw [dec_drop, List.length_drop] at h1
  omega
theorem valid_at (v : List UInt8) (k : Nat) (h : k < v.length) (hn : ¬ ((Utf8.decode (bs v) k).1 = 65533 ∧ (Utf8.decode (bs v) k).2 = 1)) : Lib.validD (v.drop k) = Lib.validD (v.drop (k + (Utf8.decode (bs v) k).2)) := by
  have h1 := Lib.validD_step (v.drop k) (drop_ne h)
  rw [dec_drop, if_neg hn, List.drop_drop] at h1
  exact h1
theorem invalid_at (v : List UInt8) (k : Nat) (h : k < v.length) (hn : (Utf8.decode (bs v) k).1 = 65533 ∧ (Utf8.decode (bs v) k).2 = 1) : Lib.validD (v.drop k) = false := by
  have h1 := Lib.validD_step (v.drop k) (drop_ne h)
  rw [dec_drop, if_pos hn] at h1
  exact h1

theorem cap_of {w : World} {T e : TypeId} {B b : Nat} {p : Value} {xs : List Value} {N : Nat} (h : Lib.BuilderAtF T e B b p xs w) (hc : ∃ v1, w.cell? ⟨b, 1, none⟩ = some v1 ∧ N ≤ Value.capOf v1) : ∃ p' n cap, w.cell? ⟨b, 1, none⟩ = some (.slice p' n cap) ∧ N ≤ cap := by
  obtain ⟨_, v, hb, hown, _⟩ := h
  obtain ⟨v1, h1, h2⟩ := hc
  have h3 : w.cell? ⟨b, 1, none⟩ = some v := by simp [World.cell?, hb]
  rw [h3] at h1
  injection h1 with h1
  subst h1
  rcases hown.2 with ⟨rfl, _⟩ | ⟨g, cap, cur, fz, rfl, _⟩
  · exact ⟨_, _, _, h3, h2⟩
  · exact ⟨_, _, _, h3, h2⟩
theorem builderF_below {T e : TypeId} {B b : Nat} {xs : List Value} {w w' : World} (h : Lib.IsBuilderF T e B b xs w) (hb : Below w.heap.size w w') : Lib.IsBuilderF T e B b xs w' := by
  have aux : ∀ p, Lib.BuilderAtF T e B b p xs w → Lib.BuilderAtF T e B b p xs w' := fun p ⟨h1, v, h2, h3, h4⟩ => by
    refine ⟨h1, v, (hb.block b (lt_of_heap h2)).trans h2, ⟨h3.1, ?_⟩, h4⟩
    rcases h3.2 with h | ⟨g, cap, cur, fz, hv, hg, hh, r⟩
    · exact Or.inl h
    · exact Or.inr ⟨g, cap, cur, fz, hv, hg, (hb.block g (lt_of_heap hh)).trans hh, r⟩
  exact h.elim (fun x => Or.inl (aux _ x)) (fun x => Or.inr (aux _ x))
/-- The state of the second loop: what is written is shorter than what was read. -/
structure VSt (w : World) (s : List UInt8) (k : Nat) (q i : Value) (wr : World) (j : Nat) (out : List UInt8) : Prop where
  hj : j ≤ s.length
  hi : i = .int .i64 j
  hq : ∃ b, q = .bool b
  hB : Lib.IsBuilderF 133 5 w.heap.size w.heap.size (Lib.byteCells out) wr
  ho : out.length ≤ k + j
  h0 : 0 < j → out.length < k + j
  hb : Below w.heap.size w wr

set_option maxRecDepth 100000 in
set_option maxHeartbeats 8000000 in
theorem toValid_any : ToValid Env := by
  intro v w hE hv
  have HE := Lib.hid hE
  have HJ0 := Lib.hid ((Blk.new w 133 #[.pointer none, .slice none 0 0]).alloc (.stringIter (bs v) 0))
  have HB0 := Lib.hid (((Below.refl w.heap.size w).alloc (Nat.le_refl _) (.cells #[.pointer none, .slice none 0 0] 133)).alloc (by simp) (.stringIter (bs v) 0))
  have HI0 := Lib.hid (show ((w.alloc (.cells #[.pointer none, .slice none 0 0] 133)).alloc (.stringIter (bs v) 0)).heap[w.heap.size + 1]? = some (.stringIter (bs v) 0) from by
    have := heap_alloc_new (w.alloc (.cells #[.pointer none, .slice none 0 0] 133)) (.stringIter (bs v) 0)
    simpa using this)
  clear hE
  go_enter Tryz.func57, Tryz.ntmps57
  go_wp2
  go_loopw [0, 6, 7, 8, 9] (fun s _ _ _ _ wr => s = .string (bs v) ∧ ∃ k : Nat, k ≤ v.length ∧ wr.heap[w.heap.size + 1]? = some (.stringIter (bs v) k) ∧ Blk wr w.heap.size 133 #[.pointer none, .slice none 0 0] ∧ Lib.validD v = Lib.validD (v.drop k) ∧ Below w.heap.size w wr) (fun _ _ _ _ _ wr => v.length - wr.iterPos (w.heap.size + 1))
  case atStart => exact ⟨rfl, 0, Nat.zero_le _, by have z := HI0.out; exact z, by have z := HJ0.out; exact z, by simp, by have z := HB0.out; exact z⟩
  case round =>
    obtain ⟨rfl, k, hk, hit, hj, hvd, hb⟩ := hrel
    have HI := Lib.hid hit
    have HJ := Lib.hid hj
    have HVD := Lib.hid hvd
    have HB := Lib.hid hb
    have HP := Lib.hid (iterPos_of hit)
    clear hvd hb hj
    by_cases hlt : k < v.length
    · have hnx := fun ty => Lib.run_next_any_at (P := Tryz.prog) wr (w.heap.size + 1) (bs v) k ty hit (by simpa using hlt)
      have HI2 := Lib.hid (Lib.iterAt_heap wr (w.heap.size + 1) (bs v) k (k + (Utf8.decode (bs v) k).2) hit)
      have HB2 := Lib.hid (Lib.below_iterAt HB.out (k := w.heap.size + 1) (by omega) (bs v) (k + (Utf8.decode (bs v) k).2))
      have HJ2 := Lib.hid (show Blk (wr.iterAt (w.heap.size + 1) (bs v) (k + (Utf8.decode (bs v) k).2)) w.heap.size 133 #[.pointer none, .slice none 0 0] from by
        unfold Blk
        rw [Lib.iterAt_other _ _ _ _ _ (by omega)]
        exact HJ.out)
      have hle := dec_le v k hlt
      have hge1 := dec_ge1 v k
      clear hit
      by_cases hr : (Utf8.decode (bs v) k).1 = 65533
      · have hre : (((Utf8.decode (bs v) k).1 : Int) != 65533) = false := by simp; omega
        have C1 : ∀ W, Env W → Hid (Calls Tryz.prog 102 #[.string (bs (v.drop k))] W fun e w' => e = .returned (.tuple #[.int .i32 ((Utf8.decode (bs v) k).1 : Nat), .int .i64 ((Utf8.decode (bs v) k).2 : Nat)]) ∧ Below W.heap.size W w') := fun W hW => by
          have z := Tryz.utf8_DecodeRuneInString (bs (v.drop k)) W hW.utf
          rw [dec_go v k hlt] at z
          exact Lib.hid z
        have hge := HB2.out.size
        have HR := Lib.hid hr
        by_cases hw1 : (Utf8.decode (bs v) k).2 = 1
        · have hwe : (((Utf8.decode (bs v) k).2 : Int) == 1) = true := by rw [hw1]; rfl
          have HW1 := Lib.hid hw1
          have HF := Lib.hid (show Lib.validD v = false from by rw [HVD.out]; exact invalid_at v k hlt ⟨hr, hw1⟩)
          have h128 : 128 ≤ v[k].toNat := by
            rcases Nat.lt_or_ge v[k].toNat 128 with h | h
            · have z := decode_ascii (bs v) k (by simpa using hlt) (by simpa using h)
              rw [z] at hr
              simp at hr
              omega
            · exact h
          have CG := fun (W : World) hbk hBw => Lib.hid (Tryz.Builder_Grow_fresh_cap w.heap.size w.heap.size v.length W (Nat.le_refl _) hbk hBw (by omega))
          have CW := fun (W : World) h hBw => Lib.hid (Tryz.Builder_WriteString_kc w.heap.size w.heap.size [] (bs (v.take k)) W h (by simp; omega) hBw)
          have CC := fun cap p n W h => Lib.hid (Tryz.Builder_Cap_cell w.heap.size p n cap W h)
          clear hr hw1
          go_wp2_with (first
            | (go_at_call 102; (with_reducible refine (C1 _ (HE.out.below HB2.out)).out.mono ?_); rintro e w3 ⟨rfl, hb3⟩; have HB3 := Lib.hid (HB2.out.trans (hb3.mono hge)); have HJ3 := Lib.hid (show w3.heap[w.heap.size]? = some (.cells #[.pointer none, .slice none 0 0] 133 (0, 0)) from HJ2.out.belowS hb3); have hge3 := HB3.out.size; clear hb3)
            | (go_at_call 70; (with_reducible refine (CG _ HJ3.out hge3).out.mono ?_); rintro e w4 ⟨rfl, ⟨hA4, hb4⟩, p4, cap4, hc4, hn4⟩; have HB4 := Lib.hid (HB3.out.trans (hb4.mono (Nat.le_refl _))); have HA4 := Lib.hid (show Lib.IsBuilderF 133 5 w.heap.size w.heap.size [] w4 from Lib.IsBuilderF.of (Or.inr hA4)); have HC4 := Lib.hid hc4; have hge4 := HB4.out.size; clear hA4 hb4 hc4)
            | (go_at_call 71; (with_reducible refine (CW _ HA4.out hge4).out.mono ?_); rintro e w5 ⟨rfl, ⟨hA5, hb5, -⟩, hcap⟩; have HB5 := Lib.hid (HB4.out.trans (hb5.mono (Nat.le_refl _))); have HA5 := Lib.hid hA5; obtain ⟨p5, n5, cap5, hc5, hn5⟩ := cap_of hA5 (hcap _ HC4.out); have HC5 := Lib.hid hc5; have hge5 := HB5.out.size; have hcp : ((cap5 : Int) == 0) = false := (by have : ¬ ((cap5 : Int) = 0) := (by simp only [Value.capOf] at hn5; omega); simpa using this); clear hA5 hb5 hcap hc5)
            | (go_at_call 103; (with_reducible refine (CC _ _ _ _ HC5.out).out.mono ?_); rintro e w6 ⟨rfl, rfl⟩))
          have hlen : (v.drop k).length = v.length - k := List.length_drop
          have h128s : ∀ h : 0 < (v.drop k).length, 128 ≤ ((v.drop k)[0]'h).toNat := fun h => by simpa using h128
          have hd0 : (Utf8.decode (bs (v.drop k)) 0).2 = 1 := by
            rw [← dec_drop (v.drop k) 0, List.drop_zero, dec_drop v k]; exact HW1.out
          have HVk := Lib.hid (show (v.take k).length ≤ k from by simp; omega)
          have HA6 := Lib.hid (show Lib.IsBuilderF 133 5 w.heap.size w.heap.size (Lib.byteCells (v.take k)) _ from Or.inr (by have z := HA5.out; simpa [Lib.strCells_eq] using z))
          clear C1
          generalize v.drop k = s at *
          have HD0 := Lib.hid hd0
          have H128 := Lib.hid h128s
          have HLn := Lib.hid hlen
          have hs40 : s.length ≤ 40 := by omega
          clear hd0 h128s hlen
          go_loopw [10, 11, 12, 13, 14] (fun q i _ _ _ ws => ∃ (j : Nat) (out : List UInt8), VSt w s k q i ws j out) (fun _ i _ _ _ _ => s.length - (intOf i).toNat)
          case atStart => exact ⟨0, v.take k, ⟨Nat.zero_le _, rfl, ⟨_, rfl⟩, HA6.out, HVk.out, fun h => absurd h (Nat.lt_irrefl _), HB5.out⟩⟩
          case round =>
            obtain ⟨j, out, ⟨hj, rfl, ⟨q, rfl⟩, hB, ho, h0, hb⟩⟩ := hrel
            have HBr := Lib.hid hB
            have HBw := Lib.hid hb
            have hgw := hb.size
            have H0 := Lib.hid h0
            have hkv : k ≤ 40 := by omega
            clear hB hb h0
            by_cases hlj : j < s.length
            · have CWs := fun (x : ByteArray) (W : World) h hBw (hx : x.size ≤ 40) => Lib.hid (Tryz.Builder_WriteString_k w.heap.size w.heap.size (Lib.byteCells out) x W h (by rw [Lib.byteCells_length]; omega) hBw)
              by_cases ha : s[j].toNat < 128
              · have hj0 : 0 < j := by
                  rcases Nat.eq_zero_or_pos j with e | e
                  · subst e
                    have := H128.out hlj
                    omega
                  · exact e
                have hai : (s[j].toNat : Int) < 128 := by omega
                have CB := fun (W : World) h hBw => Lib.hid (Tryz.Builder_WriteByte_k w.heap.size w.heap.size (Lib.byteCells out) (s[j].toNat : Int) W h (by rw [Lib.byteCells_length]; omega) hBw)
                go_wp2_with (go_at_call 104; (with_reducible refine (CB _ HBr.out hgw).out.mono ?_); rintro e w7 ⟨rfl, hA7, hb7, -⟩; have HB7 := Lib.hid (HBw.out.trans (hb7.mono (Nat.le_refl _))); have HA7 := Lib.hid hA7; clear hA7 hb7)
                exact ⟨⟨j + 1, out ++ [s[j]], ⟨hlj, by go_num, ⟨_, rfl⟩, Or.inr (by have z := HA7.out; simpa [Lib.byteCells] using z), by simp; omega, fun _ => by have := H0.out hj0; simp; omega, HB7.out⟩⟩, by simp [intOf]; omega⟩
              · have hai : (128 : Int) ≤ (s[j].toNat : Int) := by omega
                have C1 : ∀ W, Env W → Hid (Calls Tryz.prog 102 #[.string (bs (s.drop j))] W fun e w' => e = .returned (.tuple #[.int .i32 ((Utf8.decode (bs s) j).1 : Nat), .int .i64 ((Utf8.decode (bs s) j).2 : Nat)]) ∧ Below W.heap.size W w') := fun W hW => by
                  have z := Tryz.utf8_DecodeRuneInString (bs (s.drop j)) W hW.utf
                  rw [dec_go s j hlj] at z
                  exact Lib.hid z
                have hle2 := dec_le s j hlj
                have hge2 := dec_ge1 s j
                by_cases hw2 : (Utf8.decode (bs s) j).2 = 1
                · have hwe2 : (((Utf8.decode (bs s) j).2 : Int) == 1) = true := by rw [hw2]; rfl
                  clear hw2 hle2
                  cases q
                  · go_wp2_with (first
                      | (go_at_call 102; (with_reducible refine (C1 _ (HE.out.below HBw.out)).out.mono ?_); rintro e w7 ⟨rfl, hb7⟩; have HB7 := Lib.hid (HBw.out.trans (hb7.mono hgw)); have HBr7 := Lib.hid (builderF_below HBr.out hb7); have hg7 := HB7.out.size; clear hb7)
                      | (go_at_call 71; (with_reducible refine (CWs _ _ HBr7.out hg7 (by decide)).out.mono ?_); rintro e w8 ⟨rfl, hA8, hb8, -⟩; have HB8 := Lib.hid (HB7.out.trans (hb8.mono (Nat.le_refl _))); have HA8 := Lib.hid hA8; clear hA8 hb8))
                    exact ⟨⟨j + 1, out, ⟨hlj, by go_num, ⟨_, rfl⟩, Or.inr (by have z := HA8.out; simpa [Lib.strCells] using z), by omega, fun _ => by omega, HB8.out⟩⟩, by simp [intOf]; omega⟩
                  · go_wp2_with (go_at_call 102; (with_reducible refine (C1 _ (HE.out.below HBw.out)).out.mono ?_); rintro e w7 ⟨rfl, hb7⟩; have HB7 := Lib.hid (HBw.out.trans (hb7.mono hgw)); have HBr7 := Lib.hid (builderF_below HBr.out hb7); have hg7 := HB7.out.size; clear hb7)
                    exact ⟨⟨j + 1, out, ⟨hlj, by go_num, ⟨_, rfl⟩, HBr7.out, by omega, fun _ => by omega, HB7.out⟩⟩, by simp [intOf]; omega⟩
                · have hwe2 : (((Utf8.decode (bs s) j).2 : Int) == 1) = false := by simp; omega
                  have hj0 : 0 < j := by
                    rcases Nat.eq_zero_or_pos j with e | e
                    · subst e
                      exact absurd HD0.out hw2
                    · exact e
                  clear hw2
                  go_wp2_with (first
                    | (go_at_call 102; (with_reducible refine (C1 _ (HE.out.below HBw.out)).out.mono ?_); rintro e w7 ⟨rfl, hb7⟩; have HB7 := Lib.hid (HBw.out.trans (hb7.mono hgw)); have HBr7 := Lib.hid (builderF_below HBr.out hb7); have hg7 := HB7.out.size; clear hb7)
                    | (go_at_call 71; (with_reducible refine (CWs _ _ HBr7.out hg7 (by simp; omega)).out.mono ?_); rintro e w8 ⟨rfl, hA8, hb8, -⟩; have HB8 := Lib.hid (HB7.out.trans (hb8.mono (Nat.le_refl _))); have HA8 := Lib.hid hA8; clear hA8 hb8))
                  have hl8 : (List.take (Utf8.decode (bs s) j).2 (s.drop j)).length ≤ (Utf8.decode (bs s) j).2 := by rw [List.length_take]; exact Nat.min_le_left _ _
                  exact ⟨⟨j + (Utf8.decode (bs s) j).2, out ++ List.take (Utf8.decode (bs s) j).2 (s.drop j), ⟨hle2, by go_num, ⟨_, rfl⟩, Or.inr (by have z := HA8.out; simpa [Lib.byteCells, Lib.strCells] using z), by rw [List.length_append]; omega, fun _ => by have := H0.out hj0; rw [List.length_append]; omega, HB8.out⟩⟩, by simp [intOf]; omega⟩
            · have e : j = s.length := by omega
              have CS := fun (W : World) h hBw => Lib.hid (Tryz.Builder_String_any_k w.heap.size w.heap.size out W h hBw)
              have HEj := Lib.hid e
              clear e
              go_wp2_with (go_at_call 72; (with_reducible refine (CS _ HBr.out hgw).out.mono ?_); rintro e w7 ⟨rfl, -, hb7, -⟩; have HB7 := Lib.hid (HBw.out.trans (hb7.mono (Nat.le_refl _))); clear hb7)
              go_ret
              refine ⟨⟨out, rfl, fun h => by (rw [HF.out] at h; cases h), fun _ e => ?_⟩, HB7.out⟩
              have z := HEj.out
              have x := HLn.out
              have y := H0.out (by omega)
              rw [e] at y
              omega
        · have hwe : (((Utf8.decode (bs v) k).2 : Int) == 1) = false := by simp; omega
          have HV2 := Lib.hid (valid_at v k hlt (fun h => hw1 h.2))
          clear hr hw1
          go_wp2_with (go_at_call 102; (with_reducible refine (C1 _ (HE.out.below HB2.out)).out.mono ?_); rintro e w3 ⟨rfl, hb3⟩; have HB3 := Lib.hid (HB2.out.trans (hb3.mono hge)); have HJ3 := Lib.hid (HJ2.out.belowS hb3); have HI3 := Lib.hid ((hb3.block _ (lt_of_heap HI2.out)).trans HI2.out); clear hb3)
          refine ⟨⟨rfl, k + (Utf8.decode (bs v) k).2, hle, HI3.out, HJ3.out, by rw [HVD.out, HV2.out], HB3.out⟩, ?_⟩
          rw [iterPos_of HI3.out, HP.out]
          omega
      · have hne : (((Utf8.decode (bs v) k).1 : Int) != 65533) = true := by simp; omega
        have HV2 := Lib.hid (valid_at v k hlt (fun h => hr h.1))
        clear hr
        go_wp2
        refine ⟨⟨rfl, k + (Utf8.decode (bs v) k).2, hle, HI2.out, HJ2.out, by rw [HVD.out, HV2.out], HB2.out⟩, ?_⟩
        rw [iterPos_of HI2.out, HP.out]
        omega
    · have hne := fun ty => Lib.run_next_end_at (P := Tryz.prog) wr (w.heap.size + 1) (bs v) k ty hit (by simpa using hlt)
      have hc1 := HJ.out.cell 1
      simp at hc1
      have CC := fun W h => Lib.hid (Tryz.Builder_Cap_cell w.heap.size none 0 0 W h)
      have HF := Lib.hid (show Lib.validD v = true from by rw [HVD.out, List.drop_eq_nil_of_le (by omega)]; exact valid_nil)
      have HC1 := Lib.hid hc1
      clear hit hc1
      go_wp2_with (go_at_call 103; (with_reducible refine (CC _ HC1.out).out.mono ?_); rintro e w' ⟨rfl, rfl⟩)
      go_ret
      exact ⟨⟨v, rfl, fun _ => rfl, fun h => by rw [HF.out] at h; cases h⟩, HB.out⟩
end Go.Proofs.YtpgookhdffklkaaGreatDoor
