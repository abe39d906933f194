/-
  The reference's encoded, made, MakeProperty, PropertyText.
-/
import Derived.Test.YtpgookhdffklkaaGreatDoorLeafF
namespace Go.Proofs.YtpgookhdffklkaaGreatDoor
open Go.RowKit

theorem n37 : (((37 : UInt8).toNat : Nat) : Int) = 37 := rfl
theorem and15 (n : Nat) (h : n < 256) : bits BinOp.and IntKind.u8 (n : Int) 15 = (n : Int) % 16 := by
  have : ∀ m : Fin 256, bits BinOp.and IntKind.u8 (m.val : Int) 15 = (m.val : Int) % 16 := by decide +kernel
  exact this ⟨n, h⟩
theorem conv_lit {w : World} {g : Nat} {T : TypeId} (l : List UInt8) (n : Nat) (hn : n = l.length) (h : Blk w g T (byts l).toArray) :
    (convert 131 9 (.slice (some ⟨g, 0, none⟩) n n)).run Tryz.prog w = .ok (.string (bs l)) w := by
  subst hn
  have := run_convert_bytes_arg (P := Tryz.prog) w 131 5 Tryz.underlying131 Tryz.underlying5 g 0 l.length l.length (l.map fun c => (c.toNat : Int)) (by simp) (fun i hi => by
    rw [Nat.zero_add, h.cell i]
    simp [byts, List.getD, hi]) 9 Tryz.underlying9
  rwa [strOfNums_bs] at this

set_option maxRecDepth 100000 in
set_option maxHeartbeats 1000000 in
theorem encoded_any (l : List UInt8) (w : World) (hs : l.length ≤ 1000000) :
    Calls Tryz.prog 39 #[.string (bs l)] w fun e w' => e = .returned (.string (bs (encL l))) ∧ Below w.heap.size w w' := by
  go_enter Tryz.func39, Tryz.ntmps39
  go_wp2
  go_loopw [3, 4, 5, 8] (fun o _ _ i wr => ∃ k : Nat, k ≤ l.length ∧ i = .int .i64 k ∧ o = .string (bs (encL (l.take k))) ∧ Below w.heap.size w wr) (fun _ _ _ i _ => l.length - (intOf i).toNat)
  case atStart => exact ⟨0, Nat.zero_le _, rfl, rfl, Below.refl _ _⟩
  case round =>
    obtain ⟨k, hk, rfl, rfl, hb⟩ := hrel
    have HB := Lib.hid hb; clear hb
    by_cases hlt : k < l.length
    · have hlt8 := l[k].toNat_lt
      have hle : (encL (l.take k)).length ≤ 3000000 := by have := encL_len (l.take k); have := escN_le (l.take k); rw [List.length_take] at *; omega
      have HS := Lib.hid (encL_snoc l k hlt)
      have C := fun W => Lib.hid (octet_any l[k] W)
      cases hb : escB l[k]
      · have h37 := esc_37 hb
        have hv : valB l[k] = true := by simp [escB] at hb; exact hb.2
        have he1 := Lib.hid (show enc1 l[k] = [l[k]] by simp [enc1, hb])
        rw [hv] at C
        clear hb hv
        have hcv := conv_lit (w := wr.alloc (.cells (byts [l[k]]).toArray 5)) (g := wr.heap.size) (T := 5) [l[k]] 1 rfl (Blk.new _ _ _)
        simp only [byts, List.map_cons, List.map_nil] at hcv
        go_wp2_with (go_at_call 78; (refine (C _).out.mono ?_); rintro e w' ⟨rfl, rfl⟩)
        exact ⟨⟨k + 1, by omega, by go_num, by rw [HS.out, he1.out], HB.out.alloc HB.out.size _⟩, by simp [intOf]; omega⟩
      · have he1 := Lib.hid (show enc1 l[k] = [37, hexD (l[k].toNat / 16), hexD (l[k].toNat % 16)] by simp [enc1, hb])
        have hcv := conv_lit (w := (wr.alloc (.cells (byts [37, hexD (l[k].toNat / 16), hexD (l[k].toNat % 16)]).toArray 5)).drew) (g := wr.heap.size) (T := 5) [37, hexD (l[k].toNat / 16), hexD (l[k].toNat % 16)] 3 rfl ((Blk.new _ _ _).drew)
        simp only [byts, List.map_cons, List.map_nil, n37] at hcv
        have hx1 := hexAt (l[k].toNat / 16) (by omega) (by show _ < 16; omega)
        have hx2 := hexAt (l[k].toNat % 16) (by omega) (by show _ < 16; omega)
        have h15 := and15 l[k].toNat hlt8
        have hq5 : ((l[k].toNat : Int) % 16).toNat = l[k].toNat % 16 := by omega
        have hq6 : ((l[k].toNat : Int) / 16).toNat = l[k].toNat / 16 := by omega
        have hq1 : (0 : Int) ≤ (l[k].toNat : Int) / 16 := by omega
        have hq2 : (l[k].toNat : Int) / 16 < 16 := by omega
        have hq3 : (0 : Int) ≤ (l[k].toNat : Int) % 16 := by omega
        have hq4 : (l[k].toNat : Int) % 16 < 16 := by omega
        cases hv : valB l[k]
        · rw [hv] at C
          clear hb hv
          go_wp2_with (go_at_call 78; (refine (C _).out.mono ?_); rintro e w' ⟨rfl, rfl⟩)
          go_region
          all_goals go_wp2
          all_goals exact ⟨⟨k + 1, by omega, by go_num, by rw [HS.out, he1.out], (HB.out.alloc HB.out.size _).drew⟩, by simp [intOf]; omega⟩
        · have h37 : ((l[k].toNat : Int) != 37) = false := by
            simp [escB, hv] at hb; simp [hb]
          rw [hv] at C
          clear hb hv
          go_wp2_with (go_at_call 78; (refine (C _).out.mono ?_); rintro e w' ⟨rfl, rfl⟩)
          go_region
          all_goals go_wp2
          all_goals exact ⟨⟨k + 1, by omega, by go_num, by rw [HS.out, he1.out], (HB.out.alloc HB.out.size _).drew⟩, by simp [intOf]; omega⟩
    · have e : k = l.length := by omega
      subst e
      have HZ := Lib.hid (show encL (l.take l.length) = encL l by rw [List.take_of_length_le (Nat.le_refl _)])
      go_wp2
      go_ret
      exact ⟨ret_str HZ.out, HB.out⟩

theorem valid_any (l : List UInt8) (w : World) (hE : Env w) (hs : l.length ≤ 1000000) :
    Calls Tryz.prog 74 #[.string (bs l)] w fun e w' => e = .returned (.bool (Lib.validD l)) ∧ Below w.heap.size w w' := by
  have := Tryz.utf8_ValidString (bs l) w (by simp; omega) hE.utf
  simpa using this
theorem valid_nil : Lib.validD [] = true := by rw [Lib.validD]; rfl

/-- Whether a key and a value may be made into a member or a property. -/
def okB (k v : List UInt8) : Bool := !k.isEmpty && Lib.validD k && Lib.validD v
set_option maxRecDepth 100000 in
set_option maxHeartbeats 1000000 in
theorem made_raw (k v : List UInt8) (w : World) (hE : Env w) (hk : k.length ≤ 1000000) (hv : v.length ≤ 1000000) :
    Calls Tryz.prog 36 #[.int .u8 0, .string (bs k), .string (bs v)] w fun e w' => e = .returned (.tuple #[.string (bs v), .bool (okB k v)]) ∧ Below w.heap.size w w' := by
  have C1 := fun W h => Lib.hid (valid_any k W h hk)
  have C2 := fun W h => Lib.hid (valid_any v W h hv)
  have HE := Lib.hid hE
  by_cases h0 : k = []
  · subst h0
    clear hE
    go_enter Tryz.func36, Tryz.ntmps36
    go_wp2
    go_ret2
    exact ⟨rfl, Below.refl _ _⟩
  · have hd : (k == []) = false := by simpa using h0
    have he : k.isEmpty = false := by simpa using h0
    have HD := Lib.hid (show okB k v = (Lib.validD k && Lib.validD v) by unfold okB; rw [he]; rfl)
    clear hE h0 he
    cases hvk : Lib.validD k
    · rw [hvk] at C1 HD
      clear hvk
      go_enter Tryz.func36, Tryz.ntmps36
      go_wp2_with (go_at_call 74; (with_reducible refine (C1 _ HE.out).out.mono ?_); rintro e w1 ⟨rfl, hb1⟩)
      go_ret2
      exact ⟨by rw [HD.out]; rfl, hb1⟩
    · rw [hvk] at C1 HD
      clear hvk
      go_enter Tryz.func36, Tryz.ntmps36
      go_wp2_with (first | (go_at_call 74; (with_reducible refine (C1 _ HE.out).out.mono ?_); rintro e w1 ⟨rfl, hb1⟩; have HB1 := Lib.hid hb1; clear hb1) | (go_at_call 74; (with_reducible refine (C2 _ (HE.out.below HB1.out)).out.mono ?_); rintro e w2 ⟨rfl, hb2⟩))
      go_ret2
      exact ⟨by rw [HD.out]; rfl, HB1.out.trans (hb2.mono HB1.out.size)⟩
end Go.Proofs.YtpgookhdffklkaaGreatDoor
