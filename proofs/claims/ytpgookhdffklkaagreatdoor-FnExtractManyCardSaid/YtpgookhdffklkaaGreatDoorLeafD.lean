/-
  What has been escaped is read back.
-/
import Derived.Test.YtpgookhdffklkaaGreatDoorLeafC
namespace Go.Proofs.YtpgookhdffklkaaGreatDoor
open Go.RowKit

theorem hexD_isHex (n : Nat) (h : n < 16) : isHexB ((hexD n).toNat : Int) = true := by
  have : ∀ m : Fin 16, isHexB ((hexD m.val).toNat : Int) = true := by decide
  exact this ⟨n, h⟩
theorem hexD_hexV (n : Nat) (h : n < 16) : hexV ((hexD n).toNat : Int) = n := by
  have : ∀ m : Fin 16, hexV ((hexD m.val).toNat : Int) = (m.val : Int) := by decide
  exact this ⟨n, h⟩
theorem isHex_D (n : Nat) (h : n < 16) (w : World) : Calls Tryz.prog 185 #[.int .u8 (hexD n).toNat] w fun e w' => e = .returned (.bool true) ∧ w = w' := by
  have := isHex_any ((hexD n).toNat : Int) w (by omega) (by have := (hexD n).toNat_lt; omega)
  rwa [hexD_isHex n h] at this
theorem zzHex_D (n : Nat) (h : n < 16) (w : World) : Calls Tryz.prog 186 #[.int .u8 (hexD n).toNat] w fun e w' => e = .returned (.int .u8 n) ∧ w = w' := by
  have := zzHex_any ((hexD n).toNat : Int) w (hexD_isHex n h)
  rwa [hexD_hexV n h] at this

/-- Where the k-th byte's text stands. -/
theorem encL_split (v : List UInt8) (k : Nat) (h : k < v.length) : encL v = encL (v.take k) ++ (enc1 v[k] ++ encL (v.drop (k + 1))) := by
  unfold encL
  rw [← List.flatMap_cons, ← List.drop_eq_getElem_cons h, ← List.flatMap_append, List.take_append_drop]
theorem encL_at0 (v : List UInt8) (k : Nat) (h : k < v.length) (hb : escB v[k] = false) : (encL (v.take k)).length < (encL v).length ∧ (encL v)[(encL (v.take k)).length]? = some v[k] := by
  have e := encL_split v k h
  have e1 : enc1 v[k] = [v[k]] := by simp [enc1, hb]
  rw [e1] at e
  have hl : (encL (v.take k)).length < (encL v).length := by rw [e]; simp
  refine ⟨hl, ?_⟩
  conv => lhs; rw [e]
  rw [List.getElem?_append_right (Nat.le_refl _)]
  simp
theorem encL_at3 (v : List UInt8) (k : Nat) (h : k < v.length) (hb : escB v[k] = true) : (encL (v.take k)).length + 2 < (encL v).length ∧ (encL v)[(encL (v.take k)).length]? = some 37 ∧ (encL v)[(encL (v.take k)).length + 1]? = some (hexD (v[k].toNat / 16)) ∧ (encL v)[(encL (v.take k)).length + 2]? = some (hexD (v[k].toNat % 16)) := by
  have e := encL_split v k h
  have e1 : enc1 v[k] = [37, hexD (v[k].toNat / 16), hexD (v[k].toNat % 16)] := by simp [enc1, hb]
  rw [e1] at e
  have hl : (encL (v.take k)).length + 2 < (encL v).length := by
    have := congrArg List.length e
    simp only [List.length_append, List.length_cons, List.length_nil] at this
    omega
  have a : ∀ i, i < 3 → (encL v)[(encL (v.take k)).length + i]? = [37, hexD (v[k].toNat / 16), hexD (v[k].toNat % 16)][i]? := by
    intro i hi
    conv => lhs; rw [e]
    rw [List.getElem?_append_right (by omega), List.getElem?_append_left (by simp; omega)]
    congr 1; omega
  exact ⟨hl, a 0 (by omega), a 1 (by omega), a 2 (by omega)⟩
theorem get_of? {l : List UInt8} {i : Nat} {c : UInt8} (h : i < l.length) (he : l[i]? = some c) : l[i] = c := by
  rw [List.getElem?_eq_getElem h] at he
  exact Option.some.inj he
theorem esc_37 {c : UInt8} (h : escB c = false) : ((c.toNat : Int) != 37) = true := by
  simp only [escB, Bool.or_eq_false_iff] at h
  simp
  intro e
  have : c = 37 := UInt8.toNat_inj.1 (show c.toNat = 37 by omega)
  rw [this] at h
  simp at h

set_option maxHeartbeats 1000000 in
theorem validPct_enc (v : List UInt8) (w : World) (hs : v.length ≤ 1000000) :
    Calls Tryz.prog 238 #[.string (bs (encL v))] w fun e w' => e = .returned (.bool true) ∧ Below w.heap.size w w' := by
  have hEL := encL_len v
  have hEN := escN_le v
  have hlen : (encL v).length ≤ 3000000 := by omega
  clear hEL hEN
  have H0 := Lib.hid (fun k h hb => encL_at0 v k h hb)
  have H3 := Lib.hid (fun k h hb => encL_at3 v k h hb)
  have HE := Lib.hid (fun k h => encL_snoc v k h)
  have HZ := Lib.hid (show encL (v.take v.length) = encL v by rw [List.take_of_length_le (Nat.le_refl _)])
  go_enter Tryz.func238, Tryz.ntmps238
  go_wp2
  go_loopw [3] (fun i wr => ∃ k : Nat, k ≤ v.length ∧ i = .int .i64 ((encL (v.take k)).length : Nat) ∧ Below w.heap.size w wr) (fun i _ => (encL v).length - (intOf i).toNat)
  case atStart => exact ⟨0, Nat.zero_le _, rfl, Below.refl _ _⟩
  case round =>
    obtain ⟨k, hk, rfl, hb⟩ := hrel
    have HB := Lib.hid hb; clear hb
    by_cases hlt : k < v.length
    · cases hb : escB v[k]
      · obtain ⟨h1, h2⟩ := H0.out k hlt hb
        have h37 := esc_37 hb
        have HS := Lib.hid (HE.out k hlt)
        have he1 := Lib.hid (show enc1 v[k] = [v[k]] by simp [enc1, hb])
        generalize hJ : (encL (v.take k)).length = J at *
        have h37' : (((encL v)[J].toNat : Int) != 37) = true := by rw [get_of? h1 h2]; exact h37
        clear h2 h37 hb
        go_wp2
        refine ⟨⟨k + 1, by omega, ?_, HB.out⟩, by simp [intOf]; omega⟩
        rw [HS.out, List.length_append, he1.out, hJ]; go_num
      · obtain ⟨h1, h2, h3, h4⟩ := H3.out k hlt hb
        have HS := Lib.hid (HE.out k hlt)
        have he1 := Lib.hid (show enc1 v[k] = [37, hexD (v[k].toNat / 16), hexD (v[k].toNat % 16)] by simp [enc1, hb])
        have hlt8 := v[k].toNat_lt
        have C1 := fun W => Lib.hid (isHex_D (v[k].toNat / 16) (by omega) W)
        have C2 := fun W => Lib.hid (isHex_D (v[k].toNat % 16) (by omega) W)
        generalize hJ : (encL (v.take k)).length = J at *
        have g0 := get_of? (by omega) h2
        have g1 := get_of? (by omega) h3
        have g2 := get_of? (by omega) h4
        clear hb h2 h3 h4
        go_wp2_with (first | (go_at_call 185; (with_reducible refine (C1 _).out.mono ?_); rintro e w' ⟨rfl, rfl⟩) | (go_at_call 185; (with_reducible refine (C2 _).out.mono ?_); rintro e w' ⟨rfl, rfl⟩))
        refine ⟨⟨k + 1, by omega, ?_, HB.out⟩, by simp [intOf]; omega⟩
        rw [HS.out, List.length_append, he1.out, hJ]; go_num
    · have e : k = v.length := by omega
      subst e
      rw [HZ.out] at *
      go_wp2
      go_ret
      exact ⟨rfl, HB.out⟩

theorem join_hex (n : Nat) (h : n < 256) : bits BinOp.or IntKind.u8 (IntKind.u8.wrap ((n : Int) / 16 * 16)) ((n : Int) % 16) = n := by
  have : ∀ m : Fin 256, bits BinOp.or IntKind.u8 (IntKind.u8.wrap ((m.val : Int) / 16 * 16)) ((m.val : Int) % 16) = (m.val : Int) := by decide +kernel
  exact this ⟨n, h⟩
/-- Bytes in a row of the call's own. -/
def byts (l : List UInt8) : List Value := l.map fun c => .int .u8 c.toNat
theorem byts_snoc (l : List UInt8) (c : UInt8) : byts (l ++ [c]) = byts l ++ [.int .u8 c.toNat] := by simp [byts]
theorem one_int (k : IntKind) (n : Int) : ∀ u ∈ [Value.int k n], u.oneCell' = true := by intro u hu; simp at hu; subst hu; rfl
/-- The text of a row of bytes of the call's own. -/
theorem conv_own {w : World} {base : Nat} {v : Value} {l : List UInt8} (h : w.ownsRow base 5 1 v l.length (byts l)) :
    (convert 131 9 v).run Tryz.prog w = .ok (.string (bs l)) w := by
  rcases h.2 with ⟨rfl, h0⟩ | ⟨g, cap, cur, rfl, _, hh, _, _, _, ht⟩
  · have : l = [] := List.eq_nil_of_length_eq_zero h0
    subst this
    rw [run_convert_bytes_nil w 131 5 Tryz.underlying131 Tryz.underlying5 _ _ 9 Tryz.underlying9]
    rfl
  · have := run_convert_bytes_arg (P := Tryz.prog) w 131 5 Tryz.underlying131 Tryz.underlying5 g 0 l.length cap (l.map fun c => (c.toNat : Int)) (by simp) (fun i hi => by
      rw [Nat.zero_add, Blk.cell (t := 5) hh i]
      have h1 : (byts l)[i]? = some (.int .u8 l[i].toNat) := by simp [byts, hi]
      rw [← ht, List.getElem?_take] at h1
      split at h1
      · rw [← Array.getElem?_toList, h1]; simp [List.getD, hi]
      · cases h1) 9 Tryz.underlying9
    rwa [strOfNums_bs] at this

set_option maxRecDepth 100000 in
set_option maxHeartbeats 4000000 in
theorem unescape_enc (v : List UInt8) (w : World) (hs : v.length ≤ 1000000) :
    Calls Tryz.prog 127 #[.string (bs (encL v))] w fun e w' => e = .returned (.tuple #[.string (bs v), .nilIface]) ∧ Below w.heap.size w w' := by
  have hEL := encL_len v
  have hEN := escN_le v
  have hlen : (encL v).length ≤ 3000000 := by omega
  clear hEL hEN
  have H0 := Lib.hid (fun k h hb => encL_at0 v k h hb)
  have H3 := Lib.hid (fun k h hb => encL_at3 v k h hb)
  have HE := Lib.hid (fun k h => encL_snoc v k h)
  have HZ := Lib.hid (show encL (v.take v.length) = encL v by rw [List.take_of_length_le (Nat.le_refl _)])
  go_enter Tryz.func127, Tryz.ntmps127
  go_wp2
  go_loopw [4, 5] (fun sv i wr => ∃ k : Nat, k ≤ v.length ∧ i = .int .i64 ((encL (v.take k)).length : Nat) ∧ wr.ownsRow w.heap.size 5 1 sv (v.take k).length (byts (v.take k)) ∧ Below w.heap.size w wr) (fun _ i _ => (encL v).length - (intOf i).toNat)
  case atStart => exact ⟨0, Nat.zero_le _, rfl, World.ownsRow_nil _ _ _ _, Below.refl _ _⟩
  case round =>
    obtain ⟨k, hk, rfl, hown, hb⟩ := hrel
    have HB := Lib.hid hb; clear hb
    by_cases hlt : k < v.length
    · have hl4 : (v.take k).length ≤ 4294967296 := by simp; omega
      have hbase := HB.out.size
      cases hb : escB v[k]
      · obtain ⟨h1, h2⟩ := H0.out k hlt hb
        have h37 := esc_37 hb
        have HS := Lib.hid (HE.out k hlt)
        have he1 := Lib.hid (show enc1 v[k] = [v[k]] by simp [enc1, hb])
        generalize hJ : (encL (v.take k)).length = J at *
        have g0 := get_of? h1 h2
        clear h2 hb
        go_wp2_with (at_builtin; refine app1 rfl (.tmp 16) (.tmp 20) 131 rfl w.heap.size 5 5 _ 1 1 Tryz.underlying131 info5 rfl (by decide) (by decide) u4 (v.take k).length (byts (v.take k)) rfl [.int .u8 v[k].toNat] hown rfl rfl (one_int _ _) hl4 hbase ?_; intro v2 w2 hown2 hg2 _)
        have HT := Lib.hid (show v.take (k + 1) = v.take k ++ [v[k]] from List.take_succ_eq_append_getElem hlt)
        refine ⟨⟨k + 1, by omega, by rw [HS.out, List.length_append, he1.out, hJ]; go_num, own_cast hown2 (by simp; omega) (by rw [HT.out, byts_snoc]), below_app HB.out hbase hown (Nat.le_refl _) hg2⟩, by simp [intOf]; omega⟩
      · obtain ⟨h1, h2, h3, h4⟩ := H3.out k hlt hb
        have HS := Lib.hid (HE.out k hlt)
        have he1 := Lib.hid (show enc1 v[k] = [37, hexD (v[k].toNat / 16), hexD (v[k].toNat % 16)] by simp [enc1, hb])
        have hlt8 := v[k].toNat_lt
        have C1 := fun W => Lib.hid (isHex_D (v[k].toNat / 16) (by omega) W)
        have C2 := fun W => Lib.hid (isHex_D (v[k].toNat % 16) (by omega) W)
        have D1 := fun W => Lib.hid (zzHex_D (v[k].toNat / 16) (by omega) W)
        have D2 := fun W => Lib.hid (zzHex_D (v[k].toNat % 16) (by omega) W)
        generalize hJ : (encL (v.take k)).length = J at *
        have g0 := get_of? (by omega) h2
        have g1 := get_of? (by omega) h3
        have g2 := get_of? (by omega) h4
        clear hb h2 h3 h4
        go_wp2_with (first | (go_at_call 185; (with_reducible refine (C1 _).out.mono ?_); rintro e w' ⟨rfl, rfl⟩) | (go_at_call 185; (with_reducible refine (C2 _).out.mono ?_); rintro e w' ⟨rfl, rfl⟩))
        have b1 : (0 : Int) ≤ (J : Int) + 1 := by omega
        have b2 : (J : Int) + 1 < (encL v).length := by omega
        have b3 : (0 : Int) ≤ (J : Int) + 2 := by omega
        have b4 : (J : Int) + 2 < (encL v).length := by omega
        have w1 : IntKind.i64.wrap ((J : Int) + 1) = (J : Int) + 1 := IntWalk.i64_in _ (by omega)
        have w2 : IntKind.i64.wrap ((J : Int) + 2) = (J : Int) + 2 := IntWalk.i64_in _ (by omega)
        have t1 : ((J : Int) + 1).toNat = J + 1 := by omega
        have t2 : ((J : Int) + 2).toNat = J + 2 := by omega
        have hownd : wr.drew.ownsRow w.heap.size 5 1 u4 (v.take k).length (byts (v.take k)) := hown
        go_region_law (first | (refine step_app1 rfl (.tmp 44) (.tmp 57) 131 rfl w.heap.size 5 5 _ 1 1 Tryz.underlying131 info5 rfl (by decide) (by decide) u4 (v.take k).length (byts (v.take k)) rfl [_] hownd rfl rfl (one_int _ _) hl4 hbase ?_; intro v2 w2 hown2 hg2 _) | (go_simp; go_at_call 186; (with_reducible refine (D1 _).out.mono ?_); rintro e w' ⟨rfl, rfl⟩) | (go_simp; go_at_call 186; (with_reducible refine (D2 _).out.mono ?_); rintro e w' ⟨rfl, rfl⟩))
        all_goals go_wp2
        all_goals
          have HT := Lib.hid (show v.take (k + 1) = v.take k ++ [v[k]] from List.take_succ_eq_append_getElem hlt)
          rw [join_hex _ hlt8] at hown2
          refine ⟨⟨k + 1, by omega, by rw [HS.out, List.length_append, he1.out, hJ]; go_num, own_cast hown2 (by simp; omega) (by rw [HT.out, byts_snoc]), below_app HB.out.drew hbase hownd (Nat.le_refl _) hg2⟩, by simp [intOf]; omega⟩
    · have e : k = v.length := by omega
      subst e
      rw [HZ.out] at *
      rw [List.take_of_length_le (Nat.le_refl _)] at hown
      have hcv := conv_own hown
      go_wp2
      go_ret2
      exact ⟨rfl, HB.out⟩
end Go.Proofs.YtpgookhdffklkaaGreatDoor
