/-
  The small functions over bytes and texts of package baggage: their contracts.
-/
import Derived.Lib.LaidTab
import Derived.Lib.Space
import Derived.Shelf.Unicode.DecodeSlow
import Derived.Test.YtpgookhdffklkaaGreatDoorZBase
namespace Go.Proofs.YtpgookhdffklkaaGreatDoor
open Go.RowKit
/-- Which signs stand in a key, in a value. -/
def keyN (n : Nat) : Bool := (97 ≤ n && n ≤ 122) || (65 ≤ n && n ≤ 90) || (48 ≤ n && n ≤ 57) || [33, 35, 36, 37, 38, 39, 42, 43, 45, 46, 94, 95, 96, 124, 126].contains n
def valN (n : Nat) : Bool := 33 ≤ n && n ≤ 126 && !([34, 44, 59, 92].contains n)
def keyB (c : UInt8) : Bool := keyN c.toNat
def valB (c : UInt8) : Bool := valN c.toNat
theorem keyN_lt {n : Nat} (h : keyN n = true) : n < 128 := by simp [keyN] at h; omega
theorem valN_lt {n : Nat} (h : valN n = true) : n < 128 := by simp [valN] at h; omega
theorem named9 : Tryz.prog.globalNamed "strings.asciiSpace" = some 9 := by kernel_rfl
theorem tab_below {w w' : World} (h : Lib.TabIs Tryz.prog w "strings.asciiSpace" .u8 Lib.asciiSpaceTab) (hb : Below w.heap.size w w') : Lib.TabIs Tryz.prog w' "strings.asciiSpace" .u8 Lib.asciiSpaceTab := by
  unfold Lib.TabIs World.var? at h ⊢
  rw [named9] at h ⊢
  simp only [Option.bind_some] at h ⊢
  have hlt : 9 < w.heap.size := by
    rcases Nat.lt_or_ge 9 w.heap.size with h' | h'
    · exact h'
    · rw [Array.getElem?_eq_none h'] at h; cases h
  rw [hb.block 9 hlt]
  exact h
/-- What the program's variables hold. -/
structure Env (w : World) : Prop where
  key : ∀ i, i < 128 → w.cell? ⟨10, i, none⟩ = some (.bool (keyN i))
  val : ∀ i, i < 128 → w.cell? ⟨11, i, none⟩ = some (.bool (valN i))
  err : ∀ g, g = 0 ∨ g = 1 ∨ g = 2 ∨ g = 5 ∨ g = 6 ∨ g = 7 → ∃ t v, w.cell? ⟨g, 0, none⟩ = some (.iface t v)
  utf : Lib.Utf8Tabs 3 4 w
  asc : Lib.TabIs Tryz.prog w "strings.asciiSpace" .u8 Lib.asciiSpaceTab
  size : 14 ≤ w.heap.size
theorem Env.below {w w' : World} (h : Env w) (hb : Below w.heap.size w w') : Env w' :=
  ⟨fun i hi => (hb.cell (p := ⟨10, i, none⟩) (by have := h.size; simp; omega)).trans (h.key i hi), fun i hi => (hb.cell (p := ⟨11, i, none⟩) (by have := h.size; simp; omega)).trans (h.val i hi),
   fun g hg => by obtain ⟨t, v, hc⟩ := h.err g hg; exact ⟨t, v, (hb.cell (p := ⟨g, 0, none⟩) (by have := h.size; simp; omega)).trans hc⟩,
   Go.Proofs.Utf8Tabs_below h.utf hb, tab_below h.asc hb, Nat.le_trans h.size hb.size⟩
def isHexB (c : Int) : Bool := (48 ≤ c && c ≤ 57) || (97 ≤ c && c ≤ 102) || (65 ≤ c && c ≤ 70)
set_option maxHeartbeats 400000 in
theorem isHex_any (c : Int) (w : World) (h0 : 0 ≤ c) (h1 : c < 256) :
    Calls Tryz.prog 185 #[.int .u8 c] w fun e w' => e = .returned (.bool (isHexB c)) ∧ w = w' := by
  go_enter Tryz.func185, Tryz.ntmps185
  go_wp2
  all_goals go_ret
  all_goals refine ⟨ret_bool ?_, rfl⟩
  all_goals simp [isHexB]
  all_goals grind
def hexV (c : Int) : Int := if c ≤ 57 then c - 48 else if 97 ≤ c then c - 97 + 10 else c - 65 + 10
set_option maxHeartbeats 400000 in
theorem zzHex_any (c : Int) (w : World) (h : isHexB c = true) :
    Calls Tryz.prog 186 #[.int .u8 c] w fun e w' => e = .returned (.int .u8 (hexV c)) ∧ w = w' := by
  have hh : 48 ≤ c ∧ c ≤ 57 ∨ 97 ≤ c ∧ c ≤ 102 ∨ 65 ≤ c ∧ c ≤ 70 := by simp [isHexB] at h; omega
  clear h
  go_enter Tryz.func186, Tryz.ntmps186
  go_wp2
  all_goals go_ret
  all_goals refine ⟨ret_int ?_, rfl⟩
  all_goals simp only [hexV]
  all_goals grind
set_option maxHeartbeats 400000 in
theorem keyChar_any (c : Int) (w : World) (hE : Env w) :
    Calls Tryz.prog 183 #[.int .i32 c] w fun e w' => e = .returned (.bool (decide (0 ≤ c) && decide (c < 128) && keyN c.toNat)) ∧ w = w' := by
  by_cases h : 0 ≤ c ∧ c < 128
  · obtain ⟨h0, h1⟩ := h
    have hc := hE.key c.toNat (by omega)
    clear hE
    go_enter Tryz.func183, Tryz.ntmps183
    go_wp2
    go_ret
    refine ⟨ret_bool ?_, rfl⟩
    simp [h0, h1]
  · clear hE
    go_enter Tryz.func183, Tryz.ntmps183
    go_wp2
    all_goals go_ret
    all_goals refine ⟨ret_bool ?_, rfl⟩
    all_goals simp
    all_goals grind
set_option maxHeartbeats 400000 in
theorem valChar_any (c : Int) (w : World) (hE : Env w) :
    Calls Tryz.prog 184 #[.int .i32 c] w fun e w' => e = .returned (.bool (decide (0 ≤ c) && decide (c < 128) && valN c.toNat)) ∧ w = w' := by
  by_cases h : 0 ≤ c ∧ c < 128
  · obtain ⟨h0, h1⟩ := h
    have hc := hE.val c.toNat (by omega)
    clear hE
    go_enter Tryz.func184, Tryz.ntmps184
    go_wp2
    go_ret
    refine ⟨ret_bool ?_, rfl⟩
    simp [h0, h1]
  · clear hE
    go_enter Tryz.func184, Tryz.ntmps184
    go_wp2
    all_goals go_ret
    all_goals refine ⟨ret_bool ?_, rfl⟩
    all_goals simp
    all_goals grind
/-- Which bytes are escaped. -/
def escB (c : UInt8) : Bool := c == 37 || !valB c
set_option maxHeartbeats 400000 in
theorem shouldEscape_any (c : UInt8) (w : World) (hE : Env w) :
    Calls Tryz.prog 188 #[.int .u8 c.toNat] w fun e w' => e = .returned (.bool (escB c)) ∧ w = w' := by
  have hlt := c.toNat_lt
  by_cases h : c = 37
  · subst h
    go_enter Tryz.func188, Tryz.ntmps188
    go_wp2_with fail
    go_ret
    exact ⟨rfl, rfl⟩
  · have h' : ((c.toNat : Int) == 37) = false := by
      simp; intro e; exact h (UInt8.toNat_inj.1 (show c.toNat = 37 by omega))
    have hc := valChar_any c.toNat w hE
    have HC := Lib.hid hc; clear hc
    go_enter Tryz.func188, Tryz.ntmps188
    go_wp2_with (go_at_call 184; refine HC.out.mono ?_; rintro e w' ⟨rfl, rfl⟩)
    go_ret
    refine ⟨ret_bool ?_, rfl⟩
    have : (c == 37) = false := by simpa using h
    simp only [escB, valB, this, Bool.false_or]
    cases hv : valN c.toNat
    · simp
    · have := valN_lt hv; simp; omega
/-- A token: the text of a key. -/
def tok (l : List UInt8) : Bool := !l.isEmpty && l.all keyB
theorem decode_key (l : List UInt8) (k : Nat) (h : k < l.length) :
    (decide ((0 : Int) ≤ ((Utf8.decode (bs l) k).1 : Int)) && decide (((Utf8.decode (bs l) k).1 : Int) < 128) && keyN ((Utf8.decode (bs l) k).1 : Int).toNat) = keyB l[k] ∧ (keyB l[k] = true → (Utf8.decode (bs l) k).2 = 1) := by
  by_cases ha : l[k].toNat < 128
  · have := decode_ascii (bs l) k (by simpa using h) (by simpa using ha)
    rw [this]
    simp [keyB]
    intro hk
    have := keyN_lt hk; omega
  · have h1 := decode_high (bs l) k (by simpa using h) (by simp only [bs_getElem]; omega)
    have h2 : keyB l[k] = false := by
      cases hb : keyB l[k]
      · rfl
      · exact absurd (keyN_lt hb) ha
    rw [h2]
    simp
    intro h3; omega
theorem decode_val (l : List UInt8) (k : Nat) (h : k < l.length) :
    (decide ((0 : Int) ≤ ((Utf8.decode (bs l) k).1 : Int)) && decide (((Utf8.decode (bs l) k).1 : Int) < 128) && valN ((Utf8.decode (bs l) k).1 : Int).toNat) = valB l[k] ∧ (valB l[k] = true → (Utf8.decode (bs l) k).2 = 1) := by
  by_cases ha : l[k].toNat < 128
  · have := decode_ascii (bs l) k (by simpa using h) (by simpa using ha)
    rw [this]
    simp [valB]
    intro hk
    have := valN_lt hk; omega
  · have h1 := decode_high (bs l) k (by simpa using h) (by simp only [bs_getElem]; omega)
    have h2 : valB l[k] = false := by
      cases hb : valB l[k]
      · rfl
      · exact absurd (valN_lt hb) ha
    rw [h2]
    simp
    intro h3; omega
theorem all_take_succ (p : UInt8 → Bool) (l : List UInt8) (k : Nat) (h : k < l.length) (h1 : (l.take k).all p = true) (h2 : p l[k] = true) : (l.take (k + 1)).all p = true := by
  rw [List.take_succ_eq_append_getElem h, List.all_append]
  simp [h1, h2]
theorem all_false (p : UInt8 → Bool) (l : List UInt8) (k : Nat) (h : k < l.length) (h2 : p l[k] = false) : l.all p = false := by
  rw [List.all_eq_false]
  exact ⟨l[k], List.getElem_mem h, by simp [h2]⟩
theorem env_iter {w : World} (hE : Env w) (s : ByteArray) (k : Nat) : Env (w.iter s k) := hE.below ((Below.refl _ _).alloc (Nat.le_refl _) _)
theorem below_iter (w : World) (s : ByteArray) (k : Nat) : Below w.heap.size w (w.iter s k) := (Below.refl _ _).alloc (Nat.le_refl _) _
theorem keyCharD (l : List UInt8) (k : Nat) (h : k < l.length) (w : World) (hE : Env w) {b : Bool} (hb : keyB l[k] = b) :
    Calls Tryz.prog 183 #[.int .i32 ((Utf8.decode (bs l) k).1 : Int)] w fun e w' => e = .returned (.bool b) ∧ w = w' := by
  have := keyChar_any ((Utf8.decode (bs l) k).1 : Int) w hE
  rw [(decode_key l k h).1, hb] at this
  exact this
theorem valCharD (l : List UInt8) (k : Nat) (h : k < l.length) (w : World) (hE : Env w) {b : Bool} (hb : valB l[k] = b) :
    Calls Tryz.prog 184 #[.int .i32 ((Utf8.decode (bs l) k).1 : Int)] w fun e w' => e = .returned (.bool b) ∧ w = w' := by
  have := valChar_any ((Utf8.decode (bs l) k).1 : Int) w hE
  rw [(decode_val l k h).1, hb] at this
  exact this
set_option maxHeartbeats 800000 in
theorem validateKey_any (l : List UInt8) (w : World) (hE : Env w) :
    Calls Tryz.prog 124 #[.string (bs l)] w fun e w' => e = .returned (.bool (tok l)) ∧ Below w.heap.size w w' := by
  by_cases h0 : l = []
  · subst h0
    go_enter Tryz.func124, Tryz.ntmps124
    go_wp2
    go_ret
    exact ⟨rfl, Below.refl _ _⟩
  · have h1 : (l == []) = false := by simpa using h0
    have h1' : l.isEmpty = false := by simpa using h0
    go_enter Tryz.func124, Tryz.ntmps124
    go_wp2
    go_loopw [4] (fun _ wr => ∃ k : Nat, k ≤ l.length ∧ wr = w.iter (bs l) k ∧ (l.take k).all keyB = true) (fun _ wr => l.length - wr.iterPos w.heap.size)
    case atStart => exact ⟨0, Nat.zero_le _, rfl, by simp⟩
    case round =>
      obtain ⟨k, hk, rfl, hall⟩ := hrel
      have HA := Lib.hid hall; clear hall
      by_cases hlt : k < l.length
      · have hlt' : k < (bs l).size := by simpa using hlt
        have hnx := fun ty => run_next_any (P := Tryz.prog) w (bs l) k ty hlt'
        cases hb : keyB l[k]
        · have HC := Lib.hid (keyCharD l k hlt (w.iter (bs l) (k + (Utf8.decode (bs l) k).2)) (env_iter hE _ _) hb)
          have HF := Lib.hid (all_false keyB l k hlt hb)
          clear hb hE
          go_wp2_with (go_at_call 183; refine HC.out.mono ?_; rintro e w' ⟨rfl, rfl⟩)
          go_ret
          exact ⟨ret_bool (by rw [tok, HF.out]; simp), below_iter _ _ _⟩
        · have HC := Lib.hid (keyCharD l k hlt (w.iter (bs l) (k + (Utf8.decode (bs l) k).2)) (env_iter hE _ _) hb)
          have HF := Lib.hid (all_take_succ keyB l k hlt HA.out hb)
          have d2 := (decode_key l k hlt).2 hb
          rw [d2] at hnx HC
          clear hb hE d2
          go_wp2_with (go_at_call 183; refine HC.out.mono ?_; rintro e w' ⟨rfl, rfl⟩)
          go_roundw
          case rel => exact ⟨k + 1, by omega, rfl, HF.out⟩
          case measure => simp; omega
      · have hne := fun ty => run_next_end (P := Tryz.prog) w (bs l) k ty (by simpa using hlt)
        have HF := Lib.hid (show l.all keyB = true by have := HA.out; rwa [List.take_of_length_le (by omega)] at this)
        go_wp2
        go_ret
        exact ⟨ret_bool (by rw [tok, HF.out, h1']; rfl), below_iter _ _ _⟩
set_option maxHeartbeats 800000 in
theorem validateValue_any (l : List UInt8) (w : World) (hE : Env w) :
    Calls Tryz.prog 126 #[.string (bs l)] w fun e w' => e = .returned (.bool (l.all valB)) ∧ Below w.heap.size w w' := by
  go_enter Tryz.func126, Tryz.ntmps126
  go_wp2
  go_loopw [4] (fun _ wr => ∃ k : Nat, k ≤ l.length ∧ wr = w.iter (bs l) k ∧ (l.take k).all valB = true) (fun _ wr => l.length - wr.iterPos w.heap.size)
  case atStart => exact ⟨0, Nat.zero_le _, rfl, by simp⟩
  case round =>
    obtain ⟨k, hk, rfl, hall⟩ := hrel
    have HA := Lib.hid hall; clear hall
    by_cases hlt : k < l.length
    · have hlt' : k < (bs l).size := by simpa using hlt
      have hnx := fun ty => run_next_any (P := Tryz.prog) w (bs l) k ty hlt'
      cases hb : valB l[k]
      · have HC := Lib.hid (valCharD l k hlt (w.iter (bs l) (k + (Utf8.decode (bs l) k).2)) (env_iter hE _ _) hb)
        have HF := Lib.hid (all_false valB l k hlt hb)
        clear hb hE
        go_wp2_with (go_at_call 184; refine HC.out.mono ?_; rintro e w' ⟨rfl, rfl⟩)
        go_ret
        exact ⟨ret_bool (by rw [HF.out]), below_iter _ _ _⟩
      · have HC := Lib.hid (valCharD l k hlt (w.iter (bs l) (k + (Utf8.decode (bs l) k).2)) (env_iter hE _ _) hb)
        have HF := Lib.hid (all_take_succ valB l k hlt HA.out hb)
        have d2 := (decode_val l k hlt).2 hb
        rw [d2] at hnx HC
        clear hb hE d2
        go_wp2_with (go_at_call 184; refine HC.out.mono ?_; rintro e w' ⟨rfl, rfl⟩)
        go_roundw
        case rel => exact ⟨k + 1, by omega, rfl, HF.out⟩
        case measure => simp; omega
    · have hne := fun ty => run_next_end (P := Tryz.prog) w (bs l) k ty (by simpa using hlt)
      have HF := Lib.hid (show l.all valB = true by have := HA.out; rwa [List.take_of_length_le (by omega)] at this)
      go_wp2
      go_ret
      exact ⟨ret_bool (by rw [HF.out]), below_iter _ _ _⟩
end Go.Proofs.YtpgookhdffklkaaGreatDoor
