/-
  A property's text is read: parsePropertyFields at the texts that a property is written as.
-/
import Derived.Test.YtpgookhdffklkaaGreatDoorLeafD
namespace Go.Proofs.YtpgookhdffklkaaGreatDoor
open Go.RowKit

theorem skip0 (l : List UInt8) (w : World) (hs : l.length ≤ 4294967296) (hn : ∀ h : 0 < l.length, l[0] ≠ 32 ∧ l[0] ≠ 9) :
    Calls Tryz.prog 237 #[.string (bs l), .int .i64 0] w fun e w' => e = .returned (.int .i64 0) ∧ w = w' := by
  simpa using skipSpace_none l 0 w (Nat.zero_le _) hs hn
theorem key_not_space {c : UInt8} (h : keyB c = true) : c ≠ 32 ∧ c ≠ 9 := by
  constructor <;> (rintro rfl; revert h; decide)
theorem val_not_space {c : UInt8} (h : valB c = true) : c ≠ 32 ∧ c ≠ 9 := by
  constructor <;> (rintro rfl; revert h; decide)
theorem key61 : keyB 61 = false := by decide
theorem val_of_enc (v : List UInt8) : (encL v).all valB = true := by
  have hh : ∀ n : Fin 16, valB (hexD n.val) = true := by decide
  rw [List.all_eq_true]
  intro c hc
  unfold encL at hc
  rw [List.mem_flatMap] at hc
  obtain ⟨x, _, hx⟩ := hc
  unfold enc1 at hx
  cases he : escB x
  · simp [he] at hx
    subst hx
    simp [escB] at he
    exact he.2
  · have := x.toNat_lt
    simp [he] at hx
    rcases hx with rfl | rfl | rfl
    · decide
    · exact hh ⟨x.toNat / 16, by omega⟩
    · exact hh ⟨x.toNat % 16, by omega⟩
theorem tok_ne {k : List UInt8} (h : tok k = true) : 0 < k.length := by
  simp [tok] at h
  exact List.length_pos_iff.2 h.1
theorem tok_all {k : List UInt8} (h : tok k = true) : k.all keyB = true := by
  simp only [tok, Bool.and_eq_true] at h
  exact h.2
theorem all_get {p : UInt8 → Bool} {l : List UInt8} (h : l.all p = true) (i : Nat) (hi : i < l.length) : p l[i] = true := List.all_eq_true.1 h _ (List.getElem_mem hi)

/-- One step of a range over a text whose iterator is the last block. -/
theorem next1 (W : World) (g : Nat) (hg : W.heap.size = g) (l : List UInt8) (k : Nat) (h : k < l.length) (ty : TypeId) :
    (Instr.next (.pointer (some ⟨g, 0, none⟩)) true ty).run Tryz.prog (W.iter (bs l) k) =
      .ok (.tuple #[.bool true, .int .i64 k, .int .i32 (Utf8.decode (bs l) k).1]) (W.iter (bs l) (k + (Utf8.decode (bs l) k).2)) := by
  subst hg; exact run_next_any W (bs l) k ty (by simpa using h)
theorem nextE (W : World) (g : Nat) (hg : W.heap.size = g) (l : List UInt8) (k : Nat) (h : ¬ k < l.length) (ty : TypeId) :
    (Instr.next (.pointer (some ⟨g, 0, none⟩)) true ty).run Tryz.prog (W.iter (bs l) k) = .ok (.tuple #[.bool false]) (W.iter (bs l) k) := by
  subst hg; exact run_next_end W (bs l) k ty (by simpa using h)
theorem size1 (w : World) (o : Obj) : (w.alloc o).heap.size = w.heap.size + 1 := by simp
theorem iterPos1 (W : World) (g : Nat) (hg : W.heap.size = g) (s : ByteArray) (p : Nat) : (W.iter s p).iterPos g = p := by subst hg; exact World.iterPos_iter W s p

set_option maxRecDepth 100000 in
set_option maxHeartbeats 2000000 in
theorem fields_key (k : List UInt8) (w : World) (hE : Env w) (hk : tok k = true) (hs : k.length ≤ 1000000) :
    Calls Tryz.prog 211 #[.string (bs k)] w fun e w' => e = .returned (.tuple #[.agg #[.string (bs k), .string (bs []), .bool false], .bool true]) ∧ Below w.heap.size w w' := by
  have hpos := tok_ne hk
  have hall := Lib.hid (tok_all hk)
  have C0 := fun W => Lib.hid (skip0 k W (by omega) (fun h => key_not_space (all_get hall.out 0 h)))
  have C1 := fun W => Lib.hid (skipSpace_none k k.length W (Nat.le_refl _) (by omega) (fun h => absurd h (by omega)))
  have HE := Lib.hid hE
  clear hk hE
  go_enter Tryz.func211, Tryz.ntmps211
  go_wp2_with (go_at_call 237; (with_reducible refine (C0 _).out.mono ?_); rintro e w' ⟨rfl, rfl⟩)
  go_loopw [6, 8] (fun n _ wr => ∃ j : Nat, j ≤ k.length ∧ n = .int .i64 j ∧ wr = (w.alloc (Obj.cells #[.string ⟨#[]⟩, .string ⟨#[]⟩, .bool false] 270)).iter (bs k) j) (fun _ _ wr => k.length - wr.iterPos (w.heap.size + 1))
  case atStart => exact ⟨0, Nat.zero_le _, rfl, rfl⟩
  case round =>
    obtain ⟨j, hj, rfl, rfl⟩ := hrel
    by_cases hlt : j < k.length
    · have hkb := all_get hall.out j hlt
      have hnx := fun ty => next1 (w.alloc (Obj.cells #[.string ⟨#[]⟩, .string ⟨#[]⟩, .bool false] 270)) (w.heap.size + 1) (size1 _ _) k j hlt ty
      have HC := Lib.hid (keyCharD k j hlt ((w.alloc (Obj.cells #[.string ⟨#[]⟩, .string ⟨#[]⟩, .bool false] 270)).iter (bs k) (j + (Utf8.decode (bs k) j).2)) (env_iter (HE.out.below ((Below.refl _ _).alloc (Nat.le_refl _) _)) _ _) hkb)
      have d2 := (decode_key k j hlt).2 hkb
      rw [d2] at hnx HC
      have HP := Lib.hid (fun p => iterPos1 (w.alloc (Obj.cells #[.string ⟨#[]⟩, .string ⟨#[]⟩, .bool false] 270)) (w.heap.size + 1) (size1 _ _) (bs k) p)
      clear hkb d2
      go_wp2_with (go_at_call 183; refine HC.out.mono ?_; rintro e w' ⟨rfl, rfl⟩)
      go_roundw
      case rel => exact ⟨j + 1, by omega, by go_num, rfl⟩
      case measure => rw [HP.out, HP.out]; omega
    · have e : j = k.length := by omega
      subst e
      have hnx := fun ty => nextE (w.alloc (Obj.cells #[.string ⟨#[]⟩, .string ⟨#[]⟩, .bool false] 270)) (w.heap.size + 1) (size1 _ _) k k.length hlt ty
      have hB := Lib.hid (((Below.refl w.heap.size w).alloc (Nat.le_refl _) (Obj.cells #[.string ⟨#[]⟩, .string ⟨#[]⟩, .bool false] 270)).alloc (by simp) (.stringIter (bs k) k.length))
      have hc0 : ((w.alloc (Obj.cells #[.string ⟨#[]⟩, .string ⟨#[]⟩, .bool false] 270)).iter (bs k) k.length).cell? ⟨w.heap.size, 0, none⟩ = some (.string ⟨#[]⟩) := ((Blk.new w 270 #[.string ⟨#[]⟩, .string ⟨#[]⟩, .bool false]).alloc _).cell 0
      have hc1 : ((w.alloc (Obj.cells #[.string ⟨#[]⟩, .string ⟨#[]⟩, .bool false] 270)).iter (bs k) k.length).cell? ⟨w.heap.size, 1, none⟩ = some (.string ⟨#[]⟩) := ((Blk.new w 270 #[.string ⟨#[]⟩, .string ⟨#[]⟩, .bool false]).alloc _).cell 1
      have hc2 : ((w.alloc (Obj.cells #[.string ⟨#[]⟩, .string ⟨#[]⟩, .bool false] 270)).iter (bs k) k.length).cell? ⟨w.heap.size, 2, none⟩ = some (.bool false) := ((Blk.new w 270 #[.string ⟨#[]⟩, .string ⟨#[]⟩, .bool false]).alloc _).cell 2
      have hf : ∀ i, ((w.alloc (Obj.cells #[.string ⟨#[]⟩, .string ⟨#[]⟩, .bool false] 270)).iter (bs k) k.length).frozen? ⟨w.heap.size, i, none⟩ = false := fun i => ((Blk.new w 270 #[.string ⟨#[]⟩, .string ⟨#[]⟩, .bool false]).alloc _).frozen i
      have hK := (Blk.new w 270 #[.string ⟨#[]⟩, .string ⟨#[]⟩, .bool false]).alloc (.stringIter (bs k) k.length)
      change Below w.heap.size w ((w.alloc (Obj.cells #[.string ⟨#[]⟩, .string ⟨#[]⟩, .bool false] 270)).iter (bs k) k.length) at hB
      change Blk ((w.alloc (Obj.cells #[.string ⟨#[]⟩, .string ⟨#[]⟩, .bool false] 270)).iter (bs k) k.length) _ _ _ at hK
      generalize (w.alloc (Obj.cells #[.string ⟨#[]⟩, .string ⟨#[]⟩, .bool false] 270)).iter (bs k) k.length = W at *
      go_wp2_with (go_at_call 237; (with_reducible refine (C1 _).out.mono ?_); rintro e w' ⟨rfl, rfl⟩)
      have hF := (((hK.set_ 0 (.string (bs k))).set_ 0 (.string (bs k))).set_ 1 (.string ⟨#[]⟩)).set_ 2 (.bool false)
      have c0 := hF.cell 0
      have c1 := hF.cell 1
      have c2 := hF.cell 2
      simp at c0 c1 c2
      refine bodyPost_ret (v := .tuple #[.agg #[.string (bs k), .string (bs []), .bool false], .bool true]) (by simp [results, Tryz.results211, go_sem, c0, c1, c2]; rfl) rfl ⟨rfl, ?_⟩
      exact ((((hB.setCell (Nat.le_refl _) _).setCell (Nat.le_refl _) _).setCell (Nat.le_refl _) _).setCell (Nat.le_refl _) _)

set_option maxRecDepth 100000 in
set_option maxHeartbeats 4000000 in
theorem fields_val (k v : List UInt8) (w : World) (hE : Env w) (hk : tok k = true) (hs : k.length ≤ 100000) (hv : v.length ≤ 100000) :
    Calls Tryz.prog 211 #[.string (bs (k ++ 61 :: encL v))] w fun e w' => e = .returned (.tuple #[.agg #[.string (bs k), .string (bs (encL v)), .bool true], .bool true]) ∧ Below w.heap.size w w' := by
  have hpos := tok_ne hk
  have hall := Lib.hid (tok_all hk)
  have hval := Lib.hid (val_of_enc v)
  have hEL := encL_len v
  have hEN := escN_le v
  have hm : (encL v).length ≤ 300000 := by omega
  clear hEL hEN
  have CP := fun W => Lib.hid (validPct_enc v W (by omega))
  have HE := Lib.hid hE
  obtain ⟨S, hS⟩ : ∃ S, S = k ++ 61 :: encL v := ⟨_, rfl⟩
  rw [← hS]
  have hl1 : S.length ≤ k.length + 1 + (encL v).length := by rw [hS]; simp; omega
  have hl2 : k.length + 1 + (encL v).length ≤ S.length := by rw [hS]; simp; omega
  have hk1 := Lib.hid (show ∀ j (h : j < k.length), S[j]'(by omega) = k[j] by intro j h; subst hS; rw [List.getElem_append_left h])
  have hn := Lib.hid (show S[k.length]'(by omega) = 61 by subst hS; rw [List.getElem_append_right (Nat.le_refl _)]; simp)
  have hdrop := Lib.hid (show S.drop (k.length + 1) = encL v by subst hS; rw [List.drop_append]; simp)
  have htake := Lib.hid (show S.take k.length = k by subst hS; simp)
  have hv1 := Lib.hid (show ∀ (h : k.length + 1 < S.length), valB S[k.length + 1] = true by
    intro h
    have h0 : 0 < (encL v).length := by omega
    have e1 : S[k.length + 1] = (encL v)[0] := by
      have := List.getElem_drop (xs := S) (i := k.length + 1) (j := 0) (h := by simp; omega)
      simp only [Nat.add_zero] at this
      rw [← this]
      simp only [hdrop.out]
    rw [e1]; exact all_get hval.out 0 h0)
  have hk0 := Lib.hid (show keyB (S[0]'(by omega)) = true by rw [hk1.out 0 hpos]; exact all_get hall.out 0 hpos)
  clear hS hk hE
  have C0 := fun W => Lib.hid (skip0 S W (by omega) (fun h => key_not_space hk0.out))
  have C1 := fun W => Lib.hid (skipSpace_none S k.length W (by omega) (by omega) (fun h => by rw [hn.out]; decide))
  have C2 := fun W => Lib.hid (show Calls Tryz.prog 237 #[.string (bs S), .int .i64 ((k.length : Int) + 1)] W fun e w' => e = .returned (.int .i64 ((k.length : Int) + 1)) ∧ W = w' from by
    have := skipSpace_none S (k.length + 1) W (by omega) (by omega) (fun h => val_not_space (hv1.out h))
    simpa using this)
  have C3 := fun W => Lib.hid (show Calls Tryz.prog 237 #[.string (bs S), .int .i64 ((k.length : Int) + 1 + ((encL v).length : Int))] W fun e w' => e = .returned (.int .i64 ((k.length : Int) + 1 + ((encL v).length : Int))) ∧ W = w' from by
    have := skipSpace_none S (k.length + 1 + (encL v).length) W (by omega) (by omega) (fun h => absurd h (by omega))
    simpa using this)
  go_enter Tryz.func211, Tryz.ntmps211
  go_wp2_with (go_at_call 237; (with_reducible refine (C0 _).out.mono ?_); rintro e w' ⟨rfl, rfl⟩)
  go_loopw [6, 8] (fun n _ wr => ∃ j : Nat, j ≤ k.length ∧ n = .int .i64 j ∧ wr = (w.alloc (Obj.cells #[.string ⟨#[]⟩, .string ⟨#[]⟩, .bool false] 270)).iter (bs S) j) (fun _ _ wr => S.length - wr.iterPos (w.heap.size + 1))
  case atStart => exact ⟨0, Nat.zero_le _, rfl, rfl⟩
  case round =>
    obtain ⟨j, hj, rfl, rfl⟩ := hrel
    have hltS : j < S.length := by omega
    by_cases hlt : j < k.length
    · have hkb : keyB S[j] = true := by rw [hk1.out j hlt]; exact all_get hall.out j hlt
      have hnx := fun ty => next1 (w.alloc (Obj.cells #[.string ⟨#[]⟩, .string ⟨#[]⟩, .bool false] 270)) (w.heap.size + 1) (size1 _ _) S j hltS ty
      have HC := Lib.hid (keyCharD S j hltS ((w.alloc (Obj.cells #[.string ⟨#[]⟩, .string ⟨#[]⟩, .bool false] 270)).iter (bs S) (j + (Utf8.decode (bs S) j).2)) (env_iter (HE.out.below ((Below.refl _ _).alloc (Nat.le_refl _) _)) _ _) hkb)
      have d2 := (decode_key S j hltS).2 hkb
      rw [d2] at hnx HC
      have HP := Lib.hid (fun p => iterPos1 (w.alloc (Obj.cells #[.string ⟨#[]⟩, .string ⟨#[]⟩, .bool false] 270)) (w.heap.size + 1) (size1 _ _) (bs S) p)
      clear hkb d2
      go_wp2_with (go_at_call 183; refine HC.out.mono ?_; rintro e w' ⟨rfl, rfl⟩)
      go_roundw
      case rel => exact ⟨j + 1, by omega, by go_num, rfl⟩
      case measure => rw [HP.out, HP.out]; omega
    · have e : j = k.length := by omega
      subst e
      have hkb : keyB S[k.length] = false := by rw [hn.out]; exact key61
      have hnx := fun ty => next1 (w.alloc (Obj.cells #[.string ⟨#[]⟩, .string ⟨#[]⟩, .bool false] 270)) (w.heap.size + 1) (size1 _ _) S k.length hltS ty
      have HC := Lib.hid (keyCharD S k.length hltS ((w.alloc (Obj.cells #[.string ⟨#[]⟩, .string ⟨#[]⟩, .bool false] 270)).iter (bs S) (k.length + (Utf8.decode (bs S) k.length).2)) (env_iter (HE.out.below ((Below.refl _ _).alloc (Nat.le_refl _) _)) _ _) hkb)
      have hB := Lib.hid (((Below.refl w.heap.size w).alloc (Nat.le_refl _) (Obj.cells #[.string ⟨#[]⟩, .string ⟨#[]⟩, .bool false] 270)).alloc (by simp) (.stringIter (bs S) (k.length + (Utf8.decode (bs S) k.length).2)))
      have hK := Lib.hid ((Blk.new w 270 #[.string ⟨#[]⟩, .string ⟨#[]⟩, .bool false]).alloc (.stringIter (bs S) (k.length + (Utf8.decode (bs S) k.length).2)))
      clear hkb
      go_wp2_with (first | (go_at_call 183; refine HC.out.mono ?_; rintro e w' ⟨rfl, rfl⟩; change Hid (Below w.heap.size w ((w.alloc (Obj.cells #[.string ⟨#[]⟩, .string ⟨#[]⟩, .bool false] 270)).iter (bs S) (k.length + (Utf8.decode (bs S) k.length).2))) at hB; change Hid (Blk ((w.alloc (Obj.cells #[.string ⟨#[]⟩, .string ⟨#[]⟩, .bool false] 270)).iter (bs S) (k.length + (Utf8.decode (bs S) k.length).2)) _ _ _) at hK; clear hnx HC; generalize (w.alloc (Obj.cells #[.string ⟨#[]⟩, .string ⟨#[]⟩, .bool false] 270)).iter (bs S) (k.length + (Utf8.decode (bs S) k.length).2) = W at *) | (go_at_call 237; (with_reducible refine (C1 _).out.mono ?_); rintro e w' ⟨rfl, rfl⟩))
      have hn' := hn.out
      go_quiet (fail)
      clear hn'
      have hd' := hdrop.out
      have hd2 : List.take (S.length - (k.length + 1)) (encL v) = encL v := by rw [← hd']; exact take_drop_all _ _
      go_wp2_with (go_at_call 237; (with_reducible refine (C2 _).out.mono ?_); rintro e w' ⟨rfl, rfl⟩)
      have hBd := Lib.hid (below_drewN hB.out nq)
      have hKd := Lib.hid (hK.out.drewN nq)
      clear hd' hd2 hB hK
      generalize hWW : W.drewN nq = W2 at *
      have hg2 := Lib.hid (show W2.heap.size = W.heap.size by rw [← hWW]; rfl)
      clear hWW
      go_loopw [10, 12] (fun n _ wr => ∃ j : Nat, j ≤ (encL v).length ∧ n = .int .i64 ((k.length : Int) + 1 + j) ∧ wr = W2.iter (bs (encL v)) j) (fun _ _ wr => (encL v).length - wr.iterPos W.heap.size)
      case atStart => exact ⟨0, Nat.zero_le _, by simp, rfl⟩
      case round =>
        obtain ⟨j, hj, rfl, rfl⟩ := hrel
        by_cases hlt : j < (encL v).length
        · have hkb := all_get hval.out j hlt
          have hnx := fun ty => next1 W2 W.heap.size hg2.out (encL v) j hlt ty
          have HC := Lib.hid (valCharD (encL v) j hlt (W2.iter (bs (encL v)) (j + (Utf8.decode (bs (encL v)) j).2)) (env_iter (HE.out.below hBd.out) _ _) hkb)
          have d2 := (decode_val (encL v) j hlt).2 hkb
          rw [d2] at hnx HC
          have HP := Lib.hid (fun p => iterPos1 W2 W.heap.size hg2.out (bs (encL v)) p)
          clear hkb d2
          go_wp2_with (go_at_call 184; refine HC.out.mono ?_; rintro e w' ⟨rfl, rfl⟩)
          go_roundw
          case rel => exact ⟨j + 1, by omega, by go_num, rfl⟩
          case measure => rw [HP.out, HP.out]; omega
        · have e : j = (encL v).length := by omega
          subst e
          have hnx := fun ty => nextE W2 W.heap.size hg2.out (encL v) (encL v).length hlt ty
          have hB3 := Lib.hid (hBd.out.trans ((below_iter W2 (bs (encL v)) (encL v).length).mono hBd.out.size))
          have hK3 := Lib.hid (hKd.out.alloc (.stringIter (bs (encL v)) (encL v).length))
          change Hid (Blk (W2.iter (bs (encL v)) (encL v).length) _ _ _) at hK3
          have ht' := htake.out
          have hd' := hdrop.out
          generalize W2.iter (bs (encL v)) (encL v).length = W3 at *
          go_wp2_with (first | (go_at_call 237; (with_reducible refine (C3 _).out.mono ?_); rintro e w' ⟨rfl, rfl⟩) | (go_at_call 238; (with_reducible refine (CP _).out.mono ?_); rintro e w4 ⟨rfl, hB4⟩; have hK4 := Lib.hid (hK3.out.belowS hB4); have hB5 := Lib.hid (hB3.out.trans (hB4.mono hB3.out.size)); clear hB4; have c0 := hK4.out.cell 0; have c1 := hK4.out.cell 1; have c2 := hK4.out.cell 2; have cf := hK4.out.frozen; simp at c0 c1 c2))
          clear c0 c1 c2 cf
          have hF := ((((((hK4.out.set_ 0 (.string (bs k))).set_ 1 (.string (bs (encL v)))).set_ 2 (.bool true)).set_ 0 (.string (bs k))).set_ 1 (.string (bs (encL v)))).set_ 2 (.bool true))
          have c0 := hF.cell 0
          have c1 := hF.cell 1
          have c2 := hF.cell 2
          simp at c0 c1 c2
          refine bodyPost_ret (v := .tuple #[.agg #[.string (bs k), .string (bs (encL v)), .bool true], .bool true]) (by simp [results, Tryz.results211, go_sem, c0, c1, c2]) rfl ⟨rfl, ?_⟩
          exact ((((((hB5.out.setCell (Nat.le_refl _) _).setCell (Nat.le_refl _) _).setCell (Nat.le_refl _) _).setCell (Nat.le_refl _) _).setCell (Nat.le_refl _) _).setCell (Nat.le_refl _) _)
end Go.Proofs.YtpgookhdffklkaaGreatDoor
