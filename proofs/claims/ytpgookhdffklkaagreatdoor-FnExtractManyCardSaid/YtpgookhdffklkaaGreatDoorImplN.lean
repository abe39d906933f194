/-
  impl: membersOf of no members; the maps of carriers.
-/
import Derived.Test.YtpgookhdffklkaaGreatDoorImplM
namespace Go.Proofs.YtpgookhdffklkaaGreatDoor
open Go.RowKit

theorem swap193 : Tryz.prog.funcs.findIdx? (·.name == "internal/reflectlite" ++ ".Swapper$" ++ toString 1) = some 193 := by kernel_rfl
theorem sort_zero (p : Option Addr) (c : Nat) (lb : Array Value) (w : World) :
    Calls Tryz.prog 92 #[.iface 37 (.slice p 0 c), .func (.func 93) #[] lb] w fun e w' => e = .returned (.tuple #[]) ∧ Below w.heap.size w w' := by
  obtain ⟨i37, hi37, hd37⟩ := Option.map_eq_some_iff.1 desc37
  obtain ⟨i82, hi82, hd82⟩ := Option.map_eq_some_iff.1 facts82
  have hk : Lib.swapperK 0 i82 25 = 1 := rfl
  have hS := Any.sort_Slice_tiny (P := Tryz.prog) Tryz.laysGg6 37 82 i37 i82 hi37 hd37 pack37 hi82 25 kind82 p 0 c (by omega) 193 (by rw [hk]; exact swap193) (.func 93) #[] lb w
  change Calls Tryz.prog 92 _ _ _ at hS
  refine hS.mono ?_
  rintro e w' ⟨rfl, os, rfl⟩
  exact ⟨rfl, below_grow w os⟩
set_option maxRecDepth 100000 in
set_option maxHeartbeats 1000000 in
theorem members_nil (w : World) :
    Calls Tryz.prog 90 #[.agg #[.map none]] w fun e w' => e = .returned (.slice none 0 0) ∧ Below w.heap.size w w' := by
  go_enter Tryz.func90, Tryz.ntmps90
  go_wp2
  go_ret
  exact ⟨rfl, (Below.refl _ _).alloc (Nat.le_refl _) _⟩
set_option maxRecDepth 100000 in
set_option maxHeartbeats 1000000 in
theorem membersOf_nil (w : World) :
    Calls Tryz.prog 45 #[.agg #[.map none]] w fun e w' => e = .returned (.slice none 0 0) ∧ Below w.heap.size w w' := by
  have C1 := fun W => Lib.hid (members_nil W)
  have C2 := fun lb W => Lib.hid (sort_zero none 0 lb W)
  have HB0 := Lib.hid (((Below.refl w.heap.size w).alloc (Nat.le_refl _) (.cells #[.map none] 94)).alloc (by simp) (.cells #[.slice none 0 0] 37))
  have HJ0 := Lib.hid (Blk.new1 w (.cells #[.map none] 94) 37 #[.slice none 0 0])
  go_enter Tryz.func45, Tryz.ntmps45
  go_wp2_with (go_at_call 90; (with_reducible refine (C1 _).out.mono ?_); rintro e w1 ⟨rfl, hb1⟩; have HB1 := Lib.hid (HB0.out.trans (hb1.mono (by simp <;> omega))); have HJ1 := Lib.hid (HJ0.out.belowS hb1); clear hb1; obtain ⟨c1, c2, c3, c4⟩ := HJ1.out.use)
  refine wp_loop_rounds 1 ?_; rw [rounds_succ]
  go_wp2_with (go_at_call 92; (with_reducible refine (C2 _ _).out.mono ?_); rintro e w2 ⟨rfl, hb2⟩; have HB2 := Lib.hid (HB1.out.trans (hb2.mono HB1.out.size)); have HJ2 := Lib.hid (HJ1.out.belowS hb2); clear hb2; obtain ⟨d1, d2, d3, d4⟩ := HJ2.out.use)
  go_ret
  exact ⟨rfl, HB2.out⟩
end Go.Proofs.YtpgookhdffklkaaGreatDoor
