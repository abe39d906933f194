/-
  Contexts with a list of members.
-/
import Derived.Test.YtpgookhdffklkaaGreatDoorImplJ
namespace Go.Proofs.YtpgookhdffklkaaGreatDoor
open Go.RowKit

/-- The context without anything. -/
def ctx0 : Value := .iface 234 (.agg #[])

set_option maxRecDepth 100000 in
set_option maxHeartbeats 1000000 in
theorem background_any (w : World) : Calls Tryz.prog 105 #[] w fun e w' => e = .returned ctx0 ∧ w = w' := by
  go_enter Tryz.func105, Tryz.ntmps105
  go_wp2
  go_ret
  exact ⟨rfl, rfl⟩
theorem meth234 (h : Value) (w : World) : (Go.method 435 234 h "Value").run Tryz.prog w = .ok (283, h) w := by kernel_rfl
theorem meth299 (h : Value) (w : World) : (Go.method 435 299 h "Value").run Tryz.prog w = .ok (286, h) w := by kernel_rfl
theorem ta_nil (w : World) : (Instr.typeAssert .nilIface 20 242 true).run Tryz.prog w = .ok (.tuple #[.agg #[.map none, .nilFunc, .nilFunc], .bool false]) w := by kernel_rfl
theorem ta_242 (v : Value) (w : World) : (Instr.typeAssert (.iface 242 v) 20 242 true).run Tryz.prog w = .ok (.tuple #[v, .bool true]) w := by kernel_rfl
theorem fn_neq1 (w : World) : (binOp BinOp.neq 240 .nilFunc .nilFunc).run Tryz.prog w = .ok (.bool false) w := by kernel_rfl
theorem fn_neq2 (w : World) : (binOp BinOp.neq 238 .nilFunc .nilFunc).run Tryz.prog w = .ok (.bool false) w := by kernel_rfl
theorem key_eq (w : World) : (binOp BinOp.eql 20 (.iface 237 (.int .i64 0)) (.iface 237 (.int .i64 0))).run Tryz.prog w = .ok (.bool true) w := by kernel_rfl
set_option maxRecDepth 100000 in
set_option maxHeartbeats 1000000 in
theorem list_ctx0 (w : World) : Calls Tryz.prog 109 #[.iface 234 (.agg #[])] w fun e w' => e = .returned (.map none) ∧ Below w.heap.size w w' := by
  have m1 := meth234
  have m2 := meth299
  have m3 := ta_nil
  have m4 := ta_242
  have m5 := key_eq
  have m6 := fun (W : World) (a : Addr) => run_store Tryz.prog W a Value.nilFunc Mode.plain rfl
  go_enter Tryz.func109, Tryz.ntmps109
  go_wp2
  go_ret
  exact ⟨rfl, (Below.refl _ _).alloc (Nat.le_refl _) _⟩
set_option maxRecDepth 100000 in
set_option maxHeartbeats 1000000 in
theorem list_ctx1 (t : TypeId) (p : Value) (m : Option Nat) (w : World) : Calls Tryz.prog 109 #[.iface 299 (.agg #[.iface t p, .iface 237 (.int .i64 0), .iface 242 (.agg #[.map m, .nilFunc, .nilFunc])])] w fun e w' => e = .returned (.map m) ∧ Below w.heap.size w w' := by
  have m1 := meth234
  have m2 := meth299
  have m3 := ta_nil
  have m4 := ta_242
  have m5 := key_eq
  have m6 := fun (W : World) (a : Addr) => run_store Tryz.prog W a Value.nilFunc Mode.plain rfl
  have m7 := fn_neq1
  have m8 := fn_neq2
  go_enter Tryz.func109, Tryz.ntmps109
  go_wp2
  go_ret
  exact ⟨rfl, ((Below.refl _ _).alloc (Nat.le_refl _) _).alloc (by simp) _⟩
set_option maxRecDepth 100000 in
set_option maxHeartbeats 1000000 in
theorem with_ctx0 (m : Option Nat) (w : World) : Calls Tryz.prog 165 #[.iface 234 (.agg #[]), .map m] w fun e w' => e = .returned (.iface 299 (.agg #[.iface 234 (.agg #[]), .iface 237 (.int .i64 0), .iface 242 (.agg #[.map m, .nilFunc, .nilFunc])])) ∧ Below w.heap.size w w' := by
  have m1 := meth234
  have m2 := meth299
  have m3 := ta_nil
  have m4 := ta_242
  have m5 := key_eq
  have m6 := fun (W : World) (a : Addr) => run_store Tryz.prog W a Value.nilFunc Mode.plain rfl
  have m7 := fn_neq1
  have m8 := fn_neq2
  go_enter Tryz.func165, Tryz.ntmps165
  go_wp2
  go_ret
  refine ⟨rfl, ?_⟩
  repeat (first | exact Below.refl _ _ | refine Below.alloc ?_ (by simp <;> omega) _ | refine Below.setCell ?_ (by simp) _)
set_option maxRecDepth 100000 in
set_option maxHeartbeats 1000000 in
theorem with_ctx1 (t : TypeId) (p : Value) (m' m : Option Nat) (w : World) : Calls Tryz.prog 165 #[.iface 299 (.agg #[.iface t p, .iface 237 (.int .i64 0), .iface 242 (.agg #[.map m', .nilFunc, .nilFunc])]), .map m] w fun e w' => e = .returned (.iface 299 (.agg #[.iface 299 (.agg #[.iface t p, .iface 237 (.int .i64 0), .iface 242 (.agg #[.map m', .nilFunc, .nilFunc])]), .iface 237 (.int .i64 0), .iface 242 (.agg #[.map m, .nilFunc, .nilFunc])])) ∧ Below w.heap.size w w' := by
  have m1 := meth234
  have m2 := meth299
  have m3 := ta_nil
  have m4 := ta_242
  have m5 := key_eq
  have m6 := fun (W : World) (a : Addr) => run_store Tryz.prog W a Value.nilFunc Mode.plain rfl
  have m7 := fn_neq1
  have m8 := fn_neq2
  go_enter Tryz.func165, Tryz.ntmps165
  go_wp2
  go_ret
  refine ⟨rfl, ?_⟩
  repeat (first | exact Below.refl _ _ | refine Below.alloc ?_ (by simp <;> omega) _ | refine Below.setCell ?_ (by simp) _)

set_option maxRecDepth 100000 in
set_option maxHeartbeats 1000000 in
theorem withBag_ctx0 (m : Option Nat) (w : World) : Calls Tryz.prog 106 #[.iface 234 (.agg #[]), .agg #[.map m]] w fun e w' => e = .returned (.iface 299 (.agg #[.iface 234 (.agg #[]), .iface 237 (.int .i64 0), .iface 242 (.agg #[.map m, .nilFunc, .nilFunc])])) ∧ Below w.heap.size w w' := by
  have C := fun W => Lib.hid (with_ctx0 m W)
  go_enter Tryz.func106, Tryz.ntmps106
  go_wp2_with (go_at_call 165; (with_reducible refine (C _).out.mono ?_); rintro e w1 ⟨rfl, hb1⟩)
  go_ret
  exact ⟨rfl, ((Below.refl _ _).alloc (Nat.le_refl _) _).trans (hb1.mono (by simp))⟩
set_option maxRecDepth 100000 in
set_option maxHeartbeats 1000000 in
theorem withBag_ctx1 (t : TypeId) (p : Value) (m' m : Option Nat) (w : World) : Calls Tryz.prog 106 #[.iface 299 (.agg #[.iface t p, .iface 237 (.int .i64 0), .iface 242 (.agg #[.map m', .nilFunc, .nilFunc])]), .agg #[.map m]] w fun e w' => e = .returned (.iface 299 (.agg #[.iface 299 (.agg #[.iface t p, .iface 237 (.int .i64 0), .iface 242 (.agg #[.map m', .nilFunc, .nilFunc])]), .iface 237 (.int .i64 0), .iface 242 (.agg #[.map m, .nilFunc, .nilFunc])])) ∧ Below w.heap.size w w' := by
  have C := fun W => Lib.hid (with_ctx1 t p m' m W)
  go_enter Tryz.func106, Tryz.ntmps106
  go_wp2_with (go_at_call 165; (with_reducible refine (C _).out.mono ?_); rintro e w1 ⟨rfl, hb1⟩)
  go_ret
  exact ⟨rfl, ((Below.refl _ _).alloc (Nat.le_refl _) _).trans (hb1.mono (by simp))⟩
set_option maxRecDepth 100000 in
set_option maxHeartbeats 1000000 in
theorem from_ctx0 (w : World) : Calls Tryz.prog 63 #[.iface 234 (.agg #[])] w fun e w' => e = .returned (.agg #[.map none]) ∧ Below w.heap.size w w' := by
  have C := fun W => Lib.hid (list_ctx0 W)
  have HB0 := Lib.hid ((Below.refl w.heap.size w).alloc (Nat.le_refl _) (.cells #[.map none] 94))
  have HK0 := Lib.hid (Blk.new w 94 #[.map none])
  go_enter Tryz.func63, Tryz.ntmps63
  go_wp2_with (go_at_call 109; (with_reducible refine (C _).out.mono ?_); rintro e w1 ⟨rfl, hb1⟩; have HB := Lib.hid (HB0.out.trans (hb1.mono HB0.out.size)); have HK := Lib.hid (HK0.out.belowS hb1); clear hb1; obtain ⟨c1, c2, c3, c4⟩ := HK.out.use)
  have hF := HK.out.set_ 0 (.map none)
  have e0 := hF.cell 0
  simp at e0
  exact bodyPost_ret (v := .agg #[.map none]) (by simp [results, Tryz.results63, go_sem, e0]) rfl ⟨rfl, HB.out.setCell (by simp) _⟩
set_option maxRecDepth 100000 in
set_option maxHeartbeats 1000000 in
theorem from_ctx1 (t : TypeId) (p : Value) (m : Option Nat) (w : World) : Calls Tryz.prog 63 #[.iface 299 (.agg #[.iface t p, .iface 237 (.int .i64 0), .iface 242 (.agg #[.map m, .nilFunc, .nilFunc])])] w fun e w' => e = .returned (.agg #[.map m]) ∧ Below w.heap.size w w' := by
  have C := fun W => Lib.hid (list_ctx1 t p m W)
  have HB0 := Lib.hid ((Below.refl w.heap.size w).alloc (Nat.le_refl _) (.cells #[.map none] 94))
  have HK0 := Lib.hid (Blk.new w 94 #[.map none])
  go_enter Tryz.func63, Tryz.ntmps63
  go_wp2_with (go_at_call 109; (with_reducible refine (C _).out.mono ?_); rintro e w1 ⟨rfl, hb1⟩; have HB := Lib.hid (HB0.out.trans (hb1.mono HB0.out.size)); have HK := Lib.hid (HK0.out.belowS hb1); clear hb1; obtain ⟨c1, c2, c3, c4⟩ := HK.out.use)
  have hF := HK.out.set_ 0 (.map m)
  have e0 := hF.cell 0
  simp at e0
  exact bodyPost_ret (v := .agg #[.map m]) (by simp [results, Tryz.results63, go_sem, e0]) rfl ⟨rfl, HB.out.setCell (by simp) _⟩
end Go.Proofs.YtpgookhdffklkaaGreatDoor
