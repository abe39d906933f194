/-
  Package baggage: items of the inner package, and members from them and to them.
-/
import Derived.Test.YtpgookhdffklkaaGreatDoorImplB
namespace Go.Proofs.YtpgookhdffklkaaGreatDoor
open Go.RowKit

/-- The value it is an item with the value, the metadata and the properties of m. -/
def ItR (w : World) (it : Value) (m : BM) : Prop := ∃ pv, it = .agg #[.string (bs m.v), .string (bs m.md), pv] ∧ SlV w 255 pv m.ps.length (m.ps.flatMap encB)
theorem ItR.keeps {T : TypeId → Prop} {w w' : World} {v : Value} {m : BM} (h : ItR w v m) (hk : Keeps T w w') (ht : T 255) : ItR w' v m := by
  obtain ⟨pv, hv, hs⟩ := h
  exact ⟨pv, hv, hs.keeps hk ht⟩
theorem ItR.below {w w' : World} {v : Value} {m : BM} (h : ItR w v m) (hb : Below w.heap.size w w') : ItR w' v m := h.keeps (T := fun _ => True) (Keeps.of_below hb) trivial

theorem Blk.by_ {w w' : World} {g : Nat} {t : TypeId} {cs : Array Value} (hb : Below w.heap.size w w') (h : Blk w g t cs) : Blk w' g t cs := h.belowS hb
theorem below_then {B : Nat} {a b c : World} (hb : Below b.heap.size b c) (hB : B ≤ b.heap.size) (h : Below B a b) : Below B a c := h.trans (hb.mono hB)

section
variable (v md : List UInt8) (A : Option Addr) (n q : Nat) (w : World)
set_option maxHeartbeats 1000000 in
theorem itemValue_any : Calls Tryz.prog 133 #[.agg #[.string (bs v), .string (bs md), .slice A n q]] w fun e w' => e = .returned (.string (bs v)) ∧ Below w.heap.size w w' := by
  go_enter Tryz.func133, Tryz.ntmps133
  go_wp2
  go_ret
  exact ⟨rfl, (Below.refl _ _).alloc (Nat.le_refl _) _⟩
set_option maxHeartbeats 1000000 in
theorem itemMeta_any : Calls Tryz.prog 134 #[.agg #[.string (bs v), .string (bs md), .slice A n q]] w fun e w' => e = .returned (.string (bs md)) ∧ Below w.heap.size w w' := by
  go_enter Tryz.func134, Tryz.ntmps134
  go_wp2
  go_ret
  exact ⟨rfl, (Below.refl _ _).alloc (Nat.le_refl _) _⟩
set_option maxHeartbeats 1000000 in
theorem itemProps_any : Calls Tryz.prog 136 #[.agg #[.string (bs v), .string (bs md), .slice A n q]] w fun e w' => e = .returned (.slice A n q) ∧ Below w.heap.size w w' := by
  go_enter Tryz.func136, Tryz.ntmps136
  go_wp2
  go_ret
  exact ⟨rfl, (Below.refl _ _).alloc (Nat.le_refl _) _⟩
set_option maxRecDepth 100000 in
set_option maxHeartbeats 1000000 in
theorem newItemMeta_any : Calls Tryz.prog 130 #[.string (bs v), .string (bs md)] w fun e w' => e = .returned (.agg #[.string (bs v), .string (bs md), .slice none 0 0]) ∧ Below w.heap.size w w' := by
  go_enter Tryz.func130, Tryz.ntmps130
  go_wp2
  refine bodyPost_ret (v := .agg #[.string (bs v), .string (bs md), .slice none 0 0]) (by simp [results, Tryz.results130, go_sem]) rfl ⟨rfl, (Below.refl _ _).alloc (Nat.le_refl _) _⟩
set_option maxRecDepth 100000 in
set_option maxHeartbeats 1000000 in
theorem newItemProps_any : Calls Tryz.prog 131 #[.string (bs v), .slice A n q] w fun e w' => e = .returned (.agg #[.string (bs v), .string (bs []), .slice A n q]) ∧ Below w.heap.size w w' := by
  go_enter Tryz.func131, Tryz.ntmps131
  go_wp2
  refine bodyPost_ret (v := .agg #[.string (bs v), .string (bs []), .slice A n q]) (by simp [results, Tryz.results131, go_sem]; rfl) rfl ⟨rfl, (Below.refl _ _).alloc (Nat.le_refl _) _⟩
end

theorem info255 : (Tryz.prog.info? 255).map (fun i => (i.zero, i.size, i.bytes)) = some (some (.agg #[.string ⟨#[]⟩, .string ⟨#[]⟩, .bool false]), 3, 40) := by kernel_rfl

/-- The first cells of a row are those of the first properties. -/
def PB (w : World) (g : Nat) (T : TypeId) (n : Nat) (done : List Pr) (cur : Array Value) : Prop := Blk w g T cur ∧ cur.size = n * 3 ∧ ∀ i (h : i < (done.flatMap encB).length), cur[i]? = some (done.flatMap encB)[i]
theorem PB.put {w : World} {g : Nat} {T : TypeId} {n : Nat} {done : List Pr} {cur : Array Value} (h : PB w g T n done cur) (p : Pr) (hd : done.length < n) :
    PB (((w.setCell ⟨g, done.length * 3, none⟩ (.string (bs p.k))).setCell ⟨g, done.length * 3 + 1, none⟩ (.string (bs p.v))).setCell ⟨g, done.length * 3 + 2, none⟩ (.bool p.has)) g T n (done ++ [p])
      (((cur.setIfInBounds (done.length * 3) (.string (bs p.k))).setIfInBounds (done.length * 3 + 1) (.string (bs p.v))).setIfInBounds (done.length * 3 + 2) (.bool p.has)) := by
  obtain ⟨h1, h2, h3⟩ := h
  have hlen := flat_len encB 3 encB_len done
  refine ⟨((h1.set_ _ _).set_ _ _).set_ _ _, by simpa using h2, fun i hi => ?_⟩
  have e : (done ++ [p]).flatMap encB = done.flatMap encB ++ encB p := by simp
  simp only [e] at hi ⊢
  rw [List.length_append, hlen] at hi
  have h3' : (encB p).length = 3 := rfl
  rw [h3'] at hi
  by_cases hlt : i < done.length * 3
  · rw [Array.getElem?_setIfInBounds_ne (by omega), Array.getElem?_setIfInBounds_ne (by omega), Array.getElem?_setIfInBounds_ne (by omega), h3 i (by omega), List.getElem_append_left]
  · have hsz : done.length * 3 + 2 < cur.size := by omega
    rw [List.getElem_append_right (by omega)]
    have : i = done.length * 3 ∨ i = done.length * 3 + 1 ∨ i = done.length * 3 + 2 := by omega
    rcases this with rfl | rfl | rfl
    · rw [Array.getElem?_setIfInBounds_ne (by omega), Array.getElem?_setIfInBounds_ne (by omega), Array.getElem?_setIfInBounds_self_of_lt (by omega)]
      simp [encB, hlen]
    · rw [Array.getElem?_setIfInBounds_ne (by omega), Array.getElem?_setIfInBounds_self_of_lt (by simp; omega)]
      simp [encB, hlen]
    · rw [Array.getElem?_setIfInBounds_self_of_lt (by simp; omega)]
      simp [encB, hlen]
theorem PB.cell {w : World} {g : Nat} {T : TypeId} {n : Nat} {done : List Pr} {cur : Array Value} (h : PB w g T n done cur) (i : Nat) (hi : i < n * 3) : ∃ v, ∀ o, (w.alloc o).cell? ⟨g, i, none⟩ = some v :=
  ⟨cur[i]'(by have := h.2.1; omega), fun o => by rw [(h.1.alloc o).cell i, Array.getElem?_eq_getElem (by have := h.2.1; omega)]⟩
theorem PB.alloc {w : World} {g : Nat} {T : TypeId} {n : Nat} {done : List Pr} {cur : Array Value} (h : PB w g T n done cur) (o : Obj) : PB (w.alloc o) g T n done cur := ⟨h.1.alloc o, h.2.1, h.2.2⟩
theorem PB.full {w : World} {g : Nat} {T : TypeId} {ps : List Pr} {cur : Array Value} (h : PB w g T ps.length ps cur) (hn : ps.length ≤ 1000000) : SlV w T (.slice (some ⟨g, 0, none⟩) ps.length ps.length) ps.length (ps.flatMap encB) := by
  obtain ⟨h1, h2, h3⟩ := h
  refine ⟨_, _, rfl, Nat.le_refl _, by unfold maxLen; omega, fun _ => ⟨g, 0, cur, _, rfl, h1, fun j u hj => ?_⟩⟩
  obtain ⟨hj1, hj2⟩ := List.getElem?_eq_some_iff.1 hj
  rw [Nat.zero_add, h3 j hj1, hj2]
theorem PB.start {w : World} {g : Nat} {T : TypeId} {n : Nat} {cur : Array Value} (h : Blk w g T cur) (hs : cur.size = n * 3) : PB w g T n [] cur := ⟨h, hs, fun i hi => absurd hi (by simp)⟩

set_option maxRecDepth 100000 in
set_option maxHeartbeats 1000000 in
theorem asInternal_any (ps : List Pr) (v : Value) (w : World) (hv : SlV w 148 v ps.length (ps.flatMap encB)) (hn : ps.length ≤ 1000000) :
    Calls Tryz.prog 132 #[v] w fun e w' => ∃ v', e = .returned v' ∧ SlV w' 255 v' ps.length (ps.flatMap encB) ∧ Below w.heap.size w w' := by
  by_cases h0 : ps = []
  · subst h0
    obtain ⟨A, c, rfl, -, -, -⟩ := hv
    go_enter Tryz.func132, Tryz.ntmps132
    go_wp2
    go_ret
    exact ⟨_, rfl, SlV.nil _ _, Below.refl _ _⟩
  · obtain ⟨b, off, c, rfl, hc1, hc2, hb, hc⟩ := hv.cells (flat_ne h0)
    have hl0 : ((ps.length : Int) == 0) = false := by
      have : ps.length ≠ 0 := by simpa using h0
      simp; omega
    have HC := Lib.hid hc
    clear hc h0
    go_enter Tryz.func132, Tryz.ntmps132
    go_wp2_with (at_make; refine mk_full rfl (.tmp 10) (.tmp 10) 152 rfl 255 _ 3 40 Tryz.underlying152 info255 (by decide) _ ps.length rfl rfl rfl (by omega) ?_; intro w1 hown1 hb1; obtain ⟨cur0, hbk, hsz, _⟩ := own_blk hown1; have HB1 := Lib.hid hb1; have HK1 := Lib.hid hbk; have HZ1 := Lib.hid hsz; clear hown1 hb1 hbk hsz)
    go_loopw [4, 5, 14] (fun _ _ i wr => ∃ k : Nat, k ≤ ps.length ∧ i = .int .i64 k ∧ Below w.heap.size w wr ∧ ∃ cur, PB wr w.heap.size 255 ps.length (ps.take k) cur) (fun _ _ i _ => ps.length - (intOf i).toNat)
    case atStart => exact ⟨0, Nat.zero_le _, rfl, HB1.out, cur0, PB.start HK1.out HZ1.out⟩
    case round =>
      obtain ⟨k, hk, rfl, hbl, cur, hpb⟩ := hrel
      have HB := Lib.hid hbl; clear hbl
      by_cases hlt : k < ps.length
      · obtain ⟨c0, c1, c2⟩ := cells3 (fun j u hj => (HB.out.cell (p := ⟨b, off + j, none⟩) hb).trans (HC.out j u hj)) k hlt
        have hlen : (ps.take k).length = k := by simp; omega
        obtain ⟨y0, hy0⟩ := hpb.cell (k * 3) (by omega)
        obtain ⟨y1, hy1⟩ := hpb.cell (k * 3 + 1) (by omega)
        obtain ⟨y2, hy2⟩ := hpb.cell (k * 3 + 2) (by omega)
        have hfr := fun o i => (hpb.1.alloc o).frozen i
        have HP := Lib.hid (PB.put (hpb.alloc (.cells #[.string (bs ps[k].k), .string (bs ps[k].v), .bool ps[k].has] 148)) ps[k] (by rw [hlen]; exact hlt))
        have HB2 := Lib.hid (((((HB.out.alloc HB.out.size (.cells #[.string (bs ps[k].k), .string (bs ps[k].v), .bool ps[k].has] 148)).setCell (p := ⟨w.heap.size, k * 3, none⟩) (Nat.le_refl _) (.string (bs ps[k].k))).setCell (p := ⟨w.heap.size, k * 3 + 1, none⟩) (Nat.le_refl _) (.string (bs ps[k].v))).setCell (p := ⟨w.heap.size, k * 3 + 2, none⟩) (Nat.le_refl _) (.bool ps[k].has)))
        have hge := HB.out.size
        have HT := Lib.hid (show ps.take (k + 1) = ps.take k ++ [ps[k]] from List.take_succ_eq_append_getElem hlt)
        clear hpb
        rw [hlen] at HP
        go_wp2
        exact ⟨⟨k + 1, by omega, by go_num, HB2.out, _, by rw [HT.out]; exact HP.out⟩, by simp [intOf]; omega⟩
      · have e : k = ps.length := by omega
        subst e
        have HF := Lib.hid (PB.full (by rw [List.take_of_length_le (Nat.le_refl _)] at hpb; exact hpb) hn)
        clear hpb
        go_wp2
        go_ret
        exact ⟨_, rfl, HF.out, HB.out⟩

set_option maxRecDepth 100000 in
set_option maxHeartbeats 1000000 in
theorem fromInternal_any (ps : List Pr) (v : Value) (w : World) (hv : SlV w 255 v ps.length (ps.flatMap encB)) (hn : ps.length ≤ 1000000) :
    Calls Tryz.prog 135 #[v] w fun e w' => ∃ v', e = .returned v' ∧ SlV w' 148 v' ps.length (ps.flatMap encB) ∧ Below w.heap.size w w' := by
  by_cases h0 : ps = []
  · subst h0
    obtain ⟨A, c, rfl, -, -, -⟩ := hv
    go_enter Tryz.func135, Tryz.ntmps135
    go_wp2
    go_ret
    exact ⟨_, rfl, SlV.nil _ _, Below.refl _ _⟩
  · obtain ⟨b, off, c, rfl, hc1, hc2, hb, hc⟩ := hv.cells (flat_ne h0)
    have hl0 : ((ps.length : Int) == 0) = false := by
      have : ps.length ≠ 0 := by simpa using h0
      simp; omega
    have HC := Lib.hid hc
    clear hc h0
    go_enter Tryz.func135, Tryz.ntmps135
    go_wp2_with (at_make; refine mk_full rfl (.tmp 10) (.tmp 10) 84 rfl 148 _ 3 40 Tryz.underlying84 info148 (by decide) _ ps.length rfl rfl rfl (by omega) ?_; intro w1 hown1 hb1; obtain ⟨cur0, hbk, hsz, _⟩ := own_blk hown1; have HB1 := Lib.hid hb1; have HK1 := Lib.hid hbk; have HZ1 := Lib.hid hsz; clear hown1 hb1 hbk hsz)
    go_loopw [4, 5, 14] (fun _ _ i wr => ∃ k : Nat, k ≤ ps.length ∧ i = .int .i64 k ∧ Below w.heap.size w wr ∧ ∃ cur, PB wr w.heap.size 148 ps.length (ps.take k) cur) (fun _ _ i _ => ps.length - (intOf i).toNat)
    case atStart => exact ⟨0, Nat.zero_le _, rfl, HB1.out, cur0, PB.start HK1.out HZ1.out⟩
    case round =>
      obtain ⟨k, hk, rfl, hbl, cur, hpb⟩ := hrel
      have HB := Lib.hid hbl; clear hbl
      by_cases hlt : k < ps.length
      · obtain ⟨c0, c1, c2⟩ := cells3 (fun j u hj => (HB.out.cell (p := ⟨b, off + j, none⟩) hb).trans (HC.out j u hj)) k hlt
        have hlen : (ps.take k).length = k := by simp; omega
        obtain ⟨y0, hy0⟩ := hpb.cell (k * 3) (by omega)
        obtain ⟨y1, hy1⟩ := hpb.cell (k * 3 + 1) (by omega)
        obtain ⟨y2, hy2⟩ := hpb.cell (k * 3 + 2) (by omega)
        have hfr := fun o i => (hpb.1.alloc o).frozen i
        have HP := Lib.hid (PB.put (hpb.alloc (.cells #[.string (bs ps[k].k), .string (bs ps[k].v), .bool ps[k].has] 255)) ps[k] (by rw [hlen]; exact hlt))
        have HB2 := Lib.hid (((((HB.out.alloc HB.out.size (.cells #[.string (bs ps[k].k), .string (bs ps[k].v), .bool ps[k].has] 255)).setCell (p := ⟨w.heap.size, k * 3, none⟩) (Nat.le_refl _) (.string (bs ps[k].k))).setCell (p := ⟨w.heap.size, k * 3 + 1, none⟩) (Nat.le_refl _) (.string (bs ps[k].v))).setCell (p := ⟨w.heap.size, k * 3 + 2, none⟩) (Nat.le_refl _) (.bool ps[k].has)))
        have hge := HB.out.size
        have HT := Lib.hid (show ps.take (k + 1) = ps.take k ++ [ps[k]] from List.take_succ_eq_append_getElem hlt)
        clear hpb
        rw [hlen] at HP
        go_wp2
        exact ⟨⟨k + 1, by omega, by go_num, HB2.out, _, by rw [HT.out]; exact HP.out⟩, by simp [intOf]; omega⟩
      · have e : k = ps.length := by omega
        subst e
        have HF := Lib.hid (PB.full (by rw [List.take_of_length_le (Nat.le_refl _)] at hpb; exact hpb) hn)
        clear hpb
        go_wp2
        go_ret
        exact ⟨_, rfl, HF.out, HB.out⟩
end Go.Proofs.YtpgookhdffklkaaGreatDoor
