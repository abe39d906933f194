/-
  Words for memory and for texts that all the walks of this seat use: byte lists as strings, slices that read as lists of cells, blocks known whole.
-/
import Derived.BigQuiet
import Derived.Deep.DeepCutAuto
import Derived.Deep.DeepMust
import Derived.Deep.Draws
import Derived.Deep.LoopGhost
import Derived.Deep.QuietTactic
import Derived.Deep.RegionLaw
import Derived.Deep.RegionWith
import Derived.Lib.Hide
import Derived.Maps.AppendAt
import Derived.Maps.OwnSet
import Derived.Maps.RangeWalk
import Derived.WalkKit
import Derived.WalkLawsBesides
import Derived.WalkSpells
import Derived.Test.YtpgookhdffklkaaGreatDoorProg
namespace Go.Proofs.YtpgookhdffklkaaGreatDoor
open Go.RowKit
def bs (l : List UInt8) : ByteArray := ⟨l.toArray⟩
@[simp] theorem bs_toList (l : List UInt8) : (bs l).data.toList = l := by simp [bs]
@[simp] theorem bs_size (l : List UInt8) : (bs l).size = l.length := by simp [bs, ByteArray.size]
theorem bs_of (s : ByteArray) : bs s.data.toList = s := by cases s; simp [bs]
@[simp] theorem bs_toL (l : List UInt8) : (bs l).toList = l := by rw [ByteArray.toList_eq]; simp
theorem bs_getElem0 (l : List UInt8) (i : Nat) (h : i < (bs l).size) : (bs l)[i] = l[i]'(by simpa using h) := rfl
@[simp] theorem bs_getElem (l : List UInt8) (i : Nat) (h : i < (bs l).size) : (bs l)[i] = l[i]'(by simpa using h) := by have := bs_getElem0 l i h; exact this
@[simp] theorem bs_append (a b : List UInt8) : bs a ++ bs b = bs (a ++ b) := by
  apply ByteArray.ext
  simp [bs]
theorem bs_inj {a b : List UInt8} (h : bs a = bs b) : a = b := by
  have := congrArg (fun s => s.data.toList) h
  simpa using this
@[simp] theorem bs_extract (l : List UInt8) (a b : Nat) : (bs l).extract a b = bs ((l.drop a).take (b - a)) := by
  apply ByteArray.ext
  rw [ByteArray.data_extract]
  simp only [bs, List.extract_toArray, List.extract_eq_take_drop]
@[simp] theorem take_drop_all (l : List UInt8) (k : Nat) : (l.drop k).take (l.length - k) = l.drop k := List.take_of_length_le (by simp)
@[simp] theorem bs_drop (l : List UInt8) (a : Nat) : (bs l).extract a l.length = bs (l.drop a) := by
  rw [bs_extract, List.take_of_length_le (by simp)]
theorem ret_bool {a b : Bool} (h : a = b) : Ending.returned (.bool a) = .returned (.bool b) := by rw [h]
theorem ret_int {k : IntKind} {a b : Int} (h : a = b) : Ending.returned (.int k a) = .returned (.int k b) := by rw [h]
theorem ret_str {a b : List UInt8} (h : a = b) : Ending.returned (.string (bs a)) = .returned (.string (bs b)) := by rw [h]
def Blk (w : World) (g : Nat) (t : TypeId) (cs : Array Value) : Prop := w.heap[g]? = some (.cells cs t (0, 0))
section
variable {w w' : World} {g : Nat} {t : TypeId} {cs : Array Value}
theorem Blk.lt (h : Blk w g t cs) : g < w.heap.size := by
  rcases Nat.lt_or_ge g w.heap.size with hlt | hge
  · exact hlt
  · unfold Blk at h; rw [Array.getElem?_eq_none hge] at h; cases h
theorem Blk.cell (h : Blk w g t cs) (i : Nat) : w.cell? ⟨g, i, none⟩ = cs[i]? := cell_of_row w g i cs t (0, 0) h
theorem Blk.frozen (h : Blk w g t cs) (i : Nat) : w.frozen? ⟨g, i, none⟩ = false := by
  unfold Blk at h
  simp [World.frozen?, h]
theorem Blk.new (w : World) (t : TypeId) (cs : Array Value) : Blk (w.alloc (.cells cs t)) w.heap.size t cs := heap_alloc_new w _
theorem Blk.drew (h : Blk w g t cs) : Blk w.drew g t cs := h
theorem Blk.drewN (h : Blk w g t cs) (n : Nat) : Blk (w.drewN n) g t cs := h
theorem Blk.alloc (h : Blk w g t cs) (o : Obj) : Blk (w.alloc o) g t cs := (Below.heap_alloc w o g h.lt).trans h
theorem Blk.set_ (h : Blk w g t cs) (i : Nat) (u : Value) : Blk (w.setCell ⟨g, i, none⟩ u) g t (cs.setIfInBounds i u) := by
  unfold Blk at h ⊢
  simp [World.setCell, Array.getElem?_modify, h]
theorem Blk.far (h : Blk w g t cs) {p : Addr} (hp : g ≠ p.block) (u : Value) : Blk (w.setCell p u) g t cs := (Below.heap_setCell w p u g hp).trans h
theorem Blk.below {B : Nat} (h : Blk w g t cs) (hb : Below B w w') (hg : g < B) : Blk w' g t cs := (hb.block g hg).trans h
theorem Blk.belowS (h : Blk w g t cs) (hb : Below w.heap.size w w') : Blk w' g t cs := h.below hb h.lt
theorem Blk.grown {row : Option Nat} (h : Blk w g t cs) (hb : w.grownBy w' row) (hg : row ≠ some g) : Blk w' g t cs := (hb.block g h.lt (fun e => hg e.symm)).trans h
theorem Blk.ne_ {g' : Nat} {t' : TypeId} {cs' : Array Value} (h : Blk w g t cs) (h' : Blk w g' t' cs') (hne : t ≠ t') : g ≠ g' := by
  rintro rfl
  unfold Blk at h h'
  rw [h] at h'
  injection h' with h'
  injection h' with _ ht
  exact hne ht
theorem own_blk_ne {base : Nat} {e : TypeId} {size n : Nat} {v : Value} {xs : List Value} (h : w.ownsRow base e size v n xs) (hg : Blk w g t cs) (hne : e ≠ t) : v.ownBlock ≠ some g := by
  rcases h.2 with ⟨rfl, _⟩ | ⟨g', cap, cur, rfl, _, hh, _⟩
  · simp [Value.ownBlock]
  · intro he
    have : g' = g := by simpa [Value.ownBlock] using he
    subst this
    exact Blk.ne_ (t := e) hh hg hne rfl
end
theorem below_drewN {B : Nat} {a w : World} (h : Below B a w) (n : Nat) : Below B a (w.drewN n) := ⟨h.os, h.tape, h.output, h.size, h.block⟩
theorem lt_of_heap {w : World} {b : Nat} {o : Obj} (h : w.heap[b]? = some o) : b < w.heap.size := by
  rcases Nat.lt_or_ge b w.heap.size with hlt | hge
  · exact hlt
  · rw [Array.getElem?_eq_none hge] at h; cases h
theorem own_below {w w' : World} {base : Nat} {e : TypeId} {size : Nat} {v : Value} {n : Nat} {xs : List Value} (h : w.ownsRow base e size v n xs) (hb : Below w.heap.size w w') : w'.ownsRow base e size v n xs := by
  obtain ⟨h1, h2⟩ := h
  refine ⟨h1, ?_⟩
  rcases h2 with h2 | ⟨g, cap, cur, hv, hg, hh, r⟩
  · exact Or.inl h2
  · exact Or.inr ⟨g, cap, cur, hv, hg, (hb.block g (lt_of_heap hh)).trans hh, r⟩
theorem own_ge {w : World} {base : Nat} {e : TypeId} {size : Nat} {v : Value} {n : Nat} {xs : List Value} (h : w.ownsRow base e size v n xs) : ∀ k, v.ownBlock = some k → base ≤ k := fun k hk => (h.lt k hk).1
/-- Every block of a type in T stays as it is. -/
def Keeps (T : TypeId → Prop) (w w' : World) : Prop := ∀ (b : Nat) (cur : Array Value) (e : TypeId) (fz : Nat × Nat), T e → w.heap[b]? = some (Obj.cells cur e fz) → w'.heap[b]? = some (Obj.cells cur e fz)
section
variable {T : TypeId → Prop} {w w' w'' : World}
theorem Keeps.refl (w : World) : Keeps T w w := fun _ _ _ _ _ h => h
theorem Keeps.trans (h : Keeps T w w') (h' : Keeps T w' w'') : Keeps T w w'' := fun b cur e fz he hb => h' b cur e fz he (h b cur e fz he hb)
theorem Keeps.of_below (h : Below w.heap.size w w') : Keeps T w w' := fun b _ _ _ _ hb => (h.block b (lt_of_heap hb)).trans hb
theorem Keeps.setCell (h : Keeps T w w') {g i : Nat} {t : TypeId} {cs : Array Value} (hg : Blk w' g t cs) (ht : ¬ T t) (u : Value) : Keeps T w (w'.setCell ⟨g, i, none⟩ u) := h.trans fun b cur e fz he hb => by
  refine (Below.heap_setCell w' _ u b ?_).trans hb
  rintro rfl
  unfold Blk at hg
  rw [hg] at hb
  injection hb with hb
  injection hb with _ h2
  subst h2
  exact ht he
theorem Keeps.grown (h : Keeps T w w') {base : Nat} {e : TypeId} {size n : Nat} {v : Value} {xs : List Value} (ho : w'.ownsRow base e size v n xs) (hg : w'.grownBy w'' v.ownBlock) (ht : ¬ T e) : Keeps T w w'' := h.trans fun b cur e' fz he hb => by
  refine (hg.block b (lt_of_heap hb) ?_).trans hb
  intro hvb
  rcases ho.2 with ⟨rfl, _⟩ | ⟨g', cap, cur', rfl, _, hh, _⟩
  · simp [Value.ownBlock] at hvb
  · have : b = g' := by simpa [Value.ownBlock] using hvb
    subst this
    rw [hh] at hb
    injection hb with hb
    injection hb with _ h2
    subst h2
    exact ht he
theorem Keeps.sub {T' : TypeId → Prop} (h : Keeps T w w') (hs : ∀ e, T' e → T e) : Keeps T' w w' := fun b cur e fz he hb => h b cur e fz (hs e he) hb
end
/-- The slice v has n elements (of element type e); its cells read xs. -/
def SlV (w : World) (e : TypeId) (v : Value) (n : Nat) (xs : List Value) : Prop :=
  ∃ A c, v = .slice A n c ∧ n ≤ c ∧ c ≤ maxLen ∧ (xs ≠ [] → ∃ b off cur fz, A = some ⟨b, off, none⟩ ∧ w.heap[b]? = some (.cells cur e fz) ∧ ∀ j u, xs[j]? = some u → cur[off + j]? = some u)
section
variable {w w' : World} {e : TypeId} {v : Value} {n : Nat} {xs : List Value}
theorem SlV.keeps {T : TypeId → Prop} (h : SlV w e v n xs) (hk : Keeps T w w') (ht : T e) : SlV w' e v n xs := by
  obtain ⟨A, c, rfl, h1, h2, h3⟩ := h
  refine ⟨A, c, rfl, h1, h2, fun hx => ?_⟩
  obtain ⟨b, off, cur, fz, hA, hb, hc⟩ := h3 hx
  exact ⟨b, off, cur, fz, hA, hk _ _ _ _ ht hb, hc⟩
theorem SlV.below (h : SlV w e v n xs) (hb : Below w.heap.size w w') : SlV w' e v n xs := h.keeps (T := fun _ => True) (Keeps.of_below hb) trivial
theorem SlV.nil (w : World) (e : TypeId) : SlV w e (.slice none 0 0) 0 [] := ⟨none, 0, rfl, Nat.le_refl _, by simp [maxLen], fun h => absurd rfl h⟩
theorem SlV.of_own {base size : Nat} (h : w.ownsRow base e size v n xs) : SlV w e v n xs := by
  obtain ⟨hl, ⟨rfl, rfl⟩ | ⟨g, cap, cur, rfl, _, hh, h1, h2, h3, h4⟩⟩ := h
  · exact ⟨none, 0, rfl, Nat.le_refl _, by simp [maxLen], fun h => absurd (List.eq_nil_of_length_eq_zero (by simpa using hl)) h⟩
  · refine ⟨_, cap, rfl, h1, h2, fun _ => ⟨g, 0, cur, _, rfl, hh, fun j u hj => ?_⟩⟩
    subst h4
    rw [List.getElem?_take] at hj
    split at hj
    · simpa using hj
    · cases hj
/-- The cells of a slice, as the walk asks for them. -/
theorem SlV.cells (h : SlV w e v n xs) (hx : xs ≠ []) : ∃ b off c, v = .slice (some ⟨b, off, none⟩) n c ∧ n ≤ c ∧ c ≤ maxLen ∧ b < w.heap.size ∧ ∀ j u, xs[j]? = some u → w.cell? ⟨b, off + j, none⟩ = some u := by
  obtain ⟨A, c, rfl, h1, h2, h3⟩ := h
  obtain ⟨b, off, cur, fz, rfl, hb, hc⟩ := h3 hx
  refine ⟨b, off, c, rfl, h1, h2, lt_of_heap hb, fun j u hj => ?_⟩
  rw [World.cell?]
  simp only [hb]
  simpa using hc j u hj
end
/-- 'append(s, x)' of one element onto a row of the call's own: x has been laid in a block of its own first. -/
theorem app1 {W : World} {ops : Array Oper} {rest : List Oper} {o : Oper} {a : Act} {Q : Exit → Act → World → Prop} (hgd : o.guard = none) (s x : Operand) (t : TypeId)
    (ho : o.op = .call { callee := .builtin .append, args := #[s, x], argTypes := #[t, t] })
    (base : Nat) (e ty : TypeId) (z : Value) (size bytes : Nat) (ht : Tryz.prog.underlying t = some (.slice e)) (hinfo : (Tryz.prog.info? e).map (fun i => (i.zero, i.size, i.bytes)) = some (some z, size, bytes))
    (hzs : z.cells.size = size) (hsz : 0 < size) (hby : bytes ≤ 1000) (v : Value) (n : Nat) (xs : List Value) (hs : a.eval s = v) (news : List Value) (hown : W.ownsRow base e size v n xs)
    (hx : a.eval x = .slice (some ⟨W.heap.size, 0, none⟩) 1 1) (hl : news.length = size) (h1 : ∀ u ∈ news, u.oneCell' = true) (hn : n ≤ 4294967296) (hbase : base ≤ W.heap.size)
    (h : ∀ v' w', w'.ownsRow base e size v' (n + 1) (xs ++ news) → W.grownBy w' v.ownBlock → v' ≠ .slice none 0 0 → wpList Tryz.prog ops Q rest (a.put o.dst v') w') : wpList Tryz.prog ops Q (o :: rest) a (W.alloc (.cells news.toArray ty)) := by
  obtain ⟨i0, hi, hz0, hz1, hz2⟩ := info_parts hinfo
  refine wpList_append_own _ hgd s x t ho base e i0 z size bytes ht hi hz0 hz1 hz2 hzs hsz v n xs hs (hown.alloc _) ⟨W.heap.size, 0, none⟩ 1 1 news hx (by simpa using hl) ?_ h1 (by unfold maxLen; omega) ?_ (by simp; omega) ?_
  · intro j u hj
    have : ((⟨W.heap.size, 0, none⟩ : Addr).add j) = ⟨W.heap.size, j, none⟩ := by
      unfold Addr.add
      split
      · rename_i h0; rw [h0]
      · simp
    rw [this, (Blk.new W ty news.toArray).cell j]
    simpa using hj
  · calc (n + 1) * bytes ≤ 4294967297 * 1000 := Nat.mul_le_mul (by omega) hby
      _ ≤ _ := by decide
  · intro v' w' h2 h3 h4
    refine h v' w' h2 ((World.grownBy_alloc W _ _).trans h3) ?_
    intro he
    exact absurd (h4.1 he).2 (by decide)
/-- The same as one step of a region that draws. -/
theorem step_app1 {W : World} {ops : Array Oper} {o : Oper} {a : Act} {K : Act → World → Prop} {Q : Exit → Act → World → Prop} {E : Prop} (hgd : o.guard = none) (s x : Operand) (t : TypeId)
    (ho : o.op = .call { callee := .builtin .append, args := #[s, x], argTypes := #[t, t] })
    (base : Nat) (e ty : TypeId) (z : Value) (size bytes : Nat) (ht : Tryz.prog.underlying t = some (.slice e)) (hinfo : (Tryz.prog.info? e).map (fun i => (i.zero, i.size, i.bytes)) = some (some z, size, bytes))
    (hzs : z.cells.size = size) (hsz : 0 < size) (hby : bytes ≤ 1000) (v : Value) (n : Nat) (xs : List Value) (hs : a.eval s = v) (news : List Value) (hown : W.ownsRow base e size v n xs)
    (hx : a.eval x = .slice (some ⟨W.heap.size, 0, none⟩) 1 1) (hl : news.length = size) (h1 : ∀ u ∈ news, u.oneCell' = true) (hn : n ≤ 4294967296) (hbase : base ≤ W.heap.size)
    (h : ∀ v' w', w'.ownsRow base e size v' (n + 1) (xs ++ news) → W.grownBy w' v.ownBlock → v' ≠ .slice none 0 0 → K (a.put o.dst v') w') :
    if Region.wanted o (yielded ops a.tmps) = true then Oper.wp Tryz.prog o a (W.alloc (.cells news.toArray ty)) K Q else E := by
  have hw : Region.wanted o (yielded ops a.tmps) = true := by simp [Region.wanted, hgd]
  rw [if_pos hw]
  obtain ⟨i0, hi, hz0, hz1, hz2⟩ := info_parts hinfo
  refine wp_append_own _ s x t ho base e i0 z size bytes ht hi hz0 hz1 hz2 hzs hsz v n xs hs (hown.alloc _) ⟨W.heap.size, 0, none⟩ 1 1 news hx (by simpa using hl) ?_ h1 (by unfold maxLen; omega) ?_ (by simp; omega) ?_
  · intro j u hj
    have : ((⟨W.heap.size, 0, none⟩ : Addr).add j) = ⟨W.heap.size, j, none⟩ := by
      unfold Addr.add
      split
      · rename_i h0; rw [h0]
      · simp
    rw [this, (Blk.new W ty news.toArray).cell j]
    simpa using hj
  · calc (n + 1) * bytes ≤ 4294967297 * 1000 := Nat.mul_le_mul (by omega) hby
      _ ≤ _ := by decide
  · intro v' w' h2 h3 h4
    refine h v' w' h2 ((World.grownBy_alloc W _ _).trans h3) ?_
    intro he
    exact absurd (h4.1 he).2 (by decide)
/-- 'make([]T, n)'. -/
theorem mk_full {W : World} {ops : Array Oper} {rest : List Oper} {o : Oper} {a : Act} {Q : Exit → Act → World → Prop} (hgd : o.guard = none) (l c : Operand) (t : TypeId) (hop : o.op = Op.makeSlice t l c)
    (e : TypeId) (z : Value) (size bytes : Nat) (ht : Tryz.prog.underlying t = some (.slice e)) (hinfo : (Tryz.prog.info? e).map (fun i => (i.zero, i.size, i.bytes)) = some (some z, size, bytes)) (hby : bytes ≤ 1000)
    (x : Int) (n : Nat) (hl : a.eval l = .int .i64 x) (hc : a.eval c = .int .i64 x) (hx : x = (n : Int)) (hn : n ≤ 4294967296)
    (hK : ∀ w', w'.ownsRow W.heap.size e size (.slice (some ⟨W.heap.size, 0, none⟩) n n) n (madeCells z.cells (n * size)).toList → Below W.heap.size W w' → wpList Tryz.prog ops Q rest (a.put o.dst (.slice (some ⟨W.heap.size, 0, none⟩) n n)) w') :
    wpList Tryz.prog ops Q (o :: rest) a W := by
  obtain ⟨i0, hi, hz0, hz1, hz2⟩ := info_parts hinfo
  refine wpList_make_full W hgd l c t hop W.heap.size e i0 z size ht hi hz0 hz1 .i64 .i64 x x n hl hc hx hx ?_ (by unfold maxLen; omega) (Nat.le_refl _) fun w' h1 h2 => hK w' h1 ((Below.refl _ _).grown h2 (Nat.le_refl _) (fun k hk => by cases hk))
  rw [hz2]
  calc bytes * n ≤ 1000 * 4294967296 := Nat.mul_le_mul hby hn
    _ ≤ _ := by decide
theorem own_blk {w : World} {base : Nat} {e : TypeId} {size g cap m n : Nat} {xs : List Value} (h : w.ownsRow base e size (.slice (some ⟨g, 0, none⟩) m cap) n xs) : ∃ cur, Blk w g e cur ∧ cur.size = cap * size ∧ cur.toList.take (n * size) = xs ∧ base ≤ g ∧ m = n ∧ n ≤ cap := by
  rcases h.2 with ⟨h, _⟩ | ⟨g', cap', cur, hv, hg, hh, h1, _, hsz, ht⟩
  · cases h
  · injection hv with hv1 hv2 hv3
    injection hv1 with hv1
    injection hv1 with hv1
    subst hv1; subst hv2; subst hv3
    exact ⟨cur, hh, hsz, ht, hg, rfl, h1⟩
theorem own_cast {w : World} {base : Nat} {e : TypeId} {size : Nat} {v : Value} {n n' : Nat} {xs xs' : List Value} (h : w.ownsRow base e size v n xs) (hn : n = n') (hx : xs = xs') : w.ownsRow base e size v n' xs' := by subst hn; subst hx; exact h
theorem below_app {B base : Nat} {w W w' : World} {e : TypeId} {size : Nat} {v : Value} {n : Nat} {xs : List Value} (hb : Below B w W) (hB : B ≤ W.heap.size) (hown : W.ownsRow base e size v n xs) (hle : B ≤ base) (hg : W.grownBy w' v.ownBlock) : Below B w w' :=
  hb.grown hg hB fun k hk => Nat.le_trans hle (own_ge hown k hk)
/-- A property. -/
structure Pr where
  k : List UInt8
  has : Bool
  v : List UInt8
  deriving DecidableEq
/-- A member. -/
structure Mem where
  k : List UInt8
  v : List UInt8
  ps : List Pr
  deriving DecidableEq
/-- The cells of a property of impl and spec; of baggage (and its inner twin). -/
def encI (p : Pr) : List Value := [.string (bs p.k), .bool p.has, .string (bs p.v)]
def encB (p : Pr) : List Value := [.string (bs p.k), .string (bs p.v), .bool p.has]
theorem flat_len {α β : Type} (enc : α → List β) (k : Nat) (hk : ∀ a, (enc a).length = k) (l : List α) : (l.flatMap enc).length = l.length * k := by
  induction l with
  | nil => simp
  | cons a t ih => simp [List.flatMap_cons, ih, hk, Nat.succ_mul]; omega
theorem flat_get {α β : Type} (enc : α → List β) (k : Nat) (hk : ∀ a, (enc a).length = k) (l : List α) (j i : Nat) (hj : j < l.length) (hi : i < k) : (l.flatMap enc)[j * k + i]? = (enc l[j])[i]? := by
  induction l generalizing j with
  | nil => simp at hj
  | cons a t ih =>
    rw [List.flatMap_cons]
    cases j with
    | zero => simp only [Nat.zero_mul, Nat.zero_add, List.getElem_cons_zero]; rw [List.getElem?_append_left (by rw [hk]; exact hi)]
    | succ j =>
      rw [List.getElem?_append_right (by rw [hk, Nat.succ_mul]; omega), hk]
      rw [show (j + 1) * k + i - k = j * k + i by rw [Nat.succ_mul]; omega]
      simpa using ih j (by simpa using hj)
theorem take_succ_flat {α β : Type} (enc : α → List β) (l : List α) (j : Nat) (hj : j < l.length) : (l.take (j + 1)).flatMap enc = (l.take j).flatMap enc ++ enc l[j] := by
  rw [List.take_succ_eq_append_getElem hj, List.flatMap_append]; simp
end Go.Proofs.YtpgookhdffklkaaGreatDoor
