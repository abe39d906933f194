/-
  Maps from texts, as lists of pairs in the order of their laying; the laws at the operations.
-/
import Derived.Test.YtpgookhdffklkaaGreatDoorZBase
namespace Go.Proofs.YtpgookhdffklkaaGreatDoor
open Go.RowKit
open Go.ChangeMaps (setBlock heap_setBlock_same heap_setBlock_other)
abbrev AL := List (List UInt8 × Value)
def getS (l : AL) (k : List UInt8) : Option Value := (l.find? (fun p => p.1 = k)).map (·.2)
def putS (l : AL) (k : List UInt8) (v : Value) : AL := if (getS l k).isSome then l.map (fun p => if p.1 = k then (k, v) else p) else l ++ [(k, v)]
def pair (x : MapEntry) : Value × Value := (x.key, x.val)
def pairs (l : AL) : List (Value × Value) := l.map fun p => (Value.string (bs p.1), p.2)
/-- Block b is a map that holds the pairs of l. -/
def MapS (w : World) (b : Nat) (l : AL) : Prop := ∃ es clock, w.heap[b]? = some (.map es clock) ∧ MapKept.Stamped es clock ∧ es.toList.map pair = pairs l
section
variable {w w' : World} {b : Nat} {l : AL}
theorem MapS.lt (h : MapS w b l) : b < w.heap.size := by
  obtain ⟨es, clock, hb, _⟩ := h
  exact lt_of_heap hb
theorem MapS.same (h : MapS w b l) (e : w'.heap[b]? = w.heap[b]?) : MapS w' b l := by
  obtain ⟨es, clock, hb, r⟩ := h
  exact ⟨es, clock, e.trans hb, r⟩
theorem MapS.below (h : MapS w b l) (hb : Below w.heap.size w w') : MapS w' b l := h.same (hb.block b h.lt)
theorem MapS.alloc (h : MapS w b l) (o : Obj) : MapS (w.alloc o) b l := h.same (Below.heap_alloc w o b h.lt)
theorem MapS.setCell (h : MapS w b l) {p : Addr} (hp : b ≠ p.block) (u : Value) : MapS (w.setCell p u) b l := h.same (Below.heap_setCell w p u b hp)
theorem MapS.grown {row : Option Nat} (h : MapS w b l) (hg : w.grownBy w' row) (hne : some b ≠ row) : MapS w' b l := h.same (hg.block b h.lt hne)
theorem MapS.made (w : World) : MapS (w.alloc (.map #[] 0)) w.heap.size [] := ⟨#[], 0, heap_alloc_new w _, MapKept.stamped_empty 0, rfl⟩
theorem MapS.ne_cells {g : Nat} {cs : Array Value} {t : TypeId} {fz : Nat × Nat} (h : MapS w b l) (hg : w.heap[g]? = some (.cells cs t fz)) : b ≠ g := by
  obtain ⟨es, clock, hb, _⟩ := h
  rintro rfl
  rw [hg] at hb
  cases hb
theorem MapS.own_ne {base : Nat} {e : TypeId} {size n : Nat} {v : Value} {xs : List Value} (h : MapS w b l) (ho : w.ownsRow base e size v n xs) : some b ≠ v.ownBlock := by
  rcases ho.2 with ⟨rfl, _⟩ | ⟨g, cap, cur, rfl, _, hh, _⟩
  · simp [Value.ownBlock]
  · intro he
    have hb : b = g := by simpa [Value.ownBlock] using he
    exact h.ne_cells hh hb
theorem bs_str_inj {a c : List UInt8} (h : Value.string (bs a) = Value.string (bs c)) : a = c := by
  injection h with h
  exact bs_inj h
theorem pairs_keys_nodup (es : List MapEntry) (l : AL) (h : es.map pair = pairs l) (hn : (es.map (·.key)).Nodup) : (l.map (·.1)).Nodup := by
  have e : es.map (·.key) = (l.map (·.1)).map fun s => Value.string (bs s) := by
    have := congrArg (List.map Prod.fst) h
    simpa [pairs, pair, List.map_map, Function.comp_def] using this
  rw [e] at hn
  unfold List.Nodup at hn ⊢
  rw [List.pairwise_map] at hn
  exact hn.imp fun h1 h2 => h1 (by rw [h2])
theorem MapS.nodup (h : MapS w b l) : (l.map (·.1)).Nodup := by
  obtain ⟨es, clock, hb, hs, hp⟩ := h
  exact pairs_keys_nodup _ _ hp hs.2.2
theorem getS_at {l : AL} (hn : (l.map (·.1)).Nodup) {k : List UInt8} {v : Value} {j : Nat} (h : l[j]? = some (k, v)) : getS l k = some v := by
  induction l generalizing j with
  | nil => simp at h
  | cons p t ih =>
    unfold getS
    rw [List.find?_cons]
    simp only [List.map_cons, List.nodup_cons] at hn
    cases j with
    | zero => simp at h; subst h; simp
    | succ j =>
      have h' : t[j]? = some (k, v) := by simpa using h
      have hm : k ∈ t.map (·.1) := List.mem_map.2 ⟨(k, v), List.mem_of_getElem? h', rfl⟩
      have hne : ¬ p.1 = k := fun e => hn.1 (e ▸ hm)
      simp only [hne, decide_false]
      exact ih hn.2 h'
theorem getS_none {l : AL} {k : List UInt8} (h : ∀ p ∈ l, p.1 ≠ k) : getS l k = none := by
  unfold getS
  rw [List.find?_eq_none.2 (fun p hp => by simpa using h p hp)]
  rfl
theorem MapS.find (k : List UInt8) {es : Array MapEntry} {clock : Nat} (hs : MapKept.Stamped es clock) (hp : es.toList.map pair = pairs l) :
    (Instr.findNow .string (.string (bs k)) es.toList 0 = some none ∧ getS l k = none ∧ (∀ x ∈ es.toList, x.key ≠ .string (bs k))) ∨
    ∃ j v e0, Instr.findNow .string (.string (bs k)) es.toList 0 = some (some (j, v)) ∧ getS l k = some v ∧ es.toList[j]? = some e0 ∧ e0.key = .string (bs k) ∧ e0.val = v ∧ l[j]? = some (k, v) := by
  have hks : ∀ x ∈ es.toList, MapKept.IsKey .string x.key := fun x hx => by
    have : pair x ∈ pairs l := hp ▸ List.mem_map_of_mem hx
    obtain ⟨p, _, hpx⟩ := List.mem_map.1 this
    have : x.key = .string (bs p.1) := (congrArg Prod.fst hpx).symm
    rw [this]; trivial
  rcases MapKept.findNow_spec (d := .string) (k := .string (bs k)) trivial es.toList 0 hks with ⟨h1, h2⟩ | ⟨j, e0, h1, h2, h3⟩
  · refine Or.inl ⟨h1, getS_none fun p hpl hk => ?_, h2⟩
    have : (Value.string (bs p.1), p.2) ∈ es.toList.map pair := hp ▸ List.mem_map.2 ⟨p, hpl, rfl⟩
    obtain ⟨x, hx, he⟩ := List.mem_map.1 this
    exact h2 x hx (by rw [← hk]; exact congrArg Prod.fst he)
  · have hj : (pairs l)[j]? = some (pair e0) := by rw [← hp]; simp [h2]
    unfold pairs at hj
    rw [List.getElem?_map] at hj
    cases hl : l[j]? with
    | none => rw [hl] at hj; cases hj
    | some p =>
      rw [hl] at hj
      simp only [Option.map_some, Option.some.injEq] at hj
      have e1 : Value.string (bs p.1) = e0.key := congrArg Prod.fst hj
      have e2 : p.2 = e0.val := congrArg Prod.snd hj
      have e3 : p.1 = k := bs_str_inj (e1.trans h3)
      have hlk : l[j]? = some (k, e0.val) := by rw [hl, ← e3, ← e2]
      exact Or.inr ⟨j, e0.val, e0, by simpa using h1, getS_at (pairs_keys_nodup _ _ hp hs.2.2) hlk, h2, h3, rfl, hlk⟩
/-- 'm[k]'. -/
theorem MapS.lookup (h : MapS w b l) {t e : TypeId} (ht : Tryz.prog.underlying t = some (.map 9 e)) {z : Value} (hz : (zeroValue e).run Tryz.prog w = .ok z w) (k : List UInt8) (ok : Bool) :
    (Instr.lookup t (.map (some b)) (.string (bs k)) ok).run Tryz.prog w = .ok (if ok then .tuple #[(getS l k).getD z, .bool (getS l k).isSome] else (getS l k).getD z) w := by
  obtain ⟨es, clock, hb, hs, hp⟩ := h
  have hc : ∀ em, (Instr.checkKey em 10000 9 (.string (bs k))).run Tryz.prog w = .ok () w := fun em => MapKept.run_checkKey (d := .string) (k := .string (bs k)) Tryz.underlying9 trivial em 9999
  rcases MapS.find k hs hp with ⟨h1, h2, _⟩ | ⟨j, v, e0, h1, h2, _⟩
  · have hf := MapKept.run_findKey (P := Tryz.prog) (w := w) (kt := 9) Tryz.underlying9 h1
    rw [h2]
    cases ok <;> simp [Instr.lookup, run_underlying ht, MapKept.run_getObj_map hb, hc, hf, hz, Result.andThen]
  · have hf := MapKept.run_findKey (P := Tryz.prog) (w := w) (kt := 9) Tryz.underlying9 h1
    rw [h2]
    cases ok <;> simp [Instr.lookup, run_underlying ht, MapKept.run_getObj_map hb, hc, hf, Result.andThen]
/-- 'm[k] = v'. -/
theorem MapS.update (h : MapS w b l) {t e : TypeId} (ht : Tryz.prog.underlying t = some (.map 9 e)) (k : List UInt8) (v : Value) :
    ∃ w', (Instr.mapUpdate t (.map (some b)) (.string (bs k)) v).run Tryz.prog w = .ok () w' ∧ MapS w' b (putS l k v) ∧ w.grownBy w' (some b) ∧ w'.heap.size = w.heap.size ∧ Keeps (fun _ => True) w w' := by
  obtain ⟨es, clock, hb, hs, hp⟩ := h
  have hc : ∀ em, (Instr.checkKey em 10000 9 (.string (bs k))).run Tryz.prog w = .ok () w := fun em => MapKept.run_checkKey (d := .string) (k := .string (bs k)) Tryz.underlying9 trivial em 9999
  have hg : ∀ o, w.grownBy (setBlock w b o) (some b) := fun o => ⟨rfl, rfl, rfl, by simp [setBlock], fun i _ hi => heap_setBlock_other hb _ (fun e => hi (by rw [e]))⟩
  have hk : ∀ o, Keeps (fun _ => True) w (setBlock w b o) := fun o b' cur e' fz _ hb' => by
    have hne : b' ≠ b := by rintro rfl; rw [hb] at hb'; cases hb'
    exact (heap_setBlock_other hb _ hne).trans hb'
  rcases MapS.find k hs hp with ⟨h1, h2, h3⟩ | ⟨j, v0, e0, h1, h2, h3, h4, h5, h6⟩
  · have hf := MapKept.run_findKey (P := Tryz.prog) (w := w) (kt := 9) Tryz.underlying9 h1
    refine ⟨setBlock w b (.map (es.push ⟨.string (bs k), v, clock⟩) (clock + 1)), ?_, ⟨_, _, heap_setBlock_same hb _, MapKept.stamped_push hs h3, ?_⟩, hg _, by simp [setBlock], hk _⟩
    · simp [Instr.mapUpdate, run_underlying ht, MapKept.run_getObj_map hb, hc, hf, MapKept.run_setObj_map _ hb, Result.andThen, setBlock]
    · rw [Array.toList_push, List.map_append, hp]
      simp [putS, h2, pairs, pair]
  · have hf := MapKept.run_findKey (P := Tryz.prog) (w := w) (kt := 9) Tryz.underlying9 h1
    have hj : es[j]? = some e0 := by simpa using h3
    have hst : (Instr.keyThatStays (.string (bs k)) (.string (bs k))).run Tryz.prog w = .ok (.string (bs k)) w := MapKept.run_keyThatStays (d := .string) trivial
    have hkeyf : ∀ e', es[j]? = some e' → ({ e' with key := .string (bs k), val := v } : MapEntry).key = e'.key := fun e' he' => by rw [hj] at he'; cases he'; exact h4.symm
    refine ⟨setBlock w b (.map (es.modify j (fun e' => { e' with key := .string (bs k), val := v })) clock), ?_, ⟨_, _, heap_setBlock_same hb _, MapKept.stamped_modify hs _ _ (fun _ _ => rfl) (fun e' _ he' => hkeyf e' he'), ?_⟩, hg _, by simp [setBlock], hk _⟩
    · simp [Instr.mapUpdate, run_underlying ht, MapKept.run_getObj_map hb, hc, hf, hj, h4, hst, MapKept.run_setObj_map _ hb, Result.andThen, setBlock]
    · rw [Array.toList_modify, ChangeMaps.modify_eq_set _ _ _ _ h3, List.map_set, hp]
      have hn := pairs_keys_nodup _ _ hp hs.2.2
      simp only [putS, h2, Option.isSome_some, if_true, pairs, pair]
      apply List.ext_getElem?
      intro i
      rw [List.getElem?_set]
      by_cases hij : j = i
      · subst hij
        obtain ⟨hjl, hje⟩ := List.getElem?_eq_some_iff.1 h6
        simp [hjl, hje]
      · rw [if_neg hij]
        simp only [List.getElem?_map]
        cases hi : l[i]? with
        | none => rfl
        | some p =>
          have hne : p.1 ≠ k := by
            intro he
            obtain ⟨hjl, hje⟩ := List.getElem?_eq_some_iff.1 h6
            obtain ⟨hil, hie⟩ := List.getElem?_eq_some_iff.1 hi
            have h7 : (l.map (·.1))[j]'(by simpa using hjl) = (l.map (·.1))[i]'(by simpa using hil) := by simp [hje, hie, he]
            exact hij ((List.getElem_inj hn).1 h7)
          simp [hne]
theorem MapS.len (h : MapS w b l) (ty : TypeId) (t : TypeId) (ht : Tryz.prog.underlying t = some (.map (Tryz.prog.mapKeyOf t) (Tryz.prog.mapElemOf t))) : (Builtin.len_ #[t] ty #[.map (some b)]).run Tryz.prog w = .ok (goInt l.length) w := by
  obtain ⟨es, clock, hb, hs, hp⟩ := h
  have : l.length = es.size := by
    have := congrArg List.length hp
    simpa [pairs] using this.symm
  rw [this]
  exact run_len_map (P := Tryz.prog) (w := w) t ty b es clock ht hb
/-- 'for k, v := range m' under way: 'left' is what is still to come. -/
def RangeS (w : World) (b r : Nat) (l left : AL) : Prop :=
  ∃ es clock since seen c0, w.heap[b]? = some (.map es clock) ∧ MapKept.Stamped es clock ∧ es.toList.map pair = pairs l ∧ w.heap[r]? = some (.mapIter (some b) since seen c0) ∧ (∀ x ∈ es.toList, x.born < since) ∧ since ≤ c0 ∧ since ≤ clock ∧ (leftOf es seen).toList.map pair = pairs left
theorem RangeS.owns {r : Nat} {left : AL} (h : RangeS w b r l left) : MapS w b l := by
  obtain ⟨es, clock, since, seen, c0, hb, hs, hp, _⟩ := h
  exact ⟨es, clock, hb, hs, hp⟩
theorem RangeS.same {r : Nat} {left : AL} (h : RangeS w b r l left) (e1 : w'.heap[b]? = w.heap[b]?) (e2 : w'.heap[r]? = w.heap[r]?) : RangeS w' b r l left := by
  obtain ⟨es, clock, since, seen, c0, hb, hs, hp, hr, rest⟩ := h
  exact ⟨es, clock, since, seen, c0, e1.trans hb, hs, hp, e2.trans hr, rest⟩
theorem RangeS.lt {r : Nat} {left : AL} (h : RangeS w b r l left) : r < w.heap.size := by
  obtain ⟨es, clock, since, seen, c0, hb, hs, hp, hr, rest⟩ := h
  exact lt_of_heap hr
theorem RangeS.below {r : Nat} {left : AL} (h : RangeS w b r l left) (hb : Below w.heap.size w w') : RangeS w' b r l left := h.same (hb.block b h.owns.lt) (hb.block r h.lt)
theorem RangeS.alloc {r : Nat} {left : AL} (h : RangeS w b r l left) (o : Obj) : RangeS (w.alloc o) b r l left := h.same (Below.heap_alloc w o b h.owns.lt) (Below.heap_alloc w o r h.lt)
theorem RangeS.ne_cells {r g : Nat} {left : AL} {cs : Array Value} {t : TypeId} {fz : Nat × Nat} (h : RangeS w b r l left) (hg : w.heap[g]? = some (.cells cs t fz)) : r ≠ g := by
  obtain ⟨es, clock, since, seen, c0, hb, hs, hp, hr, rest⟩ := h
  rintro rfl
  rw [hg] at hr
  cases hr
theorem RangeS.grown {r : Nat} {left : AL} (h : RangeS w b r l left) {base : Nat} {e : TypeId} {size n : Nat} {v : Value} {xs : List Value} (ho : w.ownsRow base e size v n xs) (hg : w.grownBy w' v.ownBlock) : RangeS w' b r l left := by
  refine h.same (hg.block b h.owns.lt (h.owns.own_ne ho)) (hg.block r h.lt ?_)
  rcases ho.2 with ⟨rfl, _⟩ | ⟨g, cap, cur, rfl, _, hh, _⟩
  · simp [Value.ownBlock]
  · intro he
    have hb : r = g := by simpa [Value.ownBlock] using he
    exact h.ne_cells hh hb
end
section
variable {w : World} {ops : Array Oper} {rest : List Oper} {o : Oper} {a : Act} {Q : Exit → Act → World → Prop} {b : Nat} {l : AL}
theorem wpl_len (hg : o.guard = none) (m : Operand) (t : TypeId) (hop : o.op = Op.call { callee := Callee.builtin Builtin.len, args := #[m], argTypes := #[t] }) (ht : Tryz.prog.underlying t = some (.map (Tryz.prog.mapKeyOf t) (Tryz.prog.mapElemOf t)))
    (b : Nat) (l : AL) (h : MapS w b l) (hm : a.eval m = .map (some b))
    (hK : wpList Tryz.prog ops Q rest (a.put o.dst (goInt l.length)) w) : wpList Tryz.prog ops Q (o :: rest) a w := by
  refine wpList_plain hg fun K' hK' => ?_
  unfold Oper.wp
  simp [execOp, hop, resolve, invoke, builtin, hm, h.len o.type t ht, Result.andThen]
  exact hK' _ _ hK
set_option maxRecDepth 100000 in
theorem wpl_range (hg : o.guard = none) (m : Operand) (t : TypeId) (hop : o.op = Op.range t m) (e : TypeId) (ht : Tryz.prog.underlying t = some (.map 9 e)) (b : Nat) (l : AL) (h : MapS w b l) (hm : a.eval m = .map (some b))
    (hK : ∀ w', RangeS w' b w.heap.size l l → Below w.heap.size w w' → wpList Tryz.prog ops Q rest (a.put o.dst (.pointer (some ⟨w.heap.size, 0, none⟩))) w') : wpList Tryz.prog ops Q (o :: rest) a w := by
  refine wpList_plain hg fun K' hK' => ?_
  obtain ⟨es, clock, hb, hs, hp⟩ := h
  have hrun := run_range_map (P := Tryz.prog) w t 9 e b es clock ht hb
  unfold Oper.wp
  simp [execOp, hop, hm, hrun, Result.andThen]
  refine hK' _ _ (hK _ ⟨es, clock, clock, #[], clock, (Below.heap_alloc w _ b (lt_of_heap hb)).trans hb, hs, hp, heap_alloc_new w _, hs.1, Nat.le_refl _, Nat.le_refl _, ?_⟩ ((Below.refl _ _).alloc (Nat.le_refl _) _))
  rw [← hp]
  congr 1
  simp [leftOf]
theorem filter_seen (es : List MapEntry) (seen : Array Nat) (e : MapEntry) (pre post : List MapEntry) (hn : (es.map (·.born)).Nodup) (h : es.filter (fun x => !seen.contains x.born) = pre ++ e :: post) :
    es.filter (fun x => !(seen.push e.born).contains x.born) = pre ++ post := by
  have e1 : es.filter (fun x => !(seen.push e.born).contains x.born) = (es.filter (fun x => !seen.contains x.born)).filter (fun x => !(x.born == e.born)) := by
    rw [List.filter_filter]
    congr 1
    funext x
    have : (seen.push e.born).contains x.born = (seen.contains x.born || x.born == e.born) := by
      rw [Bool.eq_iff_iff]
      simp [or_comm]
    rw [this]
    cases seen.contains x.born <;> cases (x.born == e.born) <;> rfl
  rw [e1, h]
  have hsub : ((pre ++ e :: post).map (·.born)).Nodup := by
    rw [← h]
    exact List.Nodup.sublist (List.Sublist.map _ List.filter_sublist) hn
  simp only [List.map_append, List.map_cons] at hsub
  rw [List.nodup_append] at hsub
  obtain ⟨_, h2, h3⟩ := hsub
  rw [List.nodup_cons] at h2
  rw [List.filter_append, List.filter_cons]
  simp only [beq_self_eq_true, Bool.not_true, Bool.false_eq_true, if_false]
  rw [List.filter_eq_self.2 (fun x hx => ?_), List.filter_eq_self.2 (fun x hx => ?_)]
  · have : x.born ≠ e.born := fun he => h2.1 (by rw [← he]; exact List.mem_map_of_mem (f := fun z : MapEntry => z.born) hx)
    simpa using this
  · have : x.born ≠ e.born := fun he => h3 _ (List.mem_map_of_mem (f := fun z : MapEntry => z.born) hx) _ (List.mem_cons_self) he
    simpa using this
set_option maxRecDepth 100000 in
theorem wpl_next (hg : o.guard = none) (it : Operand) (hop : o.op = Op.next it false) (b r : Nat) (l left : AL) (hit : a.eval it = .pointer (some ⟨r, 0, none⟩)) (h : RangeS w b r l left)
    (hDone : left = [] → wpList Tryz.prog ops Q rest (a.put o.dst (.tuple #[.bool false])) w)
    (hMore : ∀ (pre : AL) (k : List UInt8) (v : Value) (post : AL) (w' : World), left = pre ++ (k, v) :: post → RangeS w' b r l (pre ++ post) → w.grownBy w' (some r) → w'.heap.size = w.heap.size → Keeps (fun _ => True) w w' →
      (Instr.entry (.pointer (some ⟨r, 0, none⟩))).run Tryz.prog w' = .ok (.tuple #[.string (bs k), v]) w' → wpList Tryz.prog ops Q rest (a.put o.dst (.tuple #[.bool true, .string (bs k), v])) w') :
    wpList Tryz.prog ops Q (o :: rest) a w := by
  refine wpList_plain hg fun K' hK' => ?_
  unfold Oper.wp
  obtain ⟨es, clock, since, seen, c0, hb, hs, hp, hr, hold, hsc, hcl, hl⟩ := h
  rcases run_next_at (P := Tryz.prog) w o.type r b since c0 seen es clock hr hb hold hsc with ⟨h0, hrun⟩ | ⟨e, he, w1, hal, hrun⟩
  · simp [execOp, hop, hit, hrun, Result.andThen]
    refine hK' _ _ (hDone ?_)
    have : pairs left = [] := by
      rw [← hl]
      have : leftOf es seen = #[] := Array.eq_empty_of_size_eq_zero h0
      rw [this]; rfl
    cases left with
    | nil => rfl
    | cons p t => simp [pairs] at this
  · obtain ⟨pre, post, hsplit⟩ := List.append_of_mem he
    have hl' := hl
    rw [hsplit, List.map_append, List.map_cons] at hl'
    unfold pairs at hl'
    obtain ⟨lp, lr, rfl, e1, e2⟩ := List.map_eq_append_iff.1 hl'.symm
    obtain ⟨⟨k, v⟩, lq, rfl, e3, e4⟩ := List.map_eq_cons_iff.1 e2
    have hk : e.key = .string (bs k) := (congrArg Prod.fst e3).symm
    have hv : e.val = v := (congrArg Prod.snd e3).symm
    have hne : b ≠ r := by rintro rfl; rw [hb] at hr; cases hr
    have hr1 : w1.heap[r]? = some (.mapIter (some b) since seen c0) := by rcases hal with rfl | rfl <;> exact hr
    have hb1 : w1.heap[b]? = some (.map es clock) := by rcases hal with rfl | rfl <;> exact hb
    have hsame : (setBlock w1 r (.mapIter (some b) since (seen.push e.born) clock)).heap[r]? = some (.mapIter (some b) since (seen.push e.born) clock) := (MapKept.heap_set hr1).1
    have hoth : ∀ i : Nat, i ≠ r → (setBlock w1 r (.mapIter (some b) since (seen.push e.born) clock)).heap[i]? = w1.heap[i]? := fun i hi => (MapKept.heap_set hr1).2 i hi
    have hw1 : ∀ i : Nat, w1.heap[i]? = w.heap[i]? := by rcases hal with rfl | rfl <;> exact fun _ => rfl
    have hmem := mem_left he
    have hsz : (setBlock w1 r (.mapIter (some b) since (seen.push e.born) clock)).heap.size = w.heap.size := by rcases hal with rfl | rfl <;> simp only [setBlock, Array.size_setIfInBounds] <;> rfl
    simp [execOp, hop, hit, hrun, Result.andThen]
    rw [hk, hv]
    refine hK' _ _ (hMore lp k v lq _ rfl ⟨es, clock, since, seen.push e.born, clock, (hoth b hne).trans hb1, hs, hp, hsame, hold, hcl, hcl, ?_⟩ ⟨?_, ?_, ?_, by rw [hsz]; exact Nat.le_refl _, fun i _ hi => (hoth i (fun e => hi (by rw [e]))).trans (hw1 i)⟩ hsz ?_ ?_)
    · have hf := filter_seen es.toList seen e pre post hs.2.1 (by simpa [leftOf] using hsplit)
      have : (leftOf es (seen.push e.born)).toList = pre ++ post := by simpa [leftOf] using hf
      rw [this, List.map_append]
      unfold pairs
      rw [List.map_append, e1, e4]
    · rcases hal with rfl | rfl <;> rfl
    · rcases hal with rfl | rfl <;> rfl
    · rcases hal with rfl | rfl <;> rfl
    · intro b' cur e' fz _ hb'
      have hne' : b' ≠ r := by rintro rfl; rw [hr] at hb'; cases hb'
      exact ((hoth b' hne').trans (hw1 b')).trans hb'
    · have := run_entry_at (P := Tryz.prog) (setBlock w1 r (.mapIter (some b) since (seen.push e.born) clock)) r b since seen es clock e hsame ((hoth b hne).trans hb1) hmem.1 hs.2.1
      rw [hk, hv] at this
      exact this
end
end Go.Proofs.YtpgookhdffklkaaGreatDoor
