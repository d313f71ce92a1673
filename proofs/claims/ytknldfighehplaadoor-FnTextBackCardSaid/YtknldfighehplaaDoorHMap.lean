/- Maps as lists of keys and elements: what a look-up, a store, a delete, the length tell and leave; no conditions beyond the key's type. -/
import Derived.WalkKit
import Derived.Maps.Own
import Derived.Maps.OwnOps
import Derived.Maps.OwnSet
import Derived.Maps.RangeWalk
namespace Go.Proofs.YtknldfighehplaaDoor.HMap
set_option linter.unusedSimpArgs false
set_option linter.unusedVariables false
set_option linter.unusedSectionVars false
open Go.RowKit

section lists
variable {α β : Type} [DecidableEq α]
/-- What a list of entries has at a key. -/
def lk : List (α × β) → α → Option β
  | [], _ => none
  | (a, b) :: l, k => if k = a then some b else lk l k
/-- The entries with an element stored at a key. -/
def put : List (α × β) → α → β → List (α × β)
  | [], k, v => [(k, v)]
  | (a, b) :: l, k, v => if k = a then (a, v) :: l else (a, b) :: put l k v
/-- The entries without a key. -/
def del : List (α × β) → α → List (α × β)
  | [], _ => []
  | (a, b) :: l, k => if k = a then l else (a, b) :: del l k
def keys (l : List (α × β)) : List α := l.map (·.1)

theorem lk_none {l : List (α × β)} {k : α} : lk l k = none ↔ k ∉ keys l := by
  induction l with
  | nil => simp [lk, keys]
  | cons p l ih =>
    obtain ⟨a, b⟩ := p
    by_cases h : k = a <;> simp [lk, keys, h] at ih ⊢ <;> try exact ih
theorem keys_put_mem (l : List (α × β)) (k : α) (v : β) (a : α) : a ∈ keys (put l k v) ↔ a = k ∨ a ∈ keys l := by
  induction l with
  | nil => simp [put, keys]
  | cons p l ih =>
    obtain ⟨x, y⟩ := p
    by_cases h : k = x
    · subst h; simp [put, keys]
    · simp only [put, if_neg h, keys, List.map_cons, List.mem_cons] at ih ⊢
      rw [ih]
      constructor
      · rintro (h1 | h1 | h1) <;> simp [h1]
      · rintro (h1 | h1 | h1) <;> simp [h1]
theorem nodup_put {l : List (α × β)} (h : (keys l).Nodup) (k : α) (v : β) : (keys (put l k v)).Nodup := by
  induction l with
  | nil => simp [put, keys]
  | cons p l ih =>
    obtain ⟨x, y⟩ := p
    simp only [keys, List.map_cons, List.nodup_cons] at h
    by_cases hk : k = x
    · subst hk; simpa [put, keys] using h
    · simp only [put, if_neg hk]
      show (x :: keys (put l k v)).Nodup
      rw [List.nodup_cons]
      refine ⟨fun hm => ?_, ih h.2⟩
      rcases (keys_put_mem l k v x).1 hm with h1 | h1
      · exact hk h1.symm
      · exact h.1 h1
theorem lk_put (l : List (α × β)) (k : α) (v : β) (a : α) : lk (put l k v) a = if a = k then some v else lk l a := by
  induction l with
  | nil => simp [put, lk]
  | cons p l ih =>
    obtain ⟨x, y⟩ := p
    by_cases h : k = x
    · subst h
      by_cases ha : a = k <;> simp [put, lk, ha]
    · simp only [put, if_neg h, lk]
      rw [ih]
      by_cases hx : a = x
      · subst hx
        rw [if_pos rfl, if_pos rfl, if_neg (fun e => h e.symm)]
      · rw [if_neg hx, if_neg hx]
theorem keys_del_mem {l : List (α × β)} (h : (keys l).Nodup) (k a : α) : a ∈ keys (del l k) ↔ a ≠ k ∧ a ∈ keys l := by
  induction l with
  | nil => simp [del, keys]
  | cons p l ih =>
    obtain ⟨x, y⟩ := p
    simp only [keys, List.map_cons, List.nodup_cons] at h
    by_cases hk : k = x
    · subst hk
      simp only [del, if_true, keys, List.map_cons, List.mem_cons]
      constructor
      · intro hm
        exact ⟨fun e => h.1 (e ▸ hm), .inr hm⟩
      · rintro ⟨h1, h2 | h2⟩
        · exact absurd h2 h1
        · exact h2
    · simp only [del, if_neg hk, keys, List.map_cons, List.mem_cons]
      have := ih h.2
      simp only [keys] at this
      rw [this]
      constructor
      · rintro (h1 | h1)
        · exact ⟨fun e => hk (e ▸ h1), .inl h1⟩
        · exact ⟨h1.1, .inr h1.2⟩
      · rintro ⟨h1, h2 | h2⟩
        · exact .inl h2
        · exact .inr ⟨h1, h2⟩
theorem nodup_del {l : List (α × β)} (h : (keys l).Nodup) (k : α) : (keys (del l k)).Nodup := by
  induction l with
  | nil => simp [del, keys]
  | cons p l ih =>
    obtain ⟨x, y⟩ := p
    have h' := h
    simp only [keys, List.map_cons, List.nodup_cons] at h
    by_cases hk : k = x
    · subst hk; simpa [del, keys] using h.2
    · simp only [del, if_neg hk]
      show (x :: keys (del l k)).Nodup
      rw [List.nodup_cons]
      exact ⟨fun hm => h.1 ((keys_del_mem h.2 k x).1 hm).2, ih h.2⟩
theorem lk_del {l : List (α × β)} (h : (keys l).Nodup) (k a : α) : lk (del l k) a = if a = k then none else lk l a := by
  induction l with
  | nil => simp [del, lk]
  | cons p l ih =>
    obtain ⟨x, y⟩ := p
    simp only [keys, List.map_cons, List.nodup_cons] at h
    by_cases hk : k = x
    · subst hk
      simp only [del, if_true, lk]
      by_cases ha : a = k
      · subst ha; simpa using lk_none.2 h.1
      · simp [ha]
    · simp only [del, if_neg hk, lk]
      rw [ih h.2]
      by_cases hx : a = x
      · subst hx
        rw [if_pos rfl, if_pos rfl, if_neg (fun e => hk e.symm)]
      · rw [if_neg hx, if_neg hx]
theorem length_put (l : List (α × β)) (k : α) (v : β) : (put l k v).length ≤ l.length + 1 := by
  induction l with
  | nil => simp [put]
  | cons p l ih =>
    obtain ⟨x, y⟩ := p
    by_cases h : k = x <;> simp [put, h]
    omega
end lists

/-- How keys are written, and that the model tells them apart at once. -/
structure KeyEnc {α : Type} [DecidableEq α] (P : Program) (K : TypeId) (ke : α → Value) : Prop where
  under : ∃ d, P.underlying K = some d ∧ ∀ a b, Instr.sameNow d (ke a) (ke b) = some (decide (a = b))
  same : ∀ a, Instr.sameBits 10000 (ke a) (ke a) = true
  check : ∀ e w a, (Instr.checkKey e 10000 K (ke a)).run P w = .ok () w

section
variable {α β : Type} [DecidableEq α] {P : Program} {K E : TypeId} {ke : α → Value} {ve : β → Value}

/-- Block r holds a map with just these entries, in the order in which they came, no key twice. -/
def MapIs (ke : α → Value) (ve : β → Value) (w : World) (r : Nat) (l : List (α × β)) : Prop :=
  ∃ (es : Array MapEntry) (clock : Nat), w.heap[r]? = some (.map es clock) ∧ es.toList.map (fun e => (e.key, e.val)) = l.map (fun p => (ke p.1, ve p.2)) ∧ (keys l).Nodup ∧
    (es.toList.map (·.born)).Nodup ∧ ∀ e ∈ es.toList, e.born < clock

theorem MapIs.lt {w : World} {r : Nat} {l : List (α × β)} (h : MapIs ke ve w r l) : r < w.heap.size := by
  obtain ⟨es, c, hr, _⟩ := h
  exact (Array.getElem?_eq_some_iff.1 hr).1
theorem MapIs.nodup {w : World} {r : Nat} {l : List (α × β)} (h : MapIs ke ve w r l) : (keys l).Nodup := by
  obtain ⟨es, c, hr, h1, h2, _⟩ := h
  exact h2
theorem MapIs.same {w w' : World} {r : Nat} {l : List (α × β)} (h : MapIs ke ve w r l) (hw : w'.heap[r]? = w.heap[r]?) : MapIs ke ve w' r l := by
  obtain ⟨es, c, hr, h1⟩ := h
  exact ⟨es, c, hw.trans hr, h1⟩
theorem MapIs.below {w w' : World} {r : Nat} {l : List (α × β)} (h : MapIs ke ve w r l) (hb : Below w.heap.size w w') : MapIs ke ve w' r l := h.same (hb.block r h.lt)
theorem MapIs.grown {w w' : World} {r : Nat} {l : List (α × β)} {row : Option Nat} (h : MapIs ke ve w r l) (hg : w.grownBy w' row) (hne : some r ≠ row) : MapIs ke ve w' r l := h.same (hg.block r h.lt hne)
theorem MapIs.new (w : World) : MapIs ke ve (w.alloc (.map #[] 0)) w.heap.size [] :=
  ⟨#[], 0, (MapKept.heap_alloc w _).1, by simp, by simp [keys], by simp, by simp⟩

/-- Where a key lies. -/
def pos : List (α × β) → α → Nat
  | [], _ => 0
  | (a, _) :: l, k => if k = a then 0 else pos l k + 1

theorem findNow_is {d : TypeDesc} (hs : ∀ a b, Instr.sameNow d (ke a) (ke b) = some (decide (a = b))) (k : α) :
    ∀ (es : List MapEntry) (l : List (α × β)) (i : Nat), es.map (fun e => (e.key, e.val)) = l.map (fun p => (ke p.1, ve p.2)) →
      Instr.findNow d (ke k) es i = some ((lk l k).map fun v => (i + pos l k, ve v)) := by
  intro es
  induction es with
  | nil =>
    intro l i h
    cases l with
    | nil => rfl
    | cons p l => simp at h
  | cons e es ih =>
    intro l i h
    cases l with
    | nil => simp at h
    | cons p l =>
      obtain ⟨a, b⟩ := p
      simp only [List.map_cons, List.cons.injEq, Prod.mk.injEq] at h
      obtain ⟨⟨h1, h2⟩, h3⟩ := h
      simp only [Instr.findNow, h1, hs]
      by_cases hk : k = a
      · simp [hk, lk, pos, h2]
      · simp only [hk, decide_false, lk, pos, if_false]
        rw [ih l (i + 1) h3]
        cases lk l k <;> simp; omega

theorem run_findKey (E : KeyEnc P K ke) (k : α) {es : List MapEntry} {l : List (α × β)} (h : es.map (fun e => (e.key, e.val)) = l.map (fun p => (ke p.1, ve p.2))) (w : World) :
    (Instr.findKey K (ke k) es).run P w = .ok ((lk l k).map fun v => (pos l k, ve v)) w := by
  obtain ⟨d, hd, hs⟩ := E.under
  have hf := findNow_is (ve := ve) hs k es l 0 h
  simp only [Nat.zero_add] at hf
  unfold Instr.findKey
  simp [run_underlying hd, hf, Result.andThen]

/-- 'v, ok := m[k]' and 'm[k]'. -/
theorem run_lookup (e : KeyEnc P K ke) {T : TypeId} (hT : P.underlying T = some (.map K E)) {z : Value} {w : World} (hz : (zeroValue E).run P w = .ok z w) {r : Nat} {l : List (α × β)} (h : MapIs ke ve w r l) (k : α) (c : Bool) :
    (Instr.lookup T (.map (some r)) (ke k) c).run P w = .ok (if c then .tuple #[((lk l k).map ve).getD z, .bool (lk l k).isSome] else ((lk l k).map ve).getD z) w := by
  obtain ⟨es, clock, hr, hm, _⟩ := h
  unfold Instr.lookup
  have hf := run_findKey e k hm w
  cases hk : lk l k with
  | none =>
    rw [hk] at hf
    cases c <;> simp [run_underlying hT, getObj, hr, e.check, hf, hz, Result.andThen, Sem.run]
  | some v =>
    rw [hk] at hf
    cases c <;> simp [run_underlying hT, getObj, hr, e.check, hf, Result.andThen, Sem.run]

theorem pos_lt {l : List (α × β)} {k : α} {v : β} (h : lk l k = some v) : pos l k < l.length := by
  induction l with
  | nil => simp [lk] at h
  | cons p l ih =>
    obtain ⟨a, b⟩ := p
    by_cases hk : k = a
    · simp [pos, hk]
    · simp only [lk, if_neg hk] at h
      have := ih h
      simp [pos, hk]; omega
theorem put_modify {l : List (α × β)} {k : α} {v0 : β} (h : lk l k = some v0) (v : β) : (put l k v).map (fun p => (ke p.1, ve p.2)) = (l.map (fun p => (ke p.1, ve p.2))).modify (pos l k) (fun q => (q.1, ve v)) := by
  induction l with
  | nil => simp [lk] at h
  | cons p l ih =>
    obtain ⟨a, b⟩ := p
    by_cases hk : k = a
    · simp [put, pos, hk]
    · simp only [lk, if_neg hk] at h
      simp [put, pos, hk, ih h]
theorem at_pos {l : List (α × β)} {k : α} {v : β} (h : lk l k = some v) : l[pos l k]? = some (k, v) := by
  induction l with
  | nil => simp [lk] at h
  | cons p l ih =>
    obtain ⟨a, b⟩ := p
    by_cases hk : k = a
    · subst hk
      simp only [lk, if_true, Option.some.injEq] at h
      simp [pos, h]
    · simp only [lk, if_neg hk] at h
      simpa [pos, hk] using ih h
theorem put_new {l : List (α × β)} {k : α} (h : lk l k = none) (v : β) : put l k v = l ++ [(k, v)] := by
  induction l with
  | nil => rfl
  | cons p l ih =>
    obtain ⟨a, b⟩ := p
    by_cases hk : k = a
    · simp [lk, hk] at h
    · simp only [lk, if_neg hk] at h
      simp [put, hk, ih h]
theorem del_erase {l : List (α × β)} {k : α} {v : β} (h : lk l k = some v) : del l k = l.eraseIdx (pos l k) := by
  induction l with
  | nil => simp [lk] at h
  | cons p l ih =>
    obtain ⟨a, b⟩ := p
    by_cases hk : k = a
    · simp [del, pos, hk]
    · simp only [lk, if_neg hk] at h
      simp [del, pos, hk, ih h]
theorem del_none {l : List (α × β)} {k : α} (h : lk l k = none) : del l k = l := by
  induction l with
  | nil => rfl
  | cons p l ih =>
    obtain ⟨a, b⟩ := p
    by_cases hk : k = a
    · simp [lk, hk] at h
    · simp only [lk, if_neg hk] at h
      simp [del, hk, ih h]
theorem map_erase {γ δ : Type} (f : γ → δ) : ∀ (l : List γ) (j : Nat), (l.eraseIdx j).map f = (l.map f).eraseIdx j
  | [], _ => by simp
  | _ :: _, 0 => by simp
  | a :: l, j + 1 => by simp [map_erase f l j]
theorem set_grown (w : World) (r : Nat) (o : Obj) : w.grownBy { w with heap := w.heap.setIfInBounds r o } (some r) := by
  refine ⟨rfl, rfl, rfl, by simp, fun k hk hne => ?_⟩
  have : r ≠ k := fun e => hne (by rw [e])
  simp [this]

/-- 'm[k] = v'. -/
theorem run_update (e : KeyEnc P K ke) {T : TypeId} (hT : P.underlying T = some (.map K E)) {w : World} {r : Nat} {l : List (α × β)} (h : MapIs ke ve w r l) (k : α) (v : β) :
    ∃ w', (Instr.mapUpdate T (.map (some r)) (ke k) (ve v)).run P w = .ok () w' ∧ MapIs ke ve w' r (put l k v) ∧ w.grownBy w' (some r) := by
  have hlt := h.lt
  obtain ⟨es, clock, hr, hm, hn, hb, hc⟩ := h
  have hf := run_findKey e k hm w
  unfold Instr.mapUpdate
  cases hk : lk l k with
  | none =>
    rw [hk] at hf
    refine ⟨{ w with heap := w.heap.setIfInBounds r (.map (es.push { key := ke k, val := ve v, born := clock }) (clock + 1)) }, ?_, ?_, set_grown _ _ _⟩
    · simp [run_underlying hT, MapKept.run_getObj_map hr, e.check, hf, MapKept.run_setObj_map _ hr, Result.andThen]
    · refine ⟨es.push { key := ke k, val := ve v, born := clock }, clock + 1, by simp [hlt], ?_, nodup_put hn k v, ?_, ?_⟩
      · rw [put_new hk]; simp [hm]
      · simp only [Array.toList_push, List.map_append, List.map_cons, List.map_nil]
        rw [List.nodup_append]
        refine ⟨hb, by simp, ?_⟩
        intro a ha b hb' heq
        simp only [List.mem_singleton] at hb'
        obtain ⟨x, hx, rfl⟩ := List.mem_map.1 ha
        have := hc x hx
        omega
      · intro x hx
        simp only [Array.toList_push, List.mem_append, List.mem_singleton] at hx
        rcases hx with hx | rfl
        · exact Nat.lt_succ_of_lt (hc x hx)
        · simp
  | some v0 =>
    rw [hk] at hf
    have hp := at_pos hk
    have hkey : ((es[pos l k]?).map (·.key)).getD (ke k) = ke k := by
      have h1 : (es.toList.map (fun e => (e.key, e.val)))[pos l k]? = some (ke k, ve v0) := by rw [hm]; simp [hp]
      simp only [List.getElem?_map, Array.getElem?_toList] at h1
      cases hx : es[pos l k]? with
      | none => rfl
      | some x => rw [hx] at h1; simp at h1; simp [h1.1]
    refine ⟨{ w with heap := w.heap.setIfInBounds r (.map (es.modify (pos l k) fun x => { x with key := ke k, val := ve v }) clock) }, ?_, ?_, set_grown _ _ _⟩
    · simp [run_underlying hT, MapKept.run_getObj_map hr, e.check, hf, hkey, Instr.keyThatStays, e.same, MapKept.run_setObj_map _ hr, Result.andThen]
    · refine ⟨es.modify (pos l k) (fun x => { x with key := ke k, val := ve v }), clock, by simp [hlt], ?_, nodup_put hn k v, ?_, ?_⟩
      · rw [put_modify hk, ← hm]
        apply List.ext_getElem?
        intro i
        simp only [List.getElem?_map, List.getElem?_modify, Array.toList_modify]
        by_cases hi : pos l k = i
        · subst hi
          have h1 : (es.toList.map (fun e => (e.key, e.val)))[pos l k]? = some (ke k, ve v0) := by rw [hm]; simp [hp]
          simp only [List.getElem?_map] at h1
          cases hx : es.toList[pos l k]? with
          | none => simp
          | some x => rw [hx] at h1; simp at h1; simp [h1.1]
        · simp [hi]
      · have : (es.modify (pos l k) (fun x => { x with key := ke k, val := ve v })).toList.map (·.born) = es.toList.map (·.born) := by
          apply List.ext_getElem?
          intro i
          simp only [List.getElem?_map, List.getElem?_modify, Array.toList_modify]
          cases es.toList[i]? <;> simp
          split <;> simp
        rw [this]; exact hb
      · intro x hx
        rcases MapFrom.mem_modify hx with hx | ⟨e', he', rfl⟩
        · exact hc x hx
        · exact hc e' (List.mem_of_getElem? (by simpa using he'))

/-- 'len(m)'. -/
theorem run_len {T : TypeId} (hT : P.underlying T = some (.map K E)) {w : World} {r : Nat} {l : List (α × β)} (h : MapIs ke ve w r l) (t : TypeId) :
    (Builtin.len_ #[T] t #[.map (some r)]).run P w = .ok (.int .i64 l.length) w := by
  obtain ⟨es, clock, hr, hm, _⟩ := h
  have hl : es.size = l.length := by have := congrArg List.length hm; simpa using this
  simp [Builtin.len_, run_underlying hT, MapKept.run_getObj_map hr, Result.andThen, goInt, hl]

/-- 'delete(m, k)'. -/
theorem run_delete (e : KeyEnc P K ke) {T : TypeId} (hT : P.underlying T = some (.map K E)) {w : World} {r : Nat} {l : List (α × β)} (h : MapIs ke ve w r l) (k : α) (t1 t : TypeId) :
    ∃ w', (Builtin.delete_ #[T, t1] t #[.map (some r), ke k]).run P w = .ok (.tuple #[]) w' ∧ MapIs ke ve w' r (del l k) ∧ w.grownBy w' (some r) := by
  have hlt := h.lt
  obtain ⟨es, clock, hr, hm, hn, hb, hc⟩ := h
  have hf := run_findKey e k hm w
  unfold Builtin.delete_
  cases hk : lk l k with
  | none =>
    rw [hk] at hf
    refine ⟨{ w with heap := w.heap.setIfInBounds r (.map es clock) }, ?_, ?_, set_grown _ _ _⟩
    · simp [run_underlying hT, MapKept.run_getObj_map hr, e.check, hf, MapKept.run_setObj_map _ hr, Result.andThen]
    · rw [del_none hk]
      exact ⟨es, clock, by simp [hlt], hm, hn, hb, hc⟩
  | some v0 =>
    rw [hk] at hf
    refine ⟨{ w with heap := w.heap.setIfInBounds r (.map (es.eraseIdxIfInBounds (pos l k)) clock) }, ?_, ?_, set_grown _ _ _⟩
    · simp [run_underlying hT, MapKept.run_getObj_map hr, e.check, hf, MapKept.run_setObj_map _ hr, Result.andThen]
    · have hp := pos_lt hk
      have hl : es.size = l.length := by have := congrArg List.length hm; simpa using this
      have he : (es.eraseIdxIfInBounds (pos l k)).toList = es.toList.eraseIdx (pos l k) := by
        simp [Array.eraseIdxIfInBounds, hl, hp]
      refine ⟨es.eraseIdxIfInBounds (pos l k), clock, by simp [hlt], ?_, nodup_del hn k, ?_, ?_⟩
      · rw [he, del_erase hk, map_erase, map_erase, hm]
      · rw [he]
        exact (List.Sublist.map _ (List.eraseIdx_sublist _ _)).nodup hb
      · intro x hx
        rw [he] at hx
        exact hc x (List.mem_of_mem_eraseIdx hx)

/-- Block q holds an iterator over the map in block r, which has just these entries; those of 'rest' are still to come. -/
def IterIs (ke : α → Value) (ve : β → Value) (w : World) (q r : Nat) (l rest : List (α × β)) : Prop :=
  ∃ (es : Array MapEntry) (clock : Nat) (seen : Array Nat), w.heap[r]? = some (.map es clock) ∧ w.heap[q]? = some (.mapIter (some r) clock seen clock) ∧
    es.toList.map (fun e => (e.key, e.val)) = l.map (fun p => (ke p.1, ve p.2)) ∧ (keys l).Nodup ∧ (es.toList.map (·.born)).Nodup ∧ (∀ e ∈ es.toList, e.born < clock) ∧
    (es.toList.filter fun e => !seen.contains e.born).map (fun e => (e.key, e.val)) = rest.map (fun p => (ke p.1, ve p.2))

theorem IterIs.map {w : World} {q r : Nat} {l rest : List (α × β)} (h : IterIs ke ve w q r l rest) : MapIs ke ve w r l := by
  obtain ⟨es, clock, seen, hr, hq, h1, h2, h3, h4, _⟩ := h
  exact ⟨es, clock, hr, h1, h2, h3, h4⟩
theorem IterIs.ne {w : World} {q r : Nat} {l rest : List (α × β)} (h : IterIs ke ve w q r l rest) : q ≠ r := by
  obtain ⟨es, clock, seen, hr, hq, _⟩ := h
  rintro rfl
  rw [hr] at hq
  cases hq
theorem IterIs.lt {w : World} {q r : Nat} {l rest : List (α × β)} (h : IterIs ke ve w q r l rest) : q < w.heap.size := by
  obtain ⟨es, clock, seen, hr, hq, _⟩ := h
  exact (Array.getElem?_eq_some_iff.1 hq).1
theorem IterIs.same {w w' : World} {q r : Nat} {l rest : List (α × β)} (h : IterIs ke ve w q r l rest) (hq : w'.heap[q]? = w.heap[q]?) (hr : w'.heap[r]? = w.heap[r]?) : IterIs ke ve w' q r l rest := by
  obtain ⟨es, clock, seen, h1, h2, h3⟩ := h
  exact ⟨es, clock, seen, hr.trans h1, hq.trans h2, h3⟩
theorem IterIs.below {w w' : World} {q r : Nat} {l rest : List (α × β)} (h : IterIs ke ve w q r l rest) (hb : Below w.heap.size w w') : IterIs ke ve w' q r l rest :=
  h.same (hb.block q h.lt) (hb.block r h.map.lt)
theorem IterIs.grown {w w' : World} {q r : Nat} {l rest : List (α × β)} {row : Option Nat} (h : IterIs ke ve w q r l rest) (hg : w.grownBy w' row) (h1 : some q ≠ row) (h2 : some r ≠ row) : IterIs ke ve w' q r l rest :=
  h.same (hg.block q h.lt h1) (hg.block r h.map.lt h2)

/-- 'range m': a new iterator, all entries to come. -/
theorem run_range {T : TypeId} (hT : P.underlying T = some (.map K E)) {w : World} {r : Nat} {l : List (α × β)} (h : MapIs ke ve w r l) :
    ∃ o, (Instr.range T (.map (some r))).run P w = .ok (.pointer (some ⟨w.heap.size, 0, none⟩)) (w.alloc o) ∧ IterIs ke ve (w.alloc o) w.heap.size r l l := by
  have hlt := h.lt
  obtain ⟨es, clock, hr, hm, hn, hb, hc⟩ := h
  refine ⟨.mapIter (some r) clock #[] clock, ?_, es, clock, #[], ?_, (MapKept.heap_alloc w _).1, hm, hn, hb, hc, ?_⟩
  · simp [Instr.range, run_underlying hT, MapKept.run_getObj_map hr, Result.andThen, newObj, Sem.run, World.alloc_eq]
  · rw [heap_alloc_old w _ hlt]; exact hr
  · have : (es.toList.filter fun e => !(#[] : Array Nat).contains e.born) = es.toList := by simp
    rw [this, hm]

theorem filter_split {γ δ : Type} {f : γ → δ} {p : γ → Bool} {g : γ → Nat} : ∀ {es : List γ} {rest : List δ}, (es.filter p).map f = rest → (es.map g).Nodup → ∀ {e : γ}, e ∈ es → p e = true →
    ∃ r1 r2, rest = r1 ++ f e :: r2 ∧ ((es.filter fun x => p x && !(g x == g e)).map f) = r1 ++ r2 := by
  intro es
  induction es with
  | nil => intro rest h hn e he; cases he
  | cons x es ih =>
    intro rest h hn e he hp
    simp only [List.map_cons, List.nodup_cons] at hn
    by_cases hx : x = e
    · subst hx
      simp only [List.filter_cons, hp, if_true, List.map_cons] at h
      refine ⟨[], (es.filter p).map f, by simpa using h.symm, ?_⟩
      simp only [List.filter_cons, hp, beq_self_eq_true, Bool.not_true, Bool.and_false, Bool.false_eq_true, if_false, List.nil_append]
      congr 1
      refine List.filter_congr fun y hy => ?_
      have : g y ≠ g x := fun e1 => hn.1 (List.mem_map.2 ⟨y, hy, e1⟩)
      simp [this]
    · have he' : e ∈ es := by rcases List.mem_cons.1 he with h1 | h1; · exact absurd h1.symm hx
                              · exact h1
      have hg : g x ≠ g e := fun e1 => hn.1 (List.mem_map.2 ⟨e, he', e1.symm⟩)
      by_cases hpx : p x = true
      · simp only [List.filter_cons, hpx, if_true, List.map_cons] at h
        subst h
        obtain ⟨r1, r2, h1, h2⟩ := ih rfl hn.2 he' hp
        refine ⟨f x :: r1, r2, by rw [h1]; rfl, ?_⟩
        simp only [List.filter_cons, hpx, Bool.true_and, hg, beq_iff_eq, Bool.not_eq_true', beq_eq_false_iff_ne, ne_eq, not_false_eq_true, if_true, List.map_cons]
        simp only [List.cons_append, List.cons.injEq, true_and]
        rw [← h2]
      · have hpf : p x = false := by simpa using hpx
        simp only [List.filter_cons, hpf, Bool.false_eq_true, if_false] at h
        obtain ⟨r1, r2, h1, h2⟩ := ih h hn.2 he' hp
        refine ⟨r1, r2, h1, ?_⟩
        simp only [List.filter_cons, hpf, Bool.false_and, Bool.false_eq_true, if_false]
        exact h2

/-- A step of the iterator: nothing is left, and the world stands; or one of those that are left comes, whichever. -/
theorem IterIs.next {w : World} {q r : Nat} {l rest : List (α × β)} (h : IterIs ke ve w q r l rest) (ty : TypeId) :
    (rest = [] ∧ (Instr.next (.pointer (some ⟨q, 0, none⟩)) false ty).run P w = .ok (.tuple #[.bool false]) w) ∨
    ∃ k v r1 r2 w', rest = r1 ++ (k, v) :: r2 ∧ (Instr.next (.pointer (some ⟨q, 0, none⟩)) false ty).run P w = .ok (.tuple #[.bool true, ke k, ve v]) w' ∧ IterIs ke ve w' q r l (r1 ++ r2) ∧
      w.grownBy w' (some q) ∧ w'.heap.size = w.heap.size ∧ (Instr.entry (.pointer (some ⟨q, 0, none⟩))).run P w' = .ok (.tuple #[ke k, ve v]) w' := by
  have hne := h.ne
  obtain ⟨es, clock, seen, hr, hq, hm, hn, hb, hc, hl⟩ := h
  have hleft : (leftOf es seen).toList = es.toList.filter fun e => !seen.contains e.born := by simp [leftOf]
  rcases run_next_at (P := P) w ty q r clock clock seen es clock hq hr hc (Nat.le_refl _) with ⟨h0, hrun⟩ | ⟨e, he, w1, hal, hrun⟩
  · left
    refine ⟨?_, hrun⟩
    have : (leftOf es seen).toList = [] := List.eq_nil_of_length_eq_zero (by simpa using h0)
    rw [hleft] at this
    rw [this] at hl
    simpa using hl.symm
  · right
    rw [hleft] at he
    obtain ⟨hem, hes⟩ := List.mem_filter.1 he
    obtain ⟨r1, r2, h1, h2⟩ := filter_split (g := (·.born)) hl hb hem hes
    obtain ⟨s1, s2, rfl, e1, e2⟩ := List.map_eq_append_iff.1 h1
    obtain ⟨p, s3, rfl, e3, e4⟩ := List.map_eq_cons_iff.1 e2
    obtain ⟨k, v⟩ := p
    simp only [Prod.mk.injEq] at e3
    have hq1 : w1.heap[q]? = some (.mapIter (some r) clock seen clock) := by rcases hal with rfl | rfl <;> exact hq
    have hr1 : w1.heap[r]? = some (.map es clock) := by rcases hal with rfl | rfl <;> exact hr
    have hqlt : q < w1.heap.size := (Array.getElem?_eq_some_iff.1 hq1).1
    have hset : ({ w1 with heap := w1.heap.setIfInBounds q (.mapIter (some r) clock (seen.push e.born) clock) } : World).heap[q]? = some (.mapIter (some r) clock (seen.push e.born) clock) := by simp [hqlt]
    have hoth : ({ w1 with heap := w1.heap.setIfInBounds q (.mapIter (some r) clock (seen.push e.born) clock) } : World).heap[r]? = some (.map es clock) := by simp [hne, hr1]
    refine ⟨k, v, s1, s3, { w1 with heap := w1.heap.setIfInBounds q (.mapIter (some r) clock (seen.push e.born) clock) }, rfl, ?_, ?_, ?_, ?_, ?_⟩
    · rw [e3.1, e3.2]; exact hrun
    · refine ⟨es, clock, seen.push e.born, hoth, hset, hm, hn, hb, hc, ?_⟩
      rw [List.map_append, e1, e4, ← h2]
      congr 1
      refine List.filter_congr fun x hx => ?_
      rw [contains_push]
      cases seen.contains x.born <;> cases (x.born == e.born) <;> rfl
    · rcases hal with rfl | rfl <;> exact ⟨rfl, rfl, rfl, by simp, fun i _ hi => by
        have : q ≠ i := fun e1 => hi (by rw [e1])
        simp [this] <;> rfl⟩
    · rcases hal with rfl | rfl <;> simp
    · rw [e3.1, e3.2]
      exact run_entry_at _ q r clock seen es clock e hset hoth hem hb
end

/-! ### The laws at the operations -/
section
variable {α β : Type} [DecidableEq α] {P : Program} {K E : TypeId} {ke : α → Value} {ve : β → Value}
variable {w : World} {ops : Array Oper} {rest : List Oper} {o : Oper} {a : Act} {Q : Exit → Act → World → Prop}

theorem wp_range (hg : o.guard = none) (m : Operand) (t : TypeId) (hop : o.op = Op.range t m) (hT : P.underlying t = some (.map K E)) (r : Nat) (l : List (α × β)) (hm : a.eval m = .map (some r)) (h : MapIs ke ve w r l)
    (hK : ∀ w', IterIs ke ve w' w.heap.size r l l → w.grownBy w' none → w'.heap.size = w.heap.size + 1 → wpList P ops Q rest (a.put o.dst (.pointer (some ⟨w.heap.size, 0, none⟩))) w') :
    wpList P ops Q (o :: rest) a w := by
  refine wpList_plain hg fun K' hK' => ?_
  obtain ⟨ob, hrun, hi⟩ := run_range hT h
  unfold Oper.wp
  simp [execOp, hop, hm, hrun, Result.andThen]
  exact hK' _ _ (hK _ hi (World.grownBy_alloc w ob none) (by simp))

theorem wp_next (hg : o.guard = none) (it : Operand) (hop : o.op = Op.next it false) (q r : Nat) (l left : List (α × β)) (hit : a.eval it = .pointer (some ⟨q, 0, none⟩)) (h : IterIs ke ve w q r l left)
    (hDone : left = [] → wpList P ops Q rest (a.put o.dst (.tuple #[.bool false])) w)
    (hMore : ∀ (k : α) (v : β) (r1 r2 : List (α × β)) (w' : World), left = r1 ++ (k, v) :: r2 → IterIs ke ve w' q r l (r1 ++ r2) → w.grownBy w' (some q) → w'.heap.size = w.heap.size →
      (Instr.entry (.pointer (some ⟨q, 0, none⟩))).run P w' = .ok (.tuple #[ke k, ve v]) w' → wpList P ops Q rest (a.put o.dst (.tuple #[.bool true, ke k, ve v])) w') :
    wpList P ops Q (o :: rest) a w := by
  refine wpList_plain hg fun K' hK' => ?_
  unfold Oper.wp
  rcases h.next (P := P) o.type with ⟨h0, hrun⟩ | ⟨k, v, r1, r2, w', h1, hrun, h2, h3, h4, h5⟩
  · simp [execOp, hop, hit, hrun, Result.andThen]
    exact hK' _ _ (hDone h0)
  · simp [execOp, hop, hit, hrun, Result.andThen]
    exact hK' _ _ (hMore k v r1 r2 w' h1 h2 h3 h4 h5)

theorem wp_update (hg : o.guard = none) (m x v : Operand) (t : TypeId) (hop : o.op = Op.mapUpdate t m x v) (e : KeyEnc P K ke) (hT : P.underlying t = some (.map K E)) (r : Nat) (l : List (α × β)) (hm : a.eval m = .map (some r)) (h : MapIs ke ve w r l)
    (k : α) (b : β) (hx : a.eval x = ke k) (hv : a.eval v = ve b)
    (hK : ∀ w', MapIs ke ve w' r (put l k b) → w.grownBy w' (some r) → wpList P ops Q rest (a.put o.dst undef) w') :
    wpList P ops Q (o :: rest) a w := by
  refine wpList_plain hg fun K' hK' => ?_
  obtain ⟨w', hrun, r1, r2⟩ := run_update e hT h k b
  unfold Oper.wp
  simp [execOp, hop, hm, hx, hv, hrun, Result.andThen]
  exact hK' _ _ (hK w' r1 r2)

theorem wp_lookup (hg : o.guard = none) (m x : Operand) (t : TypeId) (hop : o.op = Op.lookup t m x false) (e : KeyEnc P K ke) (hT : P.underlying t = some (.map K E)) {z : Value} (hz : (zeroValue E).run P w = .ok z w) (r : Nat) (l : List (α × β)) (hm : a.eval m = .map (some r)) (h : MapIs ke ve w r l)
    (k : α) (hx : a.eval x = ke k) (hK : wpList P ops Q rest (a.put o.dst (((lk l k).map ve).getD z)) w) :
    wpList P ops Q (o :: rest) a w := by
  refine wpList_plain hg fun K' hK' => ?_
  have hrun := run_lookup e hT hz h k false
  unfold Oper.wp
  simp [execOp, hop, hm, hx, hrun, Result.andThen]
  exact hK' _ _ hK

theorem wp_lookup_ok (hg : o.guard = none) (m x : Operand) (t : TypeId) (hop : o.op = Op.lookup t m x true) (e : KeyEnc P K ke) (hT : P.underlying t = some (.map K E)) {z : Value} (hz : (zeroValue E).run P w = .ok z w) (r : Nat) (l : List (α × β)) (hm : a.eval m = .map (some r)) (h : MapIs ke ve w r l)
    (k : α) (hx : a.eval x = ke k) (hK : wpList P ops Q rest (a.put o.dst (.tuple #[((lk l k).map ve).getD z, .bool (lk l k).isSome])) w) :
    wpList P ops Q (o :: rest) a w := by
  refine wpList_plain hg fun K' hK' => ?_
  have hrun := run_lookup e hT hz h k true
  unfold Oper.wp
  simp [execOp, hop, hm, hx, hrun, Result.andThen]
  exact hK' _ _ hK

theorem wp_len (hg : o.guard = none) (m : Operand) (t : TypeId) (hop : o.op = Op.call { callee := Callee.builtin Builtin.len, args := #[m], argTypes := #[t] }) (hT : P.underlying t = some (.map K E)) (r : Nat) (l : List (α × β)) (hm : a.eval m = .map (some r)) (h : MapIs ke ve w r l)
    (hK : wpList P ops Q rest (a.put o.dst (.int .i64 l.length)) w) :
    wpList P ops Q (o :: rest) a w := by
  refine wpList_plain hg fun K' hK' => ?_
  have hrun := run_len hT h o.type
  unfold Oper.wp
  simp [execOp, hop, resolve, invoke, builtin, hm, hrun, Result.andThen]
  exact hK' _ _ hK

theorem wp_delete (hg : o.guard = none) (m x : Operand) (t t1 : TypeId) (hop : o.op = Op.call { callee := Callee.builtin Builtin.delete, args := #[m, x], argTypes := #[t, t1] }) (e : KeyEnc P K ke) (hT : P.underlying t = some (.map K E)) (r : Nat) (l : List (α × β)) (hm : a.eval m = .map (some r)) (h : MapIs ke ve w r l)
    (k : α) (hx : a.eval x = ke k) (hK : ∀ w', MapIs ke ve w' r (del l k) → w.grownBy w' (some r) → wpList P ops Q rest (a.put o.dst (.tuple #[])) w') :
    wpList P ops Q (o :: rest) a w := by
  refine wpList_plain hg fun K' hK' => ?_
  obtain ⟨w', hrun, r1, r2⟩ := run_delete e hT h k t1 o.type
  unfold Oper.wp
  simp [execOp, hop, resolve, invoke, builtin, hm, hx, hrun, Result.andThen]
  exact hK' _ _ (hK w' r1 r2)
end
end Go.Proofs.YtknldfighehplaaDoor.HMap
