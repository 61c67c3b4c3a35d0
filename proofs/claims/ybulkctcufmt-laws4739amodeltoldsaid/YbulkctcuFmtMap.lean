/-
  SEAT b4739aF. PLAIN LAWS: a map as a list of pairs, whatever its elements are (the kit's laws for a map that the call makes ask that an element reads as plain data; these do not).
  'mk': how a key is written as a value ('Value.string').
-/
import Derived.WalkKit
import Derived.Maps.OwnSet
import Derived.Deep.Heap
namespace Go.Proofs.YbulkctcuFmt
open Go.RowKit Go.ChangeMaps Go.MapKept
set_option linter.unusedSectionVars false

variable {α : Type} [DecidableEq α]

/-- What the list holds at k. -/
def alook : List (α × Value) → α → Option Value
  | [], _ => none
  | p :: r, k => if k = p.1 then some p.2 else alook r k
/-- .. and at which place, counted from i. -/
def afind : List (α × Value) → α → Nat → Option (Nat × Value)
  | [], _, _ => none
  | p :: r, k, i => if k = p.1 then some (i, p.2) else afind r k (i + 1)
/-- The list with v laid at k. -/
def aput : List (α × Value) → α → Value → List (α × Value)
  | [], k, v => [(k, v)]
  | p :: r, k, v => if k = p.1 then (p.1, v) :: r else p :: aput r k v

theorem alook_aput_same (es : List (α × Value)) (k : α) (v : Value) : alook (aput es k v) k = some v := by
  induction es with
  | nil => simp [aput, alook]
  | cons p r ih =>
    by_cases h : k = p.1
    · simp [aput, alook, h]
    · simp [aput, alook, h, ih]
theorem alook_aput_other (es : List (α × Value)) {k x : α} (v : Value) (hx : x ≠ k) : alook (aput es k v) x = alook es x := by
  induction es with
  | nil => simp [aput, alook, hx]
  | cons p r ih =>
    by_cases h : k = p.1
    · subst h; simp [aput, alook, hx]
    · by_cases h2 : x = p.1
      · simp [aput, alook, h, h2]
      · simp [aput, alook, h, h2, ih]
theorem length_aput (es : List (α × Value)) (k : α) (v : Value) : (aput es k v).length = if (alook es k).isSome then es.length else es.length + 1 := by
  induction es with
  | nil => simp [aput, alook]
  | cons p r ih =>
    by_cases h : k = p.1
    · simp [aput, alook, h]
    · simp only [aput, alook, h, if_false, List.length_cons, ih]
      split <;> rfl
theorem afind_snd (es : List (α × Value)) (k : α) (i : Nat) : (afind es k i).map (·.2) = alook es k := by
  induction es generalizing i with
  | nil => rfl
  | cons p r ih =>
    by_cases h : k = p.1
    · simp [afind, alook, h]
    · simp [afind, alook, h, ih]
theorem afind_ge (es : List (α × Value)) (k : α) (i : Nat) {j : Nat} {v : Value} (h : afind es k i = some (j, v)) : i ≤ j := by
  induction es generalizing i with
  | nil => simp [afind] at h
  | cons p r ih =>
    by_cases hk : k = p.1
    · simp [afind, hk] at h; omega
    · simp [afind, hk] at h; have := ih (i + 1) h; omega

/-- The key and the element of an entry. -/
def kv (e : MapEntry) : Value × Value := (e.key, e.val)
def pv (mk : α → Value) (p : α × Value) : Value × Value := (mk p.1, p.2)

/-- How keys are written: each is a key of the type d; two that are written alike are one. -/
structure Keys (d : TypeDesc) (mk : α → Value) : Prop where
  isKey : ∀ k, IsKey d (mk k)
  inj : ∀ a b, mk a = mk b → a = b

theorem string_keys : Keys (α := ByteArray) .string Value.string := ⟨fun _ => by simp [IsKey], fun a b h => by simpa using h⟩

section
variable {d : TypeDesc} {mk : α → Value} (K : Keys d mk)

theorem findNow_list (K : Keys d mk) (k : α) : ∀ (l : List MapEntry) (es : List (α × Value)) (i : Nat), l.map kv = es.map (pv mk) → Instr.findNow d (mk k) l i = some (afind es k i)
  | [], [], i, _ => rfl
  | [], _ :: _, _, h => by simp at h
  | _ :: _, [], _, h => by simp at h
  | e :: l, p :: es, i, h => by
    simp only [List.map_cons, List.cons.injEq] at h
    obtain ⟨h1, h2⟩ := h
    obtain ⟨e1, e2⟩ := (Prod.mk.injEq _ _ _ _).mp h1
    obtain ⟨r, hr, hiff⟩ := sameNow_of_keys (K.isKey k) (b := e.key) (by rw [e1]; exact K.isKey _)
    have ih := findNow_list K k l es (i + 1) h2
    by_cases hk : k = p.1
    · have : r = true := hiff.2 (by rw [e1, hk])
      subst this
      rw [Instr.findNow, hr, afind, if_pos hk, e2]
    · have : r = false := by
        cases r with
        | false => rfl
        | true => exact absurd (K.inj _ _ ((hiff.1 rfl).trans e1)) hk
      subst this
      simp [Instr.findNow, hr, afind, hk, ih]

theorem modify_list (k : α) (v : Value) (f : MapEntry → MapEntry) (hf : ∀ e, kv (f e) = (mk k, v)) : ∀ (l : List MapEntry) (es : List (α × Value)) (i j : Nat) (v0 : Value), l.map kv = es.map (pv mk) → afind es k i = some (i + j, v0) → (l.modify j f).map kv = (aput es k v).map (pv mk)
  | [], [], i, j, v0, _, h => by simp [afind] at h
  | [], _ :: _, _, _, _, h, _ => by simp at h
  | _ :: _, [], _, _, _, h, _ => by simp at h
  | e :: l, p :: es, i, j, v0, h, hj => by
    simp only [List.map_cons, List.cons.injEq] at h
    obtain ⟨h1, h2⟩ := h
    by_cases hk : k = p.1
    · simp only [afind, hk, if_true, Option.some.injEq, Prod.mk.injEq] at hj
      have : j = 0 := by omega
      subst this
      simp [aput, hk, h2, hf, pv]
    · simp only [afind, hk, if_false] at hj
      have hge := afind_ge es k (i + 1) hj
      obtain ⟨j', rfl⟩ : ∃ j', j = j' + 1 := ⟨j - 1, by omega⟩
      have ih := modify_list k v f hf l es (i + 1) j' v0 h2 (by rw [hj]; congr 2; omega)
      simp [aput, hk, ih, h1]
end

/-- BLOCK b IS A MAP THAT HOLDS THE PAIRS es. -/
def mapIs (mk : α → Value) (w : World) (b : Nat) (es : List (α × Value)) : Prop := ∃ A c, w.heap[b]? = some (.map A c) ∧ A.toList.map kv = es.map (pv mk)

section
variable {mk : α → Value} {w : World} {b : Nat} {es : List (α × Value)}

theorem mapIs.of_block {w' : World} (h : mapIs mk w b es) (e : w'.heap[b]? = w.heap[b]?) : mapIs mk w' b es := by
  obtain ⟨A, c, h1, h2⟩ := h
  exact ⟨A, c, e.trans h1, h2⟩
theorem mapIs.lt (h : mapIs mk w b es) : b < w.heap.size := by
  obtain ⟨A, c, h1, _⟩ := h
  exact (Array.getElem?_eq_some_iff.1 h1).1
theorem mapIs.alloc (h : mapIs mk w b es) (o : Obj) : mapIs mk (w.alloc o) b es := h.of_block (Below.heap_alloc _ _ _ h.lt)
theorem mapIs.setCell (h : mapIs mk w b es) {a : Addr} (ha : b ≠ a.block) (v : Value) : mapIs mk (w.setCell a v) b es := h.of_block (Below.heap_setCell _ _ _ _ ha)
theorem mapIs_made (mk : α → Value) (w : World) : mapIs mk (w.alloc (.map #[] 0)) w.heap.size [] := ⟨#[], 0, Deep.blk_alloc_new _ _, rfl⟩

variable {P : Program} {t kt et : TypeId} {d : TypeDesc}

theorem mapIs.look (h : mapIs mk w b es) (K : Keys d mk) (ht : P.underlying t = some (.map kt et)) (hk : P.underlying kt = some d) {z : Value} (hz : (zeroValue et).run P w = .ok z w) (k : α) :
    (Instr.lookup t (.map (some b)) (mk k) false).run P w = .ok ((alook es k).getD z) w := by
  obtain ⟨A, c, h1, h2⟩ := h
  have hf := findNow_list K k A.toList es 0 h2
  have hs := afind_snd es k 0
  cases ha : afind es k 0 with
  | none => rw [ha] at hf hs; simp [Instr.lookup, run_underlying ht, MapKept.run_getObj_map h1, run_checkKey hk (K.isKey k), run_findKey hk hf, hz, Result.andThen, ← hs]
  | some q => rw [ha] at hf hs; simp [Instr.lookup, run_underlying ht, MapKept.run_getObj_map h1, run_checkKey hk (K.isKey k), run_findKey hk hf, Result.andThen, ← hs]

theorem mapIs.look_ok (h : mapIs mk w b es) (K : Keys d mk) (ht : P.underlying t = some (.map kt et)) (hk : P.underlying kt = some d) {z : Value} (hz : (zeroValue et).run P w = .ok z w) (k : α) :
    (Instr.lookup t (.map (some b)) (mk k) true).run P w = .ok (.tuple #[(alook es k).getD z, .bool (alook es k).isSome]) w := by
  obtain ⟨A, c, h1, h2⟩ := h
  have hf := findNow_list K k A.toList es 0 h2
  have hs := afind_snd es k 0
  cases ha : afind es k 0 with
  | none => rw [ha] at hf hs; simp [Instr.lookup, run_underlying ht, MapKept.run_getObj_map h1, run_checkKey hk (K.isKey k), run_findKey hk hf, hz, Result.andThen, ← hs]
  | some q => rw [ha] at hf hs; simp [Instr.lookup, run_underlying ht, MapKept.run_getObj_map h1, run_checkKey hk (K.isKey k), run_findKey hk hf, Result.andThen, ← hs]

theorem mapIs.len (h : mapIs mk w b es) (ht : P.underlying t = some (.map kt et)) (ty : TypeId) : (Builtin.len_ #[t] ty #[.map (some b)]).run P w = .ok (.int .i64 es.length) w := by
  obtain ⟨A, c, h1, h2⟩ := h
  have hl : A.size = es.length := by have := congrArg List.length h2; simpa using this
  simp [Builtin.len_, run_underlying ht, MapKept.run_getObj_map h1, goInt, Result.andThen, hl]

/-- A STORE: the pairs with v laid at k; nothing else has turned. -/
theorem mapIs.store (h : mapIs mk w b es) (K : Keys d mk) (ht : P.underlying t = some (.map kt et)) (hk : P.underlying kt = some d) (k : α) (v : Value) :
    ∃ w', (Instr.mapUpdate t (.map (some b)) (mk k) v).run P w = .ok () w' ∧ mapIs mk w' b (aput es k v) ∧ w.mapTurned w' b := by
  obtain ⟨A, c, h1, h2⟩ := h
  have hf := findNow_list K k A.toList es 0 h2
  cases ha : afind es k 0 with
  | none =>
    rw [ha] at hf
    have hno : ∀ (es : List (α × Value)) (i : Nat), afind es k i = none → aput es k v = es ++ [(k, v)] := by
      intro es
      induction es with
      | nil => intro i _; rfl
      | cons p r ih =>
        intro i h
        by_cases hp : k = p.1
        · simp [afind, hp] at h
        · simp [afind, hp] at h; simp [aput, hp, ih _ h]
    refine ⟨setBlock w b (.map (A.push { key := mk k, val := v, born := c }) (c + 1)), ?_, ⟨_, _, (heap_set h1).1, ?_⟩, ⟨_, _, _, _, h1, rfl⟩⟩
    · simp [Instr.mapUpdate, run_underlying ht, MapKept.run_getObj_map h1, run_checkKey hk (K.isKey k), run_findKey hk hf, MapKept.run_setObj_map _ h1, Result.andThen, setBlock]
    · rw [hno es 0 ha]; simp [h2, kv, pv]
  | some q =>
    obtain ⟨j, v0⟩ := q
    rw [ha] at hf
    have hkey : (A[j]?).map (·.key) = some (mk k) := by
      rcases findNow_spec (K.isKey k) A.toList 0 (fun x hx => by
          have : kv x ∈ A.toList.map kv := List.mem_map.2 ⟨x, hx, rfl⟩
          rw [h2] at this
          obtain ⟨p, _, e⟩ := List.mem_map.1 this
          have e1 : x.key = mk p.1 := ((Prod.mk.injEq _ _ _ _).mp e).1.symm
          rw [e1]; exact K.isKey _) with ⟨g1, _⟩ | ⟨i, e, g1, g2, g3⟩
      · rw [hf] at g1; simp at g1
      · rw [hf] at g1
        simp only [Option.some.injEq, Prod.mk.injEq] at g1
        have : j = i := by omega
        subst this
        have : A[j]? = some e := by simpa using g2
        simp [this, g3]
    obtain ⟨e0, he0, he1⟩ := Option.map_eq_some_iff.1 hkey
    refine ⟨setBlock w b (.map (A.modify j fun e => { e with key := mk k, val := v }) c), ?_, ⟨_, _, (heap_set h1).1, ?_⟩, ⟨_, _, _, _, h1, rfl⟩⟩
    · simp [Instr.mapUpdate, run_underlying ht, MapKept.run_getObj_map h1, run_checkKey hk (K.isKey k), run_findKey hk hf, he0, he1, run_keyThatStays (K.isKey k), MapKept.run_setObj_map _ h1, Result.andThen, setBlock]
    · rw [Array.toList_modify]
      exact modify_list k v _ (fun _ => rfl) A.toList es 0 j v0 h2 (by simpa using ha)
end

theorem turned_size {w w' : World} {b : Nat} (h : w.mapTurned w' b) : w'.heap.size = w.heap.size := by
  obtain ⟨_, _, _, _, _, rfl⟩ := h
  simp [setBlock]
theorem turned_block {w w' : World} {b k : Nat} (h : w.mapTurned w' b) (hk : k ≠ b) : w'.heap[k]? = w.heap[k]? := by
  obtain ⟨_, _, _, _, hb, rfl⟩ := h
  exact heap_setBlock_other hb _ hk
theorem turned_below {w w' : World} {b : Nat} (h : w.mapTurned w' b) : Below b w w' := by
  obtain ⟨_, _, _, _, hb, rfl⟩ := h
  exact ⟨rfl, rfl, rfl, by simp [setBlock], fun k hk => heap_setBlock_other hb _ (by omega)⟩
theorem turned_cell {w w' : World} {b : Nat} (h : w.mapTurned w' b) {a : Addr} (ha : a.block ≠ b) : w'.cell? a = w.cell? a := World.cell?_of_block (w := w) (turned_block h ha)

end Go.Proofs.YbulkctcuFmt
