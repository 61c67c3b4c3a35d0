/-
  SEAT b4743a. QUEUE: the global queue with the two groups' notes (GS); spill, pushGlobal.
-/
import Derived.Test.YbulkcteySpill
namespace Go.Proofs.Ybulkctey
open Go.RowKit Go.Deep

def pos (es : List Ent) (B : Nat → Nat) (a : Addr) : List (Nat × Nat) := ((List.range es.length).filter (fun p => grp es p == some a)).map fun p => (B (p / 256), p % 256)
theorem pos_push (es : List Ent) (v : Value) (g : Option Addr) (B B' : Nat → Nat) (a : Addr) (hB : ∀ m, 256 * m < es.length → B' m = B m) :
    pos (es ++ [(v, g)]) B' a = pos es B a ++ (if g = some a then [(B' (es.length / 256), es.length % 256)] else []) := by
  unfold pos
  rw [show (es ++ [((v, g) : Ent)]).length = es.length + 1 from by simp, List.range_succ, List.filter_append, List.map_append]
  congr 1
  · rw [List.filter_congr (q := fun p => grp es p == some a) (fun p hp => by rw [grp_push, if_neg (by have := List.mem_range.1 hp; omega)])]
    refine List.map_congr_left fun p hp => ?_
    have := List.mem_range.1 (List.mem_filter.1 hp).1
    rw [hB (p / 256) (by omega)]
  · rw [show List.filter (fun p => grp (es ++ [((v, g) : Ent)]) p == some a) [es.length] = if g = some a then [es.length] else [] from by
      rw [List.filter_cons, List.filter_nil, grp_push, if_pos rfl]
      by_cases h : g = some a <;> simp [h]]
    by_cases h : g = some a <;> simp [h]
theorem pos_len (es : List Ent) (B : Nat → Nat) (a : Addr) : (pos es B a).length ≤ es.length := by
  unfold pos; rw [List.length_map]
  refine Nat.le_trans (List.length_filter_le _ _) ?_
  simp

def GS (N s g1 g2 : Nat) (mu : Int) (ov : Nat) (es : List Ent) (w : World) : Prop :=
  ∃ B GB v1 v2, GQ N s mu ov es B GB w ∧ SP N g1 (pos es B (at0 g1)) v1 w ∧ SP N g2 (pos es B (at0 g2)) v2 w ∧ (∀ k, v1.ownBlock = some k → v2.ownBlock ≠ some k) ∧ g1 ≠ g2

theorem SP.keep {N g : Nat} {ps : List (Nat × Nat)} {v : Value} {w w' : World} (h : SP N g ps v w) (hk : ∀ (b : Nat) (cs : Array Value) (t : TypeId), w.heap[b]? = some (Obj.cells cs t (0, 0)) → (t = 87 ∨ t = 64) → (b = g ∨ v.ownBlock = some b) → w'.heap[b]? = w.heap[b]?) : SP N g ps v w' := by
  obtain ⟨⟨f, hf, hv⟩, ho, hN⟩ := h
  refine ⟨⟨f, hf.of_block ?_, hv⟩, own_block ho fun k hk' => ?_, hN⟩
  · obtain ⟨c, h1, _⟩ := hf; exact hk g c 87 h1 (.inl rfl) (.inl rfl)
  · obtain ⟨c, h1⟩ := own_typed ho hk'; exact hk k c 64 h1 (.inr rfl) (.inr hk')
theorem GQ.keep {N s : Nat} {mu : Int} {ov : Nat} {es : List Ent} {B : Nat → Nat} {GB : Nat → Option Nat} {w w' : World} (h : GQ N s mu ov es B GB w) (hk : ∀ (b : Nat) (cs : Array Value) (t : TypeId), w.heap[b]? = some (Obj.cells cs t (0, 0)) → (t = 77 ∨ t = 107 ∨ t = 141) → w'.heap[b]? = w.heap[b]?) : GQ N s mu ov es B GB w' :=
  h.frame fun b t n f hr ht => by obtain ⟨c, h1, _⟩ := hr; exact hk b c t h1 ht
theorem GS.keep {N s g1 g2 : Nat} {mu : Int} {ov : Nat} {es : List Ent} {w w' : World} (h : GS N s g1 g2 mu ov es w) (hk : ∀ (b : Nat) (cs : Array Value) (t : TypeId), w.heap[b]? = some (Obj.cells cs t (0, 0)) → (t = 77 ∨ t = 107 ∨ t = 141 ∨ t = 87 ∨ t = 64) → w'.heap[b]? = w.heap[b]?) : GS N s g1 g2 mu ov es w' := by
  obtain ⟨B, GB, v1, v2, hq, h1, h2, hr⟩ := h
  exact ⟨B, GB, v1, v2, hq.keep fun b cs t hc ht => hk b cs t hc (by rcases ht with h | h | h <;> simp [h]), h1.keep fun b cs t hc ht _ => hk b cs t hc (by rcases ht with h | h <;> simp [h]), h2.keep fun b cs t hc ht _ => hk b cs t hc (by rcases ht with h | h <;> simp [h]), hr⟩
theorem Fr.alive {S : Nat → Prop} {w w' : World} (h : Fr S w w') {b : Nat} {o : Obj} (hb : w.heap[b]? = some o) (hs : ¬ S b) : w'.heap[b]? = w.heap[b]? := h.keep b (Array.getElem?_eq_some_iff.1 hb).1 hs
theorem GS.sch {N s g1 g2 : Nat} {mu : Int} {ov : Nat} {es : List Ent} {w : World} (h : GS N s g1 g2 mu ov es w) : ∃ f, w.rowIs s 77 46 f := by
  obtain ⟨B, GB, v1, v2, hq, _⟩ := h
  obtain ⟨f, hf, _⟩ := hq.sch
  exact ⟨f, hf⟩

theorem GS.lts {N s g1 g2 : Nat} {mu : Int} {ov : Nat} {es : List Ent} {w : World} (h : GS N s g1 g2 mu ov es w) : s < w.heap.size ∧ g1 < w.heap.size ∧ g2 < w.heap.size := by
  obtain ⟨B, GB, v1, v2, hq, h1, h2, _⟩ := h
  obtain ⟨f, hf, _⟩ := hq.sch
  obtain ⟨f1, hf1, _⟩ := h1.row
  obtain ⟨f2, hf2, _⟩ := h2.row
  exact ⟨hf.lt, hf1.lt, hf2.lt⟩

/-- The blocks that the scheduler's global part may turn. -/
def GF (N s g1 g2 : Nat) (w : World) : Nat → Prop := SS N (fun b => b = s ∨ b = g1 ∨ b = g2) (fun t => t = 107 ∨ t = 141 ∨ t = 64) w

/-- A task of no group is pushed. -/
theorem GS.push {N s g1 g2 : Nat} {mu : Int} {ov : Nat} {es : List Ent} {w : World} (h : GS N s g1 g2 mu ov es w) (fn : Fn) (xs ys : Array Value) (hl : es.length < 1048576) :
    Calls Yba.prog 42 #[.pointer (some ⟨s, 11, none⟩), .func fn xs ys] w fun e w' => e = .returned (.tuple #[]) ∧ GS N s g1 g2 mu ov (es ++ [(.func fn xs ys, none)]) w' ∧ Fr (GF N s g1 g2 w) w w' := by
  obtain ⟨B, GB, v1, v2, hq, h1, h2, hne, hgg⟩ := h
  refine (push_any N s mu ov es B GB fn xs ys w hl hq).mono ?_
  rintro e w' ⟨rfl, ⟨B', GB', hq', hB⟩, hf⟩
  obtain ⟨fs, ⟨cs, hs, _⟩, _⟩ := hq.sch
  have hks : ∀ (b : Nat) (cs : Array Value) (t : TypeId), w.heap[b]? = some (Obj.cells cs t (0, 0)) → (t = 87 ∨ t = 64) → w'.heap[b]? = w.heap[b]? := fun b cs' t hc ht => hf.alive hc (by
    rintro (rfl | ⟨_, cs2, t2, z2, hc2, h107⟩)
    · rw [hs] at hc; simp only [Option.some.injEq, Obj.cells.injEq] at hc; exact absurd hc.2.1 (by rcases ht with rfl | rfl <;> decide)
    · rw [hc2] at hc; simp only [Option.some.injEq, Obj.cells.injEq] at hc; exact absurd (h107.symm.trans hc.2.1) (by rcases ht with rfl | rfl <;> decide))
  refine ⟨rfl, ⟨B', GB', v1, v2, hq', ?_, ?_, hne, hgg⟩, hf.monoS (fun _ h => .inl h) (fun _ h => .inl h)⟩
  · rw [pos_push _ _ _ _ _ _ hB, if_neg (by simp), List.append_nil]
    exact h1.keep fun b cs t hc ht _ => hks b cs t hc ht
  · rw [pos_push _ _ _ _ _ _ hB, if_neg (by simp), List.append_nil]
    exact h2.keep fun b cs t hc ht _ => hks b cs t hc ht

/-- What the two groups' addresses may be. -/
def IsG (g1 g2 : Nat) (ga : Addr) : Prop := ga = at0 g1 ∨ ga = at0 g2

/-- A position is noted in one of the groups. -/
theorem GS.note {N s g1 g2 : Nat} {mu : Int} {ov : Nat} {es : List Ent} {w : World} {v : Value} {B B' : Nat → Nat} {GB : Nat → Option Nat} {v1 v2 : Value} {ga : Addr} (hga : IsG g1 g2 ga) (hl : es.length < 1048576) (hq : GQ N s mu ov (es ++ [(v, some ga)]) B' GB w) (hB : ∀ m, 256 * m < es.length → B' m = B m) (h1 : SP N g1 (pos es B (at0 g1)) v1 w) (h2 : SP N g2 (pos es B (at0 g2)) v2 w) (hne : ∀ k, v1.ownBlock = some k → v2.ownBlock ≠ some k) (hgg : g1 ≠ g2) :
    Calls Yba.prog 48 #[.pointer (some ga), .agg #[.pointer (some (at0 (B' (es.length / 256)))), .int .i64 ((es.length % 256 : Nat) : Int)]] w fun e w' => e = .returned (.tuple #[]) ∧ GS N s g1 g2 mu ov (es ++ [(v, some ga)]) w' ∧ Fr (GF N s g1 g2 w) w w' := by
  have hp1 := pos_len es B (at0 g1)
  have hp2 := pos_len es B (at0 g2)
  obtain ⟨f1, hf1, _⟩ := h1.row
  obtain ⟨f2, hf2, _⟩ := h2.row
  have hat : at0 g1 ≠ at0 g2 := fun e => hgg (by simpa [at0] using e)
  have hlt : ∀ (u : Value) (g : Nat) (ps : List (Nat × Nat)), SP N g ps u w → ∀ k, u.ownBlock = some k → k < w.heap.size := fun u g ps h k hk => by
    obtain ⟨cs, hc⟩ := own_typed h.own hk; exact (Array.getElem?_eq_some_iff.1 hc).1
  rcases hga with rfl | rfl
  · refine (noteSpilled_any N g1 (B' (es.length / 256)) (es.length % 256) (pos es B (at0 g1)) v1 w (by omega) h1).mono ?_
    rintro e w' ⟨rfl, ⟨v', hsp, hv'⟩, hf⟩
    have hkq : ∀ (b : Nat) (cs : Array Value) (t : TypeId), w.heap[b]? = some (Obj.cells cs t (0, 0)) → (t = 77 ∨ t = 107 ∨ t = 141) → w'.heap[b]? = w.heap[b]? := fun b cs t hc ht => hf.alive hc (by
      rintro (rfl | hk)
      · obtain ⟨c, hc2, _⟩ := hf1
        rw [hc2] at hc; simp only [Option.some.injEq, Obj.cells.injEq] at hc; exact absurd hc.2.1 (by rcases ht with rfl | rfl | rfl <;> decide)
      · obtain ⟨c, hc2⟩ := own_typed h1.own hk.symm
        rw [hc2] at hc; simp only [Option.some.injEq, Obj.cells.injEq] at hc; exact absurd hc.2.1 (by rcases ht with rfl | rfl | rfl <;> decide))
    refine ⟨rfl, ⟨B', GB, v', v2, hq.keep hkq, ?_, ?_, ?_, hgg⟩, hf.mono fun b _ hb => ?_⟩
    · rw [pos_push _ _ _ _ _ _ hB, if_pos rfl]; exact hsp
    · rw [pos_push _ _ _ _ _ _ hB, if_neg (by simpa using hat), List.append_nil]
      refine h2.keep fun b cs t hc _ hb => hf.alive hc ?_
      rintro (rfl | hk)
      · rcases hb with rfl | hb
        · exact hgg rfl
        · exact own_ne h2.own hf1 (by decide) hb.symm
      · rcases hb with rfl | hb
        · exact own_ne h1.own hf2 (by decide) hk
        · exact hne b hk.symm hb
    · intro k hk e
      rcases hv' with h | ⟨g', h, hge⟩
      · exact hne k (h.symm.trans hk) e
      · have := hlt v2 g2 _ h2 k e
        rw [h] at hk; simp only [Option.some.injEq] at hk; omega
    · rcases hb with rfl | hb
      · exact .inl (.inr (.inl rfl))
      · obtain ⟨c, hc2⟩ := own_typed h1.own hb.symm
        exact .inr ⟨own_ge h1.own hb.symm, c, 64, _, hc2, .inr (.inr rfl)⟩
  · refine (noteSpilled_any N g2 (B' (es.length / 256)) (es.length % 256) (pos es B (at0 g2)) v2 w (by omega) h2).mono ?_
    rintro e w' ⟨rfl, ⟨v', hsp, hv'⟩, hf⟩
    have hkq : ∀ (b : Nat) (cs : Array Value) (t : TypeId), w.heap[b]? = some (Obj.cells cs t (0, 0)) → (t = 77 ∨ t = 107 ∨ t = 141) → w'.heap[b]? = w.heap[b]? := fun b cs t hc ht => hf.alive hc (by
      rintro (rfl | hk)
      · obtain ⟨c, hc2, _⟩ := hf2
        rw [hc2] at hc; simp only [Option.some.injEq, Obj.cells.injEq] at hc; exact absurd hc.2.1 (by rcases ht with rfl | rfl | rfl <;> decide)
      · obtain ⟨c, hc2⟩ := own_typed h2.own hk.symm
        rw [hc2] at hc; simp only [Option.some.injEq, Obj.cells.injEq] at hc; exact absurd hc.2.1 (by rcases ht with rfl | rfl | rfl <;> decide))
    refine ⟨rfl, ⟨B', GB, v1, v', hq.keep hkq, ?_, ?_, ?_, hgg⟩, hf.mono fun b _ hb => ?_⟩
    · rw [pos_push _ _ _ _ _ _ hB, if_neg (by simpa using hat.symm), List.append_nil]
      refine h1.keep fun b cs t hc _ hb => hf.alive hc ?_
      rintro (rfl | hk)
      · rcases hb with rfl | hb
        · exact hgg rfl
        · exact own_ne h1.own hf2 (by decide) hb.symm
      · rcases hb with rfl | hb
        · exact own_ne h2.own hf1 (by decide) hk
        · exact hne b hb hk.symm
    · rw [pos_push _ _ _ _ _ _ hB, if_pos rfl]; exact hsp
    · intro k hk e
      rcases hv' with h | ⟨g', h, hge⟩
      · exact hne k hk (h.symm.trans e)
      · have := hlt v1 g1 _ h1 k hk
        rw [h] at e; simp only [Option.some.injEq] at e; omega
    · rcases hb with rfl | hb
      · exact .inl (.inr (.inr rfl))
      · obtain ⟨c, hc2⟩ := own_typed h2.own hb.symm
        exact .inr ⟨own_ge h2.own hb.symm, c, 64, _, hc2, .inr (.inr rfl)⟩

/-- pushGroup, with the groups' notes. -/
theorem GS.pushGroup {N s g1 g2 : Nat} {mu : Int} {ov : Nat} {es : List Ent} {w : World} (h : GS N s g1 g2 mu ov es w) (fn : Fn) (xs ys : Array Value) (ga : Addr) (hga : IsG g1 g2 ga) (hl : es.length < 1048576) :
    Calls Yba.prog 49 #[.pointer (some ⟨s, 11, none⟩), .agg #[.func fn xs ys, .pointer (some ga)]] w fun e w' => ∃ v, e = .returned v ∧ Fr (GF N s g1 g2 w) w w' ∧ (Calls Yba.prog 48 #[.pointer (some ga), v] w' fun e2 w2 => e2 = .returned (.tuple #[]) ∧ GS N s g1 g2 mu ov (es ++ [(.func fn xs ys, some ga)]) w2 ∧ Fr (GF N s g1 g2 w) w w2) := by
  obtain ⟨B, GB, v1, v2, hq, h1, h2, hne, hgg⟩ := h
  refine (pushGroup_any N s mu ov es B GB fn xs ys ga w hl hq).mono ?_
  rintro e w' ⟨B', rfl, ⟨GB', hq'⟩, hB, hf⟩
  obtain ⟨fs, ⟨cs, hs, _⟩, _⟩ := hq.sch
  have hks : ∀ (b : Nat) (cs : Array Value) (t : TypeId), w.heap[b]? = some (Obj.cells cs t (0, 0)) → (t = 87 ∨ t = 64) → w'.heap[b]? = w.heap[b]? := fun b cs' t hc ht => hf.alive hc (by
    rintro (rfl | ⟨_, cs2, t2, z2, hc2, h107⟩)
    · rw [hs] at hc; simp only [Option.some.injEq, Obj.cells.injEq] at hc; exact absurd hc.2.1 (by rcases ht with rfl | rfl <;> decide)
    · rw [hc2] at hc; simp only [Option.some.injEq, Obj.cells.injEq] at hc
      rcases h107 with rfl | rfl <;> exact absurd hc.2.1 (by rcases ht with rfl | rfl <;> decide))
  have hfw : Fr (GF N s g1 g2 w) w w' := hf.monoS (fun _ h => .inl h) (fun _ h => h.imp id .inl)
  refine ⟨_, rfl, hfw, (GS.note hga hl hq' hB (h1.keep fun b cs t hc ht _ => hks b cs t hc ht) (h2.keep fun b cs t hc ht _ => hks b cs t hc ht) hne hgg).mono ?_⟩
  rintro e2 w2 ⟨rfl, hg, hf2⟩
  exact ⟨rfl, hg, hfw.transS hf2⟩
end Go.Proofs.Ybulkctey
