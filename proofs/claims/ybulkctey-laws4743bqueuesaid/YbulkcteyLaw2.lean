/-
  SEAT b4743a. QUEUE: the law's second loop: what stands, plain.
-/
import Derived.Test.YbulkcteyLaw1
namespace Go.Proofs.Ybulkctey
open Go.RowKit Go.Deep

/-- Blocks of ints, from N on. -/
def IF (N : Nat) (w : World) (b : Nat) : Prop := N ≤ b ∧ ∃ cs z, w.heap[b]? = some (.cells cs 3 z)
theorem IF.not {N b n : Nat} {w : World} {t : TypeId} {f : Nat → Value} (h : w.rowIs b t n f) (ht : t ≠ 3) : ¬ IF N w b := by
  rintro ⟨_, cs, z, hc⟩
  obtain ⟨c, h1, _⟩ := h
  rw [h1] at hc; simp only [Option.some.injEq, Obj.cells.injEq] at hc
  exact ht hc.2.1
theorem IF.own {N : Nat} {w w' : World} {v : Value} {n : Nat} {xs : List Value} (h : w.ownsRow N 3 1 v n xs) (hg : w.grownBy w' v.ownBlock) : Fr (IF N w) w w' :=
  (Fr.refl _ w).grown hg fun k hk _ => ⟨own_ge h hk, by obtain ⟨cs, hc⟩ := own_typed h hk; exact ⟨cs, _, hc⟩⟩

/-- The scheduler's side of the law. -/
structure Sd (N s B T R g1 g2 rv rc gb c n : Nat) (G : Nat → Option Addr) (w0 : World) (cl ov sl : Nat) (it es : List Ent) (w : World) : Prop where
  lw : Lw N s B T R g1 g2 rv rc gb c n G w0 w
  r : RecI rv rc [] (.slice none 0 0) w
  q : ∃ nt, (nt = false → ∀ e ∈ it, e.2 = none) ∧ QC B T R c (lay c cl 0 it) nt (word cl cl (cl + it.length) sl) w
  g : GS N s g1 g2 0 ov es w

theorem Fr.below {S : Nat → Prop} {N : Nat} {w0 w w' : World} (hb : Below N w0 w) (hf : Fr S w w') (hN : ∀ b, S b → N ≤ b) (hz : N ≤ w.heap.size) : Below N w0 w' :=
  hb.trans ⟨hf.os, hf.tape, hf.output, hf.size, fun b h => hf.keep b (by omega) (fun s => by have := hN b s; omega)⟩

theorem Lw.ints {N s B T R g1 g2 rv rc gb c n : Nat} {G : Nat → Option Addr} {w0 w w' : World} (h : Lw N s B T R g1 g2 rv rc gb c n G w0 w) (hf : Fr (IF N w) w w') : Lw N s B T R g1 g2 rv rc gb c n G w0 w' :=
  ⟨h.cap, h.ge, Fr.below h.bel hf (fun _ hb => hb.1) (by have := h.grp.lt; have := h.ge; omega), hf.row h.grp (IF.not h.grp (by decide)), h.gbR⟩
theorem GS.ints {N s g1 g2 : Nat} {mu : Int} {ov : Nat} {es : List Ent} {w w' : World} (h : GS N s g1 g2 mu ov es w) (hf : Fr (IF N w) w w') : GS N s g1 g2 mu ov es w' :=
  h.keep fun b cs t hc ht => hf.alive hc (by
    rintro ⟨_, cs', z, hc'⟩
    rw [hc'] at hc; simp only [Option.some.injEq, Obj.cells.injEq] at hc
    exact absurd hc.2.1 (by rcases ht with rfl | rfl | rfl | rfl | rfl <;> decide))
theorem QM.ints {N B T R c x : Nat} {tk gk : Nat → Value} {nt : Bool} {w w' : World} (h : QM B T R c tk gk nt x w) (hf : Fr (IF N w) w w') : QM B T R c tk gk nt x w' := by
  obtain ⟨f, hB, _⟩ := h.p
  exact h.frame hf (IF.not hB (by decide)) (IF.not h.t (by decide)) (IF.not h.g (by decide))
theorem Sd.ints {N s B T R g1 g2 rv rc gb c n : Nat} {G : Nat → Option Addr} {w0 : World} {cl ov sl : Nat} {it es : List Ent} {w w' : World} (h : Sd N s B T R g1 g2 rv rc gb c n G w0 cl ov sl it es w) (hf : Fr (IF N w) w w') : Sd N s B T R g1 g2 rv rc gb c n G w0 cl ov sl it es w' := by
  obtain ⟨nt, hn, hq⟩ := h.q
  exact ⟨h.lw.ints hf, ⟨hf.row h.r.var (IF.not h.r.var (by decide)), hf.row h.r.cell (IF.not h.r.cell (by decide)), ⟨rfl, .inl ⟨rfl, rfl⟩⟩⟩, ⟨nt, hn, QM.ints hq hf⟩, h.g.ints hf⟩

/-- Behind queueLocal. -/
theorem Sd.local {N s B T R g1 g2 rv rc gb c n : Nat} {G : Nat → Option Addr} {w0 : World} {cl ov sl cl' ov' : Nat} {it es it' es' : List Ent} {nt : Bool} {ga : Option Addr} {w w' : World} (h : Sd N s B T R g1 g2 rv rc gb c n G w0 cl ov sl it es w) (hl : Local N B T R s g1 g2 c cl' ov' it' es' nt ga w w') (hn : (nt = false ∧ ga = none) → ∀ e ∈ it', e.2 = none) :
    Sd N s B T R g1 g2 rv rc gb c n G w0 cl' ov' 1 it' es' w' ∧ ∀ (b : Nat) (cs : Array Value) (z : Nat × Nat), w.heap[b]? = some (Obj.cells cs 3 z) → w'.heap[b]? = w.heap[b]? := by
  obtain ⟨⟨nt', hn', hq'⟩, hg', hf⟩ := hl
  obtain ⟨nt0, _, hq⟩ := h.q
  obtain ⟨hc, hge, hbel, hgrp, hgbR⟩ := h.lw
  obtain ⟨B', GB, v1, v2, hG, h1, h2, _⟩ := h.g
  obtain ⟨fs, hs, _⟩ := hG.sch
  obtain ⟨f1, hf1, _⟩ := h1.row
  obtain ⟨f2, hf2, _⟩ := h2.row
  obtain ⟨fB, hB, _⟩ := hq.p
  have hap : ∀ (b m : Nat) (t : TypeId) (f : Nat → Value), w.rowIs b t m f → t ≠ 77 → t ≠ 87 → t ≠ 99 → t ≠ 92 → (t = 81 → b ≠ R) → t ≠ 107 → t ≠ 141 → t ≠ 64 → ¬ SF N B T R s g1 g2 w b := fun b m t f hr a1 a2 a3 a4 a5 a6 a7 a8 => by
    refine rowIs_apart hr ?_ (fun e => e.elim a6 fun e => e.elim a7 a8)
    rintro (rfl | rfl | rfl | rfl | rfl | rfl)
    · exact rowIs_ne hr hs a1 rfl
    · exact rowIs_ne hr hf1 a2 rfl
    · exact rowIs_ne hr hf2 a2 rfl
    · exact rowIs_ne hr hB a3 rfl
    · exact rowIs_ne hr hq.t a4 rfl
    · by_cases e : t = 81
      · exact a5 e rfl
      · exact rowIs_ne hr hq.g e rfl
  refine ⟨⟨⟨hc, hge, Fr.below hbel hf ?_ (by have := hgrp.lt; omega), hf.row hgrp (hap _ _ _ _ hgrp (by decide) (by decide) (by decide) (by decide) (fun _ => hgbR) (by decide) (by decide) (by decide)), hgbR⟩, ⟨hf.row h.r.var (hap _ _ _ _ h.r.var (by decide) (by decide) (by decide) (by decide) (fun e => absurd e (by decide)) (by decide) (by decide) (by decide)), hf.row h.r.cell (hap _ _ _ _ h.r.cell (by decide) (by decide) (by decide) (by decide) (fun e => absurd e (by decide)) (by decide) (by decide) (by decide)), ⟨rfl, .inl ⟨rfl, rfl⟩⟩⟩, ⟨nt', fun e => hn (hn' e), hq'⟩, hg'⟩, ?_⟩
  · rintro b (hb | hb)
    · omega
    · exact hb.1
  · intro b cs z hcell
    refine hf.alive hcell ?_
    rintro (hb | ⟨_, cs', t', z', hc', ht'⟩)
    · have key : ∀ (m : Nat) (t : TypeId) (f : Nat → Value), w.rowIs b t m f → t ≠ 3 → False := fun m t f hr ht => by
        obtain ⟨c1, h1, _⟩ := hr
        rw [h1] at hcell; simp only [Option.some.injEq, Obj.cells.injEq] at hcell
        exact ht hcell.2.1
      rcases hb with rfl | rfl | rfl | rfl | rfl | rfl
      · exact key _ _ _ hs (by decide)
      · exact key _ _ _ hf1 (by decide)
      · exact key _ _ _ hf2 (by decide)
      · exact key _ _ _ hB (by decide)
      · exact key _ _ _ hq.t (by decide)
      · exact key _ _ _ hq.g (by decide)
    · rw [hc'] at hcell; simp only [Option.some.injEq, Obj.cells.injEq] at hcell
      rcases ht' with e | e | e <;> exact absurd (e.symm.trans hcell.2.1) (by decide)

/-- The ints' side of the law: the ids' cells, the ring, the global list. -/
structure In (N i : Nat) (rg gl : List Nat) (idb : Nat → Nat) (vr vg : Value) (w : World) : Prop where
  ids : ∀ k, k < i → w.rowIs (idb k) 3 1 (fun _ => .int .i64 (k : Nat)) ∧ N ≤ idb k
  ring : w.ownsRow N 3 1 vr rg.length (ints rg)
  glob : w.ownsRow N 3 1 vg gl.length (ints gl)
  apart : ∀ b, vr.ownBlock = some b → vg.ownBlock ≠ some b
  idr : ∀ k, k < i → vr.ownBlock ≠ some (idb k) ∧ vg.ownBlock ≠ some (idb k)

theorem own_lt {w : World} {base : Nat} {e : TypeId} {size n : Nat} {v : Value} {xs : List Value} (h : w.ownsRow base e size v n xs) {k : Nat} (hk : v.ownBlock = some k) : k < w.heap.size := by
  obtain ⟨cs, hc⟩ := own_typed h hk; exact (Array.getElem?_eq_some_iff.1 hc).1
theorem In.keep {N i : Nat} {rg gl : List Nat} {idb : Nat → Nat} {vr vg : Value} {w w' : World} (h : In N i rg gl idb vr vg w) (hk : ∀ (b : Nat) (cs : Array Value) (z : Nat × Nat), w.heap[b]? = some (Obj.cells cs 3 z) → w'.heap[b]? = w.heap[b]?) : In N i rg gl idb vr vg w' := by
  refine ⟨fun k hk' => ⟨?_, (h.ids k hk').2⟩, own_block h.ring fun k hk' => ?_, own_block h.glob fun k hk' => ?_, h.apart, h.idr⟩
  · obtain ⟨c, hc, hr⟩ := (h.ids k hk').1; exact World.rowIs.of_block ⟨c, hc, hr⟩ (hk _ _ _ hc)
  · obtain ⟨cs, hc⟩ := own_typed h.ring hk'; exact hk _ _ _ hc
  · obtain ⟨cs, hc⟩ := own_typed h.glob hk'; exact hk _ _ _ hc
theorem In.alloc {N i : Nat} {rg gl : List Nat} {idb : Nat → Nat} {vr vg : Value} {w : World} (h : In N i rg gl idb vr vg w) (o : Obj) : In N i rg gl idb vr vg (w.alloc o) := h.keep fun _ _ _ hc => blk_alloc_lt _ _ _ (Array.getElem?_eq_some_iff.1 hc).1
/-- A new id's cell. -/
theorem In.newId {N i : Nat} {rg gl : List Nat} {idb idb' : Nat → Nat} {vr vg : Value} {w : World} (h : In N i rg gl idb vr vg w) (hN : N ≤ w.heap.size) (h1 : idb' i = w.heap.size) (h2 : ∀ k, k < i → idb' k = idb k) : In N (i + 1) rg gl idb' vr vg (w.alloc (.cells #[.int .i64 (i : Nat)] 3)) := by
  have ha := h.alloc (.cells #[.int .i64 (i : Nat)] 3)
  refine ⟨fun k hk => ?_, ha.ring, ha.glob, h.apart, fun k hk => ?_⟩
  · by_cases e : k = i
    · subst e
      rw [h1]
      exact ⟨(rowIs_any w #[.int .i64 (k : Nat)] 3 (n := 1) rfl).congr fun j hj => by simp [show j = 0 by omega], hN⟩
    · rw [h2 k (by omega)]; exact ha.ids k (by omega)
  · by_cases e : k = i
    · subst e
      rw [h1]
      exact ⟨fun hv => by have := own_lt h.ring hv; omega, fun hv => by have := own_lt h.glob hv; omega⟩
    · rw [h2 k (by omega)]; exact h.idr k (by omega)
/-- The ring is appended to. -/
theorem In.pushR {N i : Nat} {rg gl xs : List Nat} {idb : Nat → Nat} {vr vg vr' : Value} {w w' : World} (h : In N i rg gl idb vr vg w) (hg : w.grownBy w' vr.ownBlock) (ho : w'.ownsRow N 3 1 vr' (rg ++ xs).length (ints (rg ++ xs))) (hb : vr'.ownBlock = vr.ownBlock ∨ vr'.ownBlock = some w.heap.size) : In N i (rg ++ xs) gl idb vr' vg w' := by
  refine ⟨fun k hk => ⟨(h.ids k hk).1.of_block (hg.block _ (h.ids k hk).1.lt (fun e => (h.idr k hk).1 e.symm)), (h.ids k hk).2⟩, ho, own_block h.glob fun k hk => hg.block k (own_lt h.glob hk) (fun e => h.apart k e.symm hk), fun b hb' => ?_, fun k hk => ⟨fun e => ?_, (h.idr k hk).2⟩⟩
  · rcases hb with e | e
    · exact h.apart b (e.symm.trans hb')
    · intro e2; have := own_lt h.glob e2; rw [e] at hb'; simp only [Option.some.injEq] at hb'; omega
  · rcases hb with e2 | e2
    · exact (h.idr k hk).1 (e2.symm.trans e)
    · have := (h.ids k hk).1.lt; rw [e2] at e; simp only [Option.some.injEq] at e; omega
/-- The global list is appended to. -/
theorem In.pushG {N i : Nat} {rg gl xs : List Nat} {idb : Nat → Nat} {vr vg vg' : Value} {w w' : World} (h : In N i rg gl idb vr vg w) (hg : w.grownBy w' vg.ownBlock) (ho : w'.ownsRow N 3 1 vg' (gl ++ xs).length (ints (gl ++ xs))) (hb : vg'.ownBlock = vg.ownBlock ∨ vg'.ownBlock = some w.heap.size) : In N i rg (gl ++ xs) idb vr vg' w' := by
  refine ⟨fun k hk => ⟨(h.ids k hk).1.of_block (hg.block _ (h.ids k hk).1.lt (fun e => (h.idr k hk).2 e.symm)), (h.ids k hk).2⟩, own_block h.ring fun k hk => hg.block k (own_lt h.ring hk) (fun e => h.apart k hk e.symm), ho, fun b hb' e3 => ?_, fun k hk => ⟨(h.idr k hk).1, fun e => ?_⟩⟩
  · rcases hb with e | e
    · exact h.apart b hb' (e.symm.trans e3)
    · have := own_lt h.ring hb'; rw [e] at e3; simp only [Option.some.injEq] at e3; omega
  · rcases hb with e2 | e2
    · exact (h.idr k hk).2 (e2.symm.trans e)
    · have := (h.ids k hk).1.lt; rw [e2] at e; simp only [Option.some.injEq] at e; omega
/-- The ring is laid anew. -/
theorem In.newR {N i : Nat} {rg gl xs : List Nat} {idb : Nat → Nat} {vr vg vr' : Value} {w w' : World} (h : In N i rg gl idb vr vg w) (hg : w.grownBy w' none) (ho : w'.ownsRow N 3 1 vr' xs.length (ints xs)) (hb : vr'.ownBlock = some w.heap.size) : In N i xs gl idb vr' vg w' := by
  refine ⟨fun k hk => ⟨(h.ids k hk).1.of_block (hg.block _ (h.ids k hk).1.lt (by simp)), (h.ids k hk).2⟩, ho, own_block h.glob fun k hk => hg.block k (own_lt h.glob hk) (by simp), fun b hb' e2 => ?_, fun k hk => ⟨fun e => ?_, (h.idr k hk).2⟩⟩
  · have := own_lt h.glob e2; rw [hb] at hb'; simp only [Option.some.injEq] at hb'; omega
  · have := (h.ids k hk).1.lt; rw [hb] at e; simp only [Option.some.injEq] at e; omega

/-- The entry of an id. -/
def ent (rv : Nat) (idb : Nat → Nat) (G : Nat → Option Addr) (k : Nat) : Ent := (taskV rv (idb k), G k)
theorem ent_congr {rv : Nat} {idb idb' : Nat → Nat} {G : Nat → Option Addr} {i : Nat} (h : ∀ k, k < i → idb' k = idb k) (l : List Nat) (hl : ∀ k ∈ l, k < i) : l.map (ent rv idb' G) = l.map (ent rv idb G) :=
  List.map_congr_left fun k hk => by unfold ent; rw [h k (hl k hk)]
def itm (i : Nat) (rg : List Nat) : List Nat := if i = 0 then [] else rg ++ [i - 1]
/-- Behind i rounds of the second loop. -/
structure L2 (N s B T R g1 g2 rv rc gb c n : Nat) (pk : Nat → Nat) (w0 : World) (i : Nat) (rg gl : List Nat) (cl ov : Nat) (idb : Nat → Nat) (vr vg : Value) (w : World) : Prop where
  sd : Sd N s B T R g1 g2 rv rc gb c n (gOf g1 g2 pk) w0 cl ov (if i = 0 then 0 else 1) ((itm i rg).map (ent rv idb (gOf g1 g2 pk))) (gl.map (ent rv idb (gOf g1 g2 pk))) w
  ints : In N i rg gl idb vr vg w
  cnt : gl.length + (itm i rg).length = i
  cl_le : cl ≤ gl.length
  ov_le : ov ≤ gl.length
  rl : rg.length ≤ c
  z : i = 0 → rg = []
  ltr : ∀ k ∈ rg, k < i
  ltg : ∀ k ∈ gl, k < i
  vz : rg = [] → vr = .slice none 0 0
theorem gOf_isG (g1 g2 : Nat) (pk : Nat → Nat) (k : Nat) (a : Addr) (h : gOf g1 g2 pk k = some a) : IsG g1 g2 a := by
  unfold gOf at h
  split at h
  · exact .inl (Option.some.inj h).symm
  · split at h
    · exact .inr (Option.some.inj h).symm
    · cases h
theorem ent_good (rv g1 g2 : Nat) (idb : Nat → Nat) (pk : Nat → Nat) (k : Nat) : Good g1 g2 (ent rv idb (gOf g1 g2 pk) k) := ⟨⟨_, _, _, rfl⟩, gOf_isG g1 g2 pk k⟩
theorem news_ints {w : World} {base g n cap : Nat} {l : List Nat} (h : w.ownsRow base 3 1 (.slice (some ⟨g, 0, none⟩) n cap) n (ints l)) (o m : Nat) (hm : o + m ≤ l.length) : ∀ j u, (ints ((l.drop o).take m))[j]? = some u → w.cell? ((⟨g, o, none⟩ : Addr).add j) = some u := by
  intro j u hj
  have hadd : (⟨g, o, none⟩ : Addr).add j = ⟨g, o + j, none⟩ := by unfold Addr.add; split <;> simp_all
  have hjl : j < m := by
    have := (List.getElem?_eq_some_iff.1 hj).1
    simp [ints] at this
    omega
  rw [hadd, (own_int h (o + j) (by omega)).1]
  rw [← hj]
  simp [ints, hjl, List.getD]
  have : o + j < l.length := by omega
  simp [this]
theorem ints_one (l : List Nat) : ∀ u ∈ ints l, u.oneCell' = true := by
  intro u hu
  obtain ⟨k, _, rfl⟩ := List.mem_map.1 hu
  rfl
theorem ints_len (l : List Nat) : (ints l).length = l.length := by simp [ints]
theorem ints_append (l m : List Nat) : ints (l ++ m) = ints l ++ ints m := by simp [ints]
end Go.Proofs.Ybulkctey
