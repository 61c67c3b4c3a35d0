/-
  SEAT b4743a. QUEUE: what the law's fifth loop stands on; plain.
-/
import Derived.Test.YbulkcteyLaw6
namespace Go.Proofs.Ybulkctey
open Go.RowKit Go.Deep

/-- How many of the first p entries are of group a; of any group. -/
def cntA (es : List Ent) (a : Addr) (p : Nat) : Nat := ((List.range p).filter fun q => grp es q == some a).length
def cntS (es : List Ent) (p : Nat) : Nat := ((List.range p).filter fun q => (grp es q).isSome).length
theorem cntA_succ (es : List Ent) (a : Addr) (p : Nat) : cntA es a (p + 1) = cntA es a p + if grp es p = some a then 1 else 0 := by
  unfold cntA
  rw [List.range_succ, List.filter_append, List.length_append, List.filter_cons, List.filter_nil]
  by_cases h : grp es p = some a <;> simp [h]
theorem cntS_succ (es : List Ent) (p : Nat) : cntS es (p + 1) = cntS es p + if (grp es p).isSome then 1 else 0 := by
  unfold cntS
  rw [List.range_succ, List.filter_append, List.length_append, List.filter_cons, List.filter_nil]
  by_cases h : (grp es p).isSome <;> simp [h]
theorem cntA_le (es : List Ent) (a : Addr) (p : Nat) : cntA es a p ≤ p := by
  unfold cntA; exact Nat.le_trans (List.length_filter_le _ _) (by simp)
theorem cntS_le (es : List Ent) (p : Nat) : cntS es p ≤ p := by
  unfold cntS; exact Nat.le_trans (List.length_filter_le _ _) (by simp)
theorem pos_length (es : List Ent) (B : Nat → Nat) (a : Addr) : (pos es B a).length = cntA es a es.length := by unfold pos cntA; rw [List.length_map]
/-- The position that the p-th entry has in its group's notes. -/
theorem pos_at (es : List Ent) (B : Nat → Nat) (a : Addr) (p : Nat) (hp : p < es.length) (hg : grp es p = some a) : (pos es B a)[cntA es a p]? = some (B (p / 256), p % 256) := by
  have key : ∀ n, p < n → ((List.range n).filter fun q => grp es q == some a)[cntA es a p]? = some p := by
    intro n
    induction n with
    | zero => intro h; omega
    | succ n ih =>
      intro h
      rw [List.range_succ, List.filter_append]
      by_cases e : p = n
      · subst e
        rw [List.getElem?_append_right (by unfold cntA; exact Nat.le_refl _)]
        simp [cntA, hg]
      · have h1 := ih (by omega)
        rw [List.getElem?_append_left (List.getElem?_eq_some_iff.1 h1).1]
        exact h1
  unfold pos
  rw [List.getElem?_map, key es.length hp]; rfl
theorem cntA_lt (es : List Ent) (B : Nat → Nat) (a : Addr) (p : Nat) (hp : p < es.length) (hg : grp es p = some a) : cntA es a p < (pos es B a).length := (List.getElem?_eq_some_iff.1 (pos_at es B a p hp hg)).1
theorem gcount_eq (es : List Ent) : gcount es = cntS es es.length := by
  unfold gcount cntS
  have h : es = (List.range es.length).map (fun q => es.getD q (.nilFunc, none)) := by
    apply List.ext_getElem
    · simp
    · intro i h1 h2; simp [List.getD, h1]
  conv => lhs; rw [h]
  rw [List.filter_map, List.length_map]
  rfl
/-- The positions' cells. -/
theorem pcells_get (ps : List (Nat × Nat)) : ∀ (k b l : Nat), ps[k]? = some (b, l) → (pcells ps)[2 * k]? = some (.pointer (some (at0 b))) ∧ (pcells ps)[2 * k + 1]? = some (.int .i64 (l : Nat)) := by
  induction ps with
  | nil => intro k b l h; simp at h
  | cons p ps ih =>
    intro k b l h
    cases k with
    | zero =>
      simp at h
      subst h
      simp [pcells]
    | succ k =>
      simp at h
      have h1 := ih k b l h
      have e : pcells (p :: ps) = .pointer (some (at0 p.1)) :: .int .i64 (p.2 : Nat) :: pcells ps := by simp [pcells]
      rw [e, show 2 * (k + 1) = 2 * k + 1 + 1 from by omega]
      exact h1
/-- A noted position in memory. -/
theorem SP.at {N g : Nat} {ps : List (Nat × Nat)} {v : Value} {w : World} (h : SP N g ps v w) (k b l : Nat) (hk : ps[k]? = some (b, l)) : ∃ gs cap, v = .slice (some ⟨gs, 0, none⟩) ps.length cap ∧ w.cell? ⟨gs, 2 * k, none⟩ = some (.pointer (some (at0 b))) ∧ w.cell? ⟨gs, 2 * k + 1, none⟩ = some (.int .i64 (l : Nat)) := by
  have hkl := (List.getElem?_eq_some_iff.1 hk).1
  obtain ⟨gs, cap, hv, _, _⟩ := World.ownsRow.form h.own (by omega)
  obtain ⟨h1, h2⟩ := pcells_get ps k b l hk
  have ho := h.own
  rw [hv] at ho
  have e1 := World.ownsRow.cells ho (g := gs) rfl (2 * k) _ h1
  have e2 := World.ownsRow.cells ho (g := gs) rfl (2 * k + 1) _ h2
  have hadd : ∀ j, (⟨gs, 0, none⟩ : Addr).add j = ⟨gs, j, none⟩ := fun j => by unfold Addr.add; split <;> simp_all
  rw [hadd] at e1 e2
  exact ⟨gs, cap, hv, e1, e2⟩
theorem SP.form {N g : Nat} {ps : List (Nat × Nat)} {v : Value} {w : World} (h : SP N g ps v w) : ∃ a cap, v = .slice a ps.length cap := by
  rcases h.own.2 with ⟨rfl, h0⟩ | ⟨g, cap, cur, rfl, _⟩
  · rw [h0]; exact ⟨_, _, rfl⟩
  · exact ⟨_, _, rfl⟩

/-- What the fifth loop stands on, with the global queue's blocks named. -/
structure L5 (N s B T R g1 g2 rv rc gb c n : Nat) (pk : Nat → Nat) (w0 : World) (gl : List Nat) (ov : Nat) (idb : Nat → Nat) (vg : Value) (Bs : Nat → Nat) (GB : Nat → Option Nat) (v1 v2 : Value) (ids : List Nat) (v : Value) (w : World) : Prop where
  lw : Lw N s B T R g1 g2 rv rc gb c n (gOf g1 g2 pk) w0 w
  q : GQ N s 0 ov (gl.map (ent rv idb (gOf g1 g2 pk))) Bs GB w
  s1 : SP N g1 (pos (gl.map (ent rv idb (gOf g1 g2 pk))) Bs (at0 g1)) v1 w
  s2 : SP N g2 (pos (gl.map (ent rv idb (gOf g1 g2 pk))) Bs (at0 g2)) v2 w
  gg : g1 ≠ g2
  ints : In N n [] gl idb (.slice none 0 0) vg w
  rx : Rx N rv rc n ids v (.slice none 0 0) vg idb w

theorem L5.keep {N s B T R g1 g2 rv rc gb c n : Nat} {pk : Nat → Nat} {w0 : World} {gl : List Nat} {ov : Nat} {idb : Nat → Nat} {vg : Value} {Bs : Nat → Nat} {GB : Nat → Option Nat} {v1 v2 : Value} {ids : List Nat} {v : Value} {w w' : World} (h : L5 N s B T R g1 g2 rv rc gb c n pk w0 gl ov idb vg Bs GB v1 v2 ids v w) {S : Nat → Prop} (hf : Fr S w w') (hS : ∀ b, S b → N ≤ b)
    (ht : ∀ b m t f, w.rowIs b t m f → S b → t = 91 ∨ t = 3) (hi : ∀ b, S b → (∀ k, k < n → b ≠ idb k) ∧ vg.ownBlock ≠ some b) {ids' : List Nat} {v' : Value} (hr : Rx N rv rc n ids' v' (.slice none 0 0) vg idb w') :
    L5 N s B T R g1 g2 rv rc gb c n pk w0 gl ov idb vg Bs GB v1 v2 ids' v' w' := by
  have hno : ∀ b m t f, w.rowIs b t m f → t ≠ 91 → t ≠ 3 → ¬ S b := fun b m t f hr h2 h3 hs => by
    rcases ht b m t f hr hs with e | e
    · exact h2 e
    · exact h3 e
  have hal : ∀ (b : Nat) (cs : Array Value) (t : TypeId), w.heap[b]? = some (Obj.cells cs t (0, 0)) → t ≠ 91 → t ≠ 3 → w'.heap[b]? = w.heap[b]? := fun b cs t hc h1 h2 => hf.alive hc (hno b cs.size t (fun k => cs.getD k undef) ⟨cs, hc, rfl, fun i hi => by simp [Array.getD, hi]⟩ h1 h2)
  have hin := h.ints
  refine ⟨⟨h.lw.cap, h.lw.ge, Fr.below h.lw.bel hf hS (by have := h.lw.grp.lt; have := h.lw.ge; omega), hf.row h.lw.grp (hno _ _ _ _ h.lw.grp (by decide) (by decide)), h.lw.gbR⟩, h.q.keep fun b cs t hc ht => hal b cs t hc ?_ ?_, h.s1.keep fun b cs t hc ht _ => hal b cs t hc ?_ ?_, h.s2.keep fun b cs t hc ht _ => hal b cs t hc ?_ ?_, h.gg, ⟨fun k hk => ⟨hf.row (hin.ids k hk).1 (fun hs => (hi _ hs).1 k hk rfl), (hin.ids k hk).2⟩, ⟨rfl, .inl ⟨rfl, rfl⟩⟩, own_block hin.glob fun k hk => hf.keep k (own_lt hin.glob hk) (fun hs => (hi _ hs).2 hk), hin.apart, hin.idr⟩, hr⟩
  · rcases ht with rfl | rfl | rfl <;> decide
  · rcases ht with rfl | rfl | rfl <;> decide
  · rcases ht with rfl | rfl <;> decide
  · rcases ht with rfl | rfl <;> decide
  · rcases ht with rfl | rfl <;> decide
  · rcases ht with rfl | rfl <;> decide
theorem L5.alloc {N s B T R g1 g2 rv rc gb c n : Nat} {pk : Nat → Nat} {w0 : World} {gl : List Nat} {ov : Nat} {idb : Nat → Nat} {vg : Value} {Bs : Nat → Nat} {GB : Nat → Option Nat} {v1 v2 : Value} {ids : List Nat} {v : Value} {w : World} (h : L5 N s B T R g1 g2 rv rc gb c n pk w0 gl ov idb vg Bs GB v1 v2 ids v w) (o : Obj) : L5 N s B T R g1 g2 rv rc gb c n pk w0 gl ov idb vg Bs GB v1 v2 ids v (w.alloc o) :=
  h.keep ((Fr.refl (fun _ => False) w).alloc o) (fun _ hb => hb.elim) (fun _ _ _ _ _ hb => hb.elim) (fun _ hb => hb.elim) ⟨⟨h.rx.r.var.alloc _, h.rx.r.cell.alloc _, h.rx.r.own.alloc _⟩, h.rx.ge, h.rx.ap⟩
theorem L5.drewN {N s B T R g1 g2 rv rc gb c n : Nat} {pk : Nat → Nat} {w0 : World} {gl : List Nat} {ov : Nat} {idb : Nat → Nat} {vg : Value} {Bs : Nat → Nat} {GB : Nat → Option Nat} {v1 v2 : Value} {ids : List Nat} {v : Value} {w : World} (h : L5 N s B T R g1 g2 rv rc gb c n pk w0 gl ov idb vg Bs GB v1 v2 ids v w) (m : Nat) : L5 N s B T R g1 g2 rv rc gb c n pk w0 gl ov idb vg Bs GB v1 v2 ids v (w.drewN m) :=
  h.keep ((Fr.refl (fun _ => False) w).drewN m) (fun _ hb => hb.elim) (fun _ _ _ _ _ hb => hb.elim) (fun _ hb => hb.elim) ⟨⟨h.rx.r.var, h.rx.r.cell, own_block h.rx.r.own fun _ _ => rfl⟩, h.rx.ge, h.rx.ap⟩
theorem L5.told {N s B T R g1 g2 rv rc gb c n : Nat} {pk : Nat → Nat} {w0 : World} {gl : List Nat} {ov : Nat} {idb : Nat → Nat} {vg : Value} {Bs : Nat → Nat} {GB : Nat → Option Nat} {v1 v2 : Value} {ids : List Nat} {v : Value} {w w' : World} {k : Nat} (h : L5 N s B T R g1 g2 rv rc gb c n pk w0 gl ov idb vg Bs GB v1 v2 ids v w) (ht : Told rv rc ids k v w w') : ∃ v', L5 N s B T R g1 g2 rv rc gb c n pk w0 gl ov idb vg Bs GB v1 v2 (ids ++ [k]) v' w' := by
  obtain ⟨⟨v', hr, hv'⟩, hf⟩ := ht
  have hcell := h.rx.r.cell
  have hz : N ≤ w.heap.size := by have := h.lw.grp.lt; have := h.lw.ge; omega
  refine ⟨v', h.keep hf (fun b hb => ?_) (fun b m t f hr' hb => ?_) (fun b hb => ?_) ⟨hr, fun b hb => ?_, fun b hb => ?_⟩⟩
  · rcases hb with rfl | hb
    · have := h.lw.ge; omega
    · exact h.rx.ge b hb.symm
  · rcases hb with rfl | hb
    · left
      by_cases e : t = 91
      · exact e
      · exact absurd rfl (rowIs_ne hr' hcell e)
    · right
      by_cases e : t = 3
      · exact e
      · exact absurd hb (own_ne h.rx.r.own hr' e)
  · rcases hb with rfl | hb
    · exact ⟨fun k hk => rowIs_ne hcell (h.ints.ids k hk).1 (by decide), fun e => own_ne h.ints.glob hcell (by decide) e.symm⟩
    · obtain ⟨a1, a2, a3⟩ := h.rx.ap b hb.symm
      exact ⟨a3, a2⟩
  · rcases hv' with e | ⟨g', e, hg'⟩
    · exact h.rx.ge b (e.symm.trans hb)
    · rw [e] at hb; simp only [Option.some.injEq] at hb; omega
  · rcases hv' with e | ⟨g', e, hg'⟩
    · exact h.rx.ap b (e.symm.trans hb)
    · rw [e] at hb; simp only [Option.some.injEq] at hb
      refine ⟨(fun e2 => by cases e2), fun e2 => ?_, fun k hk e2 => ?_⟩
      · have := own_lt h.ints.glob e2; omega
      · have := (h.ints.ids k hk).1.lt; omega
theorem L3.to5 {N s B T R g1 g2 rv rc gb c n : Nat} {pk : Nat → Nat} {w0 : World} {it gl : List Nat} {cl ov ob : Nat} {idb : Nat → Nat} {vi vg : Value} {ids : List Nat} {v : Value} {oc : Nat → Bool} {w : World} (h : L3 N s B T R g1 g2 rv rc gb c n pk w0 it gl cl ov ob idb vi vg ids v oc w) : ∃ Bs GB v1 v2, L5 N s B T R g1 g2 rv rc gb c n pk w0 gl ov idb vg Bs GB v1 v2 ids v w := by
  obtain ⟨Bs, GB, v1, v2, hq, h1, h2, _, hgg⟩ := h.sx.g
  refine ⟨Bs, GB, v1, v2, h.sx.lw, hq, h1, h2, hgg, ⟨h.ints.ids, ⟨rfl, .inl ⟨rfl, rfl⟩⟩, h.ints.glob, fun b hb => (by cases hb), fun k hk => ⟨fun e => (by cases e), (h.ints.idr k hk).2⟩⟩, ⟨h.rx.r, h.rx.ge, fun b hb => ⟨fun e => (by cases e), (h.rx.ap b hb).2⟩⟩⟩
end Go.Proofs.Ybulkctey
