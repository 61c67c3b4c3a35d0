/-
  SEAT b4743a. QUEUE: the law's third loop.
-/
import Derived.Test.YbulkcteyLaw5
namespace Go.Proofs.Ybulkctey
open Go.RowKit Go.Deep

/-- The scheduler's side, without the record. -/
structure Sx (N s B T R g1 g2 rv rc gb c n : Nat) (G : Nat → Option Addr) (w0 : World) (cl ov : Nat) (it es : List Ent) (w : World) : Prop where
  lw : Lw N s B T R g1 g2 rv rc gb c n G w0 w
  q : ∃ nt x, QC B T R c (lay c cl 0 it) nt x w
  g : GS N s g1 g2 0 ov es w
/-- The record, its row from N on and apart from the law's ints. -/
structure Rx (N rv rc n : Nat) (ids : List Nat) (v vi vg : Value) (idb : Nat → Nat) (w : World) : Prop where
  r : RecI rv rc ids v w
  ge : ∀ b, v.ownBlock = some b → N ≤ b
  ap : ∀ b, v.ownBlock = some b → vi.ownBlock ≠ some b ∧ vg.ownBlock ≠ some b ∧ ∀ k, k < n → b ≠ idb k
/-- What a check of the law stands on. -/
structure L3 (N s B T R g1 g2 rv rc gb c n : Nat) (pk : Nat → Nat) (w0 : World) (it gl : List Nat) (cl ov ob : Nat) (idb : Nat → Nat) (vi vg : Value) (ids : List Nat) (v : Value) (oc : Nat → Bool) (w : World) : Prop where
  sx : Sx N s B T R g1 g2 rv rc gb c n (gOf g1 g2 pk) w0 cl ov (it.map (ent rv idb (gOf g1 g2 pk))) (gl.map (ent rv idb (gOf g1 g2 pk))) w
  ints : In N n it gl idb vi vg w
  rx : Rx N rv rc n ids v vi vg idb w
  occ : w.rowIs ob 4 (2 * c) (fun k => .bool (oc k))
  hob : N ≤ ob

theorem L3.keep {N s B T R g1 g2 rv rc gb c n : Nat} {pk : Nat → Nat} {w0 : World} {it gl : List Nat} {cl ov ob : Nat} {idb : Nat → Nat} {vi vg : Value} {ids : List Nat} {v : Value} {oc : Nat → Bool} {w w' : World} (h : L3 N s B T R g1 g2 rv rc gb c n pk w0 it gl cl ov ob idb vi vg ids v oc w) {S : Nat → Prop} (hf : Fr S w w') (hS : ∀ b, S b → N ≤ b)
    (ht : ∀ b m t f, w.rowIs b t m f → S b → t = 4 ∨ t = 91 ∨ t = 3) (hi : ∀ b, S b → (∀ k, k < n → b ≠ idb k) ∧ vi.ownBlock ≠ some b ∧ vg.ownBlock ≠ some b) :
    Sx N s B T R g1 g2 rv rc gb c n (gOf g1 g2 pk) w0 cl ov (it.map (ent rv idb (gOf g1 g2 pk))) (gl.map (ent rv idb (gOf g1 g2 pk))) w' ∧ In N n it gl idb vi vg w' := by
  obtain ⟨⟨hlw, ⟨nt, x, hq⟩, hg⟩, hin, _, _, _⟩ := h
  have hno : ∀ b m t f, w.rowIs b t m f → t ≠ 4 → t ≠ 91 → t ≠ 3 → ¬ S b := fun b m t f hr h1 h2 h3 hs => by
    rcases ht b m t f hr hs with e | e | e
    · exact h1 e
    · exact h2 e
    · exact h3 e
  obtain ⟨fB, hB, _⟩ := hq.p
  refine ⟨⟨⟨hlw.cap, hlw.ge, Fr.below hlw.bel hf hS (by have := hlw.grp.lt; have := hlw.ge; omega), hf.row hlw.grp (hno _ _ _ _ hlw.grp (by decide) (by decide) (by decide)), hlw.gbR⟩, ⟨nt, x, QM.frame hq hf (hno _ _ _ _ hB (by decide) (by decide) (by decide)) (hno _ _ _ _ hq.t (by decide) (by decide) (by decide)) (hno _ _ _ _ hq.g (by decide) (by decide) (by decide))⟩, hg.keep fun b cs t hc ht' => hf.alive hc ?_⟩, ⟨fun k hk => ⟨hf.row (hin.ids k hk).1 (fun hs => (hi _ hs).1 k hk rfl), (hin.ids k hk).2⟩, own_block hin.ring fun k hk => hf.keep k (own_lt hin.ring hk) (fun hs => (hi _ hs).2.1 hk), own_block hin.glob fun k hk => hf.keep k (own_lt hin.glob hk) (fun hs => (hi _ hs).2.2 hk), hin.apart, hin.idr⟩⟩
  refine hno b cs.size t (fun k => cs.getD k undef) ⟨cs, hc, rfl, fun i hi => by simp [Array.getD, hi]⟩ ?_ ?_ ?_
  all_goals (rcases ht' with rfl | rfl | rfl | rfl | rfl <;> decide)

/-- occ[k] = true. -/
theorem L3.setOcc {N s B T R g1 g2 rv rc gb c n : Nat} {pk : Nat → Nat} {w0 : World} {it gl : List Nat} {cl ov ob : Nat} {idb : Nat → Nat} {vi vg : Value} {ids : List Nat} {v : Value} {oc oc' : Nat → Bool} {w : World} (h : L3 N s B T R g1 g2 rv rc gb c n pk w0 it gl cl ov ob idb vi vg ids v oc w) (k : Nat) (ho : ∀ j, j < 2 * c → oc' j = if j = k then true else oc j) : L3 N s B T R g1 g2 rv rc gb c n pk w0 it gl cl ov ob idb vi vg ids v oc' (w.setCell ⟨ob, k, none⟩ (.bool true)) := by
  have hf : Fr (fun b => b = ob) w (w.setCell ⟨ob, k, none⟩ (.bool true)) := (Fr.refl (fun b => b = ob) w).setCell (fun _ => rfl) _
  obtain ⟨h1, h2⟩ := h.keep hf (fun b hb => by rw [hb]; exact h.hob) (fun b m t f hr hb => .inl (by
    subst hb
    by_cases e : t = 4
    · exact e
    · exact absurd rfl (rowIs_ne hr h.occ e))) (fun b hb => by
    subst hb
    refine ⟨fun k hk => rowIs_ne h.occ (h.ints.ids k hk).1 (by decide), fun e => own_ne h.ints.ring h.occ (by decide) e.symm, fun e => own_ne h.ints.glob h.occ (by decide) e.symm⟩)
  refine ⟨h1, h2, ⟨⟨h.rx.r.var.setOther (rowIs_ne h.rx.r.var h.occ (by decide)) _, h.rx.r.cell.setOther (rowIs_ne h.rx.r.cell h.occ (by decide)) _, own_block h.rx.r.own fun k hk => blk_setCell_other _ _ _ _ (fun e => own_ne h.rx.r.own h.occ (by decide) (by rw [hk, e]))⟩, h.rx.ge, h.rx.ap⟩, (h.occ.set k _).congr fun j hj => ?_, h.hob⟩
  rw [ho j hj]
  by_cases e : j = k
  · simp [e]
  · simp [e]

/-- A task told its id. -/
theorem L3.told {N s B T R g1 g2 rv rc gb c n : Nat} {pk : Nat → Nat} {w0 : World} {it gl : List Nat} {cl ov ob : Nat} {idb : Nat → Nat} {vi vg : Value} {ids : List Nat} {v : Value} {oc : Nat → Bool} {w w' : World} {k : Nat} (h : L3 N s B T R g1 g2 rv rc gb c n pk w0 it gl cl ov ob idb vi vg ids v oc w) (ht : Told rv rc ids k v w w') : ∃ v', L3 N s B T R g1 g2 rv rc gb c n pk w0 it gl cl ov ob idb vi vg (ids ++ [k]) v' oc w' := by
  obtain ⟨⟨v', hr, hv'⟩, hf⟩ := ht
  have hcell := h.rx.r.cell
  obtain ⟨h1, h2⟩ := h.keep hf (fun b hb => by
    rcases hb with rfl | hb
    · have := h.sx.lw.ge; omega
    · exact h.rx.ge b hb.symm) (fun b m t f hr' hb => by
    rcases hb with rfl | hb
    · right; left
      by_cases e : t = 91
      · exact e
      · exact absurd rfl (rowIs_ne hr' hcell e)
    · right; right
      by_cases e : t = 3
      · exact e
      · exact absurd hb (own_ne h.rx.r.own hr' e)) (fun b hb => by
    rcases hb with rfl | hb
    · exact ⟨fun k hk => rowIs_ne hcell (h.ints.ids k hk).1 (by decide), fun e => own_ne h.ints.ring hcell (by decide) e.symm, fun e => own_ne h.ints.glob hcell (by decide) e.symm⟩
    · obtain ⟨a1, a2, a3⟩ := h.rx.ap b hb.symm
      exact ⟨a3, a1, a2⟩)
  have hz : N ≤ w.heap.size := by have := h.sx.lw.grp.lt; have := h.sx.lw.ge; omega
  refine ⟨v', h1, h2, ⟨hr, fun b hb => ?_, fun b hb => ?_⟩, hf.row h.occ (fun hs => ?_), h.hob⟩
  · rcases hv' with e | ⟨g', e, hg'⟩
    · exact h.rx.ge b (e.symm.trans hb)
    · rw [e] at hb; simp only [Option.some.injEq] at hb; omega
  · rcases hv' with e | ⟨g', e, hg'⟩
    · exact h.rx.ap b (e.symm.trans hb)
    · rw [e] at hb; simp only [Option.some.injEq] at hb
      refine ⟨fun e2 => ?_, fun e2 => ?_, fun k hk e2 => ?_⟩
      · have := own_lt h.ints.ring e2; omega
      · have := own_lt h.ints.glob e2; omega
      · have := (h.ints.ids k hk).1.lt; omega
  · rcases hs with e | e
    · exact rowIs_ne h.occ hcell (by decide) e
    · exact own_ne h.rx.r.own h.occ (by decide) e
theorem L3.drewN {N s B T R g1 g2 rv rc gb c n : Nat} {pk : Nat → Nat} {w0 : World} {it gl : List Nat} {cl ov ob : Nat} {idb : Nat → Nat} {vi vg : Value} {ids : List Nat} {v : Value} {oc : Nat → Bool} {w : World} (h : L3 N s B T R g1 g2 rv rc gb c n pk w0 it gl cl ov ob idb vi vg ids v oc w) (m : Nat) : L3 N s B T R g1 g2 rv rc gb c n pk w0 it gl cl ov ob idb vi vg ids v oc (w.drewN m) := by
  obtain ⟨h1, h2⟩ := h.keep ((Fr.refl (fun _ => False) w).drewN m) (fun b hb => hb.elim) (fun b m t f _ hb => hb.elim) (fun b hb => hb.elim)
  exact ⟨h1, h2, ⟨⟨h.rx.r.var, h.rx.r.cell, own_block h.rx.r.own fun _ _ => rfl⟩, h.rx.ge, h.rx.ap⟩, h.occ, h.hob⟩
/-- The cells of the queue. -/
theorem L3.cells {N s B T R g1 g2 rv rc gb c n : Nat} {pk : Nat → Nat} {w0 : World} {it gl : List Nat} {cl ov ob : Nat} {idb : Nat → Nat} {vi vg : Value} {ids : List Nat} {v : Value} {oc : Nat → Bool} {w : World} (h : L3 N s B T R g1 g2 rv rc gb c n pk w0 it gl cl ov ob idb vi vg ids v oc w) (j k : Nat) (hj : it[j]? = some k) (hl : it.length ≤ c + 1) :
    w.cell? ⟨T, (cl + j) % (2 * c), none⟩ = some (taskV rv (idb k)) ∧ w.cell? ⟨R, (cl + j) % (2 * c), none⟩ = some (.pointer (gOf g1 g2 pk k)) := by
  obtain ⟨nt, x, hq⟩ := h.sx.q
  have hc := h.sx.lw.cap
  have hcc : 2 ≤ c ∧ c ≤ 32 := by rcases hc with rfl | rfl | rfl | rfl | rfl <;> omega
  have hjl := (List.getElem?_eq_some_iff.1 hj).1
  have hlt := Nat.mod_lt (cl + j) (show 0 < 2 * c by omega)
  have e : lay c cl 0 (it.map (ent rv idb (gOf g1 g2 pk))) ((cl + j) % (2 * c)) = some (ent rv idb (gOf g1 g2 pk) k) := by
    rw [lay_at c cl 0 j _ hc (by omega) (Nat.zero_le _), List.getElem?_map, hj]; rfl
  refine ⟨(hq.t.cell hlt).trans ?_, (hq.g.cell hlt).trans ?_⟩
  · unfold tkC; rw [e]; rfl
  · unfold gkC; rw [e]; rfl
end Go.Proofs.Ybulkctey
