/-
  SEAT b4743a. QUEUE: how the items lie in the ring's cells; plain.
-/
import Derived.Test.YbulkcteyLock
namespace Go.Proofs.Ybulkctey
open Go.RowKit Go.Deep

/-- How far behind base a cell lies. -/
def dist (c base k : Nat) : Nat := (k + 2 * c - base % (2 * c)) % (2 * c)
/-- The item in cell k: items from lo on lie from base + lo on. -/
def lay (c base lo : Nat) (it : List Ent) (k : Nat) : Option Ent := if lo ≤ dist c base k then it[dist c base k]? else none
def oT : Option Ent → Value
  | none => .nilFunc
  | some e => e.1
def oG : Option Ent → Option Addr
  | none => none
  | some e => e.2
def tkC (C : Nat → Option Ent) (k : Nat) : Value := oT (C k)
def gkC (C : Nat → Option Ent) (k : Nat) : Value := .pointer (oG (C k))

theorem dist_at (c base j : Nat) (hc : Cap c) (hj : j < 2 * c) : dist c base ((base + j) % (2 * c)) = j := by
  unfold dist; rcases hc with rfl | rfl | rfl | rfl | rfl <;> omega
theorem dist_eq (c base j k : Nat) (hc : Cap c) (hj : j < 2 * c) (hk : k < 2 * c) : k = (base + j) % (2 * c) ↔ dist c base k = j := by
  unfold dist; rcases hc with rfl | rfl | rfl | rfl | rfl <;> omega
theorem dist_lt (c base k : Nat) (hc : Cap c) : dist c base k < 2 * c := by
  unfold dist; rcases hc with rfl | rfl | rfl | rfl | rfl <;> omega
theorem dist_base (c base n k : Nat) (hc : Cap c) (hn : n ≤ 2 * c) (hk : k < 2 * c) : dist c (base + n) k = if n ≤ dist c base k then dist c base k - n else dist c base k + 2 * c - n := by
  unfold dist; rcases hc with rfl | rfl | rfl | rfl | rfl <;> split <;> omega

theorem lay_at (c base lo j : Nat) (it : List Ent) (hc : Cap c) (hj : j < 2 * c) (hl : lo ≤ j) : lay c base lo it ((base + j) % (2 * c)) = it[j]? := by
  unfold lay; rw [dist_at c base j hc hj, if_pos hl]
theorem lay_take (c base lo k : Nat) (it : List Ent) (hc : Cap c) (hl : lo < 2 * c) (hk : k < 2 * c) : (if k = (base + lo) % (2 * c) then none else lay c base lo it k) = lay c base (lo + 1) it k := by
  unfold lay
  by_cases h : k = (base + lo) % (2 * c)
  · rw [if_pos h, (dist_eq c base lo k hc hl hk).1 h, if_neg (by omega)]
  · have hd : dist c base k ≠ lo := fun e => h ((dist_eq c base lo k hc hl hk).2 e)
    rw [if_neg h]
    by_cases h2 : lo ≤ dist c base k
    · rw [if_pos h2, if_pos (by omega)]
    · rw [if_neg h2, if_neg (by omega)]
theorem lay_put (c base k : Nat) (it : List Ent) (e : Ent) (hc : Cap c) (hl : it.length < 2 * c) (hk : k < 2 * c) : (if k = (base + it.length) % (2 * c) then some e else lay c base 0 it k) = lay c base 0 (it ++ [e]) k := by
  unfold lay
  rw [if_pos (Nat.zero_le _), if_pos (Nat.zero_le _)]
  by_cases h : k = (base + it.length) % (2 * c)
  · rw [if_pos h, (dist_eq c base _ k hc hl hk).1 h]; simp
  · have hd : dist c base k ≠ it.length := fun e => h ((dist_eq c base _ k hc hl hk).2 e)
    rw [if_neg h]
    by_cases h2 : dist c base k < it.length
    · rw [List.getElem?_append_left h2]
    · rw [List.getElem?_eq_none (by omega), List.getElem?_eq_none (by simp; omega)]
theorem lay_pop (c base k : Nat) (it : List Ent) (e : Ent) (hc : Cap c) (hl : it.length < 2 * c) (hk : k < 2 * c) : (if k = (base + it.length) % (2 * c) then none else lay c base 0 (it ++ [e]) k) = lay c base 0 it k := by
  unfold lay
  rw [if_pos (Nat.zero_le _), if_pos (Nat.zero_le _)]
  by_cases h : k = (base + it.length) % (2 * c)
  · rw [if_pos h, (dist_eq c base _ k hc hl hk).1 h]; simp
  · have hd : dist c base k ≠ it.length := fun e => h ((dist_eq c base _ k hc hl hk).2 e)
    rw [if_neg h]
    by_cases h2 : dist c base k < it.length
    · rw [List.getElem?_append_left h2]
    · rw [List.getElem?_eq_none (by simp; omega), List.getElem?_eq_none (by omega)]
theorem lay_base (c base n k : Nat) (it : List Ent) (hc : Cap c) (hn : n ≤ 2 * c) (hl : it.length ≤ 2 * c) (hk : k < 2 * c) : lay c base n it k = lay c (base + n) 0 (it.drop n) k := by
  unfold lay
  rw [if_pos (Nat.zero_le _), dist_base c base n k hc hn hk]
  have hd := dist_lt c base k hc
  by_cases h : n ≤ dist c base k
  · rw [if_pos h, if_pos h, List.getElem?_drop]; congr 1; omega
  · rw [if_neg h, if_neg h, List.getElem?_eq_none (by simp; omega)]

theorem QM.congr {B T R c x : Nat} {tk gk tk' gk' : Nat → Value} {nt : Bool} {w : World} (h : QM B T R c tk gk nt x w) (h1 : ∀ k, k < 2 * c → tk k = tk' k) (h2 : ∀ k, k < 2 * c → gk k = gk' k) : QM B T R c tk' gk' nt x w := ⟨h.p, h.t.congr h1, h.g.congr h2, h.ne⟩
/-- The queue's memory by its cells' items. -/
def QC (B T R c : Nat) (C : Nat → Option Ent) (nt : Bool) (x : Nat) (w : World) : Prop := QM B T R c (tkC C) (gkC C) nt x w
theorem QC.congr {B T R c x : Nat} {C C' : Nat → Option Ent} {nt : Bool} {w : World} (h : QC B T R c C nt x w) (h1 : ∀ k, k < 2 * c → C k = C' k) : QC B T R c C' nt x w :=
  QM.congr h (fun k hk => by unfold tkC; rw [h1 k hk]) (fun k hk => by unfold gkC; rw [h1 k hk])
theorem QC.of {B T R c x i : Nat} {C : Nat → Option Ent} {nt : Bool} {w : World} {o : Option Ent} {v g : Value} (h : QM B T R c (fun j => if j = i then v else tkC C j) (fun j => if j = i then g else gkC C j) nt x w) (hv : v = oT o) (hg : g = .pointer (oG o)) : QC B T R c (fun j => if j = i then o else C j) nt x w := by
  refine QM.congr h (fun k _ => ?_) (fun k _ => ?_)
  · unfold tkC
    by_cases e : k = i
    · simp only [if_pos e]; exact hv
    · simp only [if_neg e]
  · unfold gkC
    by_cases e : k = i
    · simp only [if_pos e]; exact hg
    · simp only [if_neg e]

/-- All that queueLocal may turn. -/
def SF (N B T R s g1 g2 : Nat) (w : World) : Nat → Prop := SS N (fun b => b = s ∨ b = g1 ∨ b = g2 ∨ b = B ∨ b = T ∨ b = R) (fun t => t = 107 ∨ t = 141 ∨ t = 64) w
theorem Fr.gf {N B T R s g1 g2 : Nat} {w w' : World} (h : Fr (GF N s g1 g2 w) w w') : Fr (SF N B T R s g1 g2 w) w w' := h.monoS (fun b hb => by omega) (fun _ h => h)
theorem Fr.qf {N B T R s g1 g2 : Nat} {w w' : World} (h : Fr (fun b => b = B ∨ b = T ∨ b = R) w w') : Fr (SF N B T R s g1 g2 w) w w' := (Fr.ofF (N := N) h).monoS (ts := fun _ => False) (fun b hb => by omega) (fun _ h => h.elim)
/-- The global part is left alone by what turns the local queue alone. -/
theorem GS.local {N B T R c x s g1 g2 : Nat} {tk gk : Nat → Value} {nt : Bool} {mu : Int} {ov : Nat} {es : List Ent} {w w' : World} (h : GS N s g1 g2 mu ov es w) (hq : QM B T R c tk gk nt x w) (hf : Fr (fun b => b = B ∨ b = T ∨ b = R) w w') : GS N s g1 g2 mu ov es w' := by
  obtain ⟨f, ⟨c1, hB, _⟩, _⟩ := hq.p
  obtain ⟨c2, hT, _⟩ := hq.t
  obtain ⟨c3, hR, _⟩ := hq.g
  refine h.keep fun b cs t hc ht => hf.alive hc ?_
  rintro (rfl | rfl | rfl)
  · rw [hB] at hc; simp only [Option.some.injEq, Obj.cells.injEq] at hc; exact absurd hc.2.1 (by rcases ht with rfl | rfl | rfl | rfl | rfl <;> decide)
  · rw [hT] at hc; simp only [Option.some.injEq, Obj.cells.injEq] at hc; exact absurd hc.2.1 (by rcases ht with rfl | rfl | rfl | rfl | rfl <;> decide)
  · rw [hR] at hc; simp only [Option.some.injEq, Obj.cells.injEq] at hc; exact absurd hc.2.1 (by rcases ht with rfl | rfl | rfl | rfl | rfl <;> decide)
/-- The local queue is left alone by what turns the global part alone. -/
theorem QM.global {N B T R c x s g1 g2 : Nat} {tk gk : Nat → Value} {nt : Bool} {mu : Int} {ov : Nat} {es : List Ent} {w w' : World} (hq : QM B T R c tk gk nt x w) (h : GS N s g1 g2 mu ov es w) (hf : Fr (GF N s g1 g2 w) w w') : QM B T R c tk gk nt x w' := by
  obtain ⟨B', GB, v1, v2, hG, h1, h2, _⟩ := h
  obtain ⟨fs, hs, _⟩ := hG.sch
  obtain ⟨f1, hf1, _⟩ := h1.row
  obtain ⟨f2, hf2, _⟩ := h2.row
  obtain ⟨f, hB, _⟩ := hq.p
  refine hq.frame hf (rowIs_apart hB ?_ (by decide)) (rowIs_apart hq.t ?_ (by decide)) (rowIs_apart hq.g ?_ (by decide))
  · rintro (rfl | rfl | rfl)
    · exact rowIs_ne hB hs (by decide) rfl
    · exact rowIs_ne hB hf1 (by decide) rfl
    · exact rowIs_ne hB hf2 (by decide) rfl
  · rintro (rfl | rfl | rfl)
    · exact rowIs_ne hq.t hs (by decide) rfl
    · exact rowIs_ne hq.t hf1 (by decide) rfl
    · exact rowIs_ne hq.t hf2 (by decide) rfl
  · rintro (rfl | rfl | rfl)
    · exact rowIs_ne hq.g hs (by decide) rfl
    · exact rowIs_ne hq.g hf1 (by decide) rfl
    · exact rowIs_ne hq.g hf2 (by decide) rfl
end Go.Proofs.Ybulkctey
