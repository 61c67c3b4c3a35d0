/-
  SEAT b4739aF. THE VOTES AS readVotes MEETS THEM; what its rounds leave. Plain laws on worlds and lists.
-/
import Derived.Test.YbulkctcuFmtStop
import Derived.Test.YbulkctcuFmtEq
import Derived.Test.YbulkctcuFmtBuild
import Derived.Deep.AppendLies
namespace Go.Proofs.YbulkctcuFmt
open Go.RowKit Go.Extern.Stop Go.Stop

/-- w' is w but for block S and for what is new. -/
structure But (S : Nat) (w w' : World) : Prop where
  os : w'.os = w.os
  tape : w'.tape = w.tape
  output : w'.output = w.output
  size : w.heap.size ≤ w'.heap.size
  block : ∀ k, k < w.heap.size → k ≠ S → w'.heap[k]? = w.heap[k]?

theorem But.refl (S : Nat) (w : World) : But S w w := ⟨rfl, rfl, rfl, Nat.le_refl _, fun _ _ _ => rfl⟩
theorem But.cell {S : Nat} {w w' : World} (h : But S w w') {a : Addr} (h1 : a.block < w.heap.size) (h2 : a.block ≠ S) : w'.cell? a = w.cell? a := World.cell?_of_block (w := w) (h.block _ h1 h2)
theorem But.below {S : Nat} {w w' w'' : World} (h : But S w w') (hb : Below w'.heap.size w' w'') : But S w w'' :=
  ⟨hb.os.trans h.os, hb.tape.trans h.tape, hb.output.trans h.output, Nat.le_trans h.size hb.size, fun k hk hs => (hb.block k (Nat.lt_of_lt_of_le hk h.size)).trans (h.block k hk hs)⟩

/-- A vote as readVotes meets it: three cells; where its slot and its head's name lie. -/
structure RV where
  hs : Bool
  slot : Int
  hh : Bool
  head : Nat
  a : Option Addr
  b : Nat
  o : Nat
  c : Nat
  xs : List Int
  px : Nat
  ph : Nat

def ptrIf (t : Bool) (b : Nat) : Value := .pointer (if t then some ⟨b, 0, none⟩ else none)
def RV.cells (v : RV) : List Value := [ptrIf v.hs v.px, .slice v.a v.xs.length v.c, ptrIf v.hh v.ph]
def RV.hv (v : RV) : HV := ⟨v.slot, v.a, v.b, v.o, v.c, v.xs, v.head⟩

/-- What readVotes lets by: a slot, a head, a listed block that is no later, validators inside. -/
def good (n : Int) (sl : List Int) (v : RV) : Bool := v.hs && v.hh && decide (v.head < sl.length) && decide (sl.getD v.head 0 ≤ v.slot) && !anyOut n v.xs

structure RV.Fits (S : Nat) (w : World) (v : RV) : Prop where
  slotAt : v.hs = true → w.cell? ⟨v.px, 0, none⟩ = some (.int .i64 v.slot) ∧ v.px < w.heap.size ∧ v.px ≠ S
  headAt : v.hh = true → w.cell? ⟨v.ph, 0, none⟩ = some (.string (nameOf v.head)) ∧ v.ph < w.heap.size ∧ v.ph ≠ S
  ints : Ints w v.a v.b v.o v.xs
  far : v.b ≠ S
  head : v.head < 256

/-- The row of votes at SV. -/
structure VRow (S SV : Nat) (w : World) (l : List RV) : Prop where
  lt : SV < w.heap.size
  ne : SV ≠ S
  cell : ∀ i t u, i < l.length → t < 3 → (l.getD i ⟨false, 0, false, 0, none, 0, 0, 0, [], 0, 0⟩).cells[t]? = some u → w.cell? ⟨SV, i * 3 + t, none⟩ = some u
  fits : ∀ v ∈ l, v.Fits S w

theorem info41 : (Ybaf.prog.info? 41).map (fun i => (i.zero, i.size, i.bytes)) = some (some (.agg #[.int .i64 0, .slice none 0 0, .int .i64 0]), 3, 40) := by kernel_rfl
theorem zero3 (w : World) : (zeroValue 3).run Ybaf.prog w = .ok (.int .i64 0) w := by kernel_rfl

/-- The votes that are let by ahead of the first that is not. -/
def letBy (n : Int) (sl : List Int) (l : List RV) : List HV := (l.takeWhile (good n sl)).map RV.hv

/-- Behind k rounds: the scenario's votes are the first k. -/
structure Inv (n : Int) (sl : List Int) (S BL : Nat) (l : List RV) (w : World) (k : Nat) (wr : World) (v : Value) : Prop where
  scen : wr.heap[S]? = some (scen n BL sl.length v)
  own : wr.ownsRow w.heap.size 41 3 v k (hcells ((l.take k).map RV.hv))
  but : But S w wr

theorem owns_below {w w' : World} {base : Nat} {e : TypeId} {size n : Nat} {v : Value} {xs : List Value} (h : w.ownsRow base e size v n xs) (hb : Below w.heap.size w w') : w'.ownsRow base e size v n xs := by
  obtain ⟨h1, h2⟩ := h
  refine ⟨h1, h2.imp id fun ⟨g, cap, cur, hv, hg, hh, r⟩ => ⟨g, cap, cur, hv, hg, ?_, r⟩⟩
  rw [hb.block g (Array.getElem?_eq_some_iff.1 hh).1]; exact hh
theorem Inv.below {n : Int} {sl : List Int} {S BL : Nat} {l : List RV} {w : World} {k : Nat} {wr w' : World} {v : Value} (h : Inv n sl S BL l w k wr v) (hb : Below wr.heap.size wr w') : Inv n sl S BL l w k w' v :=
  ⟨by rw [hb.block S (Array.getElem?_eq_some_iff.1 h.scen).1]; exact h.scen, owns_below h.own hb, h.but.below hb⟩

theorem takeWhile_all {α : Type} (p : α → Bool) : ∀ (l : List α), l.all p = true → l.takeWhile p = l
  | [], _ => rfl
  | x :: l, h => by
    simp only [List.all_cons, Bool.and_eq_true] at h
    simp [List.takeWhile, h.1, takeWhile_all p l h.2]
theorem letBy_all {n : Int} {sl : List Int} {l : List RV} (h : l.all (good n sl) = true) : letBy n sl l = l.map RV.hv := by
  rw [letBy, takeWhile_all _ l h]
theorem takeWhile_at {α : Type} (p : α → Bool) : ∀ (l : List α) (k : Nat) (hk : k < l.length), (l.take k).all p = true → p l[k] = false → l.takeWhile p = l.take k
  | [], k, hk, _, _ => by simp at hk
  | x :: l, 0, _, _, hb => by simp at hb; simp [List.takeWhile, hb]
  | x :: l, k + 1, hk, ha, hb => by
    simp only [List.take_succ_cons, List.all_cons, Bool.and_eq_true] at ha
    simp only [List.getElem_cons_succ] at hb
    simp [List.takeWhile, ha.1, takeWhile_at p l k (by simpa using hk) ha.2 hb]
theorem letBy_at {n : Int} {sl : List Int} {l : List RV} {k : Nat} (hk : k < l.length) (ha : (l.take k).all (good n sl) = true) (hb : good n sl l[k] = false) : letBy n sl l = (l.take k).map RV.hv ∧ l.all (good n sl) = false := by
  refine ⟨by rw [letBy, takeWhile_at _ l k hk ha hb], ?_⟩
  rw [List.all_eq_false]
  exact ⟨l[k], List.getElem_mem _, by simp [hb]⟩

/-- What readVotes leaves. -/
def Left (n : Int) (sl : List Int) (S BL : Nat) (l : List RV) (w : World) (e : Ending) (w' : World) : Prop := ∃ v err, e = .returned err ∧
      (l.all (good n sl) = true → err = .nilIface) ∧ (l.all (good n sl) = false → ∃ blk, err = .iface 46 (.pointer (some ⟨blk, 0, none⟩)) ∧ w'.cell? ⟨blk, 0, none⟩ = some (.string fieldName)) ∧
      w'.heap[S]? = some (scen n BL sl.length v) ∧ w'.ownsRow w.heap.size 41 3 v (letBy n sl l).length (hcells (letBy n sl l)) ∧ But S w w'

theorem left_all {n : Int} {sl : List Int} {S BL : Nat} {l : List RV} {w wr : World} {v : Value} (h : Inv n sl S BL l w l.length wr v) (ha : (l.take l.length).all (good n sl) = true) : Left n sl S BL l w (.returned .nilIface) wr := by
  rw [List.take_length] at ha
  refine ⟨v, _, rfl, fun _ => rfl, (fun hf => by rw [ha] at hf; cases hf), h.scen, ?_, h.but⟩
  have ho := h.own
  rw [List.take_length] at ho
  rw [letBy_all ha, List.length_map]; exact ho
theorem left_wrong {n : Int} {sl : List Int} {S BL : Nat} {l : List RV} {w wr w' : World} {k blk : Nat} {v : Value} (hk : k < l.length) (h : Inv n sl S BL l w k wr v) (ha : (l.take k).all (good n sl) = true) (hb : good n sl l[k] = false) (hbel : Below wr.heap.size wr w')
    (hc : w'.cell? ⟨blk, 0, none⟩ = some (.string fieldName)) : Left n sl S BL l w (.returned (.iface 46 (.pointer (some ⟨blk, 0, none⟩)))) w' := by
  obtain ⟨h1, h2⟩ := letBy_at hk ha hb
  have h' := h.below hbel
  refine ⟨v, _, rfl, (fun ht => by rw [h2] at ht; cases ht), fun _ => ⟨blk, rfl, hc⟩, h'.scen, ?_, h'.but⟩
  have ho := h'.own
  rw [h1, List.length_map, List.length_take, Nat.min_eq_left (by omega)]
  exact ho

theorem frozen_alloc_lt (w : World) (o : Obj) {a : Addr} (h : a.block < w.heap.size) : (w.alloc o).frozen? a = w.frozen? a := World.frozen?_of_block (w := w) (Below.heap_alloc _ _ _ h)

theorem all_take_succ {α : Type} {p : α → Bool} {l : List α} {k : Nat} (hk : k < l.length) (h : (l.take k).all p = true) (hp : p l[k] = true) : (l.take (k + 1)).all p = true := by
  rw [List.take_succ_eq_append_getElem hk, List.all_append, h, List.all_cons, hp]; rfl

theorem news3 {W : World} {B : Nat} {c0 c1 c2 : Value} (h0 : W.cell? ⟨B, 0, none⟩ = some c0) (h1 : W.cell? ⟨B, 1, none⟩ = some c1) (h2 : W.cell? ⟨B, 2, none⟩ = some c2) :
    ∀ j u, [c0, c1, c2][j]? = some u → W.cell? ((⟨B, 0, none⟩ : Addr).add j) = some u := by
  intro j u hj
  have hadd : (⟨B, 0, none⟩ : Addr).add j = ⟨B, j, none⟩ := by unfold Addr.add; split <;> simp_all
  rw [hadd]
  match j, hj with
  | 0, hj => simp at hj; rw [← hj]; exact h0
  | 1, hj => simp at hj; rw [← hj]; exact h1
  | 2, hj => simp at hj; rw [← hj]; exact h2

/-- A round that lets its vote by. -/
theorem Inv.step {n : Int} {sl : List Int} {S BL : Nat} {l : List RV} {w wr W w1 : World} {k : Nat} {v v' : Value} (h : Inv n sl S BL l w k wr v) (hS : S < w.heap.size) (hk : k < l.length) (hb : Below wr.heap.size wr W)
    (hown : w1.ownsRow w.heap.size 41 3 v' (k + 1) (hcells ((l.take k).map RV.hv) ++ (l[k].hv).cells)) (hg : W.grownBy w1 v.ownBlock) (hv : ∀ b, v.ownBlock = some b → w.heap.size ≤ b) : Inv n sl S BL l w (k + 1) (w1.setCell ⟨S, 3, none⟩ v') v' := by
  have hW := h.below hb
  have hSW : S < W.heap.size := (Array.getElem?_eq_some_iff.1 hW.scen).1
  have hS1 : w1.heap[S]? = some (Go.Proofs.YbulkctcuFmt.scen n BL sl.length v) := by
    rw [hg.block S hSW (fun e => by have := hv S e.symm; omega)]; exact hW.scen
  refine ⟨?_, ?_, ?_⟩
  · simp [World.setCell, Array.getElem?_modify, hS1, Go.Proofs.YbulkctcuFmt.scen]
  · have e : (l.take (k + 1)).map RV.hv = (l.take k).map RV.hv ++ [l[k].hv] := by rw [List.take_succ_eq_append_getElem hk, List.map_append]; rfl
    rw [e, hcells_snoc]
    exact ownsRow_setCell_below hown hS _
  · refine ⟨hg.os.trans hW.but.os, hg.tape.trans hW.but.tape, hg.output.trans hW.but.output, ?_, fun j hj hjs => ?_⟩
    · have := hW.but.size; have := hg.size; simp [World.setCell]; omega
    · rw [Below.heap_setCell _ _ _ _ (by simpa using hjs), hg.block j (Nat.lt_of_lt_of_le hj hW.but.size) (fun e => by have := hv j e.symm; omega)]
      exact hW.but.block j hj hjs

theorem ownBlock_ge {w : World} {base : Nat} {e : TypeId} {size n : Nat} {v : Value} {xs : List Value} (h : w.ownsRow base e size v n xs) : ∀ b, v.ownBlock = some b → base ≤ b := by
  intro b hb
  rcases h.2 with ⟨rfl, _⟩ | ⟨g, cap, cur, rfl, hg, _⟩
  · simp [Value.ownBlock] at hb
  · simp [Value.ownBlock] at hb; omega

end Go.Proofs.YbulkctcuFmt
