/-
  SEAT b4739aF. THE VOTES THAT CAME IN, AND THE LAW's FIRST LOOP AS A RELATION: what readVotes will meet.
-/
import Derived.Test.YbulkctcuFmtVotes
namespace Go.Proofs.YbulkctcuFmt
open Go.RowKit

/-- A vote that came in: five cells. -/
structure IV where
  hs : Bool
  slot : Int
  hh : Bool
  head : Nat
  a : Option Addr
  b : Nat
  o : Nat
  c : Nat
  xs : List Int

def IV.cells (v : IV) : List Value := [.bool v.hs, .int .i64 v.slot, .bool v.hh, .int .u8 v.head, .slice v.a v.xs.length v.c]
def RV.iv (v : RV) : IV := ⟨v.hs, v.slot, v.hh, v.head, v.a, v.b, v.o, v.c, v.xs⟩
def IV.hv (v : IV) : HV := ⟨v.slot, v.a, v.b, v.o, v.c, v.xs, v.head⟩
def noIV : IV := ⟨false, 0, false, 0, none, 0, 0, 0, []⟩
def noRV : RV := ⟨false, 0, false, 0, none, 0, 0, 0, [], 0, 0⟩

structure In (w : World) (av : Option Addr) (bv ov : Nat) (l : List IV) : Prop where
  at' : 0 < l.length → av = some ⟨bv, ov, none⟩
  lt : 0 < l.length → bv < w.heap.size
  cell : ∀ i t u, i < l.length → t < 5 → (l.getD i noIV).cells[t]? = some u → w.cell? ⟨bv, ov + (i * 5 + t), none⟩ = some u
  fits : ∀ v ∈ l, Ints w v.a v.b v.o v.xs ∧ v.head < 256 ∧ v.b ≠ w.heap.size

/-- What is let by, said of the votes that came in. -/
def goodI (n : Int) (sl : List Int) (v : IV) : Bool := v.hs && v.hh && decide (v.head < sl.length) && decide (sl.getD v.head 0 ≤ v.slot) && !anyOut n v.xs
theorem good_iv (n : Int) (sl : List Int) (v : RV) : good n sl v = goodI n sl v.iv := rfl
theorem hv_iv (v : RV) : v.hv = v.iv.hv := rfl
def letByI (n : Int) (sl : List Int) (l : List IV) : List HV := (l.takeWhile (goodI n sl)).map IV.hv

theorem letBy_iv (n : Int) (sl : List Int) (rs : List RV) : letBy n sl rs = letByI n sl (rs.map RV.iv) := by
  induction rs with
  | nil => rfl
  | cons r rs ih =>
    simp only [letBy, letByI, List.takeWhile_cons, List.map_cons] at ih ⊢
    rw [← good_iv]
    split
    · simp only [List.map_cons, hv_iv]; rw [ih]
    · rfl
theorem all_iv (n : Int) (sl : List Int) (rs : List RV) : rs.all (good n sl) = (rs.map RV.iv).all (goodI n sl) := by
  rw [List.all_map]; rfl

/-- The blocks of a vote's slot and head. -/
structure At (SV : Nat) (w : World) (v : RV) : Prop where
  slotAt : v.hs = true → w.cell? ⟨v.px, 0, none⟩ = some (.int .i64 v.slot) ∧ v.px < w.heap.size ∧ SV < v.px
  headAt : v.hh = true → w.cell? ⟨v.ph, 0, none⟩ = some (.string (nameOf v.head)) ∧ v.ph < w.heap.size ∧ SV < v.ph

theorem At.but {SV : Nat} {w w' : World} {v : RV} (h : At SV w v) (hb : But SV w w') : At SV w' v :=
  ⟨fun e => let ⟨h1, h2, h3⟩ := h.slotAt e; ⟨(hb.cell h2 (by simp; omega)).trans h1, Nat.lt_of_lt_of_le h2 hb.size, h3⟩,
   fun e => let ⟨h1, h2, h3⟩ := h.headAt e; ⟨(hb.cell h2 (by simp; omega)).trans h1, Nat.lt_of_lt_of_le h2 hb.size, h3⟩⟩

/-- Behind k rounds of the first loop. -/
structure Filled (SV N : Nat) (l : List IV) (w : World) (k : Nat) (wr : World) (f : Nat → Value) (rs : List RV) : Prop where
  iv : rs.map RV.iv = l.take k
  row : wr.rowIs SV 35 (N * 3) f
  cell : ∀ i t u, i < k → t < 3 → (rs.getD i noRV).cells[t]? = some u → f (i * 3 + t) = u
  zero : ∀ i, k ≤ i → i < N → f (i * 3) = .pointer none ∧ f (i * 3 + 2) = .pointer none
  at' : ∀ v ∈ rs, At SV wr v
  but : But SV w wr

theorem but_alloc {S : Nat} {w w' : World} (h : But S w w') (o : Obj) : But S w (w'.alloc o) := h.below ((Below.refl _ _).alloc (Nat.le_refl _) _)
theorem but_setCell {S : Nat} {w w' : World} (h : But S w w') {a : Addr} (ha : a.block = S) (v : Value) : But S w (w'.setCell a v) :=
  ⟨h.os, h.tape, h.output, by simp [World.setCell]; exact h.size, fun k hk hs => by rw [Below.heap_setCell _ _ _ _ (by omega)]; exact h.block k hk hs⟩
theorem but_trans {S : Nat} {w w' w'' : World} (h : But S w w') (h' : But S w' w'') : But S w w'' :=
  ⟨h'.os.trans h.os, h'.tape.trans h.tape, h'.output.trans h.output, Nat.le_trans h.size h'.size, fun k hk hs => (h'.block k (Nat.lt_of_lt_of_le hk h.size) hs).trans (h.block k hk hs)⟩

/-- One round: three cells are laid; the slot and the head lie in new blocks. -/
theorem Filled.step {SV N : Nat} {l : List IV} {w wr w' : World} {k : Nat} {f : Nat → Value} {rs : List RV} (h : Filled SV N l w k wr f rs) (hk : k < l.length) (r : RV) (hr : r.iv = l[k]) (hb : But SV wr w')
    (hrow : w'.rowIs SV 35 (N * 3) (fun j => if j = k * 3 then ptrIf r.hs r.px else if j = k * 3 + 1 then .slice r.a r.xs.length r.c else if j = k * 3 + 2 then ptrIf r.hh r.ph else f j)) (hat : At SV w' r) :
    Filled SV N l w (k + 1) w' (fun j => if j = k * 3 then ptrIf r.hs r.px else if j = k * 3 + 1 then .slice r.a r.xs.length r.c else if j = k * 3 + 2 then ptrIf r.hh r.ph else f j) (rs ++ [r]) := by
  have hl : rs.length = k := by have := congrArg List.length h.iv; simp at this; omega
  refine ⟨?_, hrow, fun i t u hi ht hu => ?_, fun i hi hN => ?_, fun v hv => ?_, but_trans h.but hb⟩
  · rw [List.map_append, h.iv, List.take_succ_eq_append_getElem hk]; simp [hr]
  · by_cases hik : i = k
    · subst hik
      have e : (rs ++ [r]).getD i noRV = r := by rw [← hl]; simp [List.getD]
      rw [e] at hu
      match t, ht with
      | 0, _ => simp [RV.cells] at hu; simp [hu]
      | 1, _ => simp [RV.cells] at hu; simp [hu]
      | 2, _ => simp [RV.cells] at hu; simp [hu]
    · have e : (rs ++ [r]).getD i noRV = rs.getD i noRV := by simp [List.getD, List.getElem?_append_left (show i < rs.length by omega)]
      rw [e] at hu
      have := h.cell i t u (by omega) ht hu
      show (if i * 3 + t = k * 3 then _ else if i * 3 + t = k * 3 + 1 then _ else if i * 3 + t = k * 3 + 2 then _ else f (i * 3 + t)) = u
      rw [if_neg (by omega), if_neg (by omega), if_neg (by omega)]; exact this
  · have hz := h.zero i (by omega) hN
    refine ⟨?_, ?_⟩
    · show (if i * 3 = k * 3 then _ else if i * 3 = k * 3 + 1 then _ else if i * 3 = k * 3 + 2 then _ else f (i * 3)) = _
      rw [if_neg (by omega), if_neg (by omega), if_neg (by omega)]; exact hz.1
    · show (if i * 3 + 2 = k * 3 then _ else if i * 3 + 2 = k * 3 + 1 then _ else if i * 3 + 2 = k * 3 + 2 then _ else f (i * 3 + 2)) = _
      rw [if_neg (by omega), if_neg (by omega), if_neg (by omega)]; exact hz.2
  · rcases List.mem_append.1 hv with hv | hv
    · exact (h.at' v hv).but hb
    · simp at hv; subst hv; exact hat
open Go.Extern.Stop Go.Stop in
/-- What is said of readVotes (proved in a text of its own). -/
def ReadSaid : Prop := ∀ (F : Interp) (n : Int) (sl : List Int) (S BL C SV M : Nat) (es : List (ByteArray × Value)) (l : List RV) (w : World) (_ : F.answers w.tape) (_ : sl.length ≤ 256) (_ : l.length ≤ 1024)
    (_ : w.heap[S]? = some (scen n BL sl.length (.slice none 0 0))) (_ : BL < w.heap.size ∧ BL ≠ S) (_ : ∀ j, j < sl.length → w.cell? ⟨BL, j * 5 + 1, none⟩ = some (.int .i64 (sl.getD j 0)))
    (_ : M ≠ S) (_ : mapIs Value.string w M es) (_ : Index sl.length es) (_ : C < w.heap.size ∧ C ≠ S) (_ : w.cell? ⟨C, 1, none⟩ = some (.slice (some ⟨SV, 0, none⟩) l.length l.length)) (_ : VRow S SV w l),
    Calls Ybaf.prog 8 #[.pointer (some ⟨S, 0, none⟩), .pointer (some ⟨C, 0, none⟩), .map (some M)] w fun e w' => Left n sl S BL l w e w'
end Go.Proofs.YbulkctcuFmt
