/-
  SEAT b4743a. QUEUE: which blocks a call may turn (Fr); the local queue's memory (QM); contracts: cell, inUse.
-/
import Derived.Test.YbulkcteyHalf
import Derived.Deep.OwnRows
import Derived.Deep.QuietTactic
import Derived.BigQuiet
namespace Go.Proofs.Ybulkctey
open Go.RowKit Go.Deep

/-- From w to w' only blocks in S may have turned, and new blocks may have come. -/
structure Fr (S : Nat → Prop) (w w' : World) : Prop where
  os : w'.os = w.os
  tape : w'.tape = w.tape
  output : w'.output = w.output
  size : w.heap.size ≤ w'.heap.size
  keep : ∀ b, b < w.heap.size → ¬ S b → w'.heap[b]? = w.heap[b]?

theorem Fr.refl (S : Nat → Prop) (w : World) : Fr S w w := ⟨rfl, rfl, rfl, Nat.le_refl _, fun _ _ _ => rfl⟩
theorem Fr.trans {S : Nat → Prop} {w w1 w2 : World} (h : Fr S w w1) (h2 : Fr S w1 w2) : Fr S w w2 :=
  ⟨h2.os.trans h.os, h2.tape.trans h.tape, h2.output.trans h.output, Nat.le_trans h.size h2.size, fun b hb hs => (h2.keep b (Nat.lt_of_lt_of_le hb h.size) hs).trans (h.keep b hb hs)⟩
theorem Fr.mono {S T : Nat → Prop} {w w1 : World} (h : Fr S w w1) (hst : ∀ b, b < w.heap.size → S b → T b) : Fr T w w1 :=
  ⟨h.os, h.tape, h.output, h.size, fun b hb hs => h.keep b hb fun s => hs (hst b hb s)⟩
theorem Fr.setCell {S : Nat → Prop} {w w1 : World} (h : Fr S w w1) {a : Addr} (ha : a.block < w.heap.size → S a.block) (v : Value) : Fr S w (w1.setCell a v) :=
  ⟨h.os, h.tape, h.output, by simpa [World.setCell] using h.size, fun b hb hs => (blk_setCell_other w1 a v b (fun e => hs (by subst e; exact ha hb))).trans (h.keep b hb hs)⟩
theorem Fr.alloc {S : Nat → Prop} {w w1 : World} (h : Fr S w w1) (o : Obj) : Fr S w (w1.alloc o) :=
  ⟨h.os, h.tape, h.output, by have := h.size; simp; omega, fun b hb hs => (blk_alloc_lt _ _ _ (Nat.lt_of_lt_of_le hb h.size)).trans (h.keep b hb hs)⟩
theorem Fr.drew {S : Nat → Prop} {w w1 : World} (h : Fr S w w1) : Fr S w w1.drew := ⟨h.os, h.tape, h.output, h.size, h.keep⟩
theorem Fr.drewN {S : Nat → Prop} {w w1 : World} (h : Fr S w w1) (n : Nat) : Fr S w (w1.drewN n) := ⟨h.os, h.tape, h.output, h.size, h.keep⟩
theorem Fr.row {S : Nat → Prop} {w w1 : World} (h : Fr S w w1) {b n : Nat} {t : TypeId} {f : Nat → Value} (hr : w.rowIs b t n f) (hs : ¬ S b) : w1.rowIs b t n f := hr.of_block (h.keep b hr.lt hs)

/-- The local queue in memory: the processor's block B (its queue's cells 1 to 5), the two rows. -/
structure QM (B T R c : Nat) (tk gk : Nat → Value) (nt : Bool) (x : Nat) (w : World) : Prop where
  p : ∃ f, w.rowIs B 99 75 f ∧ f 1 = .slice (some ⟨T, 0, none⟩) (2 * c) (2 * c) ∧ f 2 = .slice (some ⟨R, 0, none⟩) (2 * c) (2 * c) ∧ f 3 = .int .i64 c ∧ f 4 = .bool nt ∧ f 5 = .int .u64 x
  t : w.rowIs T 92 (2 * c) tk
  g : w.rowIs R 81 (2 * c) gk
  ne : B ≠ T ∧ B ≠ R ∧ T ≠ R
namespace QM
variable {B T R c : Nat} {tk gk : Nat → Value} {nt : Bool} {x : Nat} {w : World}
theorem c1 (h : QM B T R c tk gk nt x w) : w.cell? ⟨B, 1, none⟩ = some (.slice (some ⟨T, 0, none⟩) (2 * c) (2 * c)) := by obtain ⟨f, hf, h1, _⟩ := h.p; rw [← h1]; exact hf.cell (by omega)
theorem c2 (h : QM B T R c tk gk nt x w) : w.cell? ⟨B, 2, none⟩ = some (.slice (some ⟨R, 0, none⟩) (2 * c) (2 * c)) := by obtain ⟨f, hf, _, h1, _⟩ := h.p; rw [← h1]; exact hf.cell (by omega)
theorem c3 (h : QM B T R c tk gk nt x w) : w.cell? ⟨B, 3, none⟩ = some (.int .i64 c) := by obtain ⟨f, hf, _, _, h1, _⟩ := h.p; rw [← h1]; exact hf.cell (by omega)
theorem c4 (h : QM B T R c tk gk nt x w) : w.cell? ⟨B, 4, none⟩ = some (.bool nt) := by obtain ⟨f, hf, _, _, _, h1, _⟩ := h.p; rw [← h1]; exact hf.cell (by omega)
theorem c5 (h : QM B T R c tk gk nt x w) : w.cell? ⟨B, 5, none⟩ = some (.int .u64 x) := by obtain ⟨f, hf, _, _, _, _, h1⟩ := h.p; rw [← h1]; exact hf.cell (by omega)
theorem fz (h : QM B T R c tk gk nt x w) (i : Nat) : w.frozen? ⟨B, i, none⟩ = false := by obtain ⟨f, hf, _⟩ := h.p; exact hf.frozen i
theorem ltB (h : QM B T R c tk gk nt x w) : B < w.heap.size := by obtain ⟨f, hf, _⟩ := h.p; exact hf.lt
theorem frame {S : Nat → Prop} {w' : World} (h : QM B T R c tk gk nt x w) (hf : Fr S w w') (h1 : ¬ S B) (h2 : ¬ S T) (h3 : ¬ S R) : QM B T R c tk gk nt x w' := by
  obtain ⟨⟨f, hr, hv⟩, ht, hg, hn⟩ := h
  exact ⟨⟨f, hf.row hr h1, hv⟩, hf.row ht h2, hf.row hg h3, hn⟩
theorem drewN (h : QM B T R c tk gk nt x w) (n : Nat) : QM B T R c tk gk nt x (w.drewN n) := h.frame ((Fr.refl (fun _ => False) w).drewN n) id id id
theorem alloc (h : QM B T R c tk gk nt x w) (o : Obj) : QM B T R c tk gk nt x (w.alloc o) := h.frame ((Fr.refl (fun _ => False) w).alloc o) id id id
theorem setWord (h : QM B T R c tk gk nt x w) (y : Nat) : QM B T R c tk gk nt y (w.setCell ⟨B, 5, none⟩ (.int .u64 y)) := by
  obtain ⟨⟨f, hr, h1, h2, h3, h4, h5⟩, ht, hg, hn⟩ := h
  exact ⟨⟨_, hr.set 5 _, by simpa using h1, by simpa using h2, by simpa using h3, by simpa using h4, by simp⟩, ht.setOther (fun e => hn.1 e.symm) _, hg.setOther (fun e => hn.2.1 e.symm) _, hn⟩
theorem setNoted (h : QM B T R c tk gk nt x w) : QM B T R c tk gk true x (w.setCell ⟨B, 4, none⟩ (.bool true)) := by
  obtain ⟨⟨f, hr, h1, h2, h3, h4, h5⟩, ht, hg, hn⟩ := h
  exact ⟨⟨_, hr.set 4 _, by simpa using h1, by simpa using h2, by simpa using h3, by simp, by simpa using h5⟩, ht.setOther (fun e => hn.1 e.symm) _, hg.setOther (fun e => hn.2.1 e.symm) _, hn⟩
theorem setTask (h : QM B T R c tk gk nt x w) (i : Nat) (v : Value) : QM B T R c (fun j => if j = i then v else tk j) gk nt x (w.setCell ⟨T, i, none⟩ v) := by
  obtain ⟨⟨f, hr, hv⟩, ht, hg, hn⟩ := h
  exact ⟨⟨f, hr.setOther (fun e => hn.1 e) _, hv⟩, ht.set i v, hg.setOther (fun e => hn.2.2 e.symm) _, hn⟩
theorem setGroup (h : QM B T R c tk gk nt x w) (i : Nat) (v : Value) : QM B T R c tk (fun j => if j = i then v else gk j) nt x (w.setCell ⟨R, i, none⟩ v) := by
  obtain ⟨⟨f, hr, hv⟩, ht, hg, hn⟩ := h
  exact ⟨⟨f, hr.setOther (fun e => hn.2.1 e) _, hv⟩, ht.setOther (fun e => hn.2.2 e) _, hg.set i v, hn⟩
end QM

/-- The capacities that the law draws. -/
def Cap (c : Nat) : Prop := c = 2 ∨ c = 4 ∨ c = 8 ∨ c = 16 ∨ c = 32

theorem and_cap (c k : Nat) (hc : Cap c) (hk : k < 4294967296) : bits .and .u32 (k : Int) (2 * (c : Int) - 1) = ((k % (2 * c) : Nat) : Int) := by
  have h : ∀ e : Nat, e ≤ 6 → 2 * c = 2 ^ e → bits .and .u32 (k : Int) (2 * (c : Int) - 1) = ((k % (2 * c) : Nat) : Int) := fun e he h2 => by
    have hb : 2 ^ e ≤ 2 ^ 6 := Nat.pow_le_pow_right (by omega) he
    have := u32_and_nat k (2 ^ e - 1) hk (by omega)
    rw [Nat.and_two_pow_sub_one_eq_mod, ← h2] at this
    rw [← this]
    congr 1
    have : 0 < 2 ^ e := Nat.two_pow_pos e
    omega
  rcases hc with rfl | rfl | rfl | rfl | rfl
  · exact h 2 (by omega) rfl
  · exact h 3 (by omega) rfl
  · exact h 4 (by omega) rfl
  · exact h 5 (by omega) rfl
  · exact h 6 (by omega) rfl

theorem cell_any (b o c k : Nat) (a : Option Addr) (hc : Cap c) (hk : k < 4294967296) (w : World) (h0 : w.cell? ⟨b, o, none⟩ = some (.slice a (2 * c) (2 * c))) :
    Calls Yba.prog 18 #[.pointer (some ⟨b, o, none⟩), .int .u32 k] w fun e w' => e = .returned (.int .u32 ((k % (2 * c) : Nat) : Int)) ∧ w' = w := by
  have HA : Hid _ := and_cap c k hc hk
  have hc1 : 2 ≤ c ∧ c ≤ 32 := by rcases hc with rfl | rfl | rfl | rfl | rfl <;> omega
  obtain ⟨hc1, hc2⟩ := hc1
  clear hc
  go_enter Yba.func18, Yba.ntmps18
  go_wp2
  go_ret
  exact ⟨ret_int HA.out, rfl⟩

set_option maxHeartbeats 400000 in
theorem inUse_any (r c t s : Nat) (hs : s < 4) (w : World) :
    Calls Yba.prog 36 #[.int .u64 (word r c t s)] w fun e w' => e = .returned (.int .i64 (gap t r)) ∧ w' = w := by
  have hw := word_lt r c t s hs
  have HC : Hid _ := word_released r c t s
  have HT : Hid _ := word_tail r c t s hs
  generalize word r c t s = X at *
  go_enter Yba.func36, Yba.ntmps36
  go_wp2_with fail
  refine (tail_any X hw _).mono ?_
  rintro e w' ⟨rfl, rfl⟩
  rw [HT.out]
  go_wp2_with fail
  refine (released_any X _).mono ?_
  rintro e w' ⟨rfl, rfl⟩
  rw [HC.out]
  go_wp2
  go_ret
  exact ⟨ret_int (gap_bits t r), rfl⟩
end Go.Proofs.Ybulkctey
