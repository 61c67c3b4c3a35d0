/-
  SEAT b4739a. THE WALK OF (Equivocation).Blocks: n blocks, block j holding (miner, j, the send time).
-/
import Derived.Test.YbulkctcuRows
import Derived.WalkKit
import Derived.WalkSpells
import Derived.WalkLawsBesides
import Derived.Deep.OwnRows
namespace Go.Proofs.Ybulkctcu
open Go.RowKit

/-- The law that the kit lacks: a float is stored as any value of one cell. -/
theorem run_store_float (P : Program) (w : World) (a : Addr) (m : Mode) (k : FloatKind) (b : Nat) : (store a (.float k b) m).run P w = stored P w a (.float k b) m := run_store P w a _ m rfl
attribute [local go_sem] run_store_float

theorem Yba.info31 : (Yba.prog.info? 31).map (fun i => (i.zero, i.size, i.bytes)) = some (some (.agg #[.int .i64 0, .int .i64 0, .float .f64 0]), 3, 24) := by kernel_rfl

/-- What cell j of the row of blocks holds in the end. -/
def blk (m : Int) (f : Nat) (j : Nat) : Value := if j % 3 = 0 then .int .i64 m else if j % 3 = 1 then .int .i64 ((j / 3 : Nat) : Int) else .float .f64 f
/-- What cell j holds when k blocks are filled ('z': what make has laid). -/
def upto (z : Nat → Value) (m : Int) (f : Nat) (k j : Nat) : Value := if j < 3 * k then blk m f j else z j

theorem upto_step {w : World} {b n k : Nat} {z : Nat → Value} {m : Int} {f : Nat} (h : w.rowIs b 31 n (upto z m f k)) :
    (((w.setCell ⟨b, k * 3, none⟩ (.int .i64 m)).setCell ⟨b, k * 3 + 1, none⟩ (.int .i64 (k : Int))).setCell ⟨b, k * 3 + 2, none⟩ (.float .f64 f)).rowIs b 31 n (upto z m f (k + 1)) := by
  refine (((h.set (k * 3) _).set (k * 3 + 1) _).set (k * 3 + 2) _).congr fun j _ => ?_
  by_cases h2 : j = k * 3 + 2
  · rw [if_pos h2]; subst h2
    rw [upto, if_pos (by omega), blk, if_neg (by omega), if_neg (by omega)]
  · rw [if_neg h2]
    by_cases h1 : j = k * 3 + 1
    · rw [if_pos h1]; subst h1
      rw [upto, if_pos (by omega), blk, if_neg (by omega), if_pos (by omega), show (k * 3 + 1) / 3 = k by omega]
    · rw [if_neg h1]
      by_cases h0 : j = k * 3
      · rw [if_pos h0]; subst h0
        rw [upto, if_pos (by omega), blk, if_pos (by omega)]
      · rw [if_neg h0, upto, upto]
        by_cases hj : j < 3 * k
        · rw [if_pos hj, if_pos (by omega)]
        · rw [if_neg hj, if_neg (by omega)]

theorem rowIs_arr (w : World) (M : Array Value) (t : TypeId) : (w.alloc (.cells M t)).rowIs w.heap.size t M.size (fun j => M[j]!) :=
  World.rowIs_alloc w M t _ fun i hi => by simp [hi]

set_option maxHeartbeats 400000 in
/-- '(Equivocation).Blocks' makes the row of blocks, and turns nothing that was there. -/
theorem blocks_any (m : Int) (n : Nat) (f : Nat) (hn : n ≤ 1024) (w : World) :
    Calls Yba.prog 4 #[.agg #[.int .i64 m, .int .i64 n, .float .f64 f]] w fun e w' => e = .returned (.slice (some ⟨w.heap.size + 1, 0, none⟩) n n) ∧
      w'.rowIs (w.heap.size + 1) 31 (n * 3) (blk m f) ∧ w'.heap.size = w.heap.size + 2 ∧ Below w.heap.size w w' := by
  obtain ⟨i0, hi, hz0, hz1, hz2⟩ := info_parts Yba.info31
  have hmk : ∀ W : World, (Instr.makeSlice 26 (.int .i64 (n : Int)) (.int .i64 (n : Int))).run Yba.prog W = .ok (.slice (some ⟨W.heap.size, 0, none⟩) n n) (W.alloc (.cells (madeCells #[.int .i64 0, .int .i64 0, .float .f64 0] (n * 3)) 31)) := fun W => by
    have h := run_make (P := Yba.prog) W 26 31 i0 _ Yba.underlying26 hi hz0 .i64 .i64 (n : Int) (n : Int) (by omega) (by omega) (by rw [hz2]; omega) (by omega)
    simpa [hz1, Value.cells] using h
  have HM : Hid ((madeCells #[.int .i64 0, .int .i64 0, .float .f64 0] (n * 3)).size = n * 3) := size_madeCells _ _
  generalize madeCells #[.int .i64 0, .int .i64 0, .float .f64 0] (n * 3) = M at hmk HM
  go_enter Yba.func4, Yba.ntmps4
  go_wp2
  go_loopw [10] (fun i wr => ∃ k : Nat, k ≤ n ∧ i = .int .i64 k ∧ wr.heap.size = w.heap.size + 2 ∧ wr.cell? ⟨w.heap.size, 0, none⟩ = some (.int .i64 m) ∧ wr.cell? ⟨w.heap.size, 2, none⟩ = some (.float .f64 f) ∧
      wr.rowIs (w.heap.size + 1) 31 (n * 3) (upto (fun j => M[j]!) m f k) ∧ Below w.heap.size w wr) (fun i _ => n - (intOf i).toNat)
  case atStart =>
    refine ⟨0, Nat.zero_le _, rfl, by simp, by simp, by simp, ?_, ((Below.refl _ _).alloc (Nat.le_refl _) _).alloc (by simp) _⟩
    have h := rowIs_arr (w.alloc (.cells #[.int .i64 m, .int .i64 n, .float .f64 f] 25)) M 31
    rw [HM.out] at h
    have h' := h.congr (g := upto (fun j => M[j]!) m f 0) (fun j _ => by simp [upto])
    simpa using h'
  case round =>
    obtain ⟨k, hk, rfl, hs, hc0, hc2, hrow, hbel⟩ := hrel
    by_cases hlt : k < n
    · have hf : ∀ j, wr.frozen? ⟨w.heap.size + 1, j, none⟩ = false := fun j => hrow.frozen j
      have hr0 := hrow.cell (i := k * 3) (by omega)
      have hr1 := hrow.cell (i := k * 3 + 1) (by omega)
      have hr2 := hrow.cell (i := k * 3 + 2) (by omega)
      have R := upto_step hrow
      go_wp2
      go_roundw
      case rel => exact ⟨k + 1, by omega, by go_num, by simpa using hs, by simp [World.cell?_setCell_other, hc0], by simp [World.cell?_setCell_other, hc2], R, ((hbel.setCell (by simp) _).setCell (by simp) _).setCell (by simp) _⟩
      case measure => simp [intOf]; omega
    · have hkn : k = n := by omega
      subst hkn
      go_wp2
      go_ret
      exact ⟨rfl, hrow.congr (fun j hj => by rw [upto, if_pos (by omega)]), hs, hbel⟩
end Go.Proofs.Ybulkctcu
