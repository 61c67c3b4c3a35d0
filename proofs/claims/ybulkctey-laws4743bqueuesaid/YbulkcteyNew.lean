/-
  SEAT b4743a. CONTRACTS: newLocalQueue; the test that no cell was touched.
-/
import Derived.Test.YbulkcteyPack
import Derived.Test.YbulkcteyFuncEq
import Derived.RegionTactic
import Derived.ChangeAlike
namespace Go.Proofs.Ybulkctey
open Go.RowKit

theorem info92 : (Yba.prog.info? 92).map (fun i => (i.zero, i.size, i.bytes)) = some (some .nilFunc, 1, 8) := by kernel_rfl
theorem info81 : (Yba.prog.info? 81).map (fun i => (i.zero, i.size, i.bytes)) = some (some (.pointer none), 1, 8) := by kernel_rfl

theorem two_made (w : World) (o : Obj) (z1 z2 : Value) (t1 t2 : TypeId) (m : Nat) :
    ((((w.alloc o).alloc (.cells (madeCells #[z1] m) t1)).alloc (.cells (madeCells #[z2] m) t2)).drew).rowIs (w.heap.size + 1) t1 m (fun _ => z1) ∧
    ((((w.alloc o).alloc (.cells (madeCells #[z1] m) t1)).alloc (.cells (madeCells #[z2] m) t2)).drew).rowIs (w.heap.size + 1 + 1) t2 m (fun _ => z2) ∧
    Below w.heap.size w (((w.alloc o).alloc (.cells (madeCells #[z1] m) t1)).alloc (.cells (madeCells #[z2] m) t2)).drew := by
  have h1 := World.rowIs_made (w.alloc o) z1 m t1
  have h2 := World.rowIs_made ((w.alloc o).alloc (.cells (madeCells #[z1] m) t1)) z2 m t2
  simp only [Deep.nblk_alloc] at h1 h2
  exact ⟨(h1.alloc _).drew, h2.drew, ((((Below.refl _ _).alloc (Nat.le_refl _) _).alloc (by simp) _).alloc (by simp; omega) _).drew⟩

set_option maxHeartbeats 400000 in
theorem newQueue_any (n : Nat) (hn : n ≤ 1048576) (w : World) :
    Calls Yba.prog 7 #[.int .i64 n] w fun e w' => ∃ bt bg, e = .returned (.agg #[.slice (some ⟨bt, 0, none⟩) (2 * n) (2 * n), .slice (some ⟨bg, 0, none⟩) (2 * n) (2 * n), .int .i64 n, .bool false, .int .u64 0]) ∧
      w'.rowIs bt 92 (2 * n) (fun _ => .nilFunc) ∧ w'.rowIs bg 81 (2 * n) (fun _ => .pointer none) ∧ w.heap.size ≤ bt ∧ w.heap.size ≤ bg ∧ bt ≠ bg ∧ Below w.heap.size w w' := by
  have hm1 := fun W => run_make_row' (P := Yba.prog) 25 92 .nilFunc 8 Yba.underlying25 info92 rfl .i64 .i64 (2 * n) (by omega) (by omega) W
  have hm2 := fun W => run_make_row' (P := Yba.prog) 26 81 (.pointer none) 8 Yba.underlying26 info81 rfl .i64 .i64 (2 * n) (by omega) (by omega) W
  rw [show ((2 * n : Nat) : Int) = 2 * (n : Int) from by omega] at hm1 hm2
  go_enter Yba.func7, Yba.ntmps7
  go_wp2
  go_region
  · go_wp2
    have h := two_made w (.cells #[.slice (some ⟨w.heap.size + 1, 0, none⟩) (2 * n) (2 * n), .slice (some ⟨w.heap.size + 1 + 1, 0, none⟩) (2 * n) (2 * n), .int .i64 n, .bool false, .int .u64 0] 33) .nilFunc (.pointer none) 92 81 (2 * n)
    exact bodyPost_ret (v := .agg #[.slice (some ⟨w.heap.size + 1, 0, none⟩) (2 * n) (2 * n), .slice (some ⟨w.heap.size + 1 + 1, 0, none⟩) (2 * n) (2 * n), .int .i64 n, .bool false, .int .u64 0]) (by simp [results, Yba.results7, go_sem]) rfl
      ⟨_, _, rfl, h.1, h.2.1, by omega, by omega, by omega, h.2.2⟩
  · go_wp2
    have h := two_made w (.cells #[.slice (some ⟨w.heap.size + 1 + 1, 0, none⟩) (2 * n) (2 * n), .slice (some ⟨w.heap.size + 1, 0, none⟩) (2 * n) (2 * n), .int .i64 n, .bool false, .int .u64 0] 33) (.pointer none) .nilFunc 81 92 (2 * n)
    exact bodyPost_ret (v := .agg #[.slice (some ⟨w.heap.size + 1 + 1, 0, none⟩) (2 * n) (2 * n), .slice (some ⟨w.heap.size + 1, 0, none⟩) (2 * n) (2 * n), .int .i64 n, .bool false, .int .u64 0]) (by simp [results, Yba.results7, go_sem]) rfl
      ⟨_, _, rfl, h.2.1, h.1, by omega, by omega, by omega, h.2.2⟩

set_option maxHeartbeats 800000 in
/-- The test that no cell was touched says yes. -/
theorem untouched_any (b bt bg n : Nat) (hn : n ≤ 1048576) (w : World)
    (h0 : w.cell? ⟨b, 0, none⟩ = some (.slice (some ⟨bt, 0, none⟩) (2 * n) (2 * n))) (h1 : w.cell? ⟨b, 1, none⟩ = some (.slice (some ⟨bg, 0, none⟩) (2 * n) (2 * n))) (h2 : w.cell? ⟨b, 2, none⟩ = some (.int .i64 n)) (h3 : w.cell? ⟨b, 3, none⟩ = some (.bool false))
    (ht : w.rowIs bt 92 (2 * n) (fun _ => .nilFunc)) (hg : w.rowIs bg 81 (2 * n) (fun _ => .pointer none)) :
    Calls Yba.prog 12 #[.pointer (some ⟨b, 0, none⟩), .int .i64 n] w fun e w' => e = .returned (.bool true) ∧ w' = w := by
  have hq := fun W => run_neq_nilFunc Yba.underlying92 W
  go_enter Yba.func12, Yba.ntmps12
  go_wp2
  go_loop [5] (fun i => ∃ k : Nat, k ≤ 2 * n ∧ i = .int .i64 k) (fun i => 2 * n - (intOf i).toNat)
  case atStart => exact ⟨0, Nat.zero_le _, rfl⟩
  case round =>
    obtain ⟨k, hk, rfl⟩ := hrel
    by_cases hlt : k < 2 * n
    · have c1 := ht.cell hlt
      have c2 := hg.cell hlt
      go_wp2
      go_round
      case rel => exact ⟨k + 1, by omega, by go_num⟩
      case measure => simp [intOf]; omega
    · go_wp2
      go_ret
      exact ⟨rfl, rfl⟩
end Go.Proofs.Ybulkctey
