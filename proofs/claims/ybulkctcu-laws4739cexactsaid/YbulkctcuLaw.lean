/-
  SEAT b4739a. THE WALK OF LawS4739CExact.
-/
import Derived.Test.YbulkctcuBlocks
namespace Go.Proofs.Ybulkctcu
open Go.RowKit
attribute [local go_sem] run_store_float

theorem count_nat (v : Int) : ∃ n : Nat, n ≤ 1024 ∧ wrap64 ((IntKind.u64.wrap v).tmod 1025) = (n : Int) := by
  have h0 : 0 ≤ IntKind.u64.wrap v := by simp only [IntKind.wrap_u64]; omega
  rw [Int.tmod_eq_emod_of_nonneg h0]
  refine ⟨((IntKind.u64.wrap v) % 1025).toNat, by omega, ?_⟩
  unfold wrap64
  omega

theorem blk0 (m : Int) (f k : Nat) : blk m f (k * 3) = .int .i64 m := by rw [blk, if_pos (by omega)]
theorem blk1 (m : Int) (f k : Nat) : blk m f (k * 3 + 1) = .int .i64 (k : Int) := by rw [blk, if_neg (by omega), if_pos (by omega), show (k * 3 + 1) / 3 = k by omega]
theorem blk2 (m : Int) (f k : Nat) : blk m f (k * 3 + 2) = .float .f64 f := by rw [blk, if_neg (by omega), if_neg (by omega)]

/-- math.Float64bits: the bits. -/
theorem run_bits (f : Nat) (w : World) : (callFunc 5 #[.float .f64 f]).run Yba.prog w = .ok (.value (.int .u64 f)) w := by
  rw [run_callFunc_extern (fn := Yba.f5) (e := Extern.MathFloatBits.float64bits) Yba.func5 (by kernel_rfl) (by kernel_rfl) (by kernel_rfl) (by kernel_rfl)]
  rfl

set_option maxHeartbeats 400000 in
theorem law_any (m v : Int) (f : Nat) (w : World) :
    Calls Yba.prog 3 #[.int .i64 m, .int .i64 v, .float .f64 f] w fun e w' => e = .returned (.bool true) ∧ Below w.heap.size w w' := by
  obtain ⟨n, hn, hx⟩ := count_nat v
  go_enter Yba.func3, Yba.ntmps3
  go_wp2_with fail
  refine (blocks_any m n f hn _).mono ?_
  rintro e w1 ⟨rfl, hrow, hsz, hbel⟩
  have hc0 : w1.cell? ⟨w.heap.size, 0, none⟩ = some (.int .i64 m) := by rw [hbel.cell (by simp)]; simp
  have hc1 : w1.cell? ⟨w.heap.size, 1, none⟩ = some (.int .i64 n) := by rw [hbel.cell (by simp)]; simp
  have hc2 : w1.cell? ⟨w.heap.size, 2, none⟩ = some (.float .f64 f) := by rw [hbel.cell (by simp)]; simp
  have hb0 : Below w.heap.size w w1 := ((Below.refl _ _).alloc (Nat.le_refl _) _).trans (hbel.mono (by simp))
  have hs1 : w1.heap.size = w.heap.size + 3 := by simpa using hsz
  have hrow' : w1.rowIs (w.heap.size + 2) 31 (n * 3) (blk m f) := by simpa using hrow
  clear hsz hrow hbel
  have hbits := fun W => run_bits f W
  go_wp2
  go_loopw [11] (fun i wr => ∃ k : Nat, k ≤ n ∧ i = .int .i64 k ∧ Below w1.heap.size w1 wr) (fun i _ => n - (intOf i).toNat)
  case atStart => exact ⟨0, Nat.zero_le _, rfl, Below.refl _ _⟩
  case round =>
    obtain ⟨k, hk, rfl, hb⟩ := hrel
    by_cases hlt : k < n
    · have hr0 : wr.cell? ⟨w.heap.size + 1 + 1, k * 3, none⟩ = some (.int .i64 m) := by rw [hb.cell (by simp; omega), hrow'.cell (by omega), blk0]
      have hr1 : wr.cell? ⟨w.heap.size + 1 + 1, k * 3 + 1, none⟩ = some (.int .i64 k) := by rw [hb.cell (by simp; omega), hrow'.cell (by omega), blk1]
      have hr2 : wr.cell? ⟨w.heap.size + 1 + 1, k * 3 + 2, none⟩ = some (.float .f64 f) := by rw [hb.cell (by simp; omega), hrow'.cell (by omega), blk2]
      go_wp2
      go_roundw
      case rel => exact ⟨k + 1, by omega, by go_num, hb.alloc hb.size _⟩
      case measure => simp [intOf]; omega
    · have g0 : wr.cell? ⟨w.heap.size, 0, none⟩ = some (.int .i64 m) := by rw [hb.cell (by simp; omega), hc0]
      have g1 : wr.cell? ⟨w.heap.size, 1, none⟩ = some (.int .i64 n) := by rw [hb.cell (by simp; omega), hc1]
      have g2 : wr.cell? ⟨w.heap.size, 2, none⟩ = some (.float .f64 f) := by rw [hb.cell (by simp; omega), hc2]
      go_wp2
      go_ret
      exact ⟨rfl, hb0.trans (hb.mono (by omega))⟩
end Go.Proofs.Ybulkctcu
