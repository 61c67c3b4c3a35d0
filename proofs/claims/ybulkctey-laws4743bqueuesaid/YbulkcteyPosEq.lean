/-
  SEAT b4743a. QUEUE: '!=' of two positions that are one.
-/
import Derived.Test.YbulkcteyPtrEq
namespace Go.Proofs.Ybulkctey
theorem pos_same (w : World) (a : Addr) (l : Int) (d : Nat) : (Op.equalIn (d + 2) 64 (.agg #[.pointer (some a), .int .i64 l]) (.agg #[.pointer (some a), .int .i64 l])).run Yba.prog w = .ok true w := by
  obtain ⟨j, hj⟩ := info107
  have h1 := ptr_same (P := Yba.prog) w (some a) Yba.underlying60 hj d
  have hst : Yba.prog.stoodInHeld 64 = false := by kernel_rfl
  have p1 : (part 60 #[.pointer (some a), .int .i64 l] 0).run Yba.prog w = .ok (.pointer (some a)) w := by simp [part, go_sem]
  have p2 : (part 3 #[.pointer (some a), .int .i64 l] 1).run Yba.prog w = .ok (.int .i64 l) w := by simp [part, go_sem]
  have h2 : (Op.equalIn (d + 1) 3 (.int .i64 l) (.int .i64 l)).run Yba.prog w = .ok true w := by simp [Op.equalIn, run_underlying Yba.underlying3]
  rw [Op.equalIn]
  simp [run_underlying Yba.underlying64, hst, p1, p2, h1, h2]
theorem neq_pos_same (w : World) (a : Addr) (l : Int) : (binOp .neq 64 (.agg #[.pointer (some a), .int .i64 l]) (.agg #[.pointer (some a), .int .i64 l])).run Yba.prog w = .ok (.bool false) w := by
  simp only [binOp]
  simp [Op.equal, Op.maxDepth, pos_same w a l 9998]
end Go.Proofs.Ybulkctey
