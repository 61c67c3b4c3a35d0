/- SEAT b4743a. '==' and '!=' of a function value against nil: the kit has no law for it. -/
import Derived.WalkKit
namespace Go.Proofs.Ybulkctey
theorem run_equalIn_nilFunc {P : Program} {t : TypeId} {ps rs : Array TypeId} {vd : Bool} (ht : P.underlying t = some (.func ps rs vd)) (d : Nat) (w : World) : (Op.equalIn (d + 1) t .nilFunc .nilFunc).run P w = .ok true w := by
  simp [Op.equalIn, run_underlying ht]
theorem run_equalIn_func {P : Program} {t : TypeId} {ps rs : Array TypeId} {vd : Bool} (ht : P.underlying t = some (.func ps rs vd)) (d : Nat) (f : Fn) (a c : Array Value) (w : World) : (Op.equalIn (d + 1) t (.func f a c) .nilFunc).run P w = .ok false w := by
  simp [Op.equalIn, run_underlying ht]
theorem run_neq_nilFunc {P : Program} {t : TypeId} {ps rs : Array TypeId} {vd : Bool} (ht : P.underlying t = some (.func ps rs vd)) (w : World) : (binOp .neq t .nilFunc .nilFunc).run P w = .ok (.bool false) w := by
  simp only [binOp]
  simp [Op.equal, Op.maxDepth, run_equalIn_nilFunc ht 9999 w]
theorem run_eql_nilFunc {P : Program} {t : TypeId} {ps rs : Array TypeId} {vd : Bool} (ht : P.underlying t = some (.func ps rs vd)) (w : World) : (binOp .eql t .nilFunc .nilFunc).run P w = .ok (.bool true) w := by
  simp only [binOp]
  simp [Op.equal, Op.maxDepth, run_equalIn_nilFunc ht 9999 w]
theorem run_neq_func {P : Program} {t : TypeId} {ps rs : Array TypeId} {vd : Bool} (ht : P.underlying t = some (.func ps rs vd)) (f : Fn) (a c : Array Value) (w : World) : (binOp .neq t (.func f a c) .nilFunc).run P w = .ok (.bool true) w := by
  simp only [binOp]
  simp [Op.equal, Op.maxDepth, run_equalIn_func ht 9999 f a c w]
theorem run_eql_func {P : Program} {t : TypeId} {ps rs : Array TypeId} {vd : Bool} (ht : P.underlying t = some (.func ps rs vd)) (f : Fn) (a c : Array Value) (w : World) : (binOp .eql t (.func f a c) .nilFunc).run P w = .ok (.bool false) w := by
  simp only [binOp]
  simp [Op.equal, Op.maxDepth, run_equalIn_func ht 9999 f a c w]
end Go.Proofs.Ybulkctey
