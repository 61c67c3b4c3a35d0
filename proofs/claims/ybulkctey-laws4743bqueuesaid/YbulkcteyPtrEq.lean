/-
  SEAT b4743a. QUEUE: '==' and '!=' of pointers and of positions.
-/
import Derived.Test.YbulkcteyHalf
import Derived.LaidEql
namespace Go.Proofs.Ybulkctey

theorem ptr_same {P : Program} {tp te : TypeId} {j : TypeInfo} (w : World) (p : Option Addr) (hp : P.underlying tp = some (.pointer te)) (hte : P.info? te = some j) (d : Nat) : (Op.equalIn (d + 1) tp (.pointer p) (.pointer p)).run P w = .ok true w := by
  cases p with
  | none => simp [Op.equalIn, run_underlying hp]
  | some a => simp [Op.equalIn, run_underlying hp, sizeOf, typeInfo, hte, run_sameAddr_same]
theorem ptr_other {P : Program} {tp te : TypeId} {j : TypeInfo} (w : World) {b b' : Nat} {ca cb : Array Value} {ta tb : TypeId} (hne : b ≠ b') (ha : w.heap[b]? = some (.cells ca ta (0, 0))) (hb : w.heap[b']? = some (.cells cb tb (0, 0))) (hp : P.underlying tp = some (.pointer te)) (hte : P.info? te = some j) (hz : j.size ≠ 0) (d : Nat) : (Op.equalIn (d + 1) tp (.pointer (some ⟨b, 0, none⟩)) (.pointer (some ⟨b', 0, none⟩))).run P w = .ok false w := by
  simp [Op.equalIn, run_underlying hp, sizeOf, typeInfo, hte, hz, run_sameAddr_other (a := ⟨b, 0, none⟩) (b := ⟨b', 0, none⟩) (w := w) (P := P) (fun e => hne (congrArg Addr.block e)) ha hb]
theorem neq_ptr_same {P : Program} {tp te : TypeId} {j : TypeInfo} (w : World) (p : Option Addr) (hp : P.underlying tp = some (.pointer te)) (hte : P.info? te = some j) : (binOp .neq tp (.pointer p) (.pointer p)).run P w = .ok (.bool false) w := by
  simp only [binOp]
  simp [Op.equal, Op.maxDepth, ptr_same w p hp hte 9999]
theorem eql_ptr_same {P : Program} {tp te : TypeId} {j : TypeInfo} (w : World) (p : Option Addr) (hp : P.underlying tp = some (.pointer te)) (hte : P.info? te = some j) : (binOp .eql tp (.pointer p) (.pointer p)).run P w = .ok (.bool true) w := by
  simp only [binOp]
  simp [Op.equal, Op.maxDepth, ptr_same w p hp hte 9999]
theorem eql_ptr_other {P : Program} {tp te : TypeId} {j : TypeInfo} (w : World) {b b' : Nat} {ca cb : Array Value} {ta tb : TypeId} (hne : b ≠ b') (ha : w.heap[b]? = some (.cells ca ta (0, 0))) (hb : w.heap[b']? = some (.cells cb tb (0, 0))) (hp : P.underlying tp = some (.pointer te)) (hte : P.info? te = some j) (hz : j.size ≠ 0) : (binOp .eql tp (.pointer (some ⟨b, 0, none⟩)) (.pointer (some ⟨b', 0, none⟩))).run P w = .ok (.bool false) w := by
  simp only [binOp]
  simp [Op.equal, Op.maxDepth, ptr_other w hne ha hb hp hte hz 9999]
theorem info87 : ∃ j, Yba.prog.info? 87 = some j ∧ j.size ≠ 0 := by
  have h : (Yba.prog.info? 87).map (fun i => i.size) = some 4 := by kernel_rfl
  obtain ⟨i, h1, h2⟩ := Option.map_eq_some_iff.1 h
  exact ⟨i, h1, by omega⟩
theorem info107 : ∃ j, Yba.prog.info? 107 = some j := by
  have h : (Yba.prog.info? 107).map (fun i => i.size) = some 259 := by kernel_rfl
  obtain ⟨i, h1, _⟩ := Option.map_eq_some_iff.1 h
  exact ⟨i, h1⟩
end Go.Proofs.Ybulkctey
