/-
  SEAT b4743a. QUEUE: push.
-/
import Derived.Test.YbulkcteyGlob
namespace Go.Proofs.Ybulkctey
open Go.RowKit Go.Deep

theorem zc107 : Yba.zeroCells107 = Array.replicate 256 .nilFunc ++ #[.pointer none, .pointer none, .pointer none] := by kernel_rfl
theorem zc141 : Yba.zeroCells141 = Array.replicate 256 (.pointer none) := by kernel_rfl
theorem Sch.set2 {s : Nat} {mu : Int} {ov la n ne gc : Nat} {hd tl : Option Addr} {w : World} (h : Sch s mu ov hd tl la n ne gc w) (v : Int) : Sch s v ov hd tl la n ne gc (w.setCell ⟨s, 2, none⟩ (.int .i32 v)) := by
  obtain ⟨f, hf, h2, h11, h12, h13, h14, h15, h16, h17, h26⟩ := h
  exact ⟨_, hf.set 2 _, by simp, by simpa using h11, by simpa using h12, by simpa using h13, by simpa using h14, by simpa using h15, by simpa using h16, by simpa using h17, by simpa using h26⟩
theorem Sch.set11 {s : Nat} {mu : Int} {ov la n ne gc : Nat} {hd tl : Option Addr} {w : World} (h : Sch s mu ov hd tl la n ne gc w) (v : Option Addr) : Sch s mu ov v tl la n ne gc (w.setCell ⟨s, 11, none⟩ (.pointer v)) := by
  obtain ⟨f, hf, h2, h11, h12, h13, h14, h15, h16, h17, h26⟩ := h
  exact ⟨_, hf.set 11 _, by simpa using h2, by simp, by simpa using h12, by simpa using h13, by simpa using h14, by simpa using h15, by simpa using h16, by simpa using h17, by simpa using h26⟩
theorem Sch.set12 {s : Nat} {mu : Int} {ov la n ne gc : Nat} {hd tl : Option Addr} {w : World} (h : Sch s mu ov hd tl la n ne gc w) (v : Option Addr) : Sch s mu ov hd v la n ne gc (w.setCell ⟨s, 12, none⟩ (.pointer v)) := by
  obtain ⟨f, hf, h2, h11, h12, h13, h14, h15, h16, h17, h26⟩ := h
  exact ⟨_, hf.set 12 _, by simpa using h2, by simpa using h11, by simp, by simpa using h13, by simpa using h14, by simpa using h15, by simpa using h16, by simpa using h17, by simpa using h26⟩
theorem Sch.set14 {s : Nat} {mu : Int} {ov la n ne gc : Nat} {hd tl : Option Addr} {w : World} (h : Sch s mu ov hd tl la n ne gc w) (v : Nat) : Sch s mu ov hd tl v n ne gc (w.setCell ⟨s, 14, none⟩ (.int .i64 (v : Nat))) := by
  obtain ⟨f, hf, h2, h11, h12, h13, h14, h15, h16, h17, h26⟩ := h
  exact ⟨_, hf.set 14 _, by simpa using h2, by simpa using h11, by simpa using h12, by simpa using h13, by simp, by simpa using h15, by simpa using h16, by simpa using h17, by simpa using h26⟩
theorem Sch.set15 {s : Nat} {mu : Int} {ov la n ne gc : Nat} {hd tl : Option Addr} {w : World} (h : Sch s mu ov hd tl la n ne gc w) (v : Nat) : Sch s mu ov hd tl la v ne gc (w.setCell ⟨s, 15, none⟩ (.int .i64 (v : Nat))) := by
  obtain ⟨f, hf, h2, h11, h12, h13, h14, h15, h16, h17, h26⟩ := h
  exact ⟨_, hf.set 15 _, by simpa using h2, by simpa using h11, by simpa using h12, by simpa using h13, by simpa using h14, by simp, by simpa using h16, by simpa using h17, by simpa using h26⟩
theorem Sch.set16 {s : Nat} {mu : Int} {ov la n ne gc : Nat} {hd tl : Option Addr} {w : World} (h : Sch s mu ov hd tl la n ne gc w) (v : Nat) : Sch s mu ov hd tl la n v gc (w.setCell ⟨s, 16, none⟩ (.int .u32 (v : Nat))) := by
  obtain ⟨f, hf, h2, h11, h12, h13, h14, h15, h16, h17, h26⟩ := h
  exact ⟨_, hf.set 16 _, by simpa using h2, by simpa using h11, by simpa using h12, by simpa using h13, by simpa using h14, by simpa using h15, by simp, by simpa using h17, by simpa using h26⟩
theorem Sch.set17 {s : Nat} {mu : Int} {ov la n ne gc : Nat} {hd tl : Option Addr} {w : World} (h : Sch s mu ov hd tl la n ne gc w) (v : Nat) : Sch s mu ov hd tl la n ne v (w.setCell ⟨s, 17, none⟩ (.int .i64 (v : Nat))) := by
  obtain ⟨f, hf, h2, h11, h12, h13, h14, h15, h16, h17, h26⟩ := h
  exact ⟨_, hf.set 17 _, by simpa using h2, by simpa using h11, by simpa using h12, by simpa using h13, by simpa using h14, by simpa using h15, by simpa using h16, by simp, by simpa using h26⟩
theorem Sch.set26 {s : Nat} {mu : Int} {ov la n ne gc : Nat} {hd tl : Option Addr} {w : World} (h : Sch s mu ov hd tl la n ne gc w) (v : Nat) : Sch s mu v hd tl la n ne gc (w.setCell ⟨s, 26, none⟩ (.int .u64 (v : Nat))) := by
  obtain ⟨f, hf, h2, h11, h12, h13, h14, h15, h16, h17, h26⟩ := h
  exact ⟨_, hf.set 26 _, by simpa using h2, by simpa using h11, by simpa using h12, by simpa using h13, by simpa using h14, by simpa using h15, by simpa using h16, by simpa using h17, by simp⟩
theorem Sch.c2 {s : Nat} {mu : Int} {ov la n ne gc : Nat} {hd tl : Option Addr} {w : World} (h : Sch s mu ov hd tl la n ne gc w) : w.cell? ⟨s, 2, none⟩ = some (.int .i32 mu) := by
  obtain ⟨f, hf, h2, h11, h12, h13, h14, h15, h16, h17, h26⟩ := h
  rw [← h2]; exact hf.cell (by omega)
theorem Sch.c11 {s : Nat} {mu : Int} {ov la n ne gc : Nat} {hd tl : Option Addr} {w : World} (h : Sch s mu ov hd tl la n ne gc w) : w.cell? ⟨s, 11, none⟩ = some (.pointer hd) := by
  obtain ⟨f, hf, h2, h11, h12, h13, h14, h15, h16, h17, h26⟩ := h
  rw [← h11]; exact hf.cell (by omega)
theorem Sch.c12 {s : Nat} {mu : Int} {ov la n ne gc : Nat} {hd tl : Option Addr} {w : World} (h : Sch s mu ov hd tl la n ne gc w) : w.cell? ⟨s, 12, none⟩ = some (.pointer tl) := by
  obtain ⟨f, hf, h2, h11, h12, h13, h14, h15, h16, h17, h26⟩ := h
  rw [← h12]; exact hf.cell (by omega)
theorem Sch.c14 {s : Nat} {mu : Int} {ov la n ne gc : Nat} {hd tl : Option Addr} {w : World} (h : Sch s mu ov hd tl la n ne gc w) : w.cell? ⟨s, 14, none⟩ = some (.int .i64 (la : Nat)) := by
  obtain ⟨f, hf, h2, h11, h12, h13, h14, h15, h16, h17, h26⟩ := h
  rw [← h14]; exact hf.cell (by omega)
theorem Sch.c15 {s : Nat} {mu : Int} {ov la n ne gc : Nat} {hd tl : Option Addr} {w : World} (h : Sch s mu ov hd tl la n ne gc w) : w.cell? ⟨s, 15, none⟩ = some (.int .i64 (n : Nat)) := by
  obtain ⟨f, hf, h2, h11, h12, h13, h14, h15, h16, h17, h26⟩ := h
  rw [← h15]; exact hf.cell (by omega)
theorem Sch.c16 {s : Nat} {mu : Int} {ov la n ne gc : Nat} {hd tl : Option Addr} {w : World} (h : Sch s mu ov hd tl la n ne gc w) : w.cell? ⟨s, 16, none⟩ = some (.int .u32 (ne : Nat)) := by
  obtain ⟨f, hf, h2, h11, h12, h13, h14, h15, h16, h17, h26⟩ := h
  rw [← h16]; exact hf.cell (by omega)
theorem Sch.c17 {s : Nat} {mu : Int} {ov la n ne gc : Nat} {hd tl : Option Addr} {w : World} (h : Sch s mu ov hd tl la n ne gc w) : w.cell? ⟨s, 17, none⟩ = some (.int .i64 (gc : Nat)) := by
  obtain ⟨f, hf, h2, h11, h12, h13, h14, h15, h16, h17, h26⟩ := h
  rw [← h17]; exact hf.cell (by omega)
theorem Sch.c26 {s : Nat} {mu : Int} {ov la n ne gc : Nat} {hd tl : Option Addr} {w : World} (h : Sch s mu ov hd tl la n ne gc w) : w.cell? ⟨s, 26, none⟩ = some (.int .u64 (ov : Nat)) := by
  obtain ⟨f, hf, h2, h11, h12, h13, h14, h15, h16, h17, h26⟩ := h
  rw [← h26]; exact hf.cell (by omega)

theorem Sch.fz {s : Nat} {mu : Int} {ov la n ne gc : Nat} {hd tl : Option Addr} {w : World} (h : Sch s mu ov hd tl la n ne gc w) (i : Nat) : w.frozen? ⟨s, i, none⟩ = false := by obtain ⟨f, hf, _⟩ := h; exact hf.frozen i
theorem Sch.lt {s : Nat} {mu : Int} {ov la n ne gc : Nat} {hd tl : Option Addr} {w : World} (h : Sch s mu ov hd tl la n ne gc w) : s < w.heap.size := by obtain ⟨f, hf, _⟩ := h; exact hf.lt
theorem Sch.other {s : Nat} {mu : Int} {ov la n ne gc : Nat} {hd tl : Option Addr} {w : World} (h : Sch s mu ov hd tl la n ne gc w) {a : Addr} (ha : s ≠ a.block) (v : Value) : Sch s mu ov hd tl la n ne gc (w.setCell a v) := h.frame (blk_setCell_other _ _ _ _ ha)
theorem Sch.drewN {s : Nat} {mu : Int} {ov la n ne gc : Nat} {hd tl : Option Addr} {w : World} (h : Sch s mu ov hd tl la n ne gc w) (k : Nat) : Sch s mu ov hd tl la n ne gc (w.drewN k) := h
theorem Sch.alloc {s : Nat} {mu : Int} {ov la n ne gc : Nat} {hd tl : Option Addr} {w : World} (h : Sch s mu ov hd tl la n ne gc w) (o : Obj) : Sch s mu ov hd tl la n ne gc (w.alloc o) := h.frame (blk_alloc_lt _ _ _ h.lt)

set_option maxHeartbeats 1600000 in
/-- push into the tail segment, which has room; the queue was not empty. -/
theorem push_room (s b l n : Nat) (fn : Fn) (xs ys : Array Value) (f : Nat → Value) (w : World) (hl : l < 256) (hn : 0 < n) (hn2 : n < 1048576) (h12 : w.cell? ⟨s, 12, none⟩ = some (.pointer (some ⟨b, 0, none⟩)))
    (h14 : w.cell? ⟨s, 14, none⟩ = some (.int .i64 l)) (h15 : w.cell? ⟨s, 15, none⟩ = some (.int .i64 n)) (hz : ∀ i, w.frozen? ⟨s, i, none⟩ = false) (hb : w.rowIs b 107 259 f) (hsb : s ≠ b) :
    Calls Yba.prog 42 #[.pointer (some ⟨s, 11, none⟩), .func fn xs ys] w fun e w' => e = .returned (.tuple #[]) ∧ ∃ k, w' = (((w.setCell ⟨b, l, none⟩ (.func fn xs ys)).setCell ⟨s, 14, none⟩ (.int .i64 ((l : Int) + 1))).setCell ⟨s, 15, none⟩ (.int .i64 ((n : Int) + 1))).drewN k := by
  have hsf := fun (W : World) (a : Addr) => run_store Yba.prog W a (.func fn xs ys) .plain rfl
  have hl' : (l : Int) < 256 := by omega
  have hle : ((l : Int) == 256) = false := by rw [beq_eq_false_iff_ne]; omega
  have hbc := hb.cell (i := l) (by omega)
  have hbz := hb.frozen l
  have hne : (((n : Int) + 1) == 1) = false := by rw [beq_eq_false_iff_ne]; omega
  clear hb
  go_enter Yba.func42, Yba.ntmps42
  go_wp2
  go_region
  go_wp2
  go_end0
  exact ⟨rfl, 1, rfl⟩

/-- The world behind push_new. -/
def newW (Z : Array Value) (s b n : Nat) (v : Value) (w : World) : World :=
  ((((((w.setCell ⟨b, 258, none⟩ (.pointer (some ⟨w.heap.size, 0, none⟩))).setCell ⟨s, 12, none⟩ (.pointer (some ⟨w.heap.size, 0, none⟩))).setCell ⟨s, 14, none⟩ (.int .i64 0)).setCell ⟨s, 14, none⟩ (.int .i64 1)).setCell ⟨s, 15, none⟩ (.int .i64 ((n : Int) + 1))).alloc
    (.cells ((Z.setIfInBounds 257 (.pointer (some ⟨b, 0, none⟩))).setIfInBounds 0 v) 107)).drew

set_option maxHeartbeats 1600000 in
/-- push where the tail segment is full. -/
theorem push_new (s b n : Nat) (fn : Fn) (xs ys : Array Value) (f : Nat → Value) (w : World) (hn : 0 < n) (hn2 : n < 1048576) (h12 : w.cell? ⟨s, 12, none⟩ = some (.pointer (some ⟨b, 0, none⟩)))
    (h14 : w.cell? ⟨s, 14, none⟩ = some (.int .i64 256)) (h15 : w.cell? ⟨s, 15, none⟩ = some (.int .i64 n)) (hz : ∀ i, w.frozen? ⟨s, i, none⟩ = false) (hb : w.rowIs b 107 259 f) (hs : s < w.heap.size) :
    Calls Yba.prog 42 #[.pointer (some ⟨s, 11, none⟩), .func fn xs ys] w fun e w' => e = .returned (.tuple #[]) ∧ w' = newW Yba.zeroCells107 s b n (.func fn xs ys) w := by
  have hsf := fun (W : World) (a : Addr) => run_store Yba.prog W a (.func fn xs ys) .plain rfl
  have hbc := hb.cell (i := 258) (by omega)
  have hbz := hb.frozen 258
  have hbl := hb.lt
  have hne : (((n : Int) + 1) == 1) = false := by rw [beq_eq_false_iff_ne]; omega
  clear hb
  go_enter Yba.func42, Yba.ntmps42
  go_wp2
  go_region
  go_wp2
  generalize Yba.zeroCells107 = Z
  go_end0
  exact ⟨rfl, rfl⟩

/-- The world behind push_first. -/
def firstW (Z : Array Value) (s : Nat) (v : Value) (w : World) : World :=
  ((((((w.setCell ⟨s, 11, none⟩ (.pointer (some ⟨w.heap.size, 0, none⟩))).setCell ⟨s, 12, none⟩ (.pointer (some ⟨w.heap.size, 0, none⟩))).setCell ⟨s, 14, none⟩ (.int .i64 0)).setCell ⟨s, 14, none⟩ (.int .i64 1)).setCell ⟨s, 15, none⟩ (.int .i64 1)).alloc
    (.cells ((Z.setIfInBounds 257 (.pointer none)).setIfInBounds 0 v) 107)).drew

set_option maxHeartbeats 1600000 in
/-- push into an empty queue. -/
theorem push_first (s : Nat) (fn : Fn) (xs ys : Array Value) (w W : World) (hW : W = firstW Yba.zeroCells107 s (.func fn xs ys) w) (h11 : w.cell? ⟨s, 11, none⟩ = some (.pointer none)) (h12 : w.cell? ⟨s, 12, none⟩ = some (.pointer none))
    (h14 : w.cell? ⟨s, 14, none⟩ = some (.int .i64 0)) (h15 : w.cell? ⟨s, 15, none⟩ = some (.int .i64 0)) (hz : ∀ i, w.frozen? ⟨s, i, none⟩ = false) (hs : s < w.heap.size) (h16 : W.cell? ⟨s, 16, none⟩ = some (.int .u32 0)) (hz16 : W.frozen? ⟨s, 16, none⟩ = false) :
    Calls Yba.prog 42 #[.pointer (some ⟨s, 11, none⟩), .func fn xs ys] w fun e w' => e = .returned (.tuple #[]) ∧ w' = (W.setCell ⟨s, 16, none⟩ (.int .u32 1)).drew := by
  have hsf := fun (W : World) (a : Addr) => run_store Yba.prog W a (.func fn xs ys) .plain rfl
  have HW : Hid _ := hW
  obtain ⟨H16, HZ16⟩ : Hid _ ∧ Hid _ := ⟨h16, hz16⟩
  clear hW h16 hz16
  go_enter Yba.func42, Yba.ntmps42
  go_wp2
  go_region
  go_wp2_with fail
  have hW := HW.out
  unfold firstW at hW
  rw [← hW]
  clear hW HW
  refine (boolStore_any s 16 (.int .u32 0) W H16.out HZ16.out).mono ?_
  rintro e w' ⟨rfl, rfl⟩
  go_wp2_with fail
  go_end0
  exact ⟨rfl, rfl⟩
end Go.Proofs.Ybulkctey
