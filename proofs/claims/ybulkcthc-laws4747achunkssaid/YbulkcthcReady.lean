/-
  SEAT b4747a. CHUNKS: the law's own state: the buffer that is made, the spares that are laid; plain laws on worlds.
-/
import Derived.Test.YbulkcthcWrite
import Derived.Laws.CopyOwn
import Derived.Laws.BytesArg
import Derived.Deep.OwnRows
namespace Go.Proofs.Ybulkcthc
open Go.Conc Go.RowKit

def Buf (w : World) (N m : Nat) : Prop := ∃ f : Nat → Int, w.rowIs N 5 m (fun t => .int .u8 (f t))

theorem buf_of_list {w : World} {N m : Nat} {L : List Value} (h : w.heap[N]? = some (.cells L.toArray 5 (0, 0))) (hl : L.length = m) (hv : ∀ v ∈ L, ∃ n : Int, v = .int .u8 n) : Buf w N m := by
  refine ⟨fun t => match L.getD t undef with | .int _ n => n | _ => 0, L.toArray, h, by simpa using hl, fun i hi => ?_⟩
  have hi' : i < L.length := by omega
  obtain ⟨n, hn⟩ := hv L[i] (List.getElem_mem _)
  simp [List.getD, hi', hn]

/-- How many chunks m bytes make. -/
@[irreducible] def wantOf (m : Nat) : Nat := (m + 65535) / 65536
theorem wantOf_eq (m : Nat) : wantOf m = (m + 65535) / 65536 := by unfold wantOf; rfl
theorem wantOf_int (m : Nat) : ((m : Int) + 65536 - 1) / 65536 = (wantOf m : Int) := by rw [wantOf_eq]; omega
theorem wantOf_le (m : Nat) (h : m ≤ 262143) : wantOf m ≤ 4 := by rw [wantOf_eq]; omega
theorem info22 : ∃ i : TypeInfo, Yba.prog.info? 22 = some i ∧ i.bytes = 24 := by
  have h : (Yba.prog.info? 22).map (fun i => i.bytes) = some 24 := by kernel_rfl
  obtain ⟨i, h1, h2⟩ := Option.map_eq_some_iff.1 h
  exact ⟨i, h1, h2⟩
theorem buf_set {w : World} {N m k : Nat} {x : Int} (h : Buf w N m) : Buf (w.setCell ⟨N, k, none⟩ (.int .u8 x)) N m := by
  obtain ⟨f, hf⟩ := h
  refine ⟨fun j => if j = k then x else f j, (hf.set k (.int .u8 x)).congr fun j _ => ?_⟩
  show (if j = k then Value.int .u8 x else Value.int .u8 (f j)) = Value.int .u8 (if j = k then x else f j)
  split <;> rfl
theorem copy_run {w0 w1 : World} {B N m len0 cap0 : Nat} {a0 : Option Addr} {ad : Addr} {z0 : List Int} {L : List Value} (hi : (Yba.prog.info? 5).map (·.size) = some 1) (hN : B ≤ N) (hg : w1.heap[N]? = some (.cells L.toArray 5 (0, 0))) (hL : L.length = m) (hz : z0.length = len0) (hlm : len0 ≤ m) (ha : 0 < len0 → a0 = some ad) (hsrc : ∀ j v, (z0.map (Value.int .u8))[j]? = some v → w1.cell? (ad.add j) = some v) (hb : Below B w0 w1) (hv : ∀ v ∈ L, ∃ n : Int, v = .int .u8 n) :
    ∃ w2, (Builtin.copy_ #[22, 22] 3 #[.slice (some ⟨N, 0, none⟩) m m, .slice a0 len0 cap0]).run Yba.prog w1 = .ok (.int .i64 (len0 : Int)) w2 ∧ Buf w2 N m ∧ Below B w0 w2 ∧ w2.heap.size = w1.heap.size := by
  have hmin : (z0.map (Value.int .u8)).length = Nat.min len0 m := by rw [List.length_map, hz]; exact (Nat.min_eq_left hlm).symm
  by_cases h0 : 0 < len0
  · obtain rfl := ha h0
    have hr := run_copy_row (P := Yba.prog) w1 22 22 3 5 N 0 m m ad len0 cap0 L.toArray 5 (z0.map (Value.int .u8)) Yba.underlying22 hi hg hmin hsrc (by simp [hz, hL]; omega) (by intro v hv; obtain ⟨x, _, rfl⟩ := List.mem_map.1 hv; rfl)
    simp only [List.take_zero, List.nil_append, Nat.zero_add, List.length_map, hz] at hr
    refine ⟨_, hr, ?_, below_setRow hb hN _, by simp [World.setRow]⟩
    refine buf_of_list (setRow_heap w1 N _ _ 5 _ hg) (by simp [hz, hL]; omega) (fun v hv' => ?_)
    simp only [List.mem_append, List.mem_map] at hv'
    rcases hv' with ⟨x, _, rfl⟩ | hv'
    · exact ⟨x, rfl⟩
    · exact hv v (List.mem_of_mem_drop hv')
  · have : len0 = 0 := by omega
    subst this
    have hr := run_copy_none (P := Yba.prog) w1 22 22 3 5 (some ⟨N, 0, none⟩) a0 m m 0 cap0 Yba.underlying22 hi (Nat.zero_min _)
    exact ⟨w1, by simpa [goInt] using hr, buf_of_list hg hL hv, hb, rfl⟩

/-- Behind j rounds of the second loop. -/
structure Ready (N k j m capO : Nat) (w0 w : World) : Prop where
  buf : Buf w N m
  out : w.heap[N + 1]? = some (.chan capO #[] false 0 0 false)
  spare : w.heap[N + 2]? = some (.chan k (spareA N j 0) false j 0 false)
  sp : ∀ i, i < j → w.heap[N + 3 + i]? = some (.cells #[.int .u8 (160 + (i : Int))] 5)
  size : w.heap.size = N + 3 + j
  bel : Below N w0 w

theorem Buf.of_block {w w' : World} {N m : Nat} (h : Buf w N m) (e : w'.heap[N]? = w.heap[N]?) : Buf w' N m := by
  obtain ⟨f, c, h1, h2⟩ := h
  exact ⟨f, c, e.trans h1, h2⟩

theorem Ready.start {N k m capO : Nat} {w0 w : World} (h : Buf w N m) (hz : w.heap.size = N + 1) (hb : Below N w0 w) :
    Ready N k 0 m capO w0 ((w.alloc (.chan capO #[] false 0 0 false)).alloc (.chan k #[] false 0 0 false)) := by
  have e0 : ((w.alloc (.chan capO #[] false 0 0 false)).alloc (.chan k #[] false 0 0 false)).heap[N]? = w.heap[N]? := by
    rw [Below.heap_alloc _ _ _ (by simp; omega), Below.heap_alloc _ _ _ (by omega)]
  refine ⟨h.of_block e0, ?_, ?_, fun i hi => absurd hi (by omega), by simp; omega, (hb.alloc (by omega) _).alloc (by simp; omega) _⟩
  · rw [Below.heap_alloc _ _ _ (by simp; omega), ← hz]; exact Array.getElem?_push_size
  · have : N + 2 = (w.alloc (.chan capO #[] false 0 0 false)).heap.size := by simp; omega
    rw [this]; exact Array.getElem?_push_size

theorem Ready.step {N k j m capO : Nat} {w0 w : World} (h : Ready N k j m capO w0 w) :
    Ready N k (j + 1) m capO w0 ((w.alloc (.cells #[.int .u8 (160 + (j : Int))] 5)).setChan (N + 2) k ((spareA N j 0).push (spareV N j)) false (j + 1) 0 false) := by
  have hz := h.size
  have hblk : ∀ b, b < w.heap.size → b ≠ N + 2 → ((w.alloc (.cells #[.int .u8 (160 + (j : Int))] 5)).setChan (N + 2) k ((spareA N j 0).push (spareV N j)) false (j + 1) 0 false).heap[b]? = w.heap[b]? := fun b hb h2 => by
    rw [setChan_far _ _ _ _ _ _ _ _ h2, Below.heap_alloc _ _ _ hb]
  refine ⟨h.buf.of_block (hblk N (by omega) (by omega)), ?_, ?_, fun i hi => ?_, by rw [size_setChan]; simp; omega, below_setChan (h.bel.alloc (by omega) _) (by omega) _ _ _ _ _ _⟩
  · rw [hblk _ (by omega) (by omega)]; exact h.out
  · rw [← spareA_push]; exact heap_setChan _ _ _ _ _ _ _ _ (by simp; omega)
  · by_cases hij : i = j
    · subst hij
      rw [setChan_far _ _ _ _ _ _ _ _ (by omega), ← hz]; exact Array.getElem?_push_size
    · rw [hblk _ (by omega) (by omega)]; exact h.sp i (by omega)

theorem Ready.done {N k m capO : Nat} {w0 w : World} (h : Ready N k k m capO w0 w) : ∃ f, WPre N k m capO f w0 w := by
  obtain ⟨f, hf⟩ := h.buf
  exact ⟨f, fun t ht => hf.cell ht, h.out, h.spare, h.sp, h.size, h.bel⟩

/-- bytes.Equal of two rows of the same bytes. -/
theorem beq_any (b1 o1 c1 b2 o2 c2 len : Nat) (xs : List Int) (w : World) (hl : xs.length = len) (h1 : ∀ i, i < len → w.cell? ⟨b1, o1 + i, none⟩ = some (.int .u8 (xs.getD i 0))) (h2 : ∀ i, i < len → w.cell? ⟨b2, o2 + i, none⟩ = some (.int .u8 (xs.getD i 0))) :
    Calls Yba.prog 7 #[.slice (some ⟨b1, o1, none⟩) len c1, .slice (some ⟨b2, o2, none⟩) len c2] w fun e w' => e = .returned (.bool true) ∧ w' = w := by
  have e1 := run_convert_bytes_arg (P := Yba.prog) w 22 5 Yba.underlying22 Yba.underlying5 b1 o1 len c1 xs hl h1 9 Yba.underlying9
  have e2 := run_convert_bytes_arg (P := Yba.prog) w 22 5 Yba.underlying22 Yba.underlying5 b2 o2 len c2 xs hl h2 9 Yba.underlying9
  clear h1 h2
  go_enter Yba.func7, Yba.ntmps7
  go_wp2
  go_ret
  exact ⟨rfl, rfl⟩
end Go.Proofs.Ybulkcthc
