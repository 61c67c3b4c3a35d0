/-
  SEAT b4747a. CHUNKS: what stands behind i rounds of Write. Plain laws on worlds.
-/
import Derived.Test.YbulkcthcLone
import Derived.Deep.AppendLies
import Derived.Deep.Slices
namespace Go.Proofs.Ybulkcthc
open Go.Conc Go.RowKit

/-- A spare's byte stands in front, where there is one. -/
def pre (k i : Nat) : Nat := if i < k then 1 else 0
def siz (m i : Nat) : Nat := min (m - i * 65536) 65536
def byteAt (k : Nat) (f : Nat → Int) (i t : Nat) : Int := if t < pre k i then 160 + (i : Int) else f (i * 65536 + (t - pre k i))
def spareV (N j : Nat) : Value := .slice (some ⟨N + 3 + j, 0, none⟩) 1 1
/-- The spares that are left behind u. -/
def spareA (N k u : Nat) : Array Value := ((List.range (k - u)).map fun j => spareV N (u + j)).toArray

theorem setChan_far (w : World) (c cap : Nat) (buf : Array Value) (cl : Bool) (s r : Nat) (tm : Bool) {b : Nat} (h : b ≠ c) : (w.setChan c cap buf cl s r tm).heap[b]? = w.heap[b]? := by
  simp only [World.setChan]; rw [Array.getElem?_setIfInBounds_ne (fun e => h e.symm)]
theorem getD_push_eq (a : Array Value) (v : Value) : (a.push v).getD a.size undef = v := by simp
theorem getD_push_lt (a : Array Value) (v : Value) {j : Nat} (h : j < a.size) : (a.push v).getD j undef = a.getD j undef := by
  simp [Array.getD, h, Nat.lt_succ_of_lt h, Array.getElem_push]
theorem spareA_size (N k u : Nat) : (spareA N k u).size = k - u := by simp [spareA]
theorem spareA_head (N k u : Nat) (h : u < k) : (spareA N k u).getD 0 undef = spareV N u := by
  have : 0 < k - u := by omega
  simp [spareA, this]
theorem spareA_rest (N k u : Nat) : (spareA N k u).extract 1 (spareA N k u).size = spareA N k (u + 1) := by
  apply Array.ext
  · simp [spareA]; omega
  · intro i h1 h2
    simp [spareA]
    congr 1
    omega
theorem spareA_push (N j : Nat) : (spareA N j 0).push (spareV N j) = spareA N (j + 1) 0 := by
  simp [spareA, List.range_succ]

/-- A chunk that lies in the channel. -/
def Chunk (N k m : Nat) (f : Nat → Int) (w : World) (j : Nat) (v : Value) : Prop :=
  ∃ g c, v = .slice (some ⟨g, 0, none⟩) (pre k j + siz m j) c ∧ pre k j + siz m j ≤ c ∧ (g = N + 3 + j ∨ N + 3 + k ≤ g) ∧ g < w.heap.size ∧ ∀ t, t < pre k j + siz m j → w.cell? ⟨g, t, none⟩ = some (.int .u8 (byteAt k f j t))

structure WInv (N k m capO : Nat) (f : Nat → Int) (w0 : World) (i : Nat) (w : World) (outs : Array Value) : Prop where
  lo : i = 0 ∨ (i - 1) * 65536 < m
  buf : ∀ t, t < m → w.cell? ⟨N, t, none⟩ = some (.int .u8 (f t))
  out : w.heap[N + 1]? = some (.chan capO outs false i 0 false)
  spare : w.heap[N + 2]? = some (.chan k (spareA N k (min i k)) false k (min i k) false)
  sp : ∀ j, i ≤ j → j < k → w.heap[N + 3 + j]? = some (.cells #[.int .u8 (160 + (j : Int))] 5)
  len : outs.size = i
  sent : ∀ j, j < i → Chunk N k m f w j (outs.getD j undef)
  size : N + 3 + k < w.heap.size
  box : w.heap[N + 3 + k]? = some (.cells #[.chan (some (N + 1)), .chan (some (N + 2))] 31)
  bel : Below N w0 w

/-- One round. -/
theorem WInv.step {N k m capO : Nat} {f : Nat → Int} {w0 : World} {i : Nat} {w W w' : World} {outs : Array Value} (h : WInv N k m capO f w0 i w outs) (hi : i * 65536 < m)
    (hW : ∀ b, b < w.heap.size → b ≠ N + 2 → W.heap[b]? = w.heap[b]?) (hWs : W.heap[N + 2]? = some (.chan k (spareA N k (min (i + 1) k)) false k (min (i + 1) k) false)) (hWz : w.heap.size ≤ W.heap.size) (ho : W.os = w.os) (ht : W.tape = w.tape) (hu : W.output = w.output)
    {vb g cap : Nat} (hvb : (vb = N + 3 + i ∧ i < k) ∨ w.heap.size ≤ vb) (hg : W.grownBy w' (some vb)) (hown : w'.ownsRow 0 5 1 (.slice (some ⟨g, 0, none⟩) (pre k i + siz m i) cap) (pre k i + siz m i) ((List.range (pre k i + siz m i)).map fun t => .int .u8 (byteAt k f i t)))
    (hat : vb = g ∨ g = W.heap.size) (hlt : g < w'.heap.size) :
    WInv N k m capO f w0 (i + 1) (w'.setChan (N + 1) capO (outs.push (.slice (some ⟨g, 0, none⟩) (pre k i + siz m i) cap)) false (i + 1) 0 false) (outs.push (.slice (some ⟨g, 0, none⟩) (pre k i + siz m i) cap)) := by
  have hsz := h.size
  have hblk : ∀ b, b < w.heap.size → b ≠ N + 1 → b ≠ N + 2 → b ≠ vb → (w'.setChan (N + 1) capO (outs.push (.slice (some ⟨g, 0, none⟩) (pre k i + siz m i) cap)) false (i + 1) 0 false).heap[b]? = w.heap[b]? := fun b hb h1 h2 h3 => by
    rw [setChan_far _ _ _ _ _ _ _ _ (by omega), hg.block b (by omega) (by simpa using h3), hW b hb h2]
  have hcl : ∀ b t, b < w.heap.size → b ≠ N + 1 → b ≠ N + 2 → b ≠ vb → (w'.setChan (N + 1) capO (outs.push (.slice (some ⟨g, 0, none⟩) (pre k i + siz m i) cap)) false (i + 1) 0 false).cell? ⟨b, t, none⟩ = w.cell? ⟨b, t, none⟩ := fun b t hb h1 h2 h3 => World.cell?_of_block (w := w) (hblk b hb h1 h2 h3)
  have hz' : W.heap.size ≤ w'.heap.size := hg.size
  refine ⟨.inr (by simpa using hi), fun t ht => ?_, ?_, ?_, fun j hj hk => ?_, by simp [h.len], fun j hj => ?_, by rw [size_setChan]; omega, ?_, ?_⟩
  · rw [hcl N t (by omega) (by omega) (by omega) (by omega)]; exact h.buf t ht
  · exact heap_setChan _ _ _ _ _ _ _ _ (by omega)
  · rw [setChan_far _ _ _ _ _ _ _ _ (by omega), hg.block (N + 2) (by omega) (by simp; omega)]; exact hWs
  · rw [hblk _ (by omega) (by omega) (by omega) (by omega)]; exact h.sp j (by omega) hk
  · by_cases hji : j = i
    · subst hji
      obtain ⟨_, hnil | ⟨g', cap', cur, hv, _, hgc, hnc, _, hcs, htk⟩⟩ := hown
      · simp at hnil
      · simp only [Value.slice.injEq, Option.some.injEq, Addr.mk.injEq, and_true, true_and] at hv
        obtain ⟨rfl, rfl⟩ := hv
        refine ⟨g, cap, ?_, hnc, ?_, by rw [size_setChan]; exact hlt, fun t ht => ?_⟩
        · have := getD_push_eq outs (.slice (some ⟨g, 0, none⟩) (pre k j + siz m j) cap); rwa [h.len] at this
        · omega
        · have hne : g ≠ N + 1 := by omega
          have hb : (w'.setChan (N + 1) capO (outs.push (.slice (some ⟨g, 0, none⟩) (pre k j + siz m j) cap)) false (j + 1) 0 false).heap[g]? = w'.heap[g]? := setChan_far _ _ _ _ _ _ _ _ hne
          rw [World.cell?_of_block (w := w') (a := ⟨g, t, none⟩) hb]
          have h1 : cur.toList[t]? = some (.int .u8 (byteAt k f j t)) := by
            have h2 := congrArg (fun l => l[t]?) htk
            simp only [Nat.mul_one, List.getElem?_take_of_lt ht] at h2
            rw [h2]; simp [ht]
          simp [World.cell?, hgc]
          simpa using h1
    · obtain ⟨g', c', e1, e2, e3, e4, e5⟩ := h.sent j (by omega)
      refine ⟨g', c', ?_, e2, e3, by rw [size_setChan]; omega, fun t ht => ?_⟩
      · rw [← e1]; exact getD_push_lt _ _ (by have := h.len; omega)
      · rw [hcl g' t e4 (by omega) (by omega) (by omega)]; exact e5 t ht
  · rw [hblk _ (by omega) (by omega) (by omega) (by omega)]; exact h.box
  · refine below_setChan (h.bel.trans ⟨hg.os.trans ho, hg.tape.trans ht, hg.output.trans hu, by omega, fun b hb => ?_⟩) (by omega) _ _ _ _ _ _
    rw [hg.block b (by omega) (by simp; omega), hW b (by omega) (by omega)]
end Go.Proofs.Ybulkcthc
