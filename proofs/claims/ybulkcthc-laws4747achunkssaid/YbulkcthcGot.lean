/-
  SEAT b4747a. CHUNKS: one round of Write: the chunk that is got, and the append. Plain laws on worlds.
-/
import Derived.Test.YbulkcthcSent
import Derived.OpenShut
namespace Go.Proofs.Ybulkcthc
open Go.Conc Go.RowKit

structure WPre (N k m capO : Nat) (f : Nat → Int) (w0 w : World) : Prop where
  buf : ∀ t, t < m → w.cell? ⟨N, t, none⟩ = some (.int .u8 (f t))
  out : w.heap[N + 1]? = some (.chan capO #[] false 0 0 false)
  spare : w.heap[N + 2]? = some (.chan k (spareA N k 0) false k 0 false)
  sp : ∀ j, j < k → w.heap[N + 3 + j]? = some (.cells #[.int .u8 (160 + (j : Int))] 5)
  size : w.heap.size = N + 3 + k
  bel : Below N w0 w

theorem WPre.start {N k m capO : Nat} {f : Nat → Int} {w0 w : World} (h : WPre N k m capO f w0 w) : WInv N k m capO f w0 0 (w.alloc (.cells #[.chan (some (N + 1)), .chan (some (N + 2))] 31)) #[] := by
  have hz := h.size
  have hb : ∀ b, b < w.heap.size → (w.alloc (.cells #[.chan (some (N + 1)), .chan (some (N + 2))] 31)).heap[b]? = w.heap[b]? := fun b hb => Below.heap_alloc _ _ _ hb
  refine ⟨.inl rfl, fun t ht => ?_, ?_, ?_, fun j _ hk => ?_, rfl, fun j hj => absurd hj (by omega), by simp; omega, ?_, h.bel.alloc (by omega) _⟩
  · rw [World.cell?_of_block (w := w) (hb N (by omega))]; exact h.buf t ht
  · rw [hb _ (by omega)]; exact h.out
  · rw [hb _ (by omega), Nat.zero_min]; exact h.spare
  · rw [hb _ (by omega)]; exact h.sp j hk
  · rw [← hz]; exact Array.getElem?_push_size

theorem spareA_nil (N k : Nat) : spareA N k k = #[] := by simp [spareA]

/-- What the select and the make leave: a chunk v that owns its front. -/
structure Got (N k i : Nat) (w W : World) (v : Value) (vb : Nat) : Prop where
  block : ∀ b, b < w.heap.size → b ≠ N + 2 → W.heap[b]? = w.heap[b]?
  spare : W.heap[N + 2]? = some (.chan k (spareA N k (min (i + 1) k)) false k (min (i + 1) k) false)
  size : w.heap.size ≤ W.heap.size
  os : W.os = w.os
  tape : W.tape = w.tape
  output : W.output = w.output
  own : v.ownBlock = some vb
  at' : (vb = N + 3 + i ∧ i < k) ∨ w.heap.size ≤ vb
  row : W.ownsRow 0 5 1 v (pre k i) ((List.range (pre k i)).map fun _ => .int .u8 (160 + (i : Int)))

theorem got_spare {N k m capO : Nat} {f : Nat → Int} {w0 : World} {i : Nat} {w : World} {outs : Array Value} (h : WInv N k m capO f w0 i w outs) (hik : i < k) :
    Got N k i w (w.setChan (N + 2) k (spareA N k (i + 1)) false k (i + 1) false) (spareV N i) (N + 3 + i) := by
  have hz := h.size
  refine ⟨fun b _ h2 => setChan_far _ _ _ _ _ _ _ _ h2, ?_, by rw [size_setChan]; exact Nat.le_refl _, rfl, rfl, rfl, rfl, .inl ⟨rfl, hik⟩, ?_⟩
  · rw [Nat.min_eq_left (by omega)]; exact heap_setChan _ _ _ _ _ _ _ _ (by omega)
  · have hp : pre k i = 1 := by simp [pre, hik]
    rw [hp]
    refine ⟨by simp, .inr ⟨N + 3 + i, 1, #[.int .u8 (160 + (i : Int))], rfl, by omega, ?_, by omega, by unfold maxLen; omega, by simp, by simp⟩⟩
    rw [setChan_far _ _ _ _ _ _ _ _ (by omega)]; exact h.sp i (Nat.le_refl _) hik

theorem got_fresh {N k m capO : Nat} {f : Nat → Int} {w0 : World} {i : Nat} {w : World} {outs : Array Value} (h : WInv N k m capO f w0 i w outs) (hik : ¬ i < k) (cs : Array Value) (hcs : cs.size = 65536) :
    Got N k i w (w.alloc (.cells cs 5)) (.slice (some ⟨w.heap.size, 0, none⟩) 0 65536) w.heap.size := by
  have hz := h.size
  refine ⟨fun b hb _ => Below.heap_alloc _ _ _ hb, ?_, by simp, rfl, rfl, rfl, rfl, .inr (Nat.le_refl _), ?_⟩
  · rw [Below.heap_alloc _ _ _ (by omega), Nat.min_eq_right (by omega)]
    have := h.spare
    rwa [Nat.min_eq_right (by omega)] at this
  · have hp : pre k i = 0 := by simp [pre, hik]
    rw [hp]
    exact ⟨by simp, .inr ⟨w.heap.size, 65536, cs, rfl, by omega, Array.getElem?_push_size, by omega, by unfold maxLen; omega, by simp [hcs], by simp⟩⟩

theorem info5 : (Yba.prog.info? 5).map (fun i => (i.zero, i.size, i.bytes)) = some (some (.int .u8 0), 1, 1) := by kernel_rfl
theorem mixed : Yba.prog.follows .mixedOrders = true := by kernel_rfl
theorem info_five : ∃ i : TypeInfo, Yba.prog.info? 5 = some i ∧ i.zero = some (.int .u8 0) ∧ i.size = 1 ∧ i.bytes = 1 := by
  obtain ⟨i, h1, h2⟩ := Option.map_eq_some_iff.1 info5
  simp only [Prod.mk.injEq] at h2
  exact ⟨i, h1, h2.1, h2.2.1, h2.2.2⟩

theorem news_at {W : World} {N m o z : Nat} {f : Nat → Int} (h : ∀ t, t < m → W.cell? ⟨N, t, none⟩ = some (.int .u8 (f t))) (hz : o + z ≤ m) (j : Nat) (u : Value) (hj : ((List.range z).map fun t => Value.int .u8 (f (o + t)))[j]? = some u) : W.cell? ((⟨N, o, none⟩ : Addr).add j) = some u := by
  have hjl : j < z := by have := (List.getElem?_eq_some_iff.1 hj).1; simpa using this
  have hadd : (⟨N, o, none⟩ : Addr).add j = ⟨N, o + j, none⟩ := by unfold Addr.add; split <;> simp_all
  rw [hadd, h (o + j) (by omega)]
  simpa [hjl] using hj
theorem front_piece (k : Nat) (f : Nat → Int) (i z : Nat) : ((List.range (pre k i)).map fun _ => Value.int .u8 (160 + (i : Int))) ++ ((List.range z).map fun t => Value.int .u8 (f (i * 65536 + t))) = (List.range (pre k i + z)).map fun t => Value.int .u8 (byteAt k f i t) := by
  rw [List.range_add, List.map_append, List.map_map]
  have h1 : ((List.range (pre k i)).map fun _ => Value.int .u8 (160 + (i : Int))) = (List.range (pre k i)).map fun t => Value.int .u8 (byteAt k f i t) := by
    apply List.map_congr_left
    intro t ht
    have ht' : t < pre k i := List.mem_range.1 ht
    unfold byteAt
    rw [if_pos ht']
  rw [h1]
  refine congrArg _ ?_
  apply List.map_congr_left
  intro t _
  show _ = Value.int .u8 (byteAt k f i (pre k i + t))
  unfold byteAt
  rw [if_neg (by omega), Nat.add_sub_cancel_left]

set_option maxRecDepth 100000 in
/-- The append of a round. -/
theorem got_append {N k m capO : Nat} {f : Nat → Int} {w0 : World} {i : Nat} {w W : World} {outs : Array Value} {v : Value} {vb len : Nat} (h : WInv N k m capO f w0 i w outs) (hg : Got N k i w W v vb) (hi : i * 65536 < m) (_hm : m ≤ 262144) :
    ∃ g cap w', (Builtin.append_ #[22, 22] 22 #[v, .slice (some ⟨N, i * 65536, none⟩) (siz m i) len]).run Yba.prog W.drew = .ok (.slice (some ⟨g, 0, none⟩) (pre k i + siz m i) cap) w' ∧
      WInv N k m capO f w0 (i + 1) (w'.setChan (N + 1) capO (outs.push (.slice (some ⟨g, 0, none⟩) (pre k i + siz m i) cap)) false (i + 1) 0 false) (outs.push (.slice (some ⟨g, 0, none⟩) (pre k i + siz m i) cap)) ∧ w'.heap[N + 1]? = some (.chan capO outs false i 0 false) := by
  obtain ⟨i0, e1, e2, e3, e4⟩ := info_five
  have hz := h.size
  have hs0 : 0 < siz m i := by unfold siz; omega
  have hs1 : siz m i ≤ 65536 := by unfold siz; omega
  have hs2 : siz m i ≤ m - i * 65536 := by unfold siz; omega
  have hp1 : pre k i ≤ 1 := by unfold pre; split <;> omega
  have hcell : ∀ t, t < m → W.drew.cell? ⟨N, t, none⟩ = some (.int .u8 (f t)) := fun t ht => by
    have : W.drew.cell? ⟨N, t, none⟩ = w.cell? ⟨N, t, none⟩ := World.cell?_of_block (w := w) (hg.block N (by omega) (by omega))
    rw [this]; exact h.buf t ht
  have hrow : W.drew.ownsRow 0 5 1 v (pre k i) ((List.range (pre k i)).map fun _ => .int .u8 (160 + (i : Int))) := hg.row
  have hnews : ∀ j u, ((List.range (siz m i)).map fun t => Value.int .u8 (f (i * 65536 + t)))[j]? = some u → W.drew.cell? ((⟨N, i * 65536, none⟩ : Addr).add j) = some u := news_at hcell (by omega)
  obtain ⟨g, cap, w', hr, hown, hgr, hat, hlt⟩ := run_append_lies (P := Yba.prog) W.drew 22 22 0 5 i0 (.int .u8 0) 1 1 Yba.underlying22 e1 e2 e3 e4 rfl (by decide) v (pre k i) _ hrow ⟨N, i * 65536, none⟩ (siz m i) len
    ((List.range (siz m i)).map fun t => .int .u8 (f (i * 65536 + t))) (by simp) hnews (by intro u hu; obtain ⟨t, _, rfl⟩ := List.mem_map.1 hu; rfl) hs0 (by unfold maxLen; omega) (by omega) (by omega) _ rfl
  refine ⟨g, cap, w', hr, ?_, ?_⟩
  · refine h.step (W := W.drew) hi hg.block hg.spare hg.size hg.os hg.tape hg.output hg.at' (by rw [← hg.own]; exact hgr) ?_ ?_ hlt
    · rw [front_piece] at hown
      exact hown
    · rw [hg.own] at hat
      exact hat.imp (fun e => Option.some.inj e) id
  · have hvb : some (N + 1) ≠ v.ownBlock := by rw [hg.own]; have := hg.at'; simp; omega
    rw [hgr.block (N + 1) (by have := hg.size; show N + 1 < W.heap.size; omega) hvb]
    exact (hg.block (N + 1) (by omega) (by omega)).trans h.out

theorem slice_instr (N q len sz : Nat) (w : World) (h : sz ≤ len) : (Instr.slice 22 (.slice (some ⟨N, q, none⟩) len len) none (some (.int .i64 (sz : Int))) none).run Yba.prog w = .ok (.slice (some ⟨N, q, none⟩) sz len) w := by
  have h3 : (sz : Int) ≤ (len : Int) := by omega
  simp [go_sem, h3]
theorem slice_run (a : Act) (o : Oper) (N q len sz : Nat) (w : World) (ho : o.op = .slice 22 (.tmp 27) none (some (.tmp 28)) none) (h1 : a.eval (.tmp 27) = .slice (some ⟨N, q, none⟩) len len) (h2 : a.eval (.tmp 28) = .int .i64 sz) (h : sz ≤ len) :
    (execOp a.eval o).run Yba.prog w = .ok (.value (.slice (some ⟨N, q, none⟩) sz len)) w := by
  unfold execOp
  simp only [ho, Option.map_some, Option.map_none, h1, h2]
  have := slice_instr N q len sz w h
  simp [go_sem, this]
theorem append_run {a : Act} {o : Oper} {w w' : World} {v sl r : Value} (ho : o.op = .call { callee := .builtin .append, args := #[.tmp 26, .tmp 29], argTypes := #[22, 22] }) (hs : a.eval (.tmp 26) = v) (hx : a.eval (.tmp 29) = sl) (hr : (Builtin.append_ #[22, 22] o.type #[v, sl]).run Yba.prog w = .ok r w') :
    (execOp a.eval o).run Yba.prog w = .ok (.value r) w' := by
  unfold execOp
  simp only [ho, resolve, invoke, builtin, Sem.run_bind, Sem.run_pure, Result.andThen_ok, List.map_toArray, List.map_cons, List.map_nil, hs, hx, hr]
end Go.Proofs.Ybulkcthc
