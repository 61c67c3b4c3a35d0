/-
  SEAT b4743a. QUEUE: a round's call of queueLocal, by the ids.
-/
import Derived.Test.YbulkcteyLaw2
namespace Go.Proofs.Ybulkctey
open Go.RowKit Go.Deep

def upd (idb : Nat → Nat) (i D : Nat) (k : Nat) : Nat := if k = i then D else idb k
theorem upd_at (idb : Nat → Nat) (i D : Nat) : upd idb i D i = D := if_pos rfl
theorem upd_lt (idb : Nat → Nat) (i D k : Nat) (h : k < i) : upd idb i D k = idb k := if_neg (by omega)
theorem itm_lt {i : Nat} {rg : List Nat} (h : ∀ k ∈ rg, k < i) : ∀ k ∈ itm i rg, k < i := by
  intro k hk
  unfold itm at hk
  split at hk
  · cases hk
  · rcases List.mem_append.1 hk with h1 | h1
    · exact h k h1
    · simp at h1; omega

/-- A round's call, the ring not full. -/
theorem L2.room {N s B T R g1 g2 rv rc gb c n : Nat} {pk : Nat → Nat} {w0 : World} {i : Nat} {rg gl : List Nat} {cl ov : Nat} {idb : Nat → Nat} {vr vg : Value} {w : World} (h : L2 N s B T R g1 g2 rv rc gb c n pk w0 i rg gl cl ov idb vr vg w) (hn : i < 1024) (hr : i = 0 ∨ rg.length < c) :
    Calls Yba.prog 16 #[.pointer (some ⟨s, 0, none⟩), .pointer (some ⟨B, 0, none⟩), .agg #[.func (.func 15) #[] #[.pointer (some ⟨rv, 0, none⟩), .pointer (some ⟨w.heap.size, 0, none⟩)], .pointer (gOf g1 g2 pk i)]] (w.alloc (.cells #[.int .i64 (i : Nat)] 3)) fun e w' => e = .returned (.tuple #[]) ∧
      Sd N s B T R g1 g2 rv rc gb c n (gOf g1 g2 pk) w0 cl ov 1 ((itm i rg ++ [i]).map (ent rv (upd idb i w.heap.size) (gOf g1 g2 pk))) (gl.map (ent rv (upd idb i w.heap.size) (gOf g1 g2 pk))) w' ∧ In N (i + 1) rg gl (upd idb i w.heap.size) vr vg w' := by
  have hN : N ≤ w.heap.size := by have := h.sd.lw.grp.lt; have := h.sd.lw.ge; omega
  have hsa := h.sd.ints ((Fr.refl (IF N w) w).alloc (.cells #[.int .i64 (i : Nat)] 3))
  have hin := h.ints.newId hN (upd_at idb i w.heap.size) (upd_lt idb i w.heap.size)
  have hil : (itm i rg).length = if i = 0 then 0 else rg.length + 1 := by unfold itm; split <;> simp
  have hcnt := h.cnt
  have hcl := h.cl_le
  have hrl := h.rl
  obtain ⟨nt, hnt, hq⟩ := hsa.q
  have hcc := h.sd.lw.cap
  refine (local_room N B T R s g1 g2 c cl (if i = 0 then 0 else 1) ov ((itm i rg).map (ent rv idb (gOf g1 g2 pk))) (gl.map (ent rv idb (gOf g1 g2 pk))) nt (.func 15) #[] #[.pointer (some ⟨rv, 0, none⟩), .pointer (some ⟨w.heap.size, 0, none⟩)] (gOf g1 g2 pk i) _ hcc ?_ ?_ hq hsa.g).mono ?_
  · by_cases h0 : i = 0
    · exact .inl ⟨if_pos h0, by rw [List.length_map, hil, if_pos h0]; omega⟩
    · exact .inr ⟨if_neg h0, by rw [List.length_map, hil, if_neg h0]; omega⟩
  · rw [List.length_map]; split at hil <;> omega
  · rintro e w' ⟨rfl, hl⟩
    obtain ⟨hsd, hk⟩ := hsa.local hl (fun ⟨h1, h2⟩ e he => by
      rcases List.mem_append.1 he with he | he
      · exact hnt h1 e he
      · simp at he; rw [he]; exact h2)
    refine ⟨rfl, ?_, hin.keep hk⟩
    rw [List.map_append, ent_congr (upd_lt idb i w.heap.size) _ (itm_lt h.ltr), ent_congr (upd_lt idb i w.heap.size) _ h.ltg]
    have : [i].map (ent rv (upd idb i w.heap.size) (gOf g1 g2 pk)) = [(Value.func (.func 15) #[] #[.pointer (some ⟨rv, 0, none⟩), .pointer (some ⟨w.heap.size, 0, none⟩)], gOf g1 g2 pk i)] := by
      simp [ent, taskV, upd_at]
    rw [this]
    exact hsd

/-- A round's call, the ring full. -/
theorem L2.full {N s B T R g1 g2 rv rc gb c n : Nat} {pk : Nat → Nat} {w0 : World} {i : Nat} {rg gl : List Nat} {cl ov : Nat} {idb : Nat → Nat} {vr vg : Value} {w : World} (h : L2 N s B T R g1 g2 rv rc gb c n pk w0 i rg gl cl ov idb vr vg w) (hn : i < 1024) (h0 : i ≠ 0) (hr : rg.length = c) :
    Calls Yba.prog 16 #[.pointer (some ⟨s, 0, none⟩), .pointer (some ⟨B, 0, none⟩), .agg #[.func (.func 15) #[] #[.pointer (some ⟨rv, 0, none⟩), .pointer (some ⟨w.heap.size, 0, none⟩)], .pointer (gOf g1 g2 pk i)]] (w.alloc (.cells #[.int .i64 (i : Nat)] 3)) fun e w' => e = .returned (.tuple #[]) ∧
      Sd N s B T R g1 g2 rv rc gb c n (gOf g1 g2 pk) w0 (cl + c / 2) (ov + 1) 1 ((rg.drop (c / 2) ++ [i]).map (ent rv (upd idb i w.heap.size) (gOf g1 g2 pk))) ((gl ++ rg.take (c / 2) ++ [i - 1]).map (ent rv (upd idb i w.heap.size) (gOf g1 g2 pk))) w' ∧ In N (i + 1) rg gl (upd idb i w.heap.size) vr vg w' := by
  have hN : N ≤ w.heap.size := by have := h.sd.lw.grp.lt; have := h.sd.lw.ge; omega
  have hsa := h.sd.ints ((Fr.refl (IF N w) w).alloc (.cells #[.int .i64 (i : Nat)] 3))
  have hin := h.ints.newId hN (upd_at idb i w.heap.size) (upd_lt idb i w.heap.size)
  have hil : itm i rg = rg ++ [i - 1] := by unfold itm; rw [if_neg h0]
  have hcnt := h.cnt
  have hcl := h.cl_le
  have hov := h.ov_le
  have hcc := h.sd.lw.cap
  obtain ⟨nt, hnt, hq⟩ := hsa.q
  rw [hil, List.length_append] at hcnt
  simp only [List.length_singleton] at hcnt
  rw [hil, if_neg h0] at hq
  rw [hil] at hnt
  rw [List.map_append] at hq hnt
  have hq' : QC B T R c (lay c cl 0 (rg.map (ent rv idb (gOf g1 g2 pk)) ++ [ent rv idb (gOf g1 g2 pk) (i - 1)])) nt (word cl cl (cl + c + 1) 1) (w.alloc (.cells #[.int .i64 (i : Nat)] 3)) := by
    rw [show cl + (rg.map (ent rv idb (gOf g1 g2 pk)) ++ [i - 1].map (ent rv idb (gOf g1 g2 pk))).length = cl + c + 1 from by rw [List.length_append]; simp [hr]; omega] at hq
    exact hq
  refine (local_full N B T R s g1 g2 c cl ov (rg.map (ent rv idb (gOf g1 g2 pk))) (gl.map (ent rv idb (gOf g1 g2 pk))) (ent rv idb (gOf g1 g2 pk) (i - 1)) nt (.func 15) #[] #[.pointer (some ⟨rv, 0, none⟩), .pointer (some ⟨w.heap.size, 0, none⟩)] (gOf g1 g2 pk i) _ hcc (by rw [List.length_map]; exact hr) (by omega) (by rw [List.length_map]; omega) (by omega) ?_ hnt hq' hsa.g).mono ?_
  · intro e he
    rcases List.mem_append.1 he with he | he
    · obtain ⟨k, _, rfl⟩ := List.mem_map.1 he; exact ent_good _ _ _ _ _ _
    · simp at he; rw [he]; exact ent_good _ _ _ _ _ _
  · rintro e w' ⟨rfl, hl⟩
    obtain ⟨hsd, hk⟩ := hsa.local hl (fun ⟨h1, h2⟩ e he => by
      rcases List.mem_append.1 he with he | he
      · exact hnt h1 e (List.mem_append.2 (.inl (List.mem_of_mem_drop he)))
      · simp at he; rw [he]; exact h2)
    refine ⟨rfl, ?_, hin.keep hk⟩
    rw [List.map_append, List.map_append, List.map_append, ent_congr (upd_lt idb i w.heap.size) (rg.drop (c / 2)) (fun k hk => h.ltr k (List.mem_of_mem_drop hk)), ent_congr (upd_lt idb i w.heap.size) (rg.take (c / 2)) (fun k hk => h.ltr k (List.mem_of_mem_take hk)), ent_congr (upd_lt idb i w.heap.size) gl h.ltg, ent_congr (upd_lt idb i w.heap.size) [i - 1] (fun k hk => by simp at hk; omega)]
    have : [i].map (ent rv (upd idb i w.heap.size) (gOf g1 g2 pk)) = [(Value.func (.func 15) #[] #[.pointer (some ⟨rv, 0, none⟩), .pointer (some ⟨w.heap.size, 0, none⟩)], gOf g1 g2 pk i)] := by
      simp [ent, taskV, upd_at]
    rw [this, List.map_drop, List.map_take]
    exact hsd
end Go.Proofs.Ybulkctey
