/-
  SEAT b4743a. QUEUE: a segment's array of groups is made; a group is noted.
-/
import Derived.Test.YbulkcteyPushG
namespace Go.Proofs.Ybulkctey
open Go.RowKit Go.Deep

theorem z141_row (w : World) : (w.alloc (.cells Yba.zeroCells141 141)).rowIs w.heap.size 141 256 (fun _ => .pointer none) := by
  have hs : Yba.zeroCells141.size = 256 := by kernel_rfl
  have hg : ∀ k, k < 256 → Yba.zeroCells141[k]? = some (.pointer none) := fun k hk => by rw [zc141]; simp [hk]
  generalize Yba.zeroCells141 = Z at *
  have h := World.rowIs_alloc w Z 141 (fun _ => .pointer none) (fun k hk => hg k (by omega))
  rwa [hs] at h

/-- The last segment gets its array. -/
theorem GQ.garr {N s : Nat} {mu : Int} {ov : Nat} {es : List Ent} {B : Nat → Nat} {GB GB' : Nat → Option Nat} {w : World} {M : Nat} (h : GQ N s mu ov es B GB w) (hM : 256 * M < es.length) (hM1 : es.length ≤ 256 * (M + 1)) (hn : GB M = none) (hGn : GB' M = some w.heap.size) (hGo : ∀ m, m ≠ M → GB' m = GB m) :
    GQ N s mu ov es B GB' ((w.setCell ⟨B M, 256, none⟩ (.pointer (some ⟨w.heap.size, 0, none⟩))).alloc (.cells Yba.zeroCells141 141)) := by
  obtain ⟨f, hf, hfk, hfg, hfn⟩ := h.seg M hM
  obtain ⟨fs, hfs, _⟩ := h.sch
  have hsB : s ≠ B M := rowIs_ne hfs hf (by decide)
  have hz := z141_row (w.setCell ⟨B M, 256, none⟩ (.pointer (some ⟨w.heap.size, 0, none⟩)))
  rw [show (w.setCell ⟨B M, 256, none⟩ (.pointer (some ⟨w.heap.size, 0, none⟩))).heap.size = w.heap.size from by simp [World.setCell]] at hz
  have eo : ∀ b, b < w.heap.size → b ≠ B M → ((w.setCell ⟨B M, 256, none⟩ (.pointer (some ⟨w.heap.size, 0, none⟩))).alloc (.cells Yba.zeroCells141 141)).heap[b]? = w.heap[b]? := fun b h0 h1 =>
    (blk_alloc_lt _ _ _ (by simpa [World.setCell] using h0)).trans (blk_setCell_other _ _ _ _ h1)
  have hB := (hf.set 256 (.pointer (some ⟨w.heap.size, 0, none⟩))).alloc (.cells Yba.zeroCells141 141)
  refine ⟨(h.sch.other hsB _).alloc _, fun m hm => ?_, fun m b hm hb => ?_, fun m hm hb j hj => ?_, h.mB, h.nS, h.nB, fun m b1 h1 e1 => ?_, fun m m' b1 b2 h1 h2 e1 e2 => ?_⟩
  · by_cases hmM : m = M
    · subst hmM
      exact ⟨_, hB, fun j hj => (if_neg (by omega)).trans (hfk j hj), by rw [hGn]; exact if_pos rfl, (if_neg (by omega)).trans hfn⟩
    · obtain ⟨f2, hf2, hk2, hg2, hn2⟩ := h.seg m hm
      have hlt : B m < B M := h.mB _ _ (by omega) (by omega)
      exact ⟨f2, hf2.of_block (eo _ hf2.lt (by omega)), hk2, by rw [hGo m hmM]; exact hg2, hn2⟩
  · by_cases hmM : m = M
    · subst hmM
      rw [hGn] at hb
      cases hb
      exact hz.congr fun j hj => by rw [h.no m hm hn j hj]
    · rw [hGo m hmM] at hb
      have h1 := h.ga m b hm hb
      exact h1.of_block (eo _ h1.lt (rowIs_ne h1 hf (by decide)))
  · by_cases hmM : m = M
    · rw [hmM, hGn] at hb; cases hb
    · rw [hGo m hmM] at hb; exact h.no m hm hb j hj
  · by_cases hmM : m = M
    · rw [hmM, hGn] at e1; cases e1
      have := h.nS; have := hfs.lt; omega
    · rw [hGo m hmM] at e1; exact h.nG m b1 h1 e1
  · rw [hGo m (by omega)] at e1
    by_cases hmM : m' = M
    · rw [hmM, hGn] at e2
      cases e2
      exact (h.ga m b1 (by omega) e1).lt
    · rw [hGo m' hmM] at e2
      exact h.mG m m' b1 b2 h1 h2 e1 e2

/-- The last entry's group is noted. -/
theorem GQ.setg {N s : Nat} {mu : Int} {ov : Nat} {es : List Ent} {v : Value} {B : Nat → Nat} {GB : Nat → Option Nat} {w : World} {b : Nat} (ga : Addr) (h : GQ N s mu ov (es ++ [(v, none)]) B GB w) (hb : GB (es.length / 256) = some b) :
    GQ N s mu ov (es ++ [(v, some ga)]) B GB ((w.setCell ⟨b, es.length % 256, none⟩ (.pointer (some ga))).drew.setCell ⟨s, 17, none⟩ (.int .i64 ((gcount (es ++ [(v, none)]) : Int) + 1))) := by
  obtain ⟨n, hn⟩ : ∃ n, n = es.length := ⟨_, rfl⟩
  have hl0 : (es ++ [((v, none) : Ent)]).length = n + 1 := by simp [hn]
  have hl1 : (es ++ [((v, some ga) : Ent)]).length = n + 1 := by simp [hn]
  rw [← hn] at hb ⊢
  have hA := h.ga (n / 256) b (by rw [hl0]; omega) hb
  obtain ⟨fs, hfs, _⟩ := h.sch
  have hsb : s ≠ b := rowIs_ne hfs hA (by decide)
  have eo : ∀ c, c ≠ b → c ≠ s → ((w.setCell ⟨b, n % 256, none⟩ (.pointer (some ga))).drew.setCell ⟨s, 17, none⟩ (.int .i64 ((gcount (es ++ [(v, none)]) : Int) + 1))).heap[c]? = w.heap[c]? := fun c h1 h2 =>
    (blk_setCell_other _ _ _ _ h2).trans (blk_setCell_other w _ _ _ h1)
  have ht : ∀ p, tsk (es ++ [((v, some ga) : Ent)]) p = tsk (es ++ [((v, none) : Ent)]) p := fun p => by rw [tsk_push, tsk_push]
  refine ⟨?_, fun m hm => ?_, fun m b' hm hb' => ?_, fun m hm hb' j hj => ?_, fun m m' h1 h2 => h.mB m m' h1 (by rw [hl1] at h2; rw [hl0]; exact h2), h.nS, fun m h1 => h.nB m (by rw [hl1] at h1; rw [hl0]; exact h1), fun m b1 h1 => h.nG m b1 (by rw [hl1] at h1; rw [hl0]; exact h1), fun m m' b1 b2 h1 h2 => h.mG m m' b1 b2 h1 (by rw [hl1] at h2; rw [hl0]; exact h2)⟩
  · have h1 := ((h.sch.other (a := ⟨b, n % 256, none⟩) hsb (.pointer (some ga))).drewN 1).set17 (gcount (es ++ [(v, none)]) + 1)
    rw [show ((gcount (es ++ [((v, none) : Ent)]) + 1 : Nat) : Int) = (gcount (es ++ [((v, none) : Ent)]) : Int) + 1 from by omega, hl0] at h1
    rw [gcount_push1, hl1]
    rw [gcount_push0] at h1 ⊢
    exact h1
  · rw [hl1] at hm
    obtain ⟨f, hf, hk, hg, hnx⟩ := h.seg m (by rw [hl0]; exact hm)
    refine ⟨f, hf.of_block (eo _ (rowIs_ne hf hA (by decide)) (rowIs_ne hf hfs (by decide))), fun j hj => by rw [ht]; exact hk j hj, hg, by rw [hl1]; rw [hl0] at hnx; exact hnx⟩
  · rw [hl1] at hm
    have h1 := h.ga m b' (by rw [hl0]; exact hm) hb'
    by_cases hmM : m = n / 256
    · subst hmM
      rw [hb] at hb'
      cases hb'
      refine ((hA.set (n % 256) (.pointer (some ga))).drew.setOther (fun e => hsb e.symm) _).congr fun j hj => ?_
      show (if j = n % 256 then Value.pointer (some ga) else .pointer (grp (es ++ [(v, none)]) (256 * (n / 256) + j))) = _
      rw [grp_push es v (some ga), grp_push0, ← hn]
      by_cases hj2 : j = n % 256
      · rw [if_pos hj2, if_pos (by omega)]
      · rw [if_neg hj2, if_neg (by omega)]
    · have hlt : b' < b := h.mG m (n / 256) b' b (by omega) (by rw [hl0]; omega) hb' hb
      refine (h1.of_block (eo _ (by omega) (rowIs_ne h1 hfs (by decide)))).congr fun j hj => ?_
      rw [grp_push es v (some ga), grp_push0, if_neg (by omega)]
  · rw [hl1] at hm
    have h1 := h.no m (by rw [hl0]; exact hm) hb' j hj
    have hmM : m ≠ n / 256 := fun e => by rw [e, hb] at hb'; cases hb'
    rw [grp_push, if_neg (by omega)]
    rw [grp_push0] at h1
    exact h1
end Go.Proofs.Ybulkctey
