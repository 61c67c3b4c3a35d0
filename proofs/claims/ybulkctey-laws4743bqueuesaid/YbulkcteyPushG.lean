/-
  SEAT b4743a. QUEUE: push on the global queue's memory.
-/
import Derived.Test.YbulkcteyPush
namespace Go.Proofs.Ybulkctey
open Go.RowKit Go.Deep

theorem zc_get (k : Nat) (hk : k < 259) : Yba.zeroCells107[k]? = some (if k < 256 then .nilFunc else .pointer none) := by
  rw [zc107]
  by_cases h2 : k < 256
  · rw [if_pos h2, Array.getElem?_append_left (by simpa using h2)]; simp [h2]
  · rw [if_neg h2, Array.getElem?_append_right (by simpa using h2)]
    have : k = 256 ∨ k = 257 ∨ k = 258 := by omega
    rcases this with rfl | rfl | rfl <;> simp
theorem zc_size : Yba.zeroCells107.size = 259 := by kernel_rfl
theorem zrow_of (Z : Array Value) (hz : Z.size = 259) (hg : ∀ k, k < 259 → Z[k]? = some (if k < 256 then .nilFunc else .pointer none)) (w : World) (pv v : Value) : (w.alloc (.cells ((Z.setIfInBounds 257 pv).setIfInBounds 0 v) 107)).rowIs w.heap.size 107 259 (fun k => if k = 0 then v else if k = 257 then pv else if k < 256 then .nilFunc else .pointer none) := by
  have hs : ((Z.setIfInBounds 257 pv).setIfInBounds 0 v).size = 259 := by simp [hz]
  have h := World.rowIs_alloc w ((Z.setIfInBounds 257 pv).setIfInBounds 0 v) 107 (fun k => if k = 0 then v else if k = 257 then pv else if k < 256 then .nilFunc else .pointer none) (fun k hk => by
    rw [hs] at hk
    rw [Array.getElem?_setIfInBounds, Array.getElem?_setIfInBounds]
    by_cases h0 : k = 0
    · subst h0; simp [hz]
    by_cases h1 : k = 257
    · subst h1; simp [hz]
    rw [if_neg (fun e => h0 e.symm), if_neg (fun e => h1 e.symm), hg k hk]
    simp [h0, h1])
  rwa [hs] at h
theorem zrow (w : World) (pv v : Value) : (w.alloc (.cells ((Yba.zeroCells107.setIfInBounds 257 pv).setIfInBounds 0 v) 107)).rowIs w.heap.size 107 259 (fun k => if k = 0 then v else if k = 257 then pv else if k < 256 then .nilFunc else .pointer none) := zrow_of _ zc_size zc_get w pv v

theorem GQ.room {N s : Nat} {mu : Int} {ov : Nat} {es : List Ent} {B : Nat → Nat} {GB : Nat → Option Nat} {w : World} (h : GQ N s mu ov es B GB w) (v : Value) (k : Nat) (hm : es.length % 256 ≠ 0) :
    GQ N s mu ov (es ++ [(v, none)]) B GB ((((w.setCell ⟨B (es.length / 256), es.length % 256, none⟩ v).setCell ⟨s, 14, none⟩ (.int .i64 (((es.length % 256 : Nat) : Int) + 1))).setCell ⟨s, 15, none⟩ (.int .i64 ((es.length : Int) + 1))).drewN k) := by
  obtain ⟨n, hn⟩ : ∃ n, n = es.length := ⟨_, rfl⟩
  have hn0 : 0 < n := by omega
  have hM : 256 * (n / 256) < n := by omega
  obtain ⟨f, hf, hfk, hfg, hfn⟩ := h.seg (n / 256) (by omega)
  obtain ⟨fs, hfs, _⟩ := h.sch
  have hsB : s ≠ B (n / 256) := rowIs_ne hfs hf (by decide)
  have hlen : (es ++ [(v, none)]).length = n + 1 := by simp [hn]
  rw [← hn] at hm ⊢
  have eo : ∀ b, b ≠ B (n / 256) → b ≠ s → ((((w.setCell ⟨B (n / 256), n % 256, none⟩ v).setCell ⟨s, 14, none⟩ (.int .i64 (((n % 256 : Nat) : Int) + 1))).setCell ⟨s, 15, none⟩ (.int .i64 ((n : Int) + 1))).drewN k).heap[b]? = w.heap[b]? := fun b h1 h2 =>
    ((blk_setCell_other _ _ _ _ h2).trans (blk_setCell_other _ _ _ _ h2)).trans (blk_setCell_other _ _ _ _ h1)
  have ga' : ∀ m b, 256 * m < n + 1 → GB m = some b → 256 * m < n := fun m b h1 _ => by omega
  refine ⟨?_, fun m hm' => ?_, fun m b hm' hb => ?_, fun m hm' hb j hj => ?_, fun m m' h1 h2 => h.mB m m' h1 (by omega), h.nS, fun m h1 => h.nB m (by omega), fun m b h1 => h.nG m b (by omega), fun m m' b b' h1 h2 => h.mG m m' b b' h1 (by omega)⟩
  · rw [hlen, gcount_push0]
    have e1 : (((n % 256 : Nat) : Int) + 1) = ((n % 256 + 1 : Nat) : Int) := by omega
    have e2 : ((n : Int) + 1) = ((n + 1 : Nat) : Int) := by omega
    have h0 := (((h.sch.other (a := ⟨B (n / 256), n % 256, none⟩) hsB v).set14 (n % 256 + 1)).set15 (n + 1)).drewN k
    rw [← hn] at h0
    rw [e1, e2]
    have a1 : headOf n B = headOf (n + 1) B := by unfold headOf; rw [if_neg (by omega), if_neg (by omega)]
    have a2 : tailOf n B = tailOf (n + 1) B := by unfold tailOf; rw [if_neg (by omega), if_neg (by omega)]; congr 3; omega
    have a3 : n % 256 + 1 = lastOf (n + 1) := by unfold lastOf; rw [if_neg (by omega)]; rfl
    rw [a1, a2, a3, if_neg (by omega)] at h0
    rw [if_neg (by omega), a3]
    exact h0
  · rw [hlen] at hm'
    by_cases hmM : m = n / 256
    · subst hmM
      refine ⟨fun j => if j = n % 256 then v else f j, ?_, fun j hj => ?_, ?_, ?_⟩
      · exact ((hf.set (n % 256) v).setOther (fun e => hsB e.symm) _).setOther (fun e => hsB e.symm) _
      · rw [tsk_push, ← hn]
        have e : 256 * (n / 256) + j = n ↔ j = n % 256 := by omega
        by_cases hj2 : j = n % 256
        · rw [if_pos (e.2 hj2)]; exact if_pos hj2
        · rw [if_neg (fun x => hj2 (e.1 x))]; exact (if_neg hj2).trans (hfk j hj)
      · exact (if_neg (by omega)).trans hfg
      · refine (if_neg (by omega)).trans (hfn.trans ?_)
        rw [hlen, if_neg (by omega), if_neg (by omega)]
    · obtain ⟨f2, hf2, hk2, hg2, hn2⟩ := h.seg m (by omega)
      have hlt : B m < B (n / 256) := h.mB _ _ (by omega) (by omega)
      refine ⟨f2, hf2.of_block (eo _ (by omega) (rowIs_ne hf2 hfs (by decide))), fun j hj => ?_, hg2, ?_⟩
      · rw [tsk_push, if_neg (by omega)]; exact hk2 j hj
      · rw [hn2, hlen, if_pos (by omega), if_pos (by omega)]
  · rw [hlen] at hm'
    have h1 := h.ga m b (by omega) hb
    refine (h1.of_block (eo _ (rowIs_ne h1 hf (by decide)) (rowIs_ne h1 hfs (by decide)))).congr fun j _ => ?_
    rw [grp_push0]
  · rw [hlen] at hm'
    rw [grp_push0]; exact h.no m (by omega) hb j hj

/-- A new segment behind a full one. -/
theorem GQ.more {N s : Nat} {mu : Int} {ov : Nat} {es : List Ent} {B : Nat → Nat} {GB : Nat → Option Nat} {w : World} (h : GQ N s mu ov es B GB w) (v : Value) (hn0 : 0 < es.length) (hm : es.length % 256 = 0) {B' : Nat → Nat} {GB' : Nat → Option Nat} (hBn : B' (es.length / 256) = w.heap.size) (hBo : ∀ m, m ≠ es.length / 256 → B' m = B m) (hGn : GB' (es.length / 256) = none) (hGo : ∀ m, m ≠ es.length / 256 → GB' m = GB m) :
    GQ N s mu ov (es ++ [(v, none)]) B' GB' (newW Yba.zeroCells107 s (B ((es.length - 1) / 256)) es.length v w) := by
  obtain ⟨n, hn⟩ : ∃ n, n = es.length := ⟨_, rfl⟩
  rw [← hn] at hm hn0 hBn hBo hGn hGo ⊢
  have hM1 : (n - 1) / 256 + 1 = n / 256 := by omega
  obtain ⟨f, hf, hfk, hfg, hfn⟩ := h.seg ((n - 1) / 256) (by omega)
  obtain ⟨fs, hfs, _⟩ := h.sch
  have hsB : s ≠ B ((n - 1) / 256) := rowIs_ne hfs hf (by decide)
  have hlen : (es ++ [(v, none)]).length = n + 1 := by simp [hn]
  generalize hb : B ((n - 1) / 256) = b at *
  have hbl := hf.lt
  have hsl := hfs.lt
  unfold newW
  have hz := zrow (((((w.setCell ⟨b, 258, none⟩ (.pointer (some ⟨w.heap.size, 0, none⟩))).setCell ⟨s, 12, none⟩ (.pointer (some ⟨w.heap.size, 0, none⟩))).setCell ⟨s, 14, none⟩ (.int .i64 0)).setCell ⟨s, 14, none⟩ (.int .i64 1)).setCell ⟨s, 15, none⟩ (.int .i64 ((n : Int) + 1))) (.pointer (some ⟨b, 0, none⟩)) v
  rw [show (((((w.setCell ⟨b, 258, none⟩ (.pointer (some ⟨w.heap.size, 0, none⟩))).setCell ⟨s, 12, none⟩ (.pointer (some ⟨w.heap.size, 0, none⟩))).setCell ⟨s, 14, none⟩ (.int .i64 0)).setCell ⟨s, 14, none⟩ (.int .i64 1)).setCell ⟨s, 15, none⟩ (.int .i64 ((n : Int) + 1))).heap.size = w.heap.size from by simp [World.setCell]] at hz
  have hsch := (((((((h.sch.other (a := ⟨b, 258, none⟩) hsB (.pointer (some ⟨w.heap.size, 0, none⟩))).set12 (some ⟨w.heap.size, 0, none⟩)).set14 0).set14 1).set15 (n + 1)).alloc (.cells ((Yba.zeroCells107.setIfInBounds 257 (.pointer (some ⟨b, 0, none⟩))).setIfInBounds 0 v) 107)))
  rw [show ((n + 1 : Nat) : Int) = (n : Int) + 1 from by omega] at hsch
  have eo : ∀ c, c < w.heap.size → c ≠ b → c ≠ s → (((((((w.setCell ⟨b, 258, none⟩ (.pointer (some ⟨w.heap.size, 0, none⟩))).setCell ⟨s, 12, none⟩ (.pointer (some ⟨w.heap.size, 0, none⟩))).setCell ⟨s, 14, none⟩ (.int .i64 0)).setCell ⟨s, 14, none⟩ (.int .i64 1)).setCell ⟨s, 15, none⟩ (.int .i64 ((n : Int) + 1))).alloc (.cells ((Yba.zeroCells107.setIfInBounds 257 (.pointer (some ⟨b, 0, none⟩))).setIfInBounds 0 v) 107)).drew).heap[c]? = w.heap[c]? := fun c h0 h1 h2 => by
    refine (blk_alloc_lt _ _ _ (by simpa [World.setCell] using h0)).trans ?_
    rw [blk_setCell_other _ _ _ _ h2, blk_setCell_other _ _ _ _ h2, blk_setCell_other _ _ _ _ h2, blk_setCell_other _ _ _ _ h2, blk_setCell_other _ _ _ _ h1]
  have hbrow : (((((((w.setCell ⟨b, 258, none⟩ (.pointer (some ⟨w.heap.size, 0, none⟩))).setCell ⟨s, 12, none⟩ (.pointer (some ⟨w.heap.size, 0, none⟩))).setCell ⟨s, 14, none⟩ (.int .i64 0)).setCell ⟨s, 14, none⟩ (.int .i64 1)).setCell ⟨s, 15, none⟩ (.int .i64 ((n : Int) + 1))).alloc (.cells ((Yba.zeroCells107.setIfInBounds 257 (.pointer (some ⟨b, 0, none⟩))).setIfInBounds 0 v) 107)).drew).rowIs b 107 259 (fun j => if j = 258 then .pointer (some ⟨w.heap.size, 0, none⟩) else f j) :=
    ((((((hf.set 258 _).setOther (fun e => hsB e.symm) _).setOther (fun e => hsB e.symm) _).setOther (fun e => hsB e.symm) _).setOther (fun e => hsB e.symm) _).alloc _).drew
  generalize ((((((w.setCell ⟨b, 258, none⟩ (.pointer (some ⟨w.heap.size, 0, none⟩))).setCell ⟨s, 12, none⟩ (.pointer (some ⟨w.heap.size, 0, none⟩))).setCell ⟨s, 14, none⟩ (.int .i64 0)).setCell ⟨s, 14, none⟩ (.int .i64 1)).setCell ⟨s, 15, none⟩ (.int .i64 ((n : Int) + 1))).alloc (.cells ((Yba.zeroCells107.setIfInBounds 257 (.pointer (some ⟨b, 0, none⟩))).setIfInBounds 0 v) 107)) = W at *
  refine ⟨?_, fun m hm' => ?_, fun m b' hm' hb' => ?_, fun m hm' hb' j hj => ?_, fun m m' h1 h2 => ?_, h.nS, fun m h1 => ?_, fun m b1 h1 e1 => ?_, fun m m' b1 b2 h1 h2 e1 e2 => ?_⟩
  · rw [hlen, gcount_push0]
    have a1 : headOf n B = headOf (n + 1) B' := by unfold headOf; rw [if_neg (by omega), if_neg (by omega), hBo 0 (by omega)]
    have a2 : some ⟨w.heap.size, 0, none⟩ = tailOf (n + 1) B' := by unfold tailOf; rw [if_neg (by omega), Nat.add_sub_cancel, hBn]; rfl
    have a3 : lastOf (n + 1) = 1 := by unfold lastOf; rw [if_neg (by omega)]; simp [hm]
    rw [← hn, a1, a2, if_neg (by omega)] at hsch
    rw [if_neg (by omega), a3]
    exact hsch
  · rw [hlen] at hm'
    by_cases hmM : m = n / 256
    · subst hmM
      refine ⟨_, by rw [hBn]; exact hz.drew, fun j hj => ?_, ?_, ?_⟩
      · by_cases hj2 : j = 0
        · have e : tsk (es ++ [(v, none)]) (256 * (n / 256) + j) = v := by rw [tsk_push, ← hn, if_pos (by omega)]
          rw [e]; exact if_pos hj2
        · have e : tsk (es ++ [(v, none)]) (256 * (n / 256) + j) = .nilFunc := by rw [tsk_push, ← hn, if_neg (by omega), tsk_out _ _ (by omega)]
          rw [e]; exact (if_neg hj2).trans ((if_neg (by omega)).trans (if_pos hj))
      · rw [hGn]; rfl
      · have e : (if 256 * (n / 256 + 1) < (es ++ [(v, none)]).length then some (at0 (B' (n / 256 + 1))) else none) = none := by rw [hlen, if_neg (by omega)]
        rw [e]; rfl
    · by_cases hmb : m = (n - 1) / 256
      · subst hmb
        refine ⟨_, by rw [hBo _ hmM, hb]; exact hbrow, fun j hj => ?_, ?_, ?_⟩
        · have e : tsk (es ++ [(v, none)]) (256 * ((n - 1) / 256) + j) = tsk es (256 * ((n - 1) / 256) + j) := by rw [tsk_push, if_neg (by omega)]
          rw [e]; exact (if_neg (by omega)).trans (hfk j hj)
        · rw [hGo _ hmM]; exact (if_neg (by omega)).trans hfg
        · have e : (if 256 * ((n - 1) / 256 + 1) < (es ++ [(v, none)]).length then some (at0 (B' ((n - 1) / 256 + 1))) else none) = some (at0 w.heap.size) := by rw [hlen, if_pos (by omega), hM1, hBn]
          rw [e]; exact if_pos rfl
      · obtain ⟨f2, hf2, hk2, hg2, hn2⟩ := h.seg m (by omega)
        have hlt : B m < b := by rw [← hb]; exact h.mB _ _ (by omega) (by omega)
        refine ⟨f2, by rw [hBo _ hmM]; exact hf2.of_block (eo _ hf2.lt (by omega) (rowIs_ne hf2 hfs (by decide))), fun j hj => ?_, by rw [hGo _ hmM]; exact hg2, ?_⟩
        · rw [tsk_push, if_neg (by omega)]; exact hk2 j hj
        · rw [hn2, hlen, if_pos (by omega), if_pos (by omega), hBo _ (by omega)]
  · rw [hlen] at hm'
    by_cases hmM : m = n / 256
    · rw [hmM, hGn] at hb'; cases hb'
    rw [hGo _ hmM] at hb'
    have h1 := h.ga m b' (by omega) hb'
    refine (h1.of_block (eo _ h1.lt (rowIs_ne h1 hf (by decide)) (rowIs_ne h1 hfs (by decide)))).congr fun j _ => ?_
    rw [grp_push0]
  · rw [hlen] at hm'
    rw [grp_push0]
    by_cases hmM : m = n / 256
    · exact grp_out _ _ (by omega)
    · rw [hGo _ hmM] at hb'; exact h.no m (by omega) hb' j hj
  · rw [hlen] at h2
    rw [hBo m (by omega)]
    by_cases hmM : m' = n / 256
    · rw [hmM, hBn]
      obtain ⟨f2, hf2, _⟩ := h.seg m (by omega)
      exact hf2.lt
    · rw [hBo _ hmM]; exact h.mB m m' h1 (by omega)
  · rw [hlen] at h1
    by_cases hmM : m = n / 256
    · rw [hmM, hBn]; have := h.nS; omega
    · rw [hBo _ hmM]; exact h.nB m (by omega)
  · rw [hlen] at h1
    by_cases hmM : m = n / 256
    · rw [hmM, hGn] at e1; cases e1
    · rw [hGo _ hmM] at e1; exact h.nG m b1 (by omega) e1
  · rw [hlen] at h2
    by_cases hmM : m' = n / 256
    · rw [hmM, hGn] at e2; cases e2
    · rw [hGo _ hmM] at e2
      rw [hGo m (by omega)] at e1
      exact h.mG m m' b1 b2 h1 (by omega) e1 e2

/-- The first segment. -/
theorem GQ.first {N s : Nat} {mu : Int} {ov : Nat} {B : Nat → Nat} {GB : Nat → Option Nat} {w : World} (h : GQ N s mu ov [] B GB w) (v : Value) {B' : Nat → Nat} {GB' : Nat → Option Nat} (hBn : B' 0 = w.heap.size) (hGn : GB' 0 = none) :
    GQ N s mu ov [(v, none)] B' GB' (((firstW Yba.zeroCells107 s v w).setCell ⟨s, 16, none⟩ (.int .u32 1)).drew) ∧ (firstW Yba.zeroCells107 s v w).cell? ⟨s, 16, none⟩ = some (.int .u32 0) ∧ (firstW Yba.zeroCells107 s v w).frozen? ⟨s, 16, none⟩ = false ∧ Fr (fun b => b = s) w (((firstW Yba.zeroCells107 s v w).setCell ⟨s, 16, none⟩ (.int .u32 1)).drew) := by
  unfold firstW
  have hsl := h.sch.lt
  have hz := zrow (((((w.setCell ⟨s, 11, none⟩ (.pointer (some ⟨w.heap.size, 0, none⟩))).setCell ⟨s, 12, none⟩ (.pointer (some ⟨w.heap.size, 0, none⟩))).setCell ⟨s, 14, none⟩ (.int .i64 0)).setCell ⟨s, 14, none⟩ (.int .i64 1)).setCell ⟨s, 15, none⟩ (.int .i64 1)) (.pointer none) v
  rw [show (((((w.setCell ⟨s, 11, none⟩ (.pointer (some ⟨w.heap.size, 0, none⟩))).setCell ⟨s, 12, none⟩ (.pointer (some ⟨w.heap.size, 0, none⟩))).setCell ⟨s, 14, none⟩ (.int .i64 0)).setCell ⟨s, 14, none⟩ (.int .i64 1)).setCell ⟨s, 15, none⟩ (.int .i64 1)).heap.size = w.heap.size from by simp [World.setCell]] at hz
  have hs1 := ((((((h.sch.set11 (some ⟨w.heap.size, 0, none⟩)).set12 (some ⟨w.heap.size, 0, none⟩)).set14 0).set14 1).set15 1).alloc (.cells ((Yba.zeroCells107.setIfInBounds 257 (.pointer none)).setIfInBounds 0 v) 107))
  have hfr : Fr (fun b => b = s) w ((((((w.setCell ⟨s, 11, none⟩ (.pointer (some ⟨w.heap.size, 0, none⟩))).setCell ⟨s, 12, none⟩ (.pointer (some ⟨w.heap.size, 0, none⟩))).setCell ⟨s, 14, none⟩ (.int .i64 0)).setCell ⟨s, 14, none⟩ (.int .i64 1)).setCell ⟨s, 15, none⟩ (.int .i64 1)).alloc (.cells ((Yba.zeroCells107.setIfInBounds 257 (.pointer none)).setIfInBounds 0 v) 107)) :=
    ((((((Fr.refl (fun b => b = s) w).setCell (fun _ => rfl) _).setCell (fun _ => rfl) _).setCell (fun _ => rfl) _).setCell (fun _ => rfl) _).setCell (fun _ => rfl) _).alloc _
  rw [show ((1 : Nat) : Int) = 1 from rfl, show ((0 : Nat) : Int) = 0 from rfl] at hs1
  generalize ((((((w.setCell ⟨s, 11, none⟩ (.pointer (some ⟨w.heap.size, 0, none⟩))).setCell ⟨s, 12, none⟩ (.pointer (some ⟨w.heap.size, 0, none⟩))).setCell ⟨s, 14, none⟩ (.int .i64 0)).setCell ⟨s, 14, none⟩ (.int .i64 1)).setCell ⟨s, 15, none⟩ (.int .i64 1)).alloc (.cells ((Yba.zeroCells107.setIfInBounds 257 (.pointer none)).setIfInBounds 0 v) 107)) = W at *
  have hsW : w.heap.size ≠ s := by omega
  refine ⟨⟨?_, fun m hm' => ?_, fun m b' hm' hb' => ?_, fun m hm' _ j _ => ?_, fun m m' h1 h2 => absurd h2 (by simp; omega), h.nS, fun m h1 => ?_, fun m b1 h1 e1 => ?_, fun m m' _ _ h1 h2 => absurd h2 (by simp; omega)⟩, hs1.c16, hs1.fz 16, (hfr.drew.setCell (fun _ => rfl) _).drew⟩
  · have hs2 := (hs1.set16 1)
    have a1 : headOf 1 B' = some ⟨w.heap.size, 0, none⟩ := by unfold headOf; rw [if_neg (by omega), hBn]; rfl
    have a2 : tailOf 1 B' = some ⟨w.heap.size, 0, none⟩ := by unfold tailOf; rw [if_neg (by omega)]; show some (at0 (B' 0)) = _; rw [hBn]; rfl
    have a3 : gcount [(v, none)] = gcount [] := gcount_push0 [] v
    show Sch s mu ov (headOf 1 B') (tailOf 1 B') 1 1 1 (gcount [(v, none)]) _
    rw [a1, a2, a3]
    exact hs2
  · have : m = 0 := by simp at hm'; omega
    subst this
    refine ⟨_, by rw [hBn]; exact (hz.drew.setOther hsW _).drew, fun j hj => ?_, by rw [hGn]; rfl, by rw [if_neg (by simp)]; rfl⟩
    by_cases hj2 : j = 0
    · subst hj2; rfl
    · rw [tsk_out _ _ (by simp; omega)]
      show (if j = 0 then v else if j = 257 then _ else if j < 256 then Value.nilFunc else _) = _
      rw [if_neg hj2, if_neg (by omega), if_pos hj]
  · have : m = 0 := by simp at hm'; omega
    rw [this, hGn] at hb'; cases hb'
  · exact grp_push0 [] v _
  · have : m = 0 := by simp at h1; omega
    rw [this, hBn]; have := h.nS; omega
  · have : m = 0 := by simp at h1; omega
    rw [this, hGn] at e1; cases e1

/-- What push leaves. -/
def Pushed (N s : Nat) (mu : Int) (ov : Nat) (es : List Ent) (B : Nat → Nat) (e : Ent) (w w' : World) : Prop :=
  (∃ B' GB', GQ N s mu ov (es ++ [e]) B' GB' w' ∧ ∀ m, 256 * m < es.length → B' m = B m) ∧ Fr (SS N (fun b => b = s) (fun t => t = 107) w) w w'

theorem push_any (N s : Nat) (mu : Int) (ov : Nat) (es : List Ent) (B : Nat → Nat) (GB : Nat → Option Nat) (fn : Fn) (xs ys : Array Value) (w : World) (hl : es.length < 1048576) (h : GQ N s mu ov es B GB w) :
    Calls Yba.prog 42 #[.pointer (some ⟨s, 11, none⟩), .func fn xs ys] w fun e w' => e = .returned (.tuple #[]) ∧ Pushed N s mu ov es B (.func fn xs ys, none) w w' := by
  by_cases h0 : es.length = 0
  · obtain rfl : es = [] := List.eq_nil_of_length_eq_zero h0
    obtain ⟨hq, h16, hz16, hf⟩ := h.first (.func fn xs ys) (B' := fun _ => w.heap.size) (GB' := fun _ => none) rfl rfl
    refine (push_first s fn xs ys w _ rfl h.sch.c11 h.sch.c12 h.sch.c14 h.sch.c15 h.sch.fz h.sch.lt h16 hz16).mono ?_
    rintro e w' ⟨rfl, rfl⟩
    exact ⟨rfl, ⟨_, _, hq, fun m hm => absurd hm (by simp)⟩, hf.ofF⟩
  obtain ⟨f, hf, _⟩ := h.seg ((es.length - 1) / 256) (by omega)
  obtain ⟨fs, hfs, _⟩ := h.sch
  have hsB := rowIs_ne hfs hf (by decide)
  have h12 := h.sch.c12
  have h14 := h.sch.c14
  unfold tailOf at h12
  unfold lastOf at h14
  rw [if_neg h0] at h12 h14
  by_cases hm : es.length % 256 = 0
  · rw [show (es.length - 1) % 256 + 1 = 256 from by omega] at h14
    have hq := h.more (.func fn xs ys) (by omega) hm (B' := fun m => if m = es.length / 256 then w.heap.size else B m) (GB' := fun m => if m = es.length / 256 then none else GB m) (by simp) (fun m hm => by simp [hm]) (by simp) (fun m hm => by simp [hm])
    refine (push_new s (B ((es.length - 1) / 256)) es.length fn xs ys f w (by omega) hl h12 h14 h.sch.c15 h.sch.fz hf h.sch.lt).mono ?_
    rintro e w' ⟨rfl, rfl⟩
    refine ⟨rfl, ⟨_, _, hq, fun m hm => by simp; omega⟩, ?_⟩
    unfold newW
    have hS : SS N (fun b => b = s) (fun t => t = 107) w (B ((es.length - 1) / 256)) := rowIs_typed hf (h.nB _ (by omega)) rfl
    exact ((((((((Fr.refl _ w).setCell (fun _ => hS) _).setCell (fun _ => .inl rfl) _).setCell (fun _ => .inl rfl) _).setCell (fun _ => .inl rfl) _).setCell (fun _ => .inl rfl) _).alloc _).drew)
  · rw [show (es.length - 1) % 256 + 1 = es.length % 256 from by omega] at h14
    rw [show (es.length - 1) / 256 = es.length / 256 from by omega] at h12 hf hsB
    refine (push_room s (B (es.length / 256)) (es.length % 256) es.length fn xs ys f w (by omega) (by omega) hl h12 h14 h.sch.c15 h.sch.fz hf hsB).mono ?_
    rintro e w' ⟨rfl, k, rfl⟩
    have hS : SS N (fun b => b = s) (fun t => t = 107) w (B (es.length / 256)) := rowIs_typed hf (h.nB _ (by omega)) rfl
    exact ⟨rfl, ⟨_, _, h.room (.func fn xs ys) k hm, fun m _ => rfl⟩, ((((Fr.refl _ w).setCell (fun _ => hS) _).setCell (fun _ => .inl rfl) _).setCell (fun _ => .inl rfl) _).drewN k⟩

end Go.Proofs.Ybulkctey
