/-
  SEAT b4743a. QUEUE: a group's spilled positions; noteSpilled.
-/
import Derived.Test.YbulkcteyPG
import Derived.Deep.RegionLaw
import Derived.Deep.AppendLies
namespace Go.Proofs.Ybulkctey
open Go.RowKit Go.Deep

def pcells (ps : List (Nat × Nat)) : List Value := ps.flatMap fun p => [.pointer (some (at0 p.1)), .int .i64 p.2]
theorem pcells_push (ps : List (Nat × Nat)) (b l : Nat) : pcells (ps ++ [(b, l)]) = pcells ps ++ [.pointer (some (at0 b)), .int .i64 l] := by simp [pcells]

structure SP (N g : Nat) (ps : List (Nat × Nat)) (v : Value) (w : World) : Prop where
  row : ∃ f, w.rowIs g 87 4 f ∧ f 2 = v ∧ f 3 = .int .u32 ((if ps = [] then 0 else 1 : Nat) : Int)
  own : w.ownsRow N 64 2 v ps.length (pcells ps)
  nG : N ≤ g

theorem info64 : (Yba.prog.info? 64).map (fun i => (i.zero, i.size, i.bytes)) = some (some (.agg #[.pointer none, .int .i64 0]), 2, 16) := by kernel_rfl
theorem info64' : ∃ i, Yba.prog.info? 64 = some i ∧ i.zero = some (.agg #[.pointer none, .int .i64 0]) ∧ i.size = 2 ∧ i.bytes = 16 := by
  obtain ⟨i, h1, h2⟩ := Option.map_eq_some_iff.1 info64
  simp only [Prod.mk.injEq] at h2
  exact ⟨i, h1, h2.1, h2.2.1, h2.2.2⟩
theorem news2 {W : World} {B : Nat} {c0 c1 : Value} (h0 : W.cell? ⟨B, 0, none⟩ = some c0) (h1 : W.cell? ⟨B, 1, none⟩ = some c1) :
    ∀ j u, [c0, c1][j]? = some u → W.cell? ((⟨B, 0, none⟩ : Addr).add j) = some u := by
  intro j u hj
  have hadd : (⟨B, 0, none⟩ : Addr).add j = ⟨B, j, none⟩ := by unfold Addr.add; split <;> simp_all
  rw [hadd]
  match j, hj with
  | 0, hj => simp at hj; rw [← hj]; exact h0
  | 1, hj => simp at hj; rw [← hj]; exact h1

/-- A row that a slice owns has the slice's type. -/
theorem own_typed {w : World} {base : Nat} {e : TypeId} {size n : Nat} {v : Value} {xs : List Value} (h : w.ownsRow base e size v n xs) {k : Nat} (hk : v.ownBlock = some k) : ∃ cs, w.heap[k]? = some (.cells cs e (0, 0)) := by
  rcases h.2 with ⟨rfl, _⟩ | ⟨g, cap, cur, rfl, _, hg, _⟩
  · cases hk
  · simp only [Value.ownBlock, Option.some.injEq] at hk
    subst hk
    exact ⟨cur, hg⟩
theorem own_ge {w : World} {base : Nat} {e : TypeId} {size n : Nat} {v : Value} {xs : List Value} (h : w.ownsRow base e size v n xs) {k : Nat} (hk : v.ownBlock = some k) : base ≤ k := by
  rcases h.2 with ⟨rfl, _⟩ | ⟨g, cap, cur, rfl, hb, hg, _⟩
  · cases hk
  · simp only [Value.ownBlock, Option.some.injEq] at hk
    subst hk
    exact hb
theorem own_ne {w : World} {base : Nat} {e : TypeId} {size n : Nat} {v : Value} {xs : List Value} (h : w.ownsRow base e size v n xs) {b m : Nat} {t : TypeId} {f : Nat → Value} (hr : w.rowIs b t m f) (ht : t ≠ e) : some b ≠ v.ownBlock := by
  intro hk
  obtain ⟨cs, h1⟩ := own_typed h hk.symm
  obtain ⟨c, h2, _⟩ := hr
  rw [h1] at h2
  simp only [Option.some.injEq, Obj.cells.injEq] at h2
  exact ht h2.2.1.symm
theorem own_block {w w' : World} {base : Nat} {e : TypeId} {size n : Nat} {v : Value} {xs : List Value} (h : w.ownsRow base e size v n xs) (hk : ∀ k, v.ownBlock = some k → w'.heap[k]? = w.heap[k]?) : w'.ownsRow base e size v n xs := by
  refine ⟨h.1, h.2.imp id fun ⟨g, cap, cur, hv, hb, hg, r⟩ => ⟨g, cap, cur, hv, hb, ?_, r⟩⟩
  rw [hk g (by rw [hv]; rfl)]; exact hg

theorem Fr.grown {S : Nat → Prop} {w w1 w2 : World} {row : Option Nat} (h : Fr S w w1) (hg : w1.grownBy w2 row) (hr : ∀ k, row = some k → k < w.heap.size → S k) : Fr S w w2 :=
  ⟨hg.os.trans h.os, hg.tape.trans h.tape, hg.output.trans h.output, Nat.le_trans h.size hg.size, fun b hb hs => (hg.block b (Nat.lt_of_lt_of_le hb h.size) (fun e => hs (hr b e.symm hb))).trans (h.keep b hb hs)⟩

set_option maxHeartbeats 1600000 in
theorem noteSpilled_any (N g b l : Nat) (ps : List (Nat × Nat)) (v : Value) (w : World) (hp : ps.length < 1048576) (h : SP N g ps v w) :
    Calls Yba.prog 48 #[.pointer (some ⟨g, 0, none⟩), .agg #[.pointer (some (at0 b)), .int .i64 l]] w fun e w' => e = .returned (.tuple #[]) ∧ (∃ v', SP N g (ps ++ [(b, l)]) v' w' ∧ (v'.ownBlock = v.ownBlock ∨ ∃ g', v'.ownBlock = some g' ∧ w.heap.size ≤ g')) ∧ Fr (fun b => b = g ∨ some b = v.ownBlock) w w' := by
  obtain ⟨⟨f, hf, hf2, hf3⟩, hown, hnG⟩ := h
  obtain ⟨i0, hi, hz0, hz1, hz2⟩ := info64'
  have hgl := hf.lt
  have HROW : Hid ((w.alloc (.cells #[.pointer (some (at0 b)), .int .i64 l] 64)).rowIs g 87 4 f) := hf.alloc _
  have HO : Hid ((w.alloc (.cells #[.pointer (some (at0 b)), .int .i64 l] 64)).ownsRow N 64 2 v ps.length (pcells ps)) := hown.alloc _
  have HF : Hid (Fr (fun b => b = g ∨ some b = v.ownBlock) w (w.alloc (.cells #[.pointer (some (at0 b)), .int .i64 l] 64))) := (Fr.refl _ w).alloc _
  have g0 : (w.alloc (.cells #[.pointer (some (at0 b)), .int .i64 l] 64)).cell? ⟨w.heap.size, 0, none⟩ = some (.pointer (some (at0 b))) := by simp
  have g1 : (w.alloc (.cells #[.pointer (some (at0 b)), .int .i64 l] 64)).cell? ⟨w.heap.size, 1, none⟩ = some (.int .i64 l) := by simp
  have gz : (w.alloc (.cells #[.pointer (some (at0 b)), .int .i64 l] 64)).heap.size = w.heap.size + 1 := by simp
  have g2 := HROW.out.cell (i := 2) (by omega)
  rw [hf2] at g2
  have g4 := HROW.out.frozen
  have gl := HROW.out.lt
  have gl0 : w.heap.size < (w.alloc (.cells #[.pointer (some (at0 b)), .int .i64 l] 64)).heap.size := by omega
  have HGZ : Hid _ := gz
  obtain ⟨HF2, HF3⟩ : Hid _ ∧ Hid _ := ⟨hf2, hf3⟩
  clear hf hown gz hf2 hf3
  go_enter Yba.func48, Yba.ntmps48
  go_wp2_with fail
  generalize (w.alloc (.cells #[.pointer (some (at0 b)), .int .i64 l] 64)) = W at *
  go_region_law ((refine step_append_lies _ rfl (.tmp 8) (.tmp 10) 85 rfl N 64 i0 _ 2 16 Yba.underlying85 hi hz0 hz1 hz2 rfl (by decide) v ps.length _ rfl (by exact HO.out.alloc _) ⟨W.heap.size, 0, none⟩ 1 1 [.pointer (some (at0 b)), .int .i64 l] rfl rfl (news2 (by simp) (by simp)) (by simp [Value.oneCell']) (by decide) (by unfold maxLen; omega) (by omega) (by simp; omega) _ rfl ?_; intro g' cap w1 hown1 hgrow hat hlt1; have hr1 := (HROW.out.alloc _).drew.of_block (hgrow.block g (HROW.out.alloc _).drew.lt (own_ne HO.out HROW.out (by decide))); have q1 := hr1.cell (i := 2) (by omega); have q2 := hr1.frozen; have HR1 : Hid (w1.rowIs g 87 4 f) := hr1; have HOW : Hid (w1.ownsRow N 64 2 (.slice (some ⟨g', 0, none⟩) (ps.length + 1) cap) (ps.length + 1) (pcells ps ++ [.pointer (some (at0 b)), .int .i64 l])) := hown1; have HGR : Hid _ := hgrow; have HAT : Hid _ := hat; clear hr1 hown1 hgrow hat hlt1))
  all_goals
    have hrow := HR1.out.set 2 (.slice (some ⟨g', 0, none⟩) (ps.length + 1) cap)
    have HROW2 : Hid _ := hrow.set 3 (.int .u32 1)
    have c3 := hrow.cell (i := 3) (by omega)
    have z3 := hrow.frozen 3
    clear hrow
    go_wp2_with fail
    refine (boolStore_any g 3 _ _ c3 z3).mono ?_
    rintro e w' ⟨rfl, rfl⟩
    go_wp2_with fail
    go_end0
    have hne := own_ne HOW.out HR1.out (by decide)
    refine ⟨rfl, ⟨.slice (some ⟨g', 0, none⟩) (ps.length + 1) cap, ⟨⟨_, HROW2.out, by simp, by simp⟩, ?_, hnG⟩, ?_⟩, ?_⟩
    · rw [pcells_push, List.length_append]
      exact own_block HOW.out fun k hk => (blk_setCell_other _ _ _ _ (fun e => hne (by rw [hk, e]))).trans (blk_setCell_other _ _ _ _ (fun e => hne (by rw [hk, e])))
    · rcases HAT.out with h1 | h1
      · exact .inl h1.symm
      · refine .inr ⟨g', rfl, ?_⟩
        have := HGZ.out
        rw [h1]; simp; omega
    · exact ((((HF.out.alloc _).drew.grown HGR.out (fun k hk _ => .inr hk.symm)).setCell (fun _ => .inl rfl) _).setCell (fun _ => .inl rfl) _).drew
end Go.Proofs.Ybulkctey
