/-
  SEAT b4743a. QUEUE: pushGroup.
-/
import Derived.Test.YbulkcteyPGl
namespace Go.Proofs.Ybulkctey
open Go.RowKit Go.Deep

set_option maxHeartbeats 3200000 in
theorem pushGroup_any (N s : Nat) (mu : Int) (ov : Nat) (es : List Ent) (B : Nat → Nat) (GB : Nat → Option Nat) (fn : Fn) (xs ys : Array Value) (ga : Addr) (w : World) (hl : es.length < 1048576) (h : GQ N s mu ov es B GB w) :
    Calls Yba.prog 49 #[.pointer (some ⟨s, 11, none⟩), .agg #[.func fn xs ys, .pointer (some ga)]] w fun e w' => ∃ B', e = .returned (.agg #[.pointer (some (at0 (B' (es.length / 256)))), .int .i64 ((es.length % 256 : Nat) : Int)]) ∧ (∃ GB', GQ N s mu ov (es ++ [(.func fn xs ys, some ga)]) B' GB' w') ∧ (∀ m, 256 * m < es.length → B' m = B m) ∧ Fr (SS N (fun b => b = s) (fun t => t = 107 ∨ t = 141) w) w w' := by
  have HP : Hid _ := fun W hW => push_any N s mu ov es B GB fn xs ys W hl hW
  have HG : Hid (GQ N s mu ov es B GB ((w.alloc (.cells #[.func fn xs ys, .pointer (some ga)] 95)).alloc (.cells #[.pointer none, .int .i64 0] 64))) := h.frame fun b t n f hr _ => (blk_alloc_lt _ _ _ (by have := hr.lt; simp; omega)).trans (blk_alloc_lt _ _ _ hr.lt)
  have hs := h.sch.lt
  have HE : Hid (((w.alloc (.cells #[.func fn xs ys, .pointer (some ga)] 95)).alloc (.cells #[.pointer none, .int .i64 0] 64)).rowIs w.heap.size 95 2 (fun j => if j = 0 then .func fn xs ys else .pointer (some ga))) := (World.rowIs_alloc w _ 95 _ (by intro j hj; match j, hj with | 0, _ => rfl | 1, _ => rfl)).alloc _
  have HR : Hid (((w.alloc (.cells #[.func fn xs ys, .pointer (some ga)] 95)).alloc (.cells #[.pointer none, .int .i64 0] 64)).rowIs (w.heap.size + 1) 64 2 (fun j => if j = 0 then .pointer none else .int .i64 0)) := by
    have h1 := World.rowIs_alloc (w.alloc (.cells #[.func fn xs ys, .pointer (some ga)] 95)) #[.pointer none, .int .i64 0] 64 (fun j => if j = 0 then .pointer none else .int .i64 0) (by intro j hj; match j, hj with | 0, _ => rfl | 1, _ => rfl)
    rw [show (w.alloc (.cells #[.func fn xs ys, .pointer (some ga)] 95)).heap.size = w.heap.size + 1 from by simp] at h1
    exact h1
  have he0 := HE.out.cell (i := 0) (by omega)
  have HF0 : Hid (Fr (SS N (fun b => b = s) (fun t => t = 107 ∨ t = 141) w) w ((w.alloc (.cells #[.func fn xs ys, .pointer (some ga)] 95)).alloc (.cells #[.pointer none, .int .i64 0] 64))) := ((Fr.refl _ w).alloc _).alloc _
  clear h
  go_enter Yba.func49, Yba.ntmps49
  go_wp2_with fail
  generalize (w.alloc (.cells #[.func fn xs ys, .pointer (some ga)] 95)).alloc (.cells #[.pointer none, .int .i64 0] 64) = W at *
  refine (HP.out W HG.out).mono ?_
  rintro e w2 ⟨rfl, ⟨B', GB', hq, hB⟩, hf⟩
  have hE := hf.row HE.out (rowIs_apart HE.out (by omega) (by decide))
  have hR := hf.row HR.out (rowIs_apart HR.out (by omega) (by decide))
  have HFW : Hid (Fr (SS N (fun b => b = s) (fun t => t = 107 ∨ t = 141) w) w w2) := HF0.out.transS (hf.monoS (fun _ h => h) (fun _ h => .inl h))
  have hM : 256 * (es.length / 256) < (es ++ [((Value.func fn xs ys, none) : Ent)]).length := by simp; omega
  have hM1 : (es ++ [((Value.func fn xs ys, none) : Ent)]).length ≤ 256 * (es.length / 256 + 1) := by simp; omega
  obtain ⟨HQ, HB, HE2, HR2⟩ : Hid (GQ N s mu ov (es ++ [(Value.func fn xs ys, none)]) B' GB' w2) ∧ Hid (∀ m, 256 * m < es.length → B' m = B m) ∧ Hid (w2.rowIs w.heap.size 95 2 (fun j => if j = 0 then .func fn xs ys else .pointer (some ga))) ∧ Hid (w2.rowIs (w.heap.size + 1) 64 2 (fun j => if j = 0 then .pointer none else .int .i64 0)) := ⟨hq, hB, hE, hR⟩
  clear hq hf hB hE hR HE HR HG HP HF0 he0
  have h12 := HQ.out.sch.c12
  rw [show tailOf (es ++ [((Value.func fn xs ys, none) : Ent)]).length B' = some (at0 (B' (es.length / 256))) from by unfold tailOf; rw [if_neg (by simp)]; simp] at h12
  unfold at0 at h12
  obtain ⟨fb, hfb, hfk, hfg, hfn⟩ := HQ.out.seg (es.length / 256) hM
  have hgb := hfb.cell (i := 256) (by omega)
  have hgz := hfb.frozen 256
  rw [hfg] at hgb
  have HROW : Hid (w2.rowIs (B' (es.length / 256)) 107 259 fb) := hfb
  have HNB : Hid (N ≤ B' (es.length / 256)) := HQ.out.nB _ hM
  clear hfb hfk hfg hfn
  obtain ⟨HM, HM1⟩ : Hid (256 * (es.length / 256) < (es ++ [((Value.func fn xs ys, none) : Ent)]).length) ∧ Hid ((es ++ [((Value.func fn xs ys, none) : Ent)]).length ≤ 256 * (es.length / 256 + 1)) := ⟨hM, hM1⟩
  clear hM hM1
  obtain ⟨b0, hb0⟩ : ∃ b0, b0 = B' (es.length / 256) := ⟨_, rfl⟩
  have HB0 : Hid (b0 = B' (es.length / 256)) := hb0
  obtain ⟨l, hL⟩ : ∃ l, l = es.length % 256 := ⟨_, rfl⟩
  have hl' : (l : Int) < 256 := by omega
  have HL : Hid (l = es.length % 256) := hL
  rw [← hb0] at h12 hgb hgz HROW HNB
  clear hb0 hL
  obtain ⟨o, ho⟩ : ∃ o, o = GB' (es.length / 256) := ⟨_, rfl⟩
  have HO : Hid (o = GB' (es.length / 256)) := ho
  rw [← ho] at hgb
  clear ho
  cases o with
  | some b =>
    simp only [Option.map, at0] at hgb
    have HGB : Hid (∃ GB2, GQ N s mu ov (es ++ [(Value.func fn xs ys, none)]) B' GB2 w2 ∧ GB2 (es.length / 256) = some b) := ⟨GB', HQ.out, HO.out.symm⟩
    clear HQ HO
    go_wp2_with fail
    obtain ⟨GB2, hq2, hG2⟩ := HGB.out
    obtain ⟨fs, hfs, _⟩ := hq2.sch
    have h14 := hq2.sch.c14
    have h17 := hq2.sch.c17
    have hz := hq2.sch.fz
    rw [show lastOf (es ++ [((Value.func fn xs ys, none) : Ent)]).length = l + 1 from by rw [HL.out]; unfold lastOf; rw [if_neg (by simp)]; simp] at h14
    have hgc : gcount (es ++ [((Value.func fn xs ys, none) : Ent)]) ≤ 1048576 := by
      have := List.length_filter_le (fun e : Ent => e.2.isSome) (es ++ [(Value.func fn xs ys, none)])
      unfold gcount; simp at this ⊢; omega
    have hA := hq2.ga (es.length / 256) b HM.out hG2
    obtain ⟨fb2, hfb2, _, hfg2, _⟩ := hq2.seg (es.length / 256) HM.out
    rw [← HB0.out] at hfb2
    have hgb := hfb2.cell (i := 256) (by omega)
    rw [hfg2, hG2] at hgb
    simp only [Option.map, at0] at hgb
    have hac := hA.cell (i := l) (by omega)
    have haz := hA.frozen l
    have m1 := rowIs_ne hfs hA (by decide)
    have n2 := rowIs_ne hfs HE2.out (by decide)
    have n3 := rowIs_ne hfs HR2.out (by decide)
    have m4 := rowIs_ne hA HE2.out (by decide)
    have m5 := rowIs_ne hA HR2.out (by decide)
    have he1 := HE2.out.cell (i := 1) (by omega)
    have hr0 := HR2.out.cell (i := 0) (by omega)
    have hr1 := HR2.out.cell (i := 1) (by omega)
    have hrz := HR2.out.frozen
    have HEND := hq2.setg ga hG2
    rw [← HL.out] at HEND
    have HEND2 : Hid _ := HEND
    have HTY : Hid (SS N (fun b => b = s) (fun t => t = 107 ∨ t = 141) w2 b) := rowIs_typed hA (hq2.nG _ _ HM.out hG2) (.inr rfl)
    generalize grp (es ++ [(Value.func fn xs ys, none)]) (256 * (es.length / 256) + l) = gx at hac
    clear HEND hfs hA hfb2 hfg2 hG2 HGB hq2
    generalize gcount (es ++ [((Value.func fn xs ys, none) : Ent)]) = gc at *
    go_wp2_with fail
    go_region
    go_wp2_with fail
    have hR4 := ((((HR2.out.setOther (a := ⟨b, l, none⟩) (fun e => m5 e.symm) (.pointer (some ga))).setOther (a := ⟨s, 17, none⟩) (fun e => n3 e.symm) (.int .i64 ((gc : Int) + 1))).set 0 (.pointer (some ⟨b0, 0, none⟩))).set 1 (.int .i64 (l : Int)))
    have c0 := hR4.cell (i := 0) (by omega)
    have c1 := hR4.cell (i := 1) (by omega)
    simp only [↓reduceIte, Nat.zero_ne_one] at c0 c1
    refine bodyPost_ret (v := .agg #[.pointer (some ⟨b0, 0, none⟩), .int .i64 (l : Int)]) (by simp [results, Yba.results49, go_sem, c0, c1]) rfl ?_
    refine ⟨B', by rw [← HB0.out, ← HL.out]; rfl, ⟨_, HEND2.out.frame fun c t n f hr ht => ?_⟩, HB.out, ?_⟩
    · have hne : c ≠ w.heap.size + 1 := by
        rintro rfl
        have hR1 : ((w2.setCell ⟨b, l, none⟩ (.pointer (some ga))).drew.setCell ⟨s, 17, none⟩ (.int .i64 ((gc : Int) + 1))).rowIs (w.heap.size + 1) 64 2 _ := (HR2.out.setOther (a := ⟨b, l, none⟩) (fun e => m5 e.symm) (.pointer (some ga))).drew.setOther (a := ⟨s, 17, none⟩) (fun e => n3 e.symm) (.int .i64 ((gc : Int) + 1))
        refine rowIs_ne hr hR1 ?_ rfl
        rcases ht with rfl | rfl | rfl <;> decide
      exact (blk_setCell_other _ _ _ _ hne).trans (blk_setCell_other _ _ _ _ hne)
    · have hF2 := HFW.out.transS (((Fr.refl _ w2).setCell (a := ⟨b, l, none⟩) (fun _ => HTY.out) (.pointer (some ga))).setCell (a := ⟨s, 17, none⟩) (fun _ => .inl rfl) (.int .i64 ((gc : Int) + 1)))
      exact ((hF2.setCell (fun h => absurd h (by simp)) _).setCell (fun h => absurd h (by simp)) _).drew
  | none =>
    simp only [Option.map] at hgb
    have HQ3 : Hid _ := HQ.out.garr (M := es.length / 256) (GB' := fun m => if m = es.length / 256 then some w2.heap.size else GB' m) HM.out HM1.out HO.out.symm (by simp) (fun m hm => by simp [hm])
    rw [← HB0.out] at HQ3
    have hbs := HROW.out.lt
    go_wp2_with fail
    generalize hW3 : ((w2.setCell ⟨b0, 256, none⟩ (.pointer (some ⟨w2.heap.size, 0, none⟩))).alloc (.cells Yba.zeroCells141 141)) = w3 at *
    have HFW3 : Hid (Fr (SS N (fun b => b = s) (fun t => t = 107 ∨ t = 141) w) w w3) := by
      show Fr _ _ _
      rw [← hW3]
      exact HFW.out.transS (((Fr.refl _ w2).setCell (fun _ => rowIs_typed HROW.out HNB.out (.inl rfl)) _).alloc _)
    have HE3 : Hid (w3.rowIs w.heap.size 95 2 (fun j => if j = 0 then .func fn xs ys else .pointer (some ga))) := by
      show World.rowIs _ _ _ _ _
      rw [← hW3]; exact (HE2.out.setOther (rowIs_ne HE2.out HROW.out (by decide)) _).alloc _
    have HR3 : Hid (w3.rowIs (w.heap.size + 1) 64 2 (fun j => if j = 0 then .pointer none else .int .i64 0)) := by
      show World.rowIs _ _ _ _ _
      rw [← hW3]; exact (HR2.out.setOther (rowIs_ne HR2.out HROW.out (by decide)) _).alloc _
    have HGB : Hid (∃ GB2, GQ N s mu ov (es ++ [(Value.func fn xs ys, none)]) B' GB2 w3 ∧ GB2 (es.length / 256) = some w2.heap.size) := ⟨_, HQ3.out, by simp⟩
    clear HQ HO HQ3 HFW HE2 HR2 hW3 hgb hgz h12 HROW
    rename Hid (Fr (SS N (fun b => b = s) (fun t => t = 107 ∨ t = 141) w) w w3) => HFW
    rename Hid (w3.rowIs w.heap.size 95 2 (fun j => if j = 0 then .func fn xs ys else .pointer (some ga))) => HE2
    rename Hid (w3.rowIs (w.heap.size + 1) 64 2 (fun j => if j = 0 then .pointer none else .int .i64 0)) => HR2
    generalize w2.heap.size = b at *
    obtain ⟨GB2, hq2, hG2⟩ := HGB.out
    obtain ⟨fs, hfs, _⟩ := hq2.sch
    have h14 := hq2.sch.c14
    have h17 := hq2.sch.c17
    have hz := hq2.sch.fz
    rw [show lastOf (es ++ [((Value.func fn xs ys, none) : Ent)]).length = l + 1 from by rw [HL.out]; unfold lastOf; rw [if_neg (by simp)]; simp] at h14
    have hgc : gcount (es ++ [((Value.func fn xs ys, none) : Ent)]) ≤ 1048576 := by
      have := List.length_filter_le (fun e : Ent => e.2.isSome) (es ++ [(Value.func fn xs ys, none)])
      unfold gcount; simp at this ⊢; omega
    have hA := hq2.ga (es.length / 256) b HM.out hG2
    obtain ⟨fb2, hfb2, _, hfg2, _⟩ := hq2.seg (es.length / 256) HM.out
    rw [← HB0.out] at hfb2
    have hgb := hfb2.cell (i := 256) (by omega)
    rw [hfg2, hG2] at hgb
    simp only [Option.map, at0] at hgb
    have hac := hA.cell (i := l) (by omega)
    have haz := hA.frozen l
    have m1 := rowIs_ne hfs hA (by decide)
    have n2 := rowIs_ne hfs HE2.out (by decide)
    have n3 := rowIs_ne hfs HR2.out (by decide)
    have m4 := rowIs_ne hA HE2.out (by decide)
    have m5 := rowIs_ne hA HR2.out (by decide)
    have he1 := HE2.out.cell (i := 1) (by omega)
    have hr0 := HR2.out.cell (i := 0) (by omega)
    have hr1 := HR2.out.cell (i := 1) (by omega)
    have hrz := HR2.out.frozen
    have HEND := hq2.setg ga hG2
    rw [← HL.out] at HEND
    have HEND2 : Hid _ := HEND
    have HTY : Hid (SS N (fun b => b = s) (fun t => t = 107 ∨ t = 141) w3 b) := rowIs_typed hA (hq2.nG _ _ HM.out hG2) (.inr rfl)
    generalize grp (es ++ [(Value.func fn xs ys, none)]) (256 * (es.length / 256) + l) = gx at hac
    clear HEND hfs hA hfb2 hfg2 hG2 HGB hq2
    generalize gcount (es ++ [((Value.func fn xs ys, none) : Ent)]) = gc at *
    go_wp2_with fail
    go_region
    go_wp2_with fail
    have hR4 := ((((HR2.out.setOther (a := ⟨b, l, none⟩) (fun e => m5 e.symm) (.pointer (some ga))).setOther (a := ⟨s, 17, none⟩) (fun e => n3 e.symm) (.int .i64 ((gc : Int) + 1))).set 0 (.pointer (some ⟨b0, 0, none⟩))).set 1 (.int .i64 (l : Int)))
    have c0 := hR4.cell (i := 0) (by omega)
    have c1 := hR4.cell (i := 1) (by omega)
    simp only [↓reduceIte, Nat.zero_ne_one] at c0 c1
    refine bodyPost_ret (v := .agg #[.pointer (some ⟨b0, 0, none⟩), .int .i64 (l : Int)]) (by simp [results, Yba.results49, go_sem, c0, c1]) rfl ?_
    refine ⟨B', by rw [← HB0.out, ← HL.out]; rfl, ⟨_, HEND2.out.frame fun c t n f hr ht => ?_⟩, HB.out, ?_⟩
    · have hne : c ≠ w.heap.size + 1 := by
        rintro rfl
        have hR1 : ((w3.setCell ⟨b, l, none⟩ (.pointer (some ga))).drew.setCell ⟨s, 17, none⟩ (.int .i64 ((gc : Int) + 1))).rowIs (w.heap.size + 1) 64 2 _ := (HR2.out.setOther (a := ⟨b, l, none⟩) (fun e => m5 e.symm) (.pointer (some ga))).drew.setOther (a := ⟨s, 17, none⟩) (fun e => n3 e.symm) (.int .i64 ((gc : Int) + 1))
        refine rowIs_ne hr hR1 ?_ rfl
        rcases ht with rfl | rfl | rfl <;> decide
      exact (blk_setCell_other _ _ _ _ hne).trans (blk_setCell_other _ _ _ _ hne)
    · have hF2 := HFW.out.transS (((Fr.refl _ w3).setCell (a := ⟨b, l, none⟩) (fun _ => HTY.out) (.pointer (some ga))).setCell (a := ⟨s, 17, none⟩) (fun _ => .inl rfl) (.int .i64 ((gc : Int) + 1)))
      exact ((hF2.setCell (fun h => absurd h (by simp)) _).setCell (fun h => absurd h (by simp)) _).drew
end Go.Proofs.Ybulkctey
