/-
  SEAT b4739aF. THE WALK OF LawS4739AModel.
-/
import Derived.Test.YbulkctcuFmtFill
import Derived.Deep.CutBlock
import Derived.Deep.DeepCutAuto
namespace Go.Proofs.YbulkctcuFmt
open Go.RowKit Go.Extern.Stop Go.Stop

theorem info35 : (Ybaf.prog.info? 35).map (fun i => (i.zero, i.size, i.bytes)) = some (some (.agg #[.pointer none, .slice none 0 0, .pointer none]), 3, 40) := by kernel_rfl

theorem made_zero (n i : Nat) (h : i < n) : (madeCells #[.pointer none, .slice none 0 0, .pointer none] (n * 3))[i * 3]! = Value.pointer none ∧ (madeCells #[.pointer none, .slice none 0 0, .pointer none] (n * 3))[i * 3 + 2]! = Value.pointer none := by
  have e1 : i * 3 % 3 = 0 := by omega
  have e2 : (i * 3 + 2) % 3 = 2 := by omega
  have h1 : i * 3 < n * 3 := by omega
  have h2 : i * 3 + 2 < n * 3 := by omega
  constructor <;> simp [madeCells, h1, h2, e1, e2]

/-- The row's function, said as the round's law wants it. -/
theorem fn_eq {f : Nat → Value} {k : Nat} {r : RV} {g : Nat → Value} (h0 : g (k * 3) = ptrIf r.hs r.px) (h1 : g (k * 3 + 1) = .slice r.a r.xs.length r.c) (h2 : g (k * 3 + 2) = ptrIf r.hh r.ph) (ho : ∀ j, j ≠ k * 3 → j ≠ k * 3 + 1 → j ≠ k * 3 + 2 → g j = f j) (j : Nat) :
    g j = (fun j => if j = k * 3 then ptrIf r.hs r.px else if j = k * 3 + 1 then Value.slice r.a r.xs.length r.c else if j = k * 3 + 2 then ptrIf r.hh r.ph else f j) j := by
  show g j = (if j = k * 3 then ptrIf r.hs r.px else if j = k * 3 + 1 then Value.slice r.a r.xs.length r.c else if j = k * 3 + 2 then ptrIf r.hh r.ph else f j)
  by_cases e0 : j = k * 3
  · subst e0; rw [if_pos rfl, h0]
  · rw [if_neg e0]
    by_cases e1 : j = k * 3 + 1
    · subst e1; rw [if_pos rfl, h1]
    · rw [if_neg e1]
      by_cases e2 : j = k * 3 + 2
      · subst e2; rw [if_pos rfl, h2]
      · rw [if_neg e2]; exact ho j e0 e1 e2

theorem assert46 (W : World) (v : Value) : (Instr.typeAssert (.iface 46 v) 43 46 true).run Ybaf.prog W = .ok (.tuple #[v, .bool true]) W := by kernel_rfl
theorem drewN_below {B : Nat} {a w : World} (h : Below B a w) (n : Nat) : Below B a (w.drewN n) := h.trans ⟨rfl, rfl, rfl, Nat.le_refl _, fun _ _ => rfl⟩
theorem letByI_all {n : Int} {sl : List Int} {l : List IV} (h : l.all (goodI n sl) = true) : letByI n sl l = l.map IV.hv := by
  rw [letByI, takeWhile_all _ l h]
theorem letByI_at {n : Int} {sl : List Int} {l : List IV} {k : Nat} (hk : k < l.length) (ha : (l.take k).all (goodI n sl) = true) (hb : goodI n sl l[k] = false) : letByI n sl l = (l.take k).map IV.hv ∧ l.all (goodI n sl) = false := by
  refine ⟨by rw [letByI, takeWhile_at _ l k hk ha hb], ?_⟩
  rw [List.all_eq_false]
  exact ⟨l[k], List.getElem_mem _, by simp [hb]⟩
theorem anyOut_succ {n : Int} {xs : List Int} {j : Nat} (h : j < xs.length) : anyOut n (xs.take (j + 1)) = (anyOut n (xs.take j) || outB n xs[j]) := by
  rw [List.take_succ_eq_append_getElem h, anyOut, anyOut, List.any_append]; simp

/-- Behind k rounds of the second loop. -/
structure Want (n : Int) (sl : List Int) (l : List IV) (w : World) (k : Nat) (wr : World) (v : Value) : Prop where
  all : (l.take k).all (goodI n sl) = true
  own : wr.ownsRow w.heap.size 41 3 v k (hcells ((l.take k).map IV.hv))
  bel : Below w.heap.size w wr
/-- What the second loop leaves. -/
structure Wanted (n : Int) (sl : List Int) (l : List IV) (w : World) (ok : Value) (wr : World) (v : Value) : Prop where
  ok : ok = .bool (l.all (goodI n sl))
  own : wr.ownsRow w.heap.size 41 3 v (letByI n sl l).length (hcells (letByI n sl l))
  bel : Below w.heap.size w wr
theorem Want.done {n : Int} {sl : List Int} {l : List IV} {w wr : World} {v : Value} (h : Want n sl l w l.length wr v) : Wanted n sl l w (.bool true) wr v := by
  have ha := h.all
  have ho := h.own
  rw [List.take_length] at ha ho
  refine ⟨by rw [ha], ?_, h.bel⟩
  rw [letByI_all ha, List.length_map]; exact ho
theorem Want.bad {n : Int} {sl : List Int} {l : List IV} {w wr w' : World} {k : Nat} {v : Value} (h : Want n sl l w k wr v) (hk : k < l.length) (hb : goodI n sl l[k] = false) (hbel : Below wr.heap.size wr w') : Wanted n sl l w (.bool false) w' v := by
  obtain ⟨h1, h2⟩ := letByI_at hk h.all hb
  refine ⟨by rw [h2], ?_, h.bel.trans (hbel.mono h.bel.size)⟩
  rw [h1, List.length_map, List.length_take, Nat.min_eq_left (by omega)]
  exact owns_below h.own hbel
theorem Want.step {n : Int} {sl : List Int} {l : List IV} {w wr W w1 : World} {k : Nat} {v v' : Value} (h : Want n sl l w k wr v) (hk : k < l.length) (hg : goodI n sl l[k] = true) (hb : Below wr.heap.size wr W)
    (hown : w1.ownsRow w.heap.size 41 3 v' (k + 1) (hcells ((l.take k).map IV.hv) ++ (l[k].hv).cells)) (hgr : W.grownBy w1 v.ownBlock) : Want n sl l w (k + 1) w1 v' := by
  have hge := ownBlock_ge h.own
  have hbel := h.bel.trans (hb.mono h.bel.size)
  refine ⟨all_take_succ hk h.all hg, ?_, ⟨hgr.os.trans hbel.os, hgr.tape.trans hbel.tape, hgr.output.trans hbel.output, Nat.le_trans hbel.size hgr.size, fun j hj => ?_⟩⟩
  · have e : (l.take (k + 1)).map IV.hv = (l.take k).map IV.hv ++ [l[k].hv] := by rw [List.take_succ_eq_append_getElem hk, List.map_append]; rfl
    rw [e, hcells_snoc]; exact hown
  · rw [hgr.block j (Nat.lt_of_lt_of_le hj hbel.size) (fun e => by have := hge j e.symm; omega)]
    exact hbel.block j hj

set_option maxRecDepth 100000 in
set_option maxHeartbeats 4000000 in
theorem law_any (hR : ReadSaid) (F : Interp) (n : Int) (a1 : Option Addr) (b1 o1 c1 : Nat) (sl : List Int) (av : Option Addr) (bv ov cv : Nat) (l : List IV) (w : World) (hF : F.answers w.tape) (hsl : sl.length ≤ 256) (hN : l.length ≤ 1024) (hi1 : Ints w a1 b1 o1 sl) (hin : In w av bv ov l) :
    Calls Ybaf.prog 3 #[.int .i64 n, .slice a1 sl.length c1, .slice av l.length cv] w fun e w' => e = .returned (.bool true) ∧ Below w.heap.size w w' := by
  have HR : Hid ReadSaid := hR
  obtain ⟨HI1, HIN⟩ : Hid (Ints w a1 b1 o1 sl) ∧ Hid (In w av bv ov l) := ⟨hi1, hin⟩
  obtain ⟨i0, hi, hz0, hz1, hz2⟩ := info_parts info35
  have hmk : ∀ W : World, (Instr.makeSlice 29 (.int .i64 (l.length : Int)) (.int .i64 (l.length : Int))).run Ybaf.prog W = .ok (.slice (some ⟨W.heap.size, 0, none⟩) l.length l.length) (W.alloc (.cells (madeCells #[.pointer none, .slice none 0 0, .pointer none] (l.length * 3)) 35)) := fun W => by
    have h := run_make (P := Ybaf.prog) W 29 35 i0 _ Ybaf.underlying29 hi hz0 .i64 .i64 (l.length : Int) (l.length : Int) (by omega) (by omega) (by rw [hz2]; omega) (by omega)
    simpa [hz1, Value.cells] using h
  have HM : Hid ((madeCells #[.pointer none, .slice none 0 0, .pointer none] (l.length * 3)).size = l.length * 3) := size_madeCells _ _
  have HZ : Hid (∀ i, i < l.length → (madeCells #[.pointer none, .slice none 0 0, .pointer none] (l.length * 3))[i * 3]! = .pointer none ∧ (madeCells #[.pointer none, .slice none 0 0, .pointer none] (l.length * 3))[i * 3 + 2]! = .pointer none) := fun i hi => made_zero l.length i hi
  generalize madeCells #[.pointer none, .slice none 0 0, .pointer none] (l.length * 3) = MC at hmk HM HZ
  have hsl' : ¬ (256 : Int) < (sl.length : Int) := by omega
  have hN' : ¬ (1024 : Int) < (l.length : Int) := by omega
  clear hi1 hin hi hz0 hz1 hz2 hR
  go_enter Ybaf.func3, Ybaf.ntmps3
  go_wp2_with fail
  refine (build_any n a1 b1 o1 c1 sl hsl w HI1.out).mono ?_
  rintro e w1 ⟨rfl, hS1, hbl1, ⟨es, hmap1, hidx⟩, hb1⟩
  have hsz1 := hmap1.lt
  obtain ⟨HS1, HBL1, HMP1, HIX⟩ : Hid (w1.heap[w.heap.size]? = some (scen n (w.heap.size + 1) sl.length (.slice none 0 0))) ∧ Hid (∀ j, j < sl.length → w1.cell? ⟨w.heap.size + 1, j * 5 + 1, none⟩ = some (.int .i64 (sl.getD j 0))) ∧ Hid (mapIs Value.string w1 (w.heap.size + 2) es) ∧ Hid (Index sl.length es) := ⟨hS1, hbl1, hmap1, hidx⟩
  clear hS1 hbl1 hmap1 hidx
  have HB1 : Hid (Below w.heap.size w w1) := hb1
  clear hb1
  go_wp2_with (go_at_call 6; go_in)
  obtain ⟨w2, hw2⟩ : ∃ w2, w2 = (w1.alloc (.cells #[.slice none 0 0, .slice (some ⟨w1.heap.size + 1, 0, none⟩) l.length l.length, .pointer none] 32)).alloc (.cells MC 35) := ⟨_, rfl⟩
  rw [← hw2]
  have HB2 : Hid (Below w1.heap.size w1 w2) := by rw [hw2]; exact ((Below.refl _ _).alloc (Nat.le_refl _) _).alloc (by simp) _
  have hz2 : w2.heap.size = w1.heap.size + 2 := by rw [hw2]; simp
  have hC2 : w2.cell? ⟨w1.heap.size, 1, none⟩ = some (.slice (some ⟨w1.heap.size + 1, 0, none⟩) l.length l.length) := by rw [hw2]; simp
  have HF0 : Hid (Filled (w1.heap.size + 1) l.length l w2 0 w2 (fun j => MC[j]!) []) := by
    have h1 := World.rowIs_alloc (w1.alloc (.cells #[.slice none 0 0, .slice (some ⟨w1.heap.size + 1, 0, none⟩) l.length l.length, .pointer none] 32)) MC 35 (fun j => MC[j]!) (fun i hi => by simp [hi])
    rw [HM.out, ← hw2] at h1
    simp only [Deep.nblk_alloc] at h1
    exact ⟨by simp, h1, fun i t u hi => absurd hi (by omega), fun i _ hi => HZ.out i hi, fun v hv => by simp at hv, But.refl _ _⟩
  have HZ2 : Hid (w2.heap.size = w1.heap.size + 2) := hz2
  have hws : w.heap.size ≤ w1.heap.size := HB1.out.size
  clear hw2 hmk HM hz2
  go_loopw [10] (fun i wr => ∃ (k : Nat) (f : Nat → Value) (rs : List RV), k ≤ l.length ∧ i = .int .i64 k ∧ Filled (w1.heap.size + 1) l.length l w2 k wr f rs) (fun i _ => l.length - (intOf i).toNat)
  case atStart => exact ⟨0, _, _, Nat.zero_le _, rfl, HF0.out⟩
  case round =>
    obtain ⟨k, f, rs, hk, rfl, hfil⟩ := hrel
    have HFI : Hid (Filled (w1.heap.size + 1) l.length l w2 k wr f rs) := hfil
    have HBU : Hid (But (w1.heap.size + 1) w2 wr) := hfil.but
    have hsr : w1.heap.size + 2 ≤ wr.heap.size := by have := hfil.but.size; have := HZ2.out; omega
    have HBW : Hid (Below w.heap.size w wr) := HB1.out.trans ⟨HBU.out.os.trans HB2.out.os, HBU.out.tape.trans HB2.out.tape, HBU.out.output.trans HB2.out.output, by omega, fun j hj => (HBU.out.block j (by have := HZ2.out; omega) (by omega)).trans (HB2.out.block j (by omega))⟩
    clear hfil
    by_cases hlt : k < l.length
    · obtain rfl := HIN.out.at' (by omega)
      have hbv := HIN.out.lt (by omega)
      have hC : wr.cell? ⟨w1.heap.size, 1, none⟩ = some (.slice (some ⟨w1.heap.size + 1, 0, none⟩) l.length l.length) := (HBU.out.cell (a := ⟨w1.heap.size, 1, none⟩) (by have := HZ2.out; simp; omega) (by simp)).trans hC2
      obtain ⟨iv, hiv⟩ : ∃ iv, iv = l.getD k noIV := ⟨_, rfl⟩
      have hil : iv = l[k] := by rw [hiv]; simp [List.getD, hlt]
      have HIL : Hid (iv = l[k]) := hil
      have hc := fun t u (ht : t < 5) (hu : iv.cells[t]? = some u) => (HBW.out.cell (p := ⟨bv, ov + (k * 5 + t), none⟩) hbv).trans (HIN.out.cell k t u hlt ht (by rw [← hiv]; exact hu))
      have hfit := HIN.out.fits iv (by rw [hil]; exact List.getElem_mem _)
      clear hiv hil
      obtain ⟨hs, slot, hh, head, a, b, o, c, xs⟩ := iv
      have hc0 := hc 0 (.bool hs) (by omega) rfl
      have hc1 := hc 1 (.int .i64 slot) (by omega) rfl
      have hc2 := hc 2 (.bool hh) (by omega) rfl
      have hc3 := hc 3 (.int .u8 head) (by omega) rfl
      have hc4 := hc 4 (.slice a xs.length c) (by omega) rfl
      rw [← Nat.add_assoc] at hc0 hc1 hc2 hc3 hc4
      simp only [Nat.add_zero] at hc0
      have hhd : head < 256 := hfit.2.1
      clear hc hfit
      have hr0 := HFI.out.row.cell (i := k * 3) (by omega)
      have hr1 := HFI.out.row.cell (i := k * 3 + 1) (by omega)
      have hr2 := HFI.out.row.cell (i := k * 3 + 2) (by omega)
      have hfz : ∀ j, wr.frozen? ⟨w1.heap.size + 1, j, none⟩ = false := fun j => HFI.out.row.frozen j
      have hkl : (k : Int) < (l.length : Int) := by omega
      have hb0 : bv < wr.heap.size := by omega
      have hb1 : w1.heap.size < wr.heap.size := by omega
      have hb2 : w1.heap.size + 1 < wr.heap.size := by omega
      have hb3 : w1.heap.size < wr.heap.size + 1 := by omega
      have hb4 : w1.heap.size + 1 < wr.heap.size + 1 := by omega
      have hb5 : w1.heap.size < wr.heap.size + 1 + 1 := by omega
      have hb6 : w1.heap.size + 1 < wr.heap.size + 1 + 1 := by omega
      have hzk := HFI.out.zero k (Nat.le_refl _) hlt
      have HZK : Hid (f (k * 3) = .pointer none ∧ f (k * 3 + 2) = .pointer none) := hzk
      clear hzk
      have hb7 : w1.heap.size < wr.heap.size + 1 + 1 + 1 := by omega
      have hb8 : w1.heap.size + 1 < wr.heap.size + 1 + 1 + 1 := by omega
      cases hs <;> cases hh
      · go_wp2
        go_roundw
        case rel =>
          exact ⟨k + 1, _, _, by omega, by go_num, HFI.out.step hlt ⟨false, slot, false, head, a, b, o, c, xs, 0, 0⟩ (by rw [← HIL.out]; rfl) (but_alloc (but_setCell (a := ⟨w1.heap.size + 1, k * 3 + 1, none⟩) (But.refl _ _) rfl _) _) (((HFI.out.row.set (k * 3 + 1) (.slice a xs.length c)).alloc _).congr fun j _ => fn_eq (g := fun j => if j = k * 3 + 1 then .slice a xs.length c else f j) (r := ⟨false, slot, false, head, a, b, o, c, xs, 0, 0⟩) ((if_neg (by omega)).trans (by rw [HZK.out.1]; rfl)) (if_pos rfl) ((if_neg (by omega)).trans (by rw [HZK.out.2]; rfl)) (fun j _ h1 _ => if_neg h1) j) ⟨(fun e => by cases e), (fun e => by cases e)⟩⟩
        case measure => simp [intOf]; omega
      · go_wp2_with fail
        refine (name_any head hhd _).mono ?_
        rintro e w' ⟨rfl, rfl⟩
        go_wp2
        go_roundw
        case rel =>
          (repeat apply Exists.intro)
          exact ⟨⟨k + 1, _, _, by omega, by go_num, HFI.out.step hlt ⟨false, slot, true, head, a, b, o, c, xs, 0, wr.heap.size + 1 + 1⟩ (by rw [← HIL.out]; rfl) (but_alloc (but_alloc (but_alloc (but_setCell (a := ⟨w1.heap.size + 1, k * 3 + 1, none⟩) (but_setCell (a := ⟨w1.heap.size + 1, k * 3 + 2, none⟩) (But.refl _ _) rfl _) rfl _) _) _) _) (((((((HFI.out.row.set (k * 3 + 2) (.pointer (some ⟨wr.heap.size + 1 + 1, 0, none⟩))).set (k * 3 + 1) (.slice a xs.length c)).alloc _).alloc _).alloc _)).congr fun j _ => fn_eq (g := fun j => if j = k * 3 + 1 then .slice a xs.length c else if j = k * 3 + 2 then .pointer (some ⟨wr.heap.size + 1 + 1, 0, none⟩) else f j) (r := ⟨false, slot, true, head, a, b, o, c, xs, 0, wr.heap.size + 1 + 1⟩) ((if_neg (by omega)).trans ((if_neg (by omega)).trans (by rw [HZK.out.1]; rfl))) (if_pos rfl) ((if_neg (by omega)).trans (if_pos rfl)) (fun j _ h1 h2 => (if_neg h1).trans (if_neg h2)) j) ⟨(fun e => by cases e), (fun _ => ⟨by go_simp, by simp, by simp; omega⟩)⟩⟩, rfl⟩
        case measure => simp [intOf]; omega
      · go_wp2
        go_roundw
        case rel =>
          exact ⟨k + 1, _, _, by omega, by go_num, HFI.out.step hlt ⟨true, slot, false, head, a, b, o, c, xs, wr.heap.size + 1, 0⟩ (by rw [← HIL.out]; rfl) (but_alloc (but_alloc (but_setCell (a := ⟨w1.heap.size + 1, k * 3 + 1, none⟩) (but_setCell (a := ⟨w1.heap.size + 1, k * 3, none⟩) (But.refl _ _) rfl _) rfl _) _) _) ((((((HFI.out.row.set (k * 3) (.pointer (some ⟨wr.heap.size + 1, 0, none⟩))).set (k * 3 + 1) (.slice a xs.length c)).alloc _).alloc _)).congr fun j _ => fn_eq (g := fun j => if j = k * 3 + 1 then .slice a xs.length c else if j = k * 3 then .pointer (some ⟨wr.heap.size + 1, 0, none⟩) else f j) (r := ⟨true, slot, false, head, a, b, o, c, xs, wr.heap.size + 1, 0⟩) ((if_neg (by omega)).trans (if_pos rfl)) (if_pos rfl) ((if_neg (by omega)).trans ((if_neg (by omega)).trans (by rw [HZK.out.2]; rfl))) (fun j h0 h1 _ => (if_neg h1).trans (if_neg h0)) j) ⟨(fun _ => ⟨by go_simp, by simp, by simp; omega⟩), (fun e => by cases e)⟩⟩
        case measure => simp [intOf]; omega
      · go_wp2_with fail
        refine (name_any head hhd _).mono ?_
        rintro e w' ⟨rfl, rfl⟩
        go_wp2
        go_roundw
        case rel =>
          (repeat apply Exists.intro)
          exact ⟨⟨k + 1, _, _, by omega, by go_num, HFI.out.step hlt ⟨true, slot, true, head, a, b, o, c, xs, wr.heap.size + 1, wr.heap.size + 1 + 1 + 1⟩ (by rw [← HIL.out]; rfl) (but_alloc (but_alloc (but_alloc (but_alloc (but_setCell (a := ⟨w1.heap.size + 1, k * 3 + 1, none⟩) (but_setCell (a := ⟨w1.heap.size + 1, k * 3 + 2, none⟩) (but_setCell (a := ⟨w1.heap.size + 1, k * 3, none⟩) (But.refl _ _) rfl _) rfl _) rfl _) _) _) _) _) (((((((((HFI.out.row.set (k * 3) (.pointer (some ⟨wr.heap.size + 1, 0, none⟩))).set (k * 3 + 2) (.pointer (some ⟨wr.heap.size + 1 + 1 + 1, 0, none⟩))).set (k * 3 + 1) (.slice a xs.length c)).alloc _).alloc _).alloc _).alloc _)).congr fun j _ => fn_eq (g := fun j => if j = k * 3 + 1 then .slice a xs.length c else if j = k * 3 + 2 then .pointer (some ⟨wr.heap.size + 1 + 1 + 1, 0, none⟩) else if j = k * 3 then .pointer (some ⟨wr.heap.size + 1, 0, none⟩) else f j) (r := ⟨true, slot, true, head, a, b, o, c, xs, wr.heap.size + 1, wr.heap.size + 1 + 1 + 1⟩) ((if_neg (by omega)).trans ((if_neg (by omega)).trans (if_pos rfl))) (if_pos rfl) ((if_neg (by omega)).trans (if_pos rfl)) (fun j h0 h1 h2 => (if_neg h1).trans ((if_neg h2).trans (if_neg h0))) j) ⟨(fun _ => ⟨by go_simp, by simp, by simp; omega⟩), (fun _ => ⟨by go_simp, by simp, by simp; omega⟩)⟩⟩, rfl⟩
        case measure => simp [intOf]; omega
    · have hkn : k = l.length := by omega
      subst hkn
      obtain ⟨w3, hw3⟩ : ∃ w3, w3 = wr := ⟨_, rfl⟩
      subst hw3
      clear hk hlt hN' hsl'
      go_upto_block 2 with fail
      go_cut [14, 15] (fun v ok wd => Wanted n sl l w3 ok wd v)
      case first =>
        go_wp2_with fail
        go_loopw [14, 15, 16] (fun v ok i wd => ∃ k : Nat, k ≤ l.length ∧ i = .int .i64 k ∧ ok = .bool true ∧ Want n sl l w3 k wd v) (fun _ _ i _ => l.length - (intOf i).toNat)
        case atStart => exact ⟨0, Nat.zero_le _, rfl, rfl, by simp, World.ownsRow_nil _ _ _ _, Below.refl _ _⟩
        case round =>
          obtain ⟨k, hk, rfl, rfl, hwt⟩ := hrel
          have HWT : Hid (Want n sl l w3 k wr u14) := hwt
          have HB3 : Hid (Below w.heap.size w wr) := HBW.out.trans (hwt.bel.mono HBW.out.size)
          have hsz3 : w3.heap.size ≤ wr.heap.size := hwt.bel.size
          clear hwt
          by_cases hlt : k < l.length
          · obtain rfl := HIN.out.at' (by omega)
            have hbv := HIN.out.lt (by omega)
            obtain ⟨iv, hiv⟩ : ∃ iv, iv = l.getD k noIV := ⟨_, rfl⟩
            have hil : iv = l[k] := by rw [hiv]; simp [List.getD, hlt]
            have HIL : Hid (iv = l[k]) := hil
            have hc := fun t u (ht : t < 5) (hu : iv.cells[t]? = some u) => (HB3.out.cell (p := ⟨bv, ov + (k * 5 + t), none⟩) hbv).trans (HIN.out.cell k t u hlt ht (by rw [← hiv]; exact hu))
            have hfit := HIN.out.fits iv (by rw [hil]; exact List.getElem_mem _)
            clear hiv hil
            obtain ⟨hs, slot, hh, head, a, b, o, c, xs⟩ := iv
            have hc0 := hc 0 (.bool hs) (by omega) rfl
            have hc1 := hc 1 (.int .i64 slot) (by omega) rfl
            have hc2 := hc 2 (.bool hh) (by omega) rfl
            have hc3 := hc 3 (.int .u8 head) (by omega) rfl
            have hc4 := hc 4 (.slice a xs.length c) (by omega) rfl
            rw [← Nat.add_assoc] at hc0 hc1 hc2 hc3 hc4
            simp only [Nat.add_zero] at hc0
            have HX : Hid (Ints wr a b o xs) := ⟨hfit.1.at', fun h => Nat.lt_of_lt_of_le (hfit.1.lt h) HB3.out.size, fun j hj => (HB3.out.cell (p := ⟨b, o + j, none⟩) (hfit.1.lt (Nat.lt_of_le_of_lt (Nat.zero_le _) hj))).trans (hfit.1.cell j hj), hfit.1.len⟩
            have hhd : head < 256 := hfit.2.1
            clear hc hfit
            have hkl : (k : Int) < (l.length : Int) := by omega
            have hb0 : bv < wr.heap.size := by omega
            cases hs
            · have HG : Hid (goodI n sl l[k] = false) := by show _ = _; rw [← HIL.out]; simp [goodI]
              go_wp2
              go_meet
              exact HWT.out.bad hlt HG.out ((Below.refl _ _).alloc (Nat.le_refl _) _)
            · cases hh
              · have HG : Hid (goodI n sl l[k] = false) := by show _ = _; rw [← HIL.out]; simp [goodI]
                go_wp2
                go_meet
                exact HWT.out.bad hlt HG.out ((Below.refl _ _).alloc (Nat.le_refl _) _)
              · by_cases hhl : head < sl.length
                · obtain rfl := HI1.out.at' (by omega)
                  have hhi : (head : Int) < (sl.length : Int) := by omega
                  obtain ⟨y, hy⟩ : ∃ y, y = sl.getD head 0 := ⟨_, rfl⟩
                  have HY : Hid (y = sl.getD head 0) := hy
                  have hb1l := HI1.out.lt (by omega)
                  have hys := (HB3.out.cell (p := ⟨b1, o1 + head, none⟩) hb1l).trans (HI1.out.cell head hhl)
                  rw [← hy] at hys
                  have hb1r : b1 < wr.heap.size := by omega
                  have hyc := (World.cell?_alloc_lt wr (.cells #[.bool true, .int .i64 slot, .bool true, .int .u8 head, .slice a xs.length c] 37) ⟨b1, o1 + head, none⟩ hb1r).trans hys
                  clear hy
                  by_cases hgt : slot < y
                  · have HG : Hid (goodI n sl l[k] = false) := by show _ = _; rw [← HIL.out]; simp only [goodI, ← HY.out]; simp; omega
                    go_wp2
                    go_quiet (fail)
                    go_wp2
                    go_meet
                    exact HWT.out.bad hlt HG.out (drewN_below ((Below.refl _ _).alloc (Nat.le_refl _) _) _)
                  · have hle : y ≤ slot := by omega
                    go_wp2
                    go_quiet (fail)
                    go_wp2
                    obtain ⟨Wd, hWd⟩ : ∃ Wd, Wd = (wr.alloc (.cells #[.bool true, .int .i64 slot, .bool true, .int .u8 head, .slice a xs.length c] 37)).drewN nq := ⟨_, rfl⟩
                    rw [← hWd]
                    have HBd : Hid (Below wr.heap.size wr Wd) := by rw [hWd]; exact drewN_below ((Below.refl _ _).alloc (Nat.le_refl _) _) _
                    have g1 : Wd.cell? ⟨wr.heap.size, 1, none⟩ = some (.int .i64 slot) := by rw [hWd]; simp
                    have g4 : Wd.cell? ⟨wr.heap.size, 4, none⟩ = some (.slice a xs.length c) := by rw [hWd]; simp
                    have GZ : Hid (Wd.heap.size = wr.heap.size + 1) := by show _ = _; rw [hWd]; simp
                    have HXd : Hid (Ints Wd a b o xs) := HX.out.below HBd.out
                    clear hWd hc0 hc1 hc2 hc3 hc4 hys hyc hb1r
                    go_loopw [119, 19] (fun j s wz => ∃ jj : Nat, jj ≤ xs.length ∧ j = .int .i64 jj ∧ s = .bool (!anyOut n (xs.take jj)) ∧ wz = Wd) (fun j _ _ => xs.length - (intOf j).toNat)
                    case atStart => exact ⟨0, Nat.zero_le _, rfl, rfl, rfl⟩
                    case round =>
                      obtain ⟨j, hj, rfl, rfl, rfl⟩ := hrel
                      have hxl := HXd.out.len
                      by_cases hjl : j < xs.length
                      · obtain rfl := HXd.out.at' (by omega)
                        have hcj := HXd.out.cell j hjl
                        have hgd := getD_eq xs j hjl
                        have hsu := anyOut_succ (n := n) hjl
                        rw [← hgd] at hsu
                        generalize xs.getD j 0 = x at hcj hsu
                        have HSU : Hid (anyOut n (xs.take (j + 1)) = (anyOut n (xs.take j) || outB n x)) := hsu
                        clear hsu hgd
                        have hjj : (j : Int) < (xs.length : Int) := by omega
                        by_cases h0 : x < 0
                        · go_wp2
                          go_roundw
                          case rel => exact ⟨j + 1, by omega, by go_num, by rw [HSU.out]; simp [outB, h0], trivial⟩
                          case measure => simp [intOf]; omega
                        · by_cases h1 : n ≤ x
                          · go_wp2
                            go_roundw
                            case rel => exact ⟨j + 1, by omega, by go_num, by rw [HSU.out]; simp [outB, h1], trivial⟩
                            case measure => simp [intOf]; omega
                          · go_wp2
                            go_roundw
                            case rel => exact ⟨j + 1, by omega, by go_num, by rw [HSU.out]; simp [outB, h0, h1], trivial⟩
                            case measure => simp [intOf]; omega
                      · have hje : j = xs.length := by omega
                        subst hje
                        rw [List.take_length]
                        clear hjl hj
                        cases hao : anyOut n xs with
                        | true =>
                          have HG : Hid (goodI n sl l[k] = false) := by show _ = _; rw [← HIL.out]; simp [goodI, hao]
                          go_wp2
                          go_meet
                          exact HWT.out.bad hlt HG.out HBd.out
                        | false =>
                          have HG : Hid (goodI n sl l[k] = true) := by show _ = _; rw [← HIL.out]; simp only [goodI, ← HY.out, hao]; simp; omega
                          obtain ⟨i1, hj, hj0, hj1, hj2⟩ := info_parts info41
                          have HOd : Hid (wr.ownsRow w3.heap.size 41 3 u14 k (hcells ((l.take k).map IV.hv))) := owns_below HWT.out.own HBd.out
                          have HLK : Hid (l[k].hv.cells = [.int .i64 slot, .slice a xs.length c, .int .i64 head]) := by show _ = _; rw [← HIL.out]; rfl
                          clear hxl
                          go_wp2_with (refine wpList_append_lies _ rfl (.tmp 133) (.tmp 140) 39 rfl w3.heap.size 41 i1 _ 3 40 Ybaf.underlying39 hj hj0 hj1 hj2 rfl (by decide) u14 k _ rfl (by exact HOd.out.alloc _) ⟨wr.heap.size, 0, none⟩ 1 1 [.int .i64 slot, .slice a xs.length c, .int .i64 head] rfl rfl (news3 (by simp) (by simp) (by simp)) (by simp [Value.oneCell']) (by decide) (by unfold maxLen; omega) (by omega) (by have := GZ.out; simp; omega) _ rfl ?_; intro g cap w5 hown5 hgrow5 hat5 hlt5; have R := HWT.out.step hlt HG.out (HBd.out.alloc HBd.out.size _) (by rw [HLK.out]; exact hown5) hgrow5; clear hown5 hgrow5 hat5 hlt5 hj hj0 hj1 hj2)
                          go_roundw
                          case rel =>
                            (repeat apply Exists.intro)
                            exact ⟨⟨k + 1, by omega, by go_num, rfl, R⟩, rfl⟩
                          case measure => simp [intOf]; omega
                · have HG : Hid (goodI n sl l[k] = false) := by show _ = _; rw [← HIL.out]; simp [goodI, hhl]
                  have hge : (sl.length : Int) ≤ (head : Int) := by omega
                  go_wp2
                  go_quiet (fail)
                  go_wp2
                  go_meet
                  exact HWT.out.bad hlt HG.out (drewN_below ((Below.refl _ _).alloc (Nat.le_refl _) _) _)
          · have hkn : k = l.length := by omega
            subst hkn
            go_wp2
            go_meet
            exact HWT.out.done
      case rest =>
        have hok := hcut.ok
        subst hok
        have HCU : Hid (Wanted n sl l w3 (.bool (l.all (goodI n sl))) wc u14) := hcut
        clear hcut
        have hs3 : w3.heap.size ≤ wc.heap.size := HCU.out.bel.size
        have hblk : ∀ j, j < w1.heap.size → wc.heap[j]? = w1.heap[j]? := fun j hj => (HCU.out.bel.block j (by omega)).trans ((HBU.out.block j (by have := HZ2.out; omega) (by omega)).trans (HB2.out.block j hj))
        have HWC : Hid (Below w.heap.size w wc) := HBW.out.trans (HCU.out.bel.mono HBW.out.size)
        have hFc : F.answers wc.tape := by rw [HWC.out.tape]; exact hF
        have HBLK : Hid (∀ j, j < w1.heap.size → wc.heap[j]? = w1.heap[j]?) := hblk
        clear hblk
        have HIV : Hid (rs.map RV.iv = l) := by have := HFI.out.iv; rw [List.take_length] at this; exact this
        have hrl : rs.length = l.length := by have := congrArg List.length HIV.out; simpa using this
        have HVR : Hid (VRow w.heap.size (w1.heap.size + 1) wc rs) := by
          refine ⟨by omega, by omega, fun i t u hi ht hu => ?_, fun v hv => ?_⟩
          · rw [HCU.out.bel.cell (by simp; omega), HFI.out.row.cell (by omega), HFI.out.cell i t u (by omega) ht hu]
          · have hat := HFI.out.at' v hv
            have hmem : v.iv ∈ l := by rw [← HIV.out]; exact List.mem_map_of_mem hv
            obtain ⟨f1, f2, f3⟩ := HIN.out.fits _ hmem
            refine ⟨fun h => ?_, fun h => ?_, ?_, f3, f2⟩
            · obtain ⟨e1, e2, e3⟩ := hat.slotAt h
              exact ⟨(HCU.out.bel.cell (p := ⟨v.px, 0, none⟩) e2).trans e1, by omega, by omega⟩
            · obtain ⟨e1, e2, e3⟩ := hat.headAt h
              exact ⟨(HCU.out.bel.cell (p := ⟨v.ph, 0, none⟩) e2).trans e1, by omega, by omega⟩
            · exact ⟨f1.at', fun h => Nat.lt_of_lt_of_le (f1.lt h) HWC.out.size, fun j hj => (HWC.out.cell (p := ⟨v.b, v.o + j, none⟩) (f1.lt (Nat.lt_of_le_of_lt (Nat.zero_le _) hj))).trans (f1.cell j hj), f1.len⟩
        have HCC : Hid (wc.cell? ⟨w1.heap.size, 1, none⟩ = some (.slice (some ⟨w1.heap.size + 1, 0, none⟩) rs.length rs.length)) := by
          show _ = _
          rw [hrl, HCU.out.bel.cell (by simp; omega), HBU.out.cell (by have := HZ2.out; simp; omega) (by simp)]; exact hC2
        go_wp2_with fail
        refine (HR.out F n sl w.heap.size (w.heap.size + 1) w1.heap.size (w1.heap.size + 1) (w.heap.size + 2) es rs wc hFc hsl (by omega) (by rw [HBLK.out _ (by omega)]; exact HS1.out) ⟨by omega, by omega⟩ (fun j hj => (World.cell?_of_block (HBLK.out _ (by simp; omega))).trans (HBL1.out j hj)) (by omega) (HMP1.out.of_block (HBLK.out _ (by omega))) HIX.out ⟨by omega, by omega⟩ HCC.out HVR.out).mono ?_
        rintro e w6 ⟨v6, err, rfl, he1, he2, hs6, ho6, hbut6⟩
        rw [letBy_iv, HIV.out] at ho6
        rw [all_iv, HIV.out] at he1 he2
        obtain ⟨a5, b5, c5, rfl, hr5, hb5⟩ := hrow_of_owns HCU.out.own
        obtain ⟨a6, b6, c6, rfl, hr6, -⟩ := hrow_of_owns ho6
        have HW6 : Hid (Below w.heap.size w w6) := HWC.out.trans ⟨hbut6.os, hbut6.tape, hbut6.output, hbut6.size, fun j hj => hbut6.block j (Nat.lt_of_lt_of_le hj HWC.out.size) (by omega)⟩
        have hr5' : HRow w6 a5 b5 (letByI n sl l) := ⟨hr5.at', fun i t u hi ht hu => (hbut6.cell (a := ⟨b5, i * 3 + t, none⟩) (hb5 (by omega)).2 (by have := (hb5 (by omega)).1; simp; omega)).trans (hr5.cell i t u hi ht hu)⟩
        have hll : (letByI n sl l).length ≤ l.length := by rw [letByI, List.length_map]; exact (List.takeWhile_prefix _).length_le
        have hxx : ∀ v ∈ letByI n sl l, Ints w6 v.a v.b v.o v.xs := fun v hv => by
          obtain ⟨x, hx, rfl⟩ := List.mem_map.1 hv
          have f1 := (HIN.out.fits x ((List.takeWhile_prefix _).subset hx)).1
          exact ⟨f1.at', fun h => Nat.lt_of_lt_of_le (f1.lt h) HW6.out.size, fun j hj => (HW6.out.cell (p := ⟨x.b, x.o + j, none⟩) (f1.lt (Nat.lt_of_le_of_lt (Nat.zero_le _) hj))).trans (f1.cell j hj), f1.len⟩
        have HEQ : Hid (Calls Ybaf.prog 9 #[.slice a6 (letByI n sl l).length c6, .slice a5 (letByI n sl l).length c5] w6 fun e w' => e = .returned (.bool true) ∧ ∃ n, w' = w6.drewN n) := eq_any a6 a5 b6 b5 c6 c5 _ w6 (by omega) hr6 hr5' hxx
        have t0 : w6.cell? ⟨w.heap.size, 0, none⟩ = some (.int .i64 n) := by simp [World.cell?, hs6, scen]
        have t2 : w6.cell? ⟨w.heap.size, 2, none⟩ = some (.slice (some ⟨w.heap.size + 1, 0, none⟩) sl.length sl.length) := by simp [World.cell?, hs6, scen]
        have t3 : w6.cell? ⟨w.heap.size, 3, none⟩ = some (.slice a6 (letByI n sl l).length c6) := by simp [World.cell?, hs6, scen]
        clear hr5 hr5' hr6 hb5 ho6 hbut6 hs6 hxx
        cases hall : l.all (goodI n sl) with
        | true =>
          obtain rfl := he1 hall
          clear he1 he2
          go_wp2_with fail
          refine HEQ.out.mono ?_
          rintro e w7 ⟨rfl, nn, rfl⟩
          go_wp2
          go_ret
          exact ⟨rfl, drewN_below HW6.out _⟩
        | false =>
          obtain ⟨blk, rfl, hfld⟩ := he2 hall
          clear he1 he2
          unfold fieldName at hfld
          have hta := assert46 w6 (.pointer (some ⟨blk, 0, none⟩))
          go_wp2_with fail
          refine HEQ.out.mono ?_
          rintro e w7 ⟨rfl, nn, rfl⟩
          go_wp2
          go_ret
          exact ⟨rfl, drewN_below HW6.out _⟩
end Go.Proofs.YbulkctcuFmt
