/-
  SEAT b4743a. QUEUE: the tasks' closure, zzs4743bid, newProcessor.
-/
import Derived.Test.YbulkcteyQueue
namespace Go.Proofs.Ybulkctey
open Go.RowKit Go.Deep

/-- A task: the closure over the record's variable and the id's cell. -/
def taskV (rv ib : Nat) : Value := .func (.func 15) #[] #[.pointer (some ⟨rv, 0, none⟩), .pointer (some ⟨ib, 0, none⟩)]
/-- Numbers as ints. -/
def ints (l : List Nat) : List Value := l.map fun k : Nat => .int .i64 (k : Int)
theorem ints_push (l : List Nat) (k : Nat) : ints (l ++ [k]) = ints l ++ [.int .i64 k] := by simp [ints]
/-- The record of ids. -/
structure RecI (rv rc : Nat) (ids : List Nat) (v : Value) (w : World) : Prop where
  var : w.rowIs rv 88 1 (fun _ => .pointer (some ⟨rc, 0, none⟩))
  cell : w.rowIs rc 91 1 (fun _ => v)
  own : w.ownsRow 0 3 1 v ids.length (ints ids)

theorem info3 : (Yba.prog.info? 3).map (fun i => (i.zero, i.size, i.bytes)) = some (some (.int .i64 0), 1, 8) := by kernel_rfl
theorem info3' : ∃ i, Yba.prog.info? 3 = some i ∧ i.zero = some (.int .i64 0) ∧ i.size = 1 ∧ i.bytes = 8 := by
  obtain ⟨i, h1, h2⟩ := Option.map_eq_some_iff.1 info3
  simp only [Prod.mk.injEq] at h2
  exact ⟨i, h1, h2.1, h2.2.1, h2.2.2⟩
theorem news1 {W : World} {B : Nat} {c0 : Value} (h0 : W.cell? ⟨B, 0, none⟩ = some c0) :
    ∀ j u, [c0][j]? = some u → W.cell? ((⟨B, 0, none⟩ : Addr).add j) = some u := by
  intro j u hj
  have hadd : (⟨B, 0, none⟩ : Addr).add j = ⟨B, j, none⟩ := by unfold Addr.add; split <;> simp_all
  rw [hadd]
  match j, hj with
  | 0, hj => simp at hj; rw [← hj]; exact h0

/-- What a call of a task leaves. -/
def Told (rv rc : Nat) (ids : List Nat) (k : Nat) (v : Value) (w w' : World) : Prop :=
  (∃ v', RecI rv rc (ids ++ [k]) v' w' ∧ (v'.ownBlock = v.ownBlock ∨ ∃ g', v'.ownBlock = some g' ∧ w.heap.size ≤ g')) ∧ Fr (fun b => b = rc ∨ some b = v.ownBlock) w w'

set_option maxHeartbeats 1600000 in
theorem task_any (rv rc ib k : Nat) (ids : List Nat) (v : Value) (w : World) (hp : ids.length < 1048576) (h : RecI rv rc ids v w) (hk : w.cell? ⟨ib, 0, none⟩ = some (.int .i64 k)) :
    Calls Yba.prog 15 #[.pointer none, .pointer (some ⟨rv, 0, none⟩), .pointer (some ⟨ib, 0, none⟩)] w fun e w' => e = .returned (.tuple #[]) ∧ Told rv rc ids k v w w' := by
  obtain ⟨hvar, hcell, hown⟩ := h
  obtain ⟨i0, hi, hz0, hz1, hz2⟩ := info3'
  have c1 := hvar.cell (i := 0) (by omega)
  have c2 := hcell.cell (i := 0) (by omega)
  have f2 := hcell.frozen 0
  have HV : Hid (w.rowIs rv 88 1 (fun _ => .pointer (some ⟨rc, 0, none⟩))) := hvar
  have HC : Hid (w.rowIs rc 91 1 (fun _ => v)) := hcell
  have HO : Hid (w.ownsRow 0 3 1 v ids.length (ints ids)) := hown
  have hlr := hcell.lt
  have hlv := hvar.lt
  have hli := World.block_lt_of_cell? _ _ hk
  simp only at hli
  clear hvar hcell hown
  go_enter Yba.func15, Yba.ntmps15
  go_region_law (first | (refine step_append_lies _ rfl (.tmp 8) (.tmp 10) 89 rfl 0 3 i0 _ 1 8 Yba.underlying89 hi hz0 hz1 hz2 rfl (by decide) v ids.length _ rfl (by exact HO.out.alloc _) ⟨w.heap.size, 0, none⟩ 1 1 [.int .i64 k] rfl rfl (news1 (by simp)) (by simp [Value.oneCell']) (by decide) (by unfold maxLen; omega) (by omega) (by omega) _ rfl ?_; intro g' cap w1 hown1 hgrow hat hlt1; have hr1 := (HC.out.alloc _).drew.of_block (hgrow.block rc (HC.out.alloc _).drew.lt (own_ne HO.out HC.out (by decide))); have hv1 := (HV.out.alloc _).drew.of_block (hgrow.block rv (HV.out.alloc _).drew.lt (own_ne HO.out HV.out (by decide))); have q1 := hr1.cell (i := 0) (by omega); have q2 := hr1.frozen; have q3 := hv1.cell (i := 0) (by omega); have HR1 : Hid (w1.rowIs rc 91 1 (fun _ => v)) := hr1; have HV1 : Hid (w1.rowIs rv 88 1 (fun _ => .pointer (some ⟨rc, 0, none⟩))) := hv1; have HOW : Hid (w1.ownsRow 0 3 1 (.slice (some ⟨g', 0, none⟩) (ids.length + 1) cap) (ids.length + 1) ((ints ids) ++ [.int .i64 k])) := hown1; have HGR : Hid _ := hgrow; have HAT : Hid _ := hat; clear hr1 hv1 hown1 hgrow hat hlt1))
  all_goals
    go_end0
    have hne := own_ne HOW.out HR1.out (by decide)
    have hnr := rowIs_ne HV1.out HR1.out (by decide)
    refine ⟨rfl, ⟨.slice (some ⟨g', 0, none⟩) (ids.length + 1) cap, ⟨HV1.out.setOther hnr _, (HR1.out.set 0 _).congr (fun j hj => if_pos (by omega)), ?_⟩, ?_⟩, ?_⟩
    · rw [ints_push, List.length_append]
      exact own_block HOW.out fun k hk => blk_setCell_other _ _ _ _ (fun e => hne (by rw [hk, e]))
    · rcases HAT.out with h1 | h1
      · exact .inl h1.symm
      · exact .inr ⟨g', rfl, by rw [h1]; simp⟩
    · exact (((((Fr.refl (fun b => b = rc ∨ some b = v.ownBlock) w).alloc _).drew.grown HGR.out (fun k hk _ => .inr hk.symm)).setCell (fun _ => .inl rfl) _))

/-- A cell of a row of ints. -/
theorem own_int {w : World} {base g n cap : Nat} {l : List Nat} (h : w.ownsRow base 3 1 (.slice (some ⟨g, 0, none⟩) n cap) n (ints l)) (j : Nat) (hj : j < l.length) : w.cell? ⟨g, j, none⟩ = some (.int .i64 (l.getD j 0 : Nat)) ∧ j < n := by
  obtain ⟨h1, h2⟩ := h
  have hl : l.length = n := by simpa [ints] using h1
  rcases h2 with ⟨h3, _⟩ | ⟨g', cap', cur, hv, _, hg, _, _, hs, ht⟩
  · simp at h3
  · simp only [Value.slice.injEq, Option.some.injEq, Addr.mk.injEq, and_true, true_and] at hv
    obtain ⟨rfl, rfl⟩ := hv
    refine ⟨?_, by omega⟩
    have e : cur.toList[j]? = (ints l)[j]? := by rw [← ht, List.getElem?_take_of_lt (by omega)]
    have e2 : (ints l)[j]? = some (.int .i64 (l.getD j 0 : Nat)) := by simp [ints, List.getD, hj]
    rw [e2] at e
    simp only [World.cell?, hg]
    simpa using e

set_option maxHeartbeats 1600000 in
/-- The id that a task tells. -/
theorem bid_any (rv rc ib k : Nat) (ids : List Nat) (v : Value) (w : World) (hp : ids.length < 1048576) (h : RecI rv rc ids v w) (hk : w.cell? ⟨ib, 0, none⟩ = some (.int .i64 k)) :
    Calls Yba.prog 19 #[.pointer (some ⟨rc, 0, none⟩), taskV rv ib] w fun e w' => e = .returned (.int .i64 k) ∧ Told rv rc ids k v w w' := by
  have HT : Hid _ := fun W h1 h2 => task_any rv rc ib k ids v W hp h1 h2
  have c2 := h.cell.cell (i := 0) (by omega)
  have HR : Hid (RecI rv rc ids v w) := h
  have hv : ∃ a cap, v = .slice a ids.length cap := by
    rcases h.own.2 with ⟨rfl, h0⟩ | ⟨g, cap, cur, rfl, _⟩
    · rw [h0]; exact ⟨_, _, rfl⟩
    · exact ⟨_, _, rfl⟩
  obtain ⟨a, cap, hv⟩ := hv
  have hqf := fun W => run_eql_func Yba.underlying92 (.func 15) #[] #[.pointer (some ⟨rv, 0, none⟩), .pointer (some ⟨ib, 0, none⟩)] W
  unfold taskV
  clear h
  subst hv
  go_enter Yba.func19, Yba.ntmps19
  go_wp2_with fail
  refine (HT.out w HR.out hk).mono ?_
  rintro e w1 ⟨rfl, ⟨v', hr, hv'⟩, hf⟩
  obtain ⟨g, cap', hvf, _, _⟩ := World.ownsRow.form hr.own (by simp)
  subst hvf
  obtain ⟨hx, hx2⟩ := own_int hr.own ids.length (by simp)
  have d2 := hr.cell.cell (i := 0) (by omega)
  rw [show (ids ++ [k]).getD ids.length 0 = k from by simp [List.getD]] at hx
  rw [show (ids ++ [k]).length = ids.length + 1 from by simp] at d2
  have HE : Hid (Told rv rc ids k (.slice a ids.length cap) w w1) := ⟨⟨_, hr, hv'⟩, hf⟩
  have hil : (ids.length : Int) < (ids.length : Int) + 1 := by omega
  clear hr hv' hf hx2
  go_wp2_with fail
  go_ret
  exact ⟨rfl, HE.out⟩

theorem rowIs_any (w : World) (c : Array Value) (t : TypeId) {n : Nat} (hn : c.size = n) : (w.alloc (.cells c t)).rowIs w.heap.size t n (fun k => c.getD k undef) := by
  have h := World.rowIs_alloc w c t (fun k => c.getD k undef) (fun i hi => by simp [Array.getD, hi])
  rwa [hn] at h

/-- newProcessor. -/
theorem newProc_any (c : Nat) (hc : c ≤ 1048576) (w : World) :
    Calls Yba.prog 14 #[.int .i64 0, .int .i64 c] w fun e w' => ∃ B T R, e = .returned (.pointer (some ⟨B, 0, none⟩)) ∧ QM B T R c (fun _ => .nilFunc) (fun _ => .pointer none) false 0 w' ∧ w.heap.size ≤ B ∧ w.heap.size ≤ T ∧ w.heap.size ≤ R ∧ Below w.heap.size w w' := by
  go_enter Yba.func14, Yba.ntmps14
  go_wp2_with fail
  refine (newQueue_any c hc w).mono ?_
  rintro e w1 ⟨bt, bg, rfl, hrt, hrg, hbt, hbg, hne, hbel⟩
  go_wp2_with fail
  have hZ : Yba.zeroCells99.size = 75 := by kernel_rfl
  generalize Yba.zeroCells99 = Z at *
  go_ret
  have hr := rowIs_any w1 ((((((Z.setIfInBounds 0 (.int .i64 0)).setIfInBounds 1 (.slice (some ⟨bt, 0, none⟩) (2 * c) (2 * c))).setIfInBounds 2 (.slice (some ⟨bg, 0, none⟩) (2 * c) (2 * c))).setIfInBounds 3 (.int .i64 c)).setIfInBounds 4 (.bool false)).setIfInBounds 5 (.int .u64 0)) 99 (n := 75) (by simp [hZ])
  have hl1 := hrt.lt
  have hl2 := hrg.lt
  refine ⟨w1.heap.size, bt, bg, rfl, ⟨⟨_, hr, ?_, ?_, ?_, ?_, ?_⟩, hrt.alloc _, hrg.alloc _, ⟨by omega, by omega, hne⟩⟩, hbel.size, hbt, hbg, hbel.alloc hbel.size _⟩
  all_goals simp [Array.getD, hZ]
end Go.Proofs.Ybulkctey
