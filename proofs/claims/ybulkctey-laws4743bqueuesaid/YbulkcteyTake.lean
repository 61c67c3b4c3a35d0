/-
  SEAT b4743a. QUEUE: claimOverflow, removeAt, ownerRemove, takeSlot.
-/
import Derived.Test.YbulkcteyPut
import Derived.Deep.RegionWith
namespace Go.Proofs.Ybulkctey
open Go.RowKit Go.Deep

theorem QM.drew {B T R c : Nat} {tk gk : Nat → Value} {nt : Bool} {x : Nat} {w : World} (h : QM B T R c tk gk nt x w) : QM B T R c tk gk nt x w.drew := h.drewN 1

set_option maxHeartbeats 1600000 in
/-- claimOverflow where the ring is full and the slot holds a task. -/
theorem claimOverflow_any (B T R c cl t : Nat) (tk gk : Nat → Value) (nt : Bool) (w : World) (hc : Cap c) (ht : t < 1048575) (hl : t - cl = c + 1) (hq : QM B T R c tk gk nt (word cl cl t 1) w) :
    Calls Yba.prog 37 #[.pointer (some ⟨B, 1, none⟩)] w fun e w' => e = .returned (.tuple #[.int .u32 cl, .int .i64 ((c / 2 : Nat) : Int), .bool true]) ∧ QM B T R c tk gk nt (word (cl + c / 2) (cl + c / 2) t 1) w' ∧ Fr (fun b => b = B) w w' := by
  have HS : Hid _ := fun W => slot_said cl cl t 1 (by omega) W
  have HT : Hid _ := fun W => tail_said cl cl t 1 (by omega) (by omega) W
  have HC : Hid _ := fun W => claimed_said cl cl t 1 (by omega) W
  have HR : Hid _ := fun W => released_said cl cl t 1 (by omega) W
  have HL : Hid (∀ W, Calls Yba.prog 30 #[.int .u64 (word cl cl t 1)] W fun e w' => e = .returned (.int .i64 (c : Int)) ∧ w' = W) := fun W => by
    have h := ringLen_full cl cl t 1 (by omega) (by omega) W
    rw [gap_sub t cl (by omega) (by omega), hl] at h
    rwa [show ((c + 1 : Nat) : Int) - 1 = (c : Int) from by omega] at h
  have hcc : 2 ≤ c ∧ c ≤ 32 := by rcases hc with rfl | rfl | rfl | rfl | rfl <;> omega
  have HPK : Hid _ := fun W => packState_any (cl + c / 2) (cl + c / 2) t 1 (by omega) (by omega) (by omega) (by omega) W
  have HQ : Hid _ := hq
  have hc3 := hq.c3
  have hc5 := hq.c5
  have hcl : (cl : Int) < 1048576 := by omega
  generalize word cl cl t 1 = X at *
  generalize word (cl + c / 2) (cl + c / 2) t 1 = Y at *
  obtain ⟨n, hn⟩ : ∃ n, n = c / 2 := ⟨_, rfl⟩
  have hn' : (c : Int) / 2 = (n : Int) := by omega
  rw [← hn] at HPK ⊢
  have hn2 : n ≤ 16 := by omega
  clear hq hc ht hl hn
  go_enter Yba.func37, Yba.ntmps37
  go_wp2
  go_loopw [5] (fun _ wr => wr = w) (fun _ _ => 0)
  case atStart => rfl
  case round =>
    subst hrel
    go_wp2_with fail
    refine (load_any B 1 X _ hc5).mono ?_
    rintro e w' ⟨rfl, rfl⟩
    go_wp2_with fail
    go_quiet ((go_at_call 30; exact Calls.quiet_of_same (HL.out _)))
    go_wp2_with fail
    go_quiet ((go_at_call 23; exact quiet2 (HC.out _)))
    go_wp2_with fail
    refine (HR.out _).mono ?_
    rintro e w' ⟨rfl, rfl⟩
    go_wp2_with fail
    refine (HT.out _).mono ?_
    rintro e w' ⟨rfl, rfl⟩
    go_wp2_with fail
    refine (HS.out _).mono ?_
    rintro e w' ⟨rfl, rfl⟩
    go_wp2_with fail
    rw [show (cl : Int) + (n : Int) = ((cl + n : Nat) : Int) from by omega]
    refine (HPK.out _).mono ?_
    rintro e w' ⟨rfl, rfl⟩
    go_wp2_with fail
    refine (swap_any B 1 X Y _ (HQ.out.drewN _).c5 ((HQ.out.drewN _).fz 5)).mono ?_
    rintro e w' ⟨rfl, rfl⟩
    go_wp2
    refine bodyPost_ret (v := .tuple #[.int .u32 cl, .int .i64 n, .bool true]) (by simp [results, Yba.results37, go_sem]) rfl ?_
    exact ⟨rfl, (HQ.out.drewN _).setWord Y, ((Fr.refl (fun b => b = B) _).drewN _).setCell (fun _ => rfl) _⟩

set_option maxHeartbeats 1600000 in
theorem removeAt_any (B T R c i x : Nat) (tk gk : Nat → Value) (nt : Bool) (fn : Fn) (xs ys : Array Value) (ga : Option Addr) (notes : Bool) (w : World) (hc : Cap c) (hi : i < 2 * c) (htk : tk i = .func fn xs ys) (hgk : gk i = .pointer ga) (hn : notes = false → ga = none) (hq : QM B T R c tk gk nt x w) :
    Calls Yba.prog 47 #[.pointer (some ⟨B, 1, none⟩), .int .u32 i, .bool notes] w fun e w' => e = .returned (.agg #[.func fn xs ys, .pointer ga]) ∧ QM B T R c (fun j => if j = i then .nilFunc else tk j) (fun j => if j = i then .pointer none else gk j) nt x w' ∧ Fr (fun b => b = T ∨ b = R) w w' := by
  have hcc : 2 ≤ c ∧ c ≤ 32 := by rcases hc with rfl | rfl | rfl | rfl | rfl <;> omega
  have hi' : (i : Int) < 2 * (c : Int) := by omega
  have hc1 := hq.c1
  have hc2 := hq.c2
  have htc : w.cell? ⟨T, i, none⟩ = some (.func fn xs ys) := by rw [← htk]; exact hq.t.cell hi
  have hgc : w.cell? ⟨R, i, none⟩ = some (.pointer ga) := by rw [← hgk]; exact hq.g.cell hi
  have htz := hq.t.frozen i
  have hgz := hq.g.frozen i
  have hlB := hq.ltB
  have hlT := hq.t.lt
  have hlR := hq.g.lt
  obtain ⟨n1, n2, n3⟩ := hq.ne
  have hsf := fun (W : World) (a : Addr) => run_store Yba.prog W a (.func fn xs ys) .plain rfl
  have hsn := fun (W : World) (a : Addr) => run_store Yba.prog W a .nilFunc .plain rfl
  have HQ : Hid _ := hq
  clear hq hc
  cases notes with
  | false =>
    have := hn rfl
    subst this
    go_enter Yba.func47, Yba.ntmps47
    go_wp2
    refine bodyPost_ret (v := .agg #[.func fn xs ys, .pointer none]) (by simp [results, Yba.results47, go_sem]) rfl ?_
    have hq2 := ((HQ.out.setTask i .nilFunc).alloc (.cells #[.func fn xs ys, .pointer none] 95)).alloc (.cells #[.func fn xs ys, .pointer none] 95)
    exact ⟨rfl, ⟨hq2.p, hq2.t, hq2.g.congr fun j _ => by by_cases e : j = i <;> simp [e, hgk], hq2.ne⟩, ((((Fr.refl (fun b => b = T ∨ b = R) w).setCell (fun _ => .inl rfl) _).alloc _).alloc _)⟩
  | true =>
    cases ga with
    | none =>
      go_enter Yba.func47, Yba.ntmps47
      go_wp2
      refine bodyPost_ret (v := .agg #[.func fn xs ys, .pointer none]) (by simp [results, Yba.results47, go_sem]) rfl ?_
      have hq2 := ((HQ.out.setTask i .nilFunc).alloc (.cells #[.func fn xs ys, .pointer none] 95)).alloc (.cells #[.func fn xs ys, .pointer none] 95)
      exact ⟨rfl, ⟨hq2.p, hq2.t, hq2.g.congr fun j _ => by by_cases e : j = i <;> simp [e, hgk], hq2.ne⟩, ((((Fr.refl (fun b => b = T ∨ b = R) w).setCell (fun _ => .inl rfl) _).alloc _).alloc _)⟩
    | some ad =>
      go_enter Yba.func47, Yba.ntmps47
      go_wp2
      refine bodyPost_ret (v := .agg #[.func fn xs ys, .pointer (some ad)]) (by simp [results, Yba.results47, go_sem]) rfl ?_
      exact ⟨rfl, (((HQ.out.setTask i .nilFunc).setGroup i (.pointer none)).alloc _).alloc _, (((((Fr.refl (fun b => b = T ∨ b = R) w).setCell (fun _ => .inl rfl) _).setCell (fun _ => .inr rfl) _).alloc _).alloc _)⟩

/-- The result's cell is written. -/
theorem entry_end {S : Nat → Prop} {B T R c x : Nat} {tk gk f : Nat → Value} {nt : Bool} {w w' : World} (hq : QM B T R c tk gk nt x w') (hf : Fr S w w') (hr : w'.rowIs w.heap.size 95 2 f) (hB : B < w.heap.size) (hT : T < w.heap.size) (hR : R < w.heap.size) (u v : Value) :
    QM B T R c tk gk nt x ((w'.setCell ⟨w.heap.size, 0, none⟩ u).setCell ⟨w.heap.size, 1, none⟩ v) ∧ Fr S w ((w'.setCell ⟨w.heap.size, 0, none⟩ u).setCell ⟨w.heap.size, 1, none⟩ v) ∧
    ((w'.setCell ⟨w.heap.size, 0, none⟩ u).setCell ⟨w.heap.size, 1, none⟩ v).cell? ⟨w.heap.size, 0, none⟩ = some u ∧ ((w'.setCell ⟨w.heap.size, 0, none⟩ u).setCell ⟨w.heap.size, 1, none⟩ v).cell? ⟨w.heap.size, 1, none⟩ = some v := by
  have hrr := (hr.set 0 u).set 1 v
  have h0 := hrr.cell (i := 0) (by omega)
  have h1 := hrr.cell (i := 1) (by omega)
  simp only [↓reduceIte, Nat.zero_ne_one] at h0 h1
  exact ⟨hq.frame (((Fr.refl (fun b => b = w.heap.size) w').setCell (fun _ => rfl) _).setCell (fun _ => rfl) _) (by omega) (by omega) (by omega),
    (hf.setCell (fun h => absurd h (Nat.lt_irrefl _)) _).setCell (fun h => absurd h (Nat.lt_irrefl _)) _, h0, h1⟩

set_option maxHeartbeats 1600000 in
theorem ownerRemove_any (B T R c k x : Nat) (tk gk : Nat → Value) (nt : Bool) (fn : Fn) (xs ys : Array Value) (ga : Option Addr) (w : World) (hc : Cap c) (hk : k < 4294967296) (htk : tk (k % (2 * c)) = .func fn xs ys) (hgk : gk (k % (2 * c)) = .pointer ga) (hn : nt = false → ga = none) (hq : QM B T R c tk gk nt x w) :
    Calls Yba.prog 40 #[.pointer (some ⟨B, 1, none⟩), .int .u32 k] w fun e w' => e = .returned (.agg #[.func fn xs ys, .pointer ga]) ∧ QM B T R c (fun j => if j = k % (2 * c) then .nilFunc else tk j) (fun j => if j = k % (2 * c) then .pointer none else gk j) nt x w' ∧ Fr (fun b => b = T ∨ b = R) w w' := by
  have hcc : 2 ≤ c ∧ c ≤ 32 := by rcases hc with rfl | rfl | rfl | rfl | rfl <;> omega
  obtain ⟨i, hi⟩ : ∃ i, i = k % (2 * c) := ⟨_, rfl⟩
  have hib : i < 2 * c := by have := Nat.mod_lt k (show 0 < 2 * c by omega); omega
  have HCE : Hid _ := fun W a h => cell_any B 1 c k a hc hk W h
  have HRM : Hid _ := fun W h => removeAt_any B T R c i x tk gk nt fn xs ys ga nt W hc hib (by rw [hi]; exact htk) (by rw [hi]; exact hgk) hn h
  rw [← hi] at HCE ⊢
  have HQ : Hid _ := hq.alloc (.cells #[.nilFunc, .pointer none] 95)
  have HF : Hid (Fr (fun b => b = T ∨ b = R) w (w.alloc (.cells #[.nilFunc, .pointer none] 95))) := (Fr.refl _ w).alloc _
  have hlB := hq.ltB
  have hlt := hq.t.lt
  have hlg := hq.g.lt
  have hc1 := HQ.out.c1
  have hc4 := HQ.out.c4
  have hsf := fun (W : World) (a : Addr) => run_store Yba.prog W a (.func fn xs ys) .plain rfl
  have hbl : w.heap.size < (w.alloc (.cells #[.nilFunc, .pointer none] 95)).heap.size := by simp
  have hr0 : (w.alloc (.cells #[.nilFunc, .pointer none] 95)).rowIs w.heap.size 95 2 (fun j => if j = 0 then .nilFunc else .pointer none) := World.rowIs_alloc w _ 95 _ (by intro j hj; match j, hj with | 0, _ => rfl | 1, _ => rfl)
  have HR0 : Hid ((w.alloc (.cells #[.nilFunc, .pointer none] 95)).rowIs w.heap.size 95 2 (fun j => if j = 0 then .nilFunc else .pointer none)) := hr0
  clear hq hc hi htk hgk hn hr0
  go_enter Yba.func40, Yba.ntmps40
  go_wp2
  generalize w.alloc (.cells #[.nilFunc, .pointer none] 95) = W at *
  go_region_with (first | (go_at_call 18; refine (HCE.out W.drew _ hc1).mono ?_; rintro e w' ⟨rfl, rfl⟩) | (go_at_call 47; refine (HRM.out _ HQ.out.drew).mono ?_; rintro e w' ⟨rfl, hq2, hf2⟩; have hr2 := hf2.row HR0.out.drew (by omega); have hr20 := hr2.cell (i := 0) (by omega); have hr21 := hr2.cell (i := 1) (by omega); have hr2z := hr2.frozen; obtain ⟨HQ2, HF2, HR2⟩ : Hid (QM B T R c (fun j => if j = i then .nilFunc else tk j) (fun j => if j = i then .pointer none else gk j) nt x w') ∧ Hid (Fr (fun b => b = T ∨ b = R) W.drew w') ∧ Hid (w'.rowIs w.heap.size 95 2 (fun j => if j = 0 then .nilFunc else .pointer none)) := ⟨hq2, hf2, hr2⟩; clear hq2 hf2 hr2))
  all_goals
    go_wp2
    obtain ⟨hq3, hf3, h0, h1⟩ := entry_end HQ2.out (HF.out.drew.trans HF2.out) HR2.out hlB hlt hlg (.func fn xs ys) (.pointer ga)
    refine bodyPost_ret (v := .agg #[.func fn xs ys, .pointer ga]) (by simp [results, Yba.results40, go_sem, h0, h1]) rfl ?_
    exact ⟨rfl, hq3, hf3⟩

set_option maxHeartbeats 1600000 in
/-- takeSlot where the slot holds a task. -/
theorem takeSlot_any (B T R c cl t : Nat) (tk gk : Nat → Value) (nt : Bool) (fn : Fn) (xs ys : Array Value) (ga : Option Addr) (w : World) (hc : Cap c) (ht : t < 1048575) (hl : cl < 1048576) (htk : tk (t % (2 * c)) = .func fn xs ys) (hgk : gk (t % (2 * c)) = .pointer ga) (hn : nt = false → ga = none) (hq : QM B T R c tk gk nt (word cl cl (t + 1) 1) w) :
    Calls Yba.prog 38 #[.pointer (some ⟨B, 1, none⟩)] w fun e w' => e = .returned (.agg #[.func fn xs ys, .pointer ga]) ∧ QM B T R c (fun j => if j = t % (2 * c) then .nilFunc else tk j) (fun j => if j = t % (2 * c) then .pointer none else gk j) nt (word cl cl t 0) w' ∧ Fr (fun b => b = B ∨ b = T ∨ b = R) w w' := by
  have HS : Hid _ := fun W => slot_said cl cl (t + 1) 1 (by omega) W
  have HT : Hid _ := fun W => tail_said cl cl (t + 1) 1 (by omega) (by omega) W
  have HC : Hid _ := fun W => claimed_said cl cl (t + 1) 1 hl W
  have HR : Hid _ := fun W => released_said cl cl (t + 1) 1 hl W
  have HPK : Hid _ := fun W => packState_any cl cl t 0 (by omega) (by omega) (by omega) (by omega) W
  have HOR : Hid _ := fun x W h => ownerRemove_any B T R c t x tk gk nt fn xs ys ga W hc (by omega) htk hgk hn h
  obtain ⟨i, hi⟩ : ∃ i, i = t % (2 * c) := ⟨_, rfl⟩
  rw [← hi] at HOR ⊢
  have HQ : Hid _ := hq.alloc (.cells #[.nilFunc, .pointer none] 95)
  have HF : Hid (Fr (fun b => b = B ∨ b = T ∨ b = R) w (w.alloc (.cells #[.nilFunc, .pointer none] 95))) := (Fr.refl _ w).alloc _
  have hlB := hq.ltB
  have hlt := hq.t.lt
  have hlg := hq.g.lt
  have hc5 := HQ.out.c5
  have hz5 := HQ.out.fz 5
  have hsf := fun (W : World) (a : Addr) => run_store Yba.prog W a (.func fn xs ys) .plain rfl
  have HR0 : Hid ((w.alloc (.cells #[.nilFunc, .pointer none] 95)).rowIs w.heap.size 95 2 (fun j => if j = 0 then .nilFunc else .pointer none)) := World.rowIs_alloc w _ 95 _ (by intro j hj; match j, hj with | 0, _ => rfl | 1, _ => rfl)
  generalize word cl cl (t + 1) 1 = X at *
  generalize word cl cl t 0 = Y at *
  clear hq hc hi htk hgk hn
  go_enter Yba.func38, Yba.ntmps38
  go_wp2
  generalize w.alloc (.cells #[.nilFunc, .pointer none] 95) = W at *
  go_loopw [3] (fun _ wr => wr = W) (fun _ _ => 0)
  case atStart => rfl
  case round =>
    subst hrel
    go_wp2_with fail
    refine (load_any B 1 X _ hc5).mono ?_
    rintro e w' ⟨rfl, rfl⟩
    go_wp2_with fail
    refine (HS.out _).mono ?_
    rintro e w' ⟨rfl, rfl⟩
    go_wp2_with fail
    refine (HT.out _).mono ?_
    rintro e w' ⟨rfl, rfl⟩
    go_wp2_with fail
    refine (HR.out _).mono ?_
    rintro e w' ⟨rfl, rfl⟩
    go_wp2_with fail
    refine (HC.out _).mono ?_
    rintro e w' ⟨rfl, rfl⟩
    go_wp2_with fail
    refine (HPK.out _).mono ?_
    rintro e w' ⟨rfl, rfl⟩
    go_wp2_with fail
    refine (swap_any B 1 X Y _ hc5 hz5).mono ?_
    rintro e w' ⟨rfl, rfl⟩
    go_wp2_with fail
    refine (HOR.out Y _ (HQ.out.setWord Y)).mono ?_
    rintro e w' ⟨rfl, hq2, hf2⟩
    have hr2 := hf2.row (HR0.out.setOther (by show w.heap.size ≠ B; omega) _) (by omega)
    have hr20 := hr2.cell (i := 0) (by omega)
    have hr21 := hr2.cell (i := 1) (by omega)
    have hr2z := hr2.frozen
    have HF2 : Hid (Fr (fun b => b = B ∨ b = T ∨ b = R) w w') := (HF.out.setCell (fun _ => .inl rfl) _).trans (hf2.mono fun b _ h => .inr h)
    obtain ⟨HQ2, HR2⟩ : Hid (QM B T R c (fun j => if j = i then .nilFunc else tk j) (fun j => if j = i then .pointer none else gk j) nt Y w') ∧ Hid (w'.rowIs w.heap.size 95 2 (fun j => if j = 0 then .nilFunc else .pointer none)) := ⟨hq2, hr2⟩
    clear hq2 hf2 hr2
    go_wp2
    obtain ⟨hq3, hf3, h0, h1⟩ := entry_end HQ2.out HF2.out HR2.out hlB hlt hlg (.func fn xs ys) (.pointer ga)
    refine bodyPost_ret (v := .agg #[.func fn xs ys, .pointer ga]) (by simp [results, Yba.results38, go_sem, h0, h1]) rfl ?_
    exact ⟨rfl, hq3, hf3⟩
end Go.Proofs.Ybulkctey
