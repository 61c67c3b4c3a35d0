/-
  SEAT b4743a. QUEUE: put.
-/
import Derived.Test.YbulkcteyMem
namespace Go.Proofs.Ybulkctey
open Go.RowKit Go.Deep

/-- A call that turns nothing, inside a region behind other draws. -/
theorem quiet2 {P : Program} {f : FuncId} {args : Array Value} {w : World} {v : Value} {nd x : Nat} (h : Calls P f args (w.drewN (nd + x)) fun e w' => e = .returned v ∧ w' = w.drewN (nd + x)) :
    Calls P f args (w.drewN (nd + x)) fun e w'' => e = .returned v ∧ ∃ n, w'' = w.drewN (nd + n) := h.mono fun _ _ ⟨he, hm⟩ => ⟨he, x, hm⟩

/-- A function value is stored. -/
theorem store_func {P : Program} {W : World} {b i : Nat} {u : Value} (fn : Fn) (xs ys : Array Value) (h : W.cell? ⟨b, i, none⟩ = some u) (hz : W.frozen? ⟨b, i, none⟩ = false) : (store ⟨b, i, none⟩ (.func fn xs ys)).run P W = .ok () (W.setCell ⟨b, i, none⟩ (.func fn xs ys)) := by
  rw [run_store _ _ _ _ _ rfl, h, hz]; rfl

theorem slot_said (r c t s : Nat) (hs : s < 4) (w : World) : Calls Yba.prog 26 #[.int .u64 (word r c t s)] w fun e w' => e = .returned (.int .u64 (s : Int)) ∧ w' = w := by
  have h := slot_any (word r c t s) (word_lt r c t s hs) w
  rwa [word_slot r c t s hs] at h

set_option maxHeartbeats 800000 in
/-- put where the slot holds a task and the ring is full: false. -/
theorem put_full (B T R c cl t : Nat) (tk gk : Nat → Value) (nt : Bool) (v g : Value) (w : World) (hg : gap t cl = c + 1) (hq : QM B T R c tk gk nt (word cl cl t 1) w) :
    Calls Yba.prog 31 #[.pointer (some ⟨B, 1, none⟩), .agg #[v, g]] w fun e w' => e = .returned (.bool false) ∧ Fr (fun _ => False) w w' := by
  have HS : Hid _ := fun W => slot_said cl cl t 1 (by omega) W
  have HL : Hid (∀ W, Calls Yba.prog 30 #[.int .u64 (word cl cl t 1)] W fun e w' => e = .returned (.int .i64 (c : Int)) ∧ w' = W) := fun W => by
    have h := ringLen_full cl cl t 1 (by omega) (by omega) W
    rw [hg] at h
    rwa [show ((c + 1 : Nat) : Int) - 1 = (c : Int) from by omega] at h
  have hq' := hq.alloc (.cells #[v, g] 95)
  have hc3 := hq'.c3
  have hc5 := hq'.c5
  have HF : Hid (Fr (fun _ => False) w (w.alloc (.cells #[v, g] 95))) := (Fr.refl _ w).alloc _
  generalize word cl cl t 1 = X at *
  clear hg hq hq'
  go_enter Yba.func31, Yba.ntmps31
  go_wp2
  generalize w.alloc (.cells #[v, g] 95) = W at *
  go_loopw [5] (fun _ wr => wr = W) (fun _ _ => 0)
  case atStart => rfl
  case round =>
    subst hrel
    go_wp2_with fail
    refine (load_any B 1 X _ hc5).mono ?_
    rintro e w' ⟨rfl, rfl⟩
    go_wp2_with fail
    go_quiet (first | (go_at_call 26; exact Calls.quiet_of_same (HS.out _)) | (go_at_call 30; exact Calls.quiet_of_same (HL.out _)))
    go_wp2
    go_ret
    exact ⟨rfl, HF.out.drewN _⟩

theorem gap_sub (t cl : Nat) (ht : t < 1048576) (hl : cl ≤ t) : gap t cl = t - cl := by unfold gap; omega
theorem tail_said (r c t s : Nat) (hs : s < 4) (ht : t < 1048576) (w : World) : Calls Yba.prog 25 #[.int .u64 (word r c t s)] w fun e w' => e = .returned (.int .u32 (t : Int)) ∧ w' = w := by
  have h := tail_any (word r c t s) (word_lt r c t s hs) w
  rwa [word_tail r c t s hs, Nat.mod_eq_of_lt ht] at h
theorem claimed_said (r c t s : Nat) (hc : c < 1048576) (w : World) : Calls Yba.prog 23 #[.int .u64 (word r c t s)] w fun e w' => e = .returned (.int .u32 (c : Int)) ∧ w' = w := by
  have h := claimed_any (word r c t s) w
  rwa [word_claimed r c t s, Nat.mod_eq_of_lt hc] at h
theorem released_said (r c t s : Nat) (hr : r < 1048576) (w : World) : Calls Yba.prog 28 #[.int .u64 (word r c t s)] w fun e w' => e = .returned (.int .u32 (r : Int)) ∧ w' = w := by
  have h := released_any (word r c t s) w
  rwa [word_released r c t s, Nat.mod_eq_of_lt hr] at h
theorem inUse_said (r c t s : Nat) (hs : s < 4) (ht : t < 1048576) (hl : r ≤ t) (w : World) : Calls Yba.prog 36 #[.int .u64 (word r c t s)] w fun e w' => e = .returned (.int .i64 ((t - r : Nat) : Int)) ∧ w' = w := by
  have h := inUse_any r c t s hs w
  rwa [gap_sub t r ht hl] at h

/-- What put leaves. -/
def Putted (B T R c i : Nat) (tk gk : Nat → Value) (nt : Bool) (v g : Value) (y : Nat) (w w' : World) : Prop :=
  (∃ nt', (nt' = false → nt = false ∧ g = .pointer none) ∧ QM B T R c (fun j => if j = i then v else tk j) (fun j => if j = i then g else gk j) nt' y w') ∧ Fr (fun b => b = B ∨ b = T ∨ b = R) w w'

theorem putted_nil {B T R c i : Nat} {tk gk : Nat → Value} {nt : Bool} {v : Value} {x y : Nat} {w w1 : World} (hq : QM B T R c (fun j => if j = i then v else tk j) gk nt x w1) (hf : Fr (fun b => b = B ∨ b = T ∨ b = R) w w1) (hi : gk i = .pointer none) :
    Putted B T R c i tk gk nt v (.pointer none) y w (w1.setCell ⟨B, 5, none⟩ (.int .u64 y)) := by
  refine ⟨⟨nt, fun h => ⟨h, rfl⟩, ?_⟩, hf.setCell (fun _ => .inl rfl) _⟩
  have h := hq.setWord y
  exact ⟨h.p, h.t, h.g.congr fun j _ => by by_cases e : j = i <;> simp [e, hi], h.ne⟩
theorem putted_some {B T R c i : Nat} {tk gk : Nat → Value} {nt : Bool} {v g : Value} {x y : Nat} {w w1 : World} (hq : QM B T R c (fun j => if j = i then v else tk j) (fun j => if j = i then g else gk j) true x w1) (hf : Fr (fun b => b = B ∨ b = T ∨ b = R) w w1) :
    Putted B T R c i tk gk nt v g y w (w1.setCell ⟨B, 5, none⟩ (.int .u64 y)) :=
  ⟨⟨true, ⟨fun h => absurd h (by simp), hq.setWord y⟩⟩, hf.setCell (fun _ => .inl rfl) _⟩

set_option maxHeartbeats 1600000 in
/-- put where there is room, the slot empty. -/
theorem put_room0 (B T R c cl t : Nat) (tk gk : Nat → Value) (nt : Bool) (fn : Fn) (xs ys : Array Value) (ga : Option Addr) (w : World) (hc : Cap c) (ht : t < 1048575) (hl : cl ≤ t) (hr : t - cl < 2 * c) (hgi : gk (t % (2 * c)) = .pointer none) (hq : QM B T R c tk gk nt (word cl cl t 0) w) :
    Calls Yba.prog 31 #[.pointer (some ⟨B, 1, none⟩), .agg #[.func fn xs ys, .pointer ga]] w fun e w' => e = .returned (.bool true) ∧ Putted B T R c (t % (2 * c)) tk gk nt (.func fn xs ys) (.pointer ga) (word cl cl (t + 1) 1) w w' := by
  have HS : Hid _ := fun W => slot_said cl cl t 0 (by omega) W
  have HU : Hid _ := fun W => inUse_said cl cl t 0 (by omega) (by omega) hl W
  have HT : Hid _ := fun W => tail_said cl cl t 0 (by omega) (by omega) W
  have HC : Hid _ := fun W => claimed_said cl cl t 0 (by omega) W
  have HR : Hid _ := fun W => released_said cl cl t 0 (by omega) W
  have HCE : Hid _ := fun W a h => cell_any B 1 c t a hc (by omega) W h
  have HPK : Hid _ := fun W => packState_any cl cl (t + 1) 1 (by omega) (by omega) (by omega) (by omega) W
  have HQ : Hid _ := hq.alloc (.cells #[.func fn xs ys, .pointer ga] 95)
  have HF : Hid (Fr (fun b => b = B ∨ b = T ∨ b = R) w (w.alloc (.cells #[.func fn xs ys, .pointer ga] 95))) := (Fr.refl _ w).alloc _
  have hlB := hq.ltB
  have hlT := hq.t.lt
  have hlR := hq.g.lt
  have hc1 := HQ.out.c1
  have hc3 := HQ.out.c3
  have hc5 := HQ.out.c5
  have hcc : 2 ≤ c ∧ c ≤ 32 := by rcases hc with rfl | rfl | rfl | rfl | rfl <;> omega
  have hne : (((t - cl : Nat) : Int) == 2 * (c : Int)) = false := by rw [beq_eq_false_iff_ne]; omega
  obtain ⟨i, hi⟩ : ∃ i, i = t % (2 * c) := ⟨_, rfl⟩
  have hib : (i : Int) < 2 * (c : Int) := by have := Nat.mod_lt t (show 0 < 2 * c by omega); omega
  rw [← hi] at hgi HCE ⊢
  have he0 : (w.alloc (.cells #[.func fn xs ys, .pointer ga] 95)).cell? ⟨w.heap.size, 0, none⟩ = some (.func fn xs ys) := by simp
  have he1 : (w.alloc (.cells #[.func fn xs ys, .pointer ga] 95)).cell? ⟨w.heap.size, 1, none⟩ = some (.pointer ga) := by simp
  generalize word cl cl t 0 = X at *
  generalize word cl cl (t + 1) 1 = Y at *
  clear hq hc hi hr
  go_enter Yba.func31, Yba.ntmps31
  go_wp2
  generalize w.alloc (.cells #[.func fn xs ys, .pointer ga] 95) = W at *
  go_loopw [5] (fun _ wr => wr = W) (fun _ _ => 0)
  case atStart => rfl
  case round =>
    subst hrel
    go_wp2_with fail
    refine (load_any B 1 X _ hc5).mono ?_
    rintro e w' ⟨rfl, rfl⟩
    go_wp2_with fail
    go_quiet ((go_at_call 26; exact Calls.quiet_of_same (HS.out _)))
    go_wp2_with fail
    go_quiet (first | (go_at_call 26; exact quiet2 (HS.out _)) | (go_at_call 36; exact quiet2 (HU.out _)))
    go_wp2_with fail
    generalize hW2 : World.drewN _ _ = W2
    have HQ2 : Hid (QM B T R c tk gk nt X W2) := by show QM B T R c tk gk nt X W2; rw [← hW2]; exact HQ.out.drewN _
    have HF2 : Hid (Fr (fun b => b = B ∨ b = T ∨ b = R) w W2) := by show Fr (fun b => b = B ∨ b = T ∨ b = R) w W2; rw [← hW2]; exact HF.out.drewN _
    have he0 : W2.cell? ⟨w.heap.size, 0, none⟩ = some (.func fn xs ys) := by rw [← hW2]; exact he0
    have he1 : W2.cell? ⟨w.heap.size, 1, none⟩ = some (.pointer ga) := by rw [← hW2]; exact he1
    clear hW2 HQ HF hc1 hc3 hc5
    have hc1 := HQ2.out.c1
    refine (HT.out _).mono ?_
    rintro e w' ⟨rfl, rfl⟩
    go_wp2_with fail
    refine (HCE.out _ _ hc1).mono ?_
    rintro e w' ⟨rfl, rfl⟩
    have hst := store_func (P := Yba.prog) (W := w'.drew) fn xs ys (HQ2.out.t.drew.cell (show i < 2 * c by omega)) (HQ2.out.t.drew.frozen i)
    go_wp2_with fail
    go_region
    generalize hW3 : World.drew _ = W3
    have HQ3 : Hid (QM B T R c (fun j => if j = i then .func fn xs ys else tk j) gk nt X W3) := by show QM _ _ _ _ _ _ _ _ _; rw [← hW3]; exact (HQ2.out.setTask i _).drewN 1
    have HF3 : Hid (Fr (fun b => b = B ∨ b = T ∨ b = R) w W3) := by show Fr _ _ _; rw [← hW3]; exact (HF2.out.setCell (fun _ => .inr (.inl rfl)) _).drew
    have he1 : W3.cell? ⟨w.heap.size, 1, none⟩ = some (.pointer ga) := by
      rw [← hW3]
      show (w'.setCell _ _).cell? _ = _
      rw [World.cell?_of_block (w := w') (blk_setCell_other _ _ _ _ (by show w.heap.size ≠ T; omega))]; exact he1
    clear hW3 HQ2 HF2 hc1 he0 hst
    have hc5 := HQ3.out.c5
    have hz5 := HQ3.out.fz 5
    cases ga with
    | none =>
      go_wp2_with fail
      refine (HR.out _).mono ?_
      rintro e w' ⟨rfl, rfl⟩
      go_wp2_with fail
      refine (HC.out _).mono ?_
      rintro e w' ⟨rfl, rfl⟩
      go_wp2_with fail
      refine (HT.out _).mono ?_
      rintro e w' ⟨rfl, rfl⟩
      go_wp2_with fail
      rw [show (t : Int) + 1 = ((t + 1 : Nat) : Int) from by omega]
      refine (HPK.out _).mono ?_
      rintro e w' ⟨rfl, rfl⟩
      go_wp2_with fail
      refine (swap_any B 1 X Y _ hc5 hz5).mono ?_
      rintro e w' ⟨rfl, rfl⟩
      go_wp2
      go_ret
      exact ⟨rfl, putted_nil HQ3.out HF3.out hgi⟩
    | some ad =>
      have hc2 := HQ3.out.c2
      have hgc : W3.cell? ⟨R, i, none⟩ = some (gk i) := HQ3.out.g.cell (by omega)
      have hgz : W3.frozen? ⟨R, i, none⟩ = false := HQ3.out.g.frozen i
      go_wp2_with fail
      go_region
      generalize hW4 : World.drew _ = W4
      have HQ4 : Hid (QM B T R c (fun j => if j = i then .func fn xs ys else tk j) (fun j => if j = i then .pointer (some ad) else gk j) nt X W4) := by show QM _ _ _ _ _ _ _ _ _; rw [← hW4]; exact (HQ3.out.setGroup i _).drewN 1
      have HF4 : Hid (Fr (fun b => b = B ∨ b = T ∨ b = R) w W4) := by show Fr _ _ _; rw [← hW4]; exact (HF3.out.setCell (fun _ => .inr (.inr rfl)) _).drew
      clear hW4 HQ3 HF3 hc2 he1 hgc hgz hc5 hz5
      have hc4 := HQ4.out.c4
      have hz4 := HQ4.out.fz 4
      have HQ5 : Hid _ := HQ4.out.setNoted
      have HF5 : Hid _ := HF4.out.setCell (a := ⟨B, 4, none⟩) (fun _ => .inl rfl) (.bool true)
      go_wp2_with fail
      refine (HR.out _).mono ?_
      rintro e w' ⟨rfl, rfl⟩
      go_wp2_with fail
      refine (HC.out _).mono ?_
      rintro e w' ⟨rfl, rfl⟩
      go_wp2_with fail
      refine (HT.out _).mono ?_
      rintro e w' ⟨rfl, rfl⟩
      go_wp2_with fail
      rw [show (t : Int) + 1 = ((t + 1 : Nat) : Int) from by omega]
      refine (HPK.out _).mono ?_
      rintro e w' ⟨rfl, rfl⟩
      go_wp2_with fail
      refine (swap_any B 1 X Y _ HQ5.out.c5 (HQ5.out.fz 5)).mono ?_
      rintro e w' ⟨rfl, rfl⟩
      go_wp2
      go_ret
      exact ⟨rfl, putted_some HQ5.out HF5.out⟩

set_option maxHeartbeats 1600000 in
/-- put where there is room, the slot full. -/
theorem put_room1 (B T R c cl t : Nat) (tk gk : Nat → Value) (nt : Bool) (fn : Fn) (xs ys : Array Value) (ga : Option Addr) (w : World) (hc : Cap c) (ht : t < 1048575) (hl : cl ≤ t) (hr : t - cl ≤ c) (hgi : gk (t % (2 * c)) = .pointer none) (hq : QM B T R c tk gk nt (word cl cl t 1) w) :
    Calls Yba.prog 31 #[.pointer (some ⟨B, 1, none⟩), .agg #[.func fn xs ys, .pointer ga]] w fun e w' => e = .returned (.bool true) ∧ Putted B T R c (t % (2 * c)) tk gk nt (.func fn xs ys) (.pointer ga) (word cl cl (t + 1) 1) w w' := by
  have HS : Hid _ := fun W => slot_said cl cl t 1 (by omega) W
  have HU : Hid _ := fun W => inUse_said cl cl t 1 (by omega) (by omega) hl W
  have HT : Hid _ := fun W => tail_said cl cl t 1 (by omega) (by omega) W
  have HC : Hid _ := fun W => claimed_said cl cl t 1 (by omega) W
  have HR : Hid _ := fun W => released_said cl cl t 1 (by omega) W
  have HL : Hid (∀ W, Calls Yba.prog 30 #[.int .u64 (word cl cl t 1)] W fun e w' => e = .returned (.int .i64 (((t - cl : Nat) : Int) - 1)) ∧ w' = W) := fun W => by
    have h := ringLen_full cl cl t 1 (by omega) (by omega) W
    rwa [gap_sub t cl (by omega) hl] at h
  have HCE : Hid _ := fun W a h => cell_any B 1 c t a hc (by omega) W h
  have HPK : Hid _ := fun W => packState_any cl cl (t + 1) 1 (by omega) (by omega) (by omega) (by omega) W
  have HQ : Hid _ := hq.alloc (.cells #[.func fn xs ys, .pointer ga] 95)
  have HF : Hid (Fr (fun b => b = B ∨ b = T ∨ b = R) w (w.alloc (.cells #[.func fn xs ys, .pointer ga] 95))) := (Fr.refl _ w).alloc _
  have hlB := hq.ltB
  have hlT := hq.t.lt
  have hlR := hq.g.lt
  have hc1 := HQ.out.c1
  have hc3 := HQ.out.c3
  have hc5 := HQ.out.c5
  have hcc : 2 ≤ c ∧ c ≤ 32 := by rcases hc with rfl | rfl | rfl | rfl | rfl <;> omega
  have hne : (((t - cl : Nat) : Int) == 2 * (c : Int)) = false := by rw [beq_eq_false_iff_ne]; omega
  have hne2 : (((t - cl : Nat) : Int) - 1 == (c : Int)) = false := by rw [beq_eq_false_iff_ne]; omega
  obtain ⟨i, hi⟩ : ∃ i, i = t % (2 * c) := ⟨_, rfl⟩
  have hib : (i : Int) < 2 * (c : Int) := by have := Nat.mod_lt t (show 0 < 2 * c by omega); omega
  rw [← hi] at hgi HCE ⊢
  have he0 : (w.alloc (.cells #[.func fn xs ys, .pointer ga] 95)).cell? ⟨w.heap.size, 0, none⟩ = some (.func fn xs ys) := by simp
  have he1 : (w.alloc (.cells #[.func fn xs ys, .pointer ga] 95)).cell? ⟨w.heap.size, 1, none⟩ = some (.pointer ga) := by simp
  generalize word cl cl t 1 = X at *
  generalize word cl cl (t + 1) 1 = Y at *
  clear hq hc hi hr
  go_enter Yba.func31, Yba.ntmps31
  go_wp2
  generalize w.alloc (.cells #[.func fn xs ys, .pointer ga] 95) = W at *
  go_loopw [5] (fun _ wr => wr = W) (fun _ _ => 0)
  case atStart => rfl
  case round =>
    subst hrel
    go_wp2_with fail
    refine (load_any B 1 X _ hc5).mono ?_
    rintro e w' ⟨rfl, rfl⟩
    go_wp2_with fail
    go_quiet (first | (go_at_call 26; exact Calls.quiet_of_same (HS.out _)) | (go_at_call 30; exact Calls.quiet_of_same (HL.out _)))
    go_wp2_with fail
    go_quiet (first | (go_at_call 26; exact quiet2 (HS.out _)) | (go_at_call 36; exact quiet2 (HU.out _)))
    go_wp2_with fail
    generalize hW2 : World.drewN _ _ = W2
    have HQ2 : Hid (QM B T R c tk gk nt X W2) := by show QM B T R c tk gk nt X W2; rw [← hW2]; exact HQ.out.drewN _
    have HF2 : Hid (Fr (fun b => b = B ∨ b = T ∨ b = R) w W2) := by show Fr (fun b => b = B ∨ b = T ∨ b = R) w W2; rw [← hW2]; exact HF.out.drewN _
    have he0 : W2.cell? ⟨w.heap.size, 0, none⟩ = some (.func fn xs ys) := by rw [← hW2]; exact he0
    have he1 : W2.cell? ⟨w.heap.size, 1, none⟩ = some (.pointer ga) := by rw [← hW2]; exact he1
    clear hW2 HQ HF hc1 hc3 hc5
    have hc1 := HQ2.out.c1
    refine (HT.out _).mono ?_
    rintro e w' ⟨rfl, rfl⟩
    go_wp2_with fail
    refine (HCE.out _ _ hc1).mono ?_
    rintro e w' ⟨rfl, rfl⟩
    have hst := store_func (P := Yba.prog) (W := w'.drew) fn xs ys (HQ2.out.t.drew.cell (show i < 2 * c by omega)) (HQ2.out.t.drew.frozen i)
    go_wp2_with fail
    go_region
    generalize hW3 : World.drew _ = W3
    have HQ3 : Hid (QM B T R c (fun j => if j = i then .func fn xs ys else tk j) gk nt X W3) := by show QM _ _ _ _ _ _ _ _ _; rw [← hW3]; exact (HQ2.out.setTask i _).drewN 1
    have HF3 : Hid (Fr (fun b => b = B ∨ b = T ∨ b = R) w W3) := by show Fr _ _ _; rw [← hW3]; exact (HF2.out.setCell (fun _ => .inr (.inl rfl)) _).drew
    have he1 : W3.cell? ⟨w.heap.size, 1, none⟩ = some (.pointer ga) := by
      rw [← hW3]
      show (w'.setCell _ _).cell? _ = _
      rw [World.cell?_of_block (w := w') (blk_setCell_other _ _ _ _ (by show w.heap.size ≠ T; omega))]; exact he1
    clear hW3 HQ2 HF2 hc1 he0 hst
    have hc5 := HQ3.out.c5
    have hz5 := HQ3.out.fz 5
    cases ga with
    | none =>
      go_wp2_with fail
      refine (HR.out _).mono ?_
      rintro e w' ⟨rfl, rfl⟩
      go_wp2_with fail
      refine (HC.out _).mono ?_
      rintro e w' ⟨rfl, rfl⟩
      go_wp2_with fail
      refine (HT.out _).mono ?_
      rintro e w' ⟨rfl, rfl⟩
      go_wp2_with fail
      rw [show (t : Int) + 1 = ((t + 1 : Nat) : Int) from by omega]
      refine (HPK.out _).mono ?_
      rintro e w' ⟨rfl, rfl⟩
      go_wp2_with fail
      refine (swap_any B 1 X Y _ hc5 hz5).mono ?_
      rintro e w' ⟨rfl, rfl⟩
      go_wp2
      go_ret
      exact ⟨rfl, putted_nil HQ3.out HF3.out hgi⟩
    | some ad =>
      have hc2 := HQ3.out.c2
      have hgc : W3.cell? ⟨R, i, none⟩ = some (gk i) := HQ3.out.g.cell (by omega)
      have hgz : W3.frozen? ⟨R, i, none⟩ = false := HQ3.out.g.frozen i
      go_wp2_with fail
      go_region
      generalize hW4 : World.drew _ = W4
      have HQ4 : Hid (QM B T R c (fun j => if j = i then .func fn xs ys else tk j) (fun j => if j = i then .pointer (some ad) else gk j) nt X W4) := by show QM _ _ _ _ _ _ _ _ _; rw [← hW4]; exact (HQ3.out.setGroup i _).drewN 1
      have HF4 : Hid (Fr (fun b => b = B ∨ b = T ∨ b = R) w W4) := by show Fr _ _ _; rw [← hW4]; exact (HF3.out.setCell (fun _ => .inr (.inr rfl)) _).drew
      clear hW4 HQ3 HF3 hc2 he1 hgc hgz hc5 hz5
      have hc4 := HQ4.out.c4
      have hz4 := HQ4.out.fz 4
      have HQ5 : Hid _ := HQ4.out.setNoted
      have HF5 : Hid _ := HF4.out.setCell (a := ⟨B, 4, none⟩) (fun _ => .inl rfl) (.bool true)
      go_wp2_with fail
      refine (HR.out _).mono ?_
      rintro e w' ⟨rfl, rfl⟩
      go_wp2_with fail
      refine (HC.out _).mono ?_
      rintro e w' ⟨rfl, rfl⟩
      go_wp2_with fail
      refine (HT.out _).mono ?_
      rintro e w' ⟨rfl, rfl⟩
      go_wp2_with fail
      rw [show (t : Int) + 1 = ((t + 1 : Nat) : Int) from by omega]
      refine (HPK.out _).mono ?_
      rintro e w' ⟨rfl, rfl⟩
      go_wp2_with fail
      refine (swap_any B 1 X Y _ HQ5.out.c5 (HQ5.out.fz 5)).mono ?_
      rintro e w' ⟨rfl, rfl⟩
      go_wp2
      go_ret
      exact ⟨rfl, putted_some HQ5.out HF5.out⟩

end Go.Proofs.Ybulkctey
