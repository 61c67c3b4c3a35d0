/-
  SEAT b4743a. CONTRACTS: queued, ringLen, claimHalf; THE WALK OF LawS4743AAfterClaimHalf.
-/
import Derived.Test.YbulkcteyState
namespace Go.Proofs.Ybulkctey
open Go.RowKit

/-- tail less claimed, as a count. -/
def gap (t c : Nat) : Nat := (t % 1048576 + 1048576 - c % 1048576) % 1048576

theorem gap_lt (t c : Nat) : gap t c < 1048576 := by unfold gap; omega
theorem gap_bits (t c : Nat) : wrap64 (bits .and .u32 (((t : Int) % 1048576 - (c : Int) % 1048576) % 4294967296) 1048575) = ((gap t c : Nat) : Int) := by
  have e : ((t : Int) % 1048576 - (c : Int) % 1048576) % 4294967296 = (((t % 1048576 + 4294967296 - c % 1048576) % 4294967296 : Nat) : Int) := by omega
  rw [e, and20 _ (by omega)]
  unfold gap wrap64
  omega

set_option maxHeartbeats 400000 in
theorem queued_any (r c t s : Nat) (hs : s < 4) (w : World) :
    Calls Yba.prog 35 #[.int .u64 (word r c t s)] w fun e w' => e = .returned (.int .i64 (gap t c)) ∧ w' = w := by
  have hw := word_lt r c t s hs
  have HC : Hid _ := word_claimed r c t s
  have HT : Hid _ := word_tail r c t s hs
  generalize word r c t s = X at *
  go_enter Yba.func35, Yba.ntmps35
  go_wp2_with fail
  refine (tail_any X hw _).mono ?_
  rintro e w' ⟨rfl, rfl⟩
  rw [HT.out]
  go_wp2_with fail
  refine (claimed_any X _).mono ?_
  rintro e w' ⟨rfl, rfl⟩
  rw [HC.out]
  go_wp2
  go_ret
  exact ⟨ret_int (gap_bits t c), rfl⟩

set_option maxHeartbeats 400000 in
/-- An empty slot: the ring holds all that is queued. -/
theorem ringLen_empty (r c t : Nat) (w : World) :
    Calls Yba.prog 30 #[.int .u64 (word r c t 0)] w fun e w' => e = .returned (.int .i64 (gap t c)) ∧ w' = w := by
  have hw := word_lt r c t 0 (by omega)
  have HS : Hid _ := word_slot r c t 0 (by omega)
  have HQ : Hid _ := fun W => queued_any r c t 0 (by omega) W
  generalize word r c t 0 = X at *
  go_enter Yba.func30, Yba.ntmps30
  go_wp2_with fail
  refine (slot_any X hw _).mono ?_
  rintro e w' ⟨rfl, rfl⟩
  rw [HS.out]
  go_wp2_with fail
  refine (HQ.out _).mono ?_
  rintro e w' ⟨rfl, rfl⟩
  go_wp2
  go_ret
  exact ⟨rfl, rfl⟩

set_option maxHeartbeats 400000 in
/-- A slot that is not empty: one less. -/
theorem ringLen_full (r c t s : Nat) (h0 : 0 < s) (hs : s < 4) (w : World) :
    Calls Yba.prog 30 #[.int .u64 (word r c t s)] w fun e w' => e = .returned (.int .i64 ((gap t c : Int) - 1)) ∧ w' = w := by
  have hw := word_lt r c t s hs
  have HS : Hid _ := word_slot r c t s hs
  have HQ : Hid _ := fun W => queued_any r c t s hs W
  have hg := gap_lt t c
  generalize word r c t s = X at *
  generalize gap t c = G at *
  go_enter Yba.func30, Yba.ntmps30
  go_wp2_with fail
  refine (slot_any X hw _).mono ?_
  rintro e w' ⟨rfl, rfl⟩
  rw [HS.out]
  go_wp2_with fail
  refine (HQ.out _).mono ?_
  rintro e w' ⟨rfl, rfl⟩
  go_wp2
  go_ret
  exact ⟨rfl, rfl⟩

set_option maxHeartbeats 400000 in
/-- claimHalf on a settled queue with an empty slot and an empty ring: nothing. -/
theorem claimHalf_none (b o c t : Nat) (hk : gap t c = 0) (w : World) (hx : w.cell? ⟨b, o + 4, none⟩ = some (.int .u64 (word c c t 0))) :
    Calls Yba.prog 13 #[.pointer (some ⟨b, o, none⟩)] w fun e w' => e = .returned (.tuple #[.int .u32 0, .int .i64 0]) ∧ w' = w := by
  have HC : Hid _ := word_claimed c c t 0
  have HR : Hid _ := word_released c c t 0
  have HL : Hid _ := fun W => ringLen_empty c c t W
  rw [hk] at HL
  generalize word c c t 0 = X at *
  clear hk
  go_enter Yba.func13, Yba.ntmps13
  go_wp2
  go_loop [2, 3] (fun _ _ => True) (fun _ _ => 0)
  case atStart => trivial
  case round =>
    go_wp2_with fail
    refine (load_any b o X w hx).mono ?_
    rintro e w' ⟨rfl, rfl⟩
    go_wp2_with fail
    refine (claimed_any X _).mono ?_
    rintro e w' ⟨rfl, rfl⟩
    rw [HC.out]
    go_wp2_with fail
    refine (released_any X _).mono ?_
    rintro e w' ⟨rfl, rfl⟩
    rw [HR.out]
    go_wp2_with fail
    refine (HL.out _).mono ?_
    rintro e w' ⟨rfl, rfl⟩
    go_wp2
    go_ret2
    exact ⟨rfl, rfl⟩

set_option maxHeartbeats 400000 in
/-- claimHalf on a settled queue with an empty slot and k tasks in the ring: the half, rounded up. -/
theorem claimHalf_some (b o c t k : Nat) (hc : c < 1048576) (hk : gap t c = k) (h0 : 0 < k) (w : World) (hx : w.cell? ⟨b, o + 4, none⟩ = some (.int .u64 (word c c t 0))) (hz : w.frozen? ⟨b, o + 4, none⟩ = false) :
    Calls Yba.prog 13 #[.pointer (some ⟨b, o, none⟩)] w fun e w' => e = .returned (.tuple #[.int .u32 c, .int .i64 ((k + 1) / 2 : Nat)]) ∧ w' = w.setCell ⟨b, o + 4, none⟩ (.int .u64 (word c (c + (k + 1) / 2) t 0)) := by
  have hw := word_lt c c t 0 (by omega)
  have HC : Hid (word c c t 0 / 1048576 % 1048576 = c) := (word_claimed c c t 0).trans (Nat.mod_eq_of_lt hc)
  have HR : Hid (word c c t 0 % 1048576 = c) := (word_released c c t 0).trans (Nat.mod_eq_of_lt hc)
  have HT : Hid _ := word_tail c c t 0 (by omega)
  have HS : Hid _ := word_slot c c t 0 (by omega)
  have HL : Hid _ := fun W => ringLen_empty c c t W
  have hg := gap_lt t c
  rw [hk] at HL hg
  have HM : Hid (word c (c + (k + 1) / 2) (t % 1048576) 0 = word c (c + (k + 1) / 2) t 0) := by show word _ _ _ _ = word _ _ _ _; unfold word; rw [Nat.mod_mod]
  generalize word c c t 0 = X at *
  generalize word c (c + (k + 1) / 2) t 0 = Y at *
  clear hk
  go_enter Yba.func13, Yba.ntmps13
  go_wp2
  go_loop [2, 3] (fun _ _ => True) (fun _ _ => 0)
  case atStart => trivial
  case round =>
    go_wp2_with fail
    refine (load_any b o X w hx).mono ?_
    rintro e w' ⟨rfl, rfl⟩
    go_wp2_with fail
    refine (claimed_any X _).mono ?_
    rintro e w' ⟨rfl, rfl⟩
    rw [HC.out]
    go_wp2_with fail
    refine (released_any X _).mono ?_
    rintro e w' ⟨rfl, rfl⟩
    rw [HR.out]
    go_wp2_with fail
    refine (HL.out _).mono ?_
    rintro e w' ⟨rfl, rfl⟩
    go_wp2_with fail
    refine (tail_any X hw _).mono ?_
    rintro e w' ⟨rfl, rfl⟩
    rw [HT.out]
    go_wp2_with fail
    refine (slot_any X hw _).mono ?_
    rintro e w' ⟨rfl, rfl⟩
    rw [HS.out]
    go_wp2_with fail
    rw [show (c : Int) + ((k : Int) + 1) / 2 = ((c + (k + 1) / 2 : Nat) : Int) from by omega]
    refine (packState_any c (c + (k + 1) / 2) (t % 1048576) 0 (by omega) (by omega) (by omega) (by omega) _).mono ?_
    rintro e w' ⟨rfl, rfl⟩
    rw [HM.out]
    go_wp2_with fail
    refine (swap_any b o X Y _ hx hz).mono ?_
    rintro e w' ⟨rfl, rfl⟩
    go_wp2
    go_ret2
    exact ⟨by simp, rfl⟩

theorem and19 (c : Nat) (h : c < 4294967296) : bits .and .u32 (c : Int) 524287 = ((c % 524288 : Nat) : Int) := by
  have := u32_and_nat c 524287 h (by omega)
  rw [show ((524287 : Nat) : Int) = 524287 from rfl] at this
  rw [this]
  have h2 : c &&& 524287 = c % 524288 := Nat.and_two_pow_sub_one_eq_mod c 19
  rw [h2]

set_option maxHeartbeats 400000 in
theorem half_any (c kq q : Nat) (hc : c < 4294967296) (hkq : kq < 256) (hq : q < 256) (w : World) :
    Calls Yba.prog 4 #[.int .u32 c, .int .u8 kq, .int .u8 q] w fun e w' => e = .returned (.bool true) ∧ Below w.heap.size w w' := by
  obtain ⟨n, hn1, hn8, hcap⟩ := cap_nat q
  have hm := and19 c hc
  obtain ⟨cm, hcm⟩ : ∃ cm, cm = c % 524288 := ⟨_, rfl⟩
  rw [← hcm] at hm
  have hcl : cm < 524288 := by omega
  obtain ⟨k, hk⟩ : ∃ k, k = kq % (n + 1) := ⟨_, rfl⟩
  have hkn : k ≤ n := by have := Nat.mod_lt kq (show 0 < n + 1 by omega); omega
  have hke : ((kq : Int) % ((n : Int) + 1)) = (k : Int) := by rw [hk]; simp
  clear hk hcm
  have hgap : gap (cm + k) cm = k := by unfold gap; omega
  have HG : Hid (gap (cm + k) cm = k) := hgap
  clear hgap
  go_enter Yba.func4, Yba.ntmps4
  go_wp2_with fail
  refine (newQueue_any n (by omega) _).mono ?_
  rintro e w1 ⟨bt, bg, rfl, hrt, hrg, hbt, hbg, hne, hbel⟩
  have hlt := hrt.lt
  have hlg := hrg.lt
  go_wp2_with fail
  rw [show (cm : Int) + (k : Int) = ((cm + k : Nat) : Int) from by omega]
  refine (pack_any cm cm (cm + k) 0 (by omega) (by omega) (by omega) (by omega) _).mono ?_
  rintro e w' ⟨rfl, rfl⟩
  go_wp2_with fail
  refine (atomicStore_any _ _ _ (.int .u64 0) _ (by simp) (by simp)).mono ?_
  rintro e w' ⟨rfl, rfl⟩
  go_wp2_with fail
  by_cases h0 : k = 0
  · refine (claimHalf_none w1.heap.size 0 cm (cm + k) (by rw [HG.out]; exact h0) _ (by simp)).mono ?_
    rintro e w' ⟨rfl, rfl⟩
    have hk0 : ((k : Int) == 0) = true := by simp [h0]
    clear h0
    go_wp2_with fail
    refine (release_any w1.heap.size 0 cm (cm) (cm + k) 0 (by omega) _ (by simp) (by simp)).mono ?_
    rintro e w' ⟨rfl, rfl⟩
    go_wp2_with fail
    refine (atomicLoad_any w1.heap.size 4 (word (cm) (cm) (cm + k) 0) _ (by simp)).mono ?_
    rintro e w' ⟨rfl, rfl⟩
    go_wp2_with fail
    rw [show (cm : Int) + (k : Int) = ((cm + k : Nat) : Int) from by omega]
    refine (pack_any (cm) (cm) (cm + k) 0 (by omega) (by omega) (by omega) (by omega) _).mono ?_
    rintro e w' ⟨rfl, rfl⟩
    go_wp2_with fail
    refine (untouched_any w1.heap.size bt bg n (by omega) _ (by simp) (by simp) (by simp) (by simp) (hrt.alloc _) (hrg.alloc _)).mono ?_
    rintro e w' ⟨rfl, rfl⟩
    go_wp2
    go_ret
    exact ⟨rfl, hbel.alloc hbel.size _⟩
  · refine (claimHalf_some w1.heap.size 0 cm (cm + k) k (by omega) HG.out (by omega) _ (by simp) (by simp)).mono ?_
    rintro e w' ⟨rfl, rfl⟩
    have hk0 : ((k : Int) == 0) = false := by simp [h0]
    go_wp2_with fail
    refine (release_any w1.heap.size 0 cm (cm + (k + 1) / 2) (cm + k) 0 (by omega) _ (by simp) (by simp)).mono ?_
    rintro e w' ⟨rfl, rfl⟩
    go_wp2_with fail
    refine (atomicLoad_any w1.heap.size 4 (word (cm + (k + 1) / 2) (cm + (k + 1) / 2) (cm + k) 0) _ (by simp)).mono ?_
    rintro e w' ⟨rfl, rfl⟩
    go_wp2_with fail
    rw [show (cm : Int) + (k : Int) = ((cm + k : Nat) : Int) from by omega]
    rw [show (cm : Int) + ((k : Int) + 1) / 2 = ((cm + (k + 1) / 2 : Nat) : Int) from by omega]
    refine (pack_any (cm + (k + 1) / 2) (cm + (k + 1) / 2) (cm + k) 0 (by omega) (by omega) (by omega) (by omega) _).mono ?_
    rintro e w' ⟨rfl, rfl⟩
    go_wp2_with fail
    refine (untouched_any w1.heap.size bt bg n (by omega) _ (by simp) (by simp) (by simp) (by simp) (hrt.alloc _) (hrg.alloc _)).mono ?_
    rintro e w' ⟨rfl, rfl⟩
    go_wp2
    go_ret
    exact ⟨rfl, hbel.alloc hbel.size _⟩
end Go.Proofs.Ybulkctey
