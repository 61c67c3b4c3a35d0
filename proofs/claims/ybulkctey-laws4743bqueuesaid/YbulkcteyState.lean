/-
  SEAT b4743a. THE WALK OF LawS4743AState.
-/
import Derived.Test.YbulkcteyNew
namespace Go.Proofs.Ybulkctey
open Go.RowKit

theorem slotOf_any (s : Nat) (hs : s < 256) (w : World) :
    Calls Yba.prog 6 #[.int .u8 s] w fun e w' => (∃ v : Nat, v < 4 ∧ e = .returned (.int .u64 v)) ∧ w' = w := by
  go_enter Yba.func6, Yba.ntmps6
  go_wp2
  · go_ret; exact ⟨⟨0, by omega, rfl⟩, rfl⟩
  · go_ret; exact ⟨⟨1, by omega, rfl⟩, rfl⟩
  · go_ret; exact ⟨⟨2, by omega, rfl⟩, rfl⟩

theorem cap_nat (q : Nat) : ∃ n : Nat, 1 ≤ n ∧ n ≤ 8 ∧ wrap64 (2 ^ (q % 4)) = (n : Int) := by
  have h : q % 4 = 0 ∨ q % 4 = 1 ∨ q % 4 = 2 ∨ q % 4 = 3 := by omega
  rcases h with h | h | h | h <;> rw [h]
  · exact ⟨1, by omega, by omega, by unfold wrap64; omega⟩
  · exact ⟨2, by omega, by omega, by unfold wrap64; omega⟩
  · exact ⟨4, by omega, by omega, by unfold wrap64; omega⟩
  · exact ⟨8, by omega, by omega, by unfold wrap64; omega⟩

set_option maxHeartbeats 400000 in
theorem state_any (r c t s q : Nat) (hr : r < 4294967296) (hc : c < 4294967296) (ht : t < 4294967296) (hs : s < 256) (hq : q < 256) (w : World) :
    Calls Yba.prog 3 #[.int .u32 r, .int .u32 c, .int .u32 t, .int .u8 s, .int .u8 q] w fun e w' => e = .returned (.bool true) ∧ Below w.heap.size w w' := by
  obtain ⟨n, hn1, hn8, hcap⟩ := cap_nat q
  go_enter Yba.func3, Yba.ntmps3
  go_wp2_with fail
  refine (slotOf_any s hs _).mono ?_
  rintro e w' ⟨⟨v, hv, rfl⟩, rfl⟩
  go_wp2_with fail
  refine (newQueue_any n (by omega) _).mono ?_
  rintro e w1 ⟨bt, bg, rfl, hrt, hrg, hbt, hbg, hne, hbel⟩
  clear hcap
  have hlt := hrt.lt
  have hlg := hrg.lt
  go_wp2_with fail
  refine (pack_any r c t v hr hc ht hv _).mono ?_
  rintro e w' ⟨rfl, rfl⟩
  go_wp2_with fail
  refine (atomicStore_any _ _ _ (.int .u64 0) _ (by simp) (by simp)).mono ?_
  rintro e w' ⟨rfl, rfl⟩
  go_wp2_with fail
  refine (release_any w1.heap.size 0 r c t v hv _ (by simp) (by simp)).mono ?_
  rintro e w' ⟨rfl, rfl⟩
  go_wp2_with fail
  refine (atomicLoad_any w1.heap.size 4 (word c c t v) _ (by simp)).mono ?_
  rintro e w' ⟨rfl, rfl⟩
  go_wp2_with fail
  refine (pack_any c c t v hc hc ht hv _).mono ?_
  rintro e w' ⟨rfl, rfl⟩
  go_wp2_with fail
  refine (untouched_any w1.heap.size bt bg n (by omega) _ (by simp) (by simp) (by simp) (by simp) (hrt.alloc _) (hrg.alloc _)).mono ?_
  rintro e w' ⟨rfl, rfl⟩
  go_wp2
  go_ret
  exact ⟨rfl, hbel.alloc hbel.size _⟩
end Go.Proofs.Ybulkctey
