/-
  SEAT b4743a. CONTRACTS: the word's parts; the atomic cell; release.
-/
import Derived.Test.YbulkcteyRows
import Derived.Test.YbulkcteyBits
import Derived.WalkKit
import Derived.WalkSpells
import Derived.Deep.OwnRows
namespace Go.Proofs.Ybulkctey
open Go.RowKit

theorem ret_int {k : IntKind} {a b : Int} (h : a = b) : Ending.returned (.int k a) = .returned (.int k b) := by rw [h]

set_option maxHeartbeats 400000 in
theorem pack_any (r c t s : Nat) (hr : r < 4294967296) (hc : c < 4294967296) (ht : t < 4294967296) (hs : s < 4) (w : World) :
    Calls Yba.prog 9 #[.int .u32 r, .int .u32 c, .int .u32 t, .int .u64 s] w fun e w' => e = .returned (.int .u64 (word r c t s)) ∧ w' = w := by
  go_enter Yba.func9, Yba.ntmps9
  go_wp2
  go_ret
  exact ⟨ret_int (word_bits r c t s hr hc ht hs), rfl⟩

set_option maxHeartbeats 400000 in
theorem packState_any (r c t s : Nat) (hr : r < 4294967296) (hc : c < 4294967296) (ht : t < 4294967296) (hs : s < 4) (w : World) :
    Calls Yba.prog 17 #[.int .u32 r, .int .u32 c, .int .u32 t, .int .u64 s] w fun e w' => e = .returned (.int .u64 (word r c t s)) ∧ w' = w := by
  go_enter Yba.func17, Yba.ntmps17
  go_wp2
  go_ret
  exact ⟨ret_int (word_bits r c t s hr hc ht hs), rfl⟩

theorem claimed_any (x : Nat) (w : World) :
    Calls Yba.prog 23 #[.int .u64 x] w fun e w' => e = .returned (.int .u32 (x / 1048576 % 1048576 : Nat)) ∧ w' = w := by
  go_enter Yba.func23, Yba.ntmps23
  go_wp2
  go_ret
  exact ⟨ret_int (claimed_bits x), rfl⟩

theorem tail_any (x : Nat) (hx : x < 4611686018427387904) (w : World) :
    Calls Yba.prog 25 #[.int .u64 x] w fun e w' => e = .returned (.int .u32 (x / 4398046511104 % 1048576 : Nat)) ∧ w' = w := by
  go_enter Yba.func25, Yba.ntmps25
  go_wp2
  go_ret
  exact ⟨ret_int (tail_bits x hx), rfl⟩

theorem slot_any (x : Nat) (hx : x < 4611686018427387904) (w : World) :
    Calls Yba.prog 26 #[.int .u64 x] w fun e w' => e = .returned (.int .u64 (x / 1099511627776 % 4 : Nat)) ∧ w' = w := by
  go_enter Yba.func26, Yba.ntmps26
  go_wp2
  go_ret
  exact ⟨ret_int (slot_bits x (by omega)), rfl⟩

theorem released_any (x : Nat) (w : World) :
    Calls Yba.prog 28 #[.int .u64 x] w fun e w' => e = .returned (.int .u32 (x % 1048576 : Nat)) ∧ w' = w := by
  go_enter Yba.func28, Yba.ntmps28
  go_wp2
  go_ret
  exact ⟨ret_int (released_bits x), rfl⟩

theorem run_atomicLoad {a : Addr} {x : Int} {w : World} (hc : w.cell? a = some (.int .u64 x)) : (callFunc 27 #[.pointer (some a)]).run Yba.prog w = .ok (.value (.int .u64 x)) w :=
  run_call_load (fn := Yba.f27) Yba.func27 (by kernel_rfl) (by kernel_rfl) (by kernel_rfl) .u64 (by kernel_rfl) hc
theorem run_atomicStore {a : Addr} {y : Int} {u : Value} {w : World} (hc : w.cell? a = some u) (hz : w.frozen? a = false) :
    (callFunc 21 #[.pointer (some a), .int .u64 y]).run Yba.prog w = .ok (.value (.tuple #[])) (w.setCell a (.int .u64 y)) :=
  run_call_store (fn := Yba.f21) Yba.func21 (by kernel_rfl) (by kernel_rfl) (by kernel_rfl) (by kernel_rfl) hc hz
theorem run_atomicCas {a : Addr} {x y : Int} {w : World} (hc : w.cell? a = some (.int .u64 x)) (hz : w.frozen? a = false) :
    (callFunc 45 #[.pointer (some a), .int .u64 x, .int .u64 y]).run Yba.prog w = .ok (.value (.bool true)) (w.setCell a (.int .u64 y)) :=
  run_call_cas_hit (fn := Yba.f45) Yba.func45 (by kernel_rfl) (by kernel_rfl) (by kernel_rfl) .u64 (by kernel_rfl) hc hz

theorem atomicLoad_any (b o : Nat) (x : Int) (w : World) (hc : w.cell? ⟨b, o, none⟩ = some (.int .u64 x)) :
    Calls Yba.prog 11 #[.pointer (some ⟨b, o, none⟩)] w fun e w' => e = .returned (.int .u64 x) ∧ w' = w := by
  have hl := run_atomicLoad hc
  go_enter Yba.func11, Yba.ntmps11
  go_wp2
  go_ret
  exact ⟨rfl, rfl⟩

theorem atomicStore_any (b o : Nat) (y : Int) (u : Value) (w : World) (hc : w.cell? ⟨b, o, none⟩ = some u) (hz : w.frozen? ⟨b, o, none⟩ = false) :
    Calls Yba.prog 8 #[.pointer (some ⟨b, o, none⟩), .int .u64 y] w fun e w' => e = .returned (.tuple #[]) ∧ w' = w.setCell ⟨b, o, none⟩ (.int .u64 y) := by
  have hl := run_atomicStore (y := y) hc hz
  go_enter Yba.func8, Yba.ntmps8
  go_wp2
  go_end0
  exact ⟨rfl, rfl⟩

theorem atomicCas_any (b o : Nat) (x y : Int) (w : World) (hc : w.cell? ⟨b, o, none⟩ = some (.int .u64 x)) (hz : w.frozen? ⟨b, o, none⟩ = false) :
    Calls Yba.prog 34 #[.pointer (some ⟨b, o, none⟩), .int .u64 x, .int .u64 y] w fun e w' => e = .returned (.bool true) ∧ w' = w.setCell ⟨b, o, none⟩ (.int .u64 y) := by
  have hl := run_atomicCas (y := y) hc hz
  go_enter Yba.func34, Yba.ntmps34
  go_wp2
  go_ret
  exact ⟨rfl, rfl⟩

theorem load_any (b o : Nat) (x : Int) (w : World) (hc : w.cell? ⟨b, o + 4, none⟩ = some (.int .u64 x)) :
    Calls Yba.prog 22 #[.pointer (some ⟨b, o, none⟩)] w fun e w' => e = .returned (.int .u64 x) ∧ w' = w := by
  go_enter Yba.func22, Yba.ntmps22
  go_wp2_with (go_at_call 11; refine (atomicLoad_any _ _ _ _ hc).mono ?_; rintro e w' ⟨rfl, rfl⟩)
  go_ret
  exact ⟨rfl, rfl⟩

theorem swap_any (b o : Nat) (x y : Int) (w : World) (hc : w.cell? ⟨b, o + 4, none⟩ = some (.int .u64 x)) (hz : w.frozen? ⟨b, o + 4, none⟩ = false) :
    Calls Yba.prog 24 #[.pointer (some ⟨b, o, none⟩), .int .u64 x, .int .u64 y] w fun e w' => e = .returned (.bool true) ∧ w' = w.setCell ⟨b, o + 4, none⟩ (.int .u64 y) := by
  go_enter Yba.func24, Yba.ntmps24
  go_wp2_with (go_at_call 34; refine (atomicCas_any _ _ _ _ _ hc hz).mono ?_; rintro e w' ⟨rfl, rfl⟩)
  go_ret
  exact ⟨rfl, rfl⟩

set_option maxHeartbeats 400000 in
/-- release: the released count is set to the claimed count. -/
theorem release_any (b o r c t s : Nat) (hs : s < 4) (w : World) (hx : w.cell? ⟨b, o + 4, none⟩ = some (.int .u64 (word r c t s))) (hz : w.frozen? ⟨b, o + 4, none⟩ = false) :
    Calls Yba.prog 10 #[.pointer (some ⟨b, o, none⟩)] w fun e w' => e = .returned (.tuple #[]) ∧ w' = w.setCell ⟨b, o + 4, none⟩ (.int .u64 (word c c t s)) := by
  have hw := word_lt r c t s hs
  have HC : Hid _ := word_claimed r c t s
  have HT : Hid _ := word_tail r c t s hs
  have HS : Hid _ := word_slot r c t s hs
  have HM : Hid (word (c % 1048576) (c % 1048576) (t % 1048576) s = word c c t s) := word_mod c c t s
  generalize word r c t s = X at *
  generalize word c c t s = Y at *
  go_enter Yba.func10, Yba.ntmps10
  go_wp2
  go_loop [2] (fun _ => True) (fun _ => 0)
  case atStart => trivial
  case round =>
    go_wp2_with fail
    refine (load_any b o X w hx).mono ?_
    rintro e w' ⟨rfl, rfl⟩
    go_wp2_with fail
    refine (claimed_any X _).mono ?_
    rintro e w' ⟨rfl, rfl⟩
    rw [HC.out]
    go_wp2_with fail
    refine (tail_any X hw _).mono ?_
    rintro e w' ⟨rfl, rfl⟩
    rw [HT.out]
    go_wp2_with fail
    refine (slot_any X hw _).mono ?_
    rintro e w' ⟨rfl, rfl⟩
    rw [HS.out]
    go_wp2_with fail
    refine (packState_any (c % 1048576) (c % 1048576) (t % 1048576) s (by omega) (by omega) (by omega) hs _).mono ?_
    rintro e w' ⟨rfl, rfl⟩
    rw [HM.out]
    go_wp2_with fail
    refine (swap_any b o X Y _ hx hz).mono ?_
    rintro e w' ⟨rfl, rfl⟩
    go_wp2
    exact bodyPost_ret (results_none rfl _ _ _) rfl ⟨rfl, rfl⟩

end Go.Proofs.Ybulkctey
