/-
  SEAT b4739aF. CONTRACTS: the block's name; the first validator outside; slices.Equal of a slice and itself.
-/
import Derived.Test.YbulkctcuFmtRows
import Derived.WalkKit
import Derived.WalkSpells
import Derived.Laws.BytesArg
import Derived.Deep.OwnRows
import Derived.Deep.QuietTactic
import Derived.BigQuiet
namespace Go.Proofs.YbulkctcuFmt
open Go.RowKit

/-- The name of block i. -/
def nameOf (i : Nat) : ByteArray := strOfNums [98, (i : Int)]

theorem nameOf_inj {i j : Nat} (hi : i < 256) (hj : j < 256) (h : nameOf i = nameOf j) : i = j := by
  have h1 := congrArg (fun s : ByteArray => s.data.toList) h
  simp only [nameOf, strOfNums_data, List.map_cons, List.map_nil, List.cons.injEq, and_true, true_and] at h1
  have h2 := congrArg UInt8.toNat h1
  simp at h2
  omega

set_option maxHeartbeats 400000 in
theorem name_any (i : Nat) (hi : i < 256) (w : World) :
    Calls Ybaf.prog 7 #[.int .i64 i] w fun e w' => e = .returned (.string (nameOf i)) ∧ w' = w.alloc (.cells #[.int .u8 98, .int .u8 i] 5) := by
  have hcv := run_convert_bytes_arg (P := Ybaf.prog) (w.alloc (.cells #[.int .u8 98, .int .u8 i] 5)) 62 5 Ybaf.underlying62 Ybaf.underlying5 w.heap.size 0 2 2 [98, (i : Int)] rfl
    (fun j hj => by
      have : j = 0 ∨ j = 1 := by omega
      rcases this with rfl | rfl <;> simp) 9 Ybaf.underlying9
  rw [show strOfNums [98, (i : Int)] = nameOf i from rfl] at hcv
  go_enter Ybaf.func7, Ybaf.ntmps7
  go_wp2
  go_ret
  exact ⟨rfl, rfl⟩

/-- Is x outside 0 .. n-1? -/
def outB (n x : Int) : Bool := decide (x < 0) || decide (n ≤ x)

theorem test_any (n x : Int) (b : Nat) (w : World) (hc : w.cell? ⟨b, 0, none⟩ = some (.int .i64 n)) :
    Calls Ybaf.prog 15 #[.int .i64 x, .pointer (some ⟨b, 0, none⟩)] w fun e w' => e = .returned (.bool (outB n x)) ∧ w' = w := by
  by_cases h : x < 0
  · have ho : outB n x = true := by simp [outB, h]
    rw [ho]
    go_enter Ybaf.func15, Ybaf.ntmps15
    go_wp2
    go_ret
    exact ⟨rfl, rfl⟩
  · have ho : outB n x = decide (n ≤ x) := by simp [outB, h]
    rw [ho]
    go_enter Ybaf.func15, Ybaf.ntmps15
    go_wp2
    go_ret
    exact ⟨rfl, rfl⟩

/-- A slice of ints, as the walk meets it: its numbers; where it begins, if it holds any. -/
structure Ints (w : World) (a : Option Addr) (b o : Nat) (xs : List Int) : Prop where
  at' : 0 < xs.length → a = some ⟨b, o, none⟩
  lt : 0 < xs.length → b < w.heap.size
  cell : ∀ j, j < xs.length → w.cell? ⟨b, o + j, none⟩ = some (.int .i64 (xs.getD j 0))
  len : xs.length ≤ 17592186044416

theorem Ints.below {w w' : World} {a : Option Addr} {b o : Nat} {xs : List Int} (h : Ints w a b o xs) (hb : Below w.heap.size w w') : Ints w' a b o xs :=
  ⟨h.at', fun h0 => Nat.lt_of_lt_of_le (h.lt h0) hb.size, fun j hj => (hb.cell (h.lt (by omega))).trans (h.cell j hj), h.len⟩

/-- The first index whose number is outside, or -1. -/
def badIdx (n : Int) (xs : List Int) : Int := match xs.findIdx? (outB n) with | some i => (i : Int) | none => -1

theorem getD_eq (xs : List Int) (j : Nat) (h : j < xs.length) : xs.getD j 0 = xs[j] := by simp [List.getD, h]
theorem badIdx_at {n : Int} {xs : List Int} {k : Nat} (hk : k < xs.length) (hall : ∀ j, j < k → outB n (xs.getD j 0) = false) (hb : outB n (xs.getD k 0) = true) : badIdx n xs = (k : Int) := by
  have : xs.findIdx? (outB n) = some k := by
    rw [List.findIdx?_eq_some_iff_getElem]
    refine ⟨hk, by rw [← getD_eq xs k hk]; exact hb, fun j hj => ?_⟩
    have := hall j hj
    rw [getD_eq xs j (by omega)] at this
    simp [this]
  simp [badIdx, this]
theorem badIdx_none {n : Int} {xs : List Int} (hall : ∀ j, j < xs.length → outB n (xs.getD j 0) = false) : badIdx n xs = -1 := by
  have : xs.findIdx? (outB n) = none := by
    rw [List.findIdx?_eq_none_iff]
    intro x hx
    obtain ⟨j, hj, rfl⟩ := List.mem_iff_getElem.1 hx
    have := hall j hj
    rw [getD_eq xs j hj] at this
    exact this
  simp [badIdx, this]

set_option maxHeartbeats 400000 in
theorem indexFunc_any (n : Int) (a : Option Addr) (b o c bn : Nat) (xs : List Int) (w : World) (hx : Ints w a b o xs) (hc : w.cell? ⟨bn, 0, none⟩ = some (.int .i64 n)) :
    Calls Ybaf.prog 14 #[.slice a xs.length c, .func (.func 15) #[] #[.pointer (some ⟨bn, 0, none⟩)]] w fun e w' => e = .returned (.int .i64 (badIdx n xs)) ∧ w' = w := by
  have hlen := hx.len
  have HX : Hid (Ints w a b o xs) := hx
  clear hx
  go_enter Ybaf.func14, Ybaf.ntmps14
  go_wp2
  go_loop [8] (fun i => ∃ k : Nat, k ≤ xs.length ∧ i = .int .i64 k ∧ ∀ j, j < k → outB n (xs.getD j 0) = false) (fun i => xs.length - (intOf i).toNat)
  case atStart => exact ⟨0, Nat.zero_le _, rfl, fun j hj => absurd hj (by omega)⟩
  case round =>
    obtain ⟨k, hk, rfl, hall⟩ := hrel
    have HA : Hid (∀ j, j < k → outB n (xs.getD j 0) = false) := hall
    clear hall
    by_cases hlt : k < xs.length
    · obtain rfl := HX.out.at' (by omega)
      obtain ⟨x, hxk⟩ : ∃ x, x = xs.getD k 0 := ⟨_, rfl⟩
      have hcell := HX.out.cell k hlt
      rw [← hxk] at hcell
      have HK : Hid (x = xs.getD k 0) := hxk
      clear hxk
      go_wp2_with fail
      refine (test_any n x bn w hc).mono ?_
      rintro e w' ⟨rfl, rfl⟩
      cases hb : outB n x with
      | true =>
        have HR : Hid (badIdx n xs = (k : Int)) := badIdx_at hlt HA.out (by rw [← HK.out]; exact hb)
        go_wp2
        go_ret
        exact ⟨by rw [HR.out]; rfl, rfl⟩
      | false =>
        go_wp2
        go_round
        case rel =>
          refine ⟨k + 1, by omega, by go_num, fun j hj => ?_⟩
          by_cases hjk : j = k
          · subst hjk; rw [← HK.out]; exact hb
          · exact HA.out j (by omega)
        case measure => simp [intOf]; omega
    · have HR : Hid (badIdx n xs = -1) := badIdx_none (fun j hj => HA.out j (by omega))
      go_wp2
      go_ret
      exact ⟨by rw [HR.out]; rfl, rfl⟩

/-- Is any number outside? -/
def anyOut (n : Int) (xs : List Int) : Bool := xs.any (outB n)

set_option maxHeartbeats 400000 in
theorem firstOutside_any (n : Int) (a : Option Addr) (b o c : Nat) (xs : List Int) (w : World) (hx : Ints w a b o xs) :
    Calls Ybaf.prog 12 #[.slice a xs.length c, .int .i64 n] w fun e w' => (∃ v, e = .returned (.tuple #[.int .i64 v, .bool (anyOut n xs)])) ∧ w' = w.alloc (.cells #[.int .i64 n] 3) := by
  have hlen := hx.len
  have hx' : Ints (w.alloc (.cells #[.int .i64 n] 3)) a b o xs := hx.below ((Below.refl _ _).alloc (Nat.le_refl _) _)
  have HX : Hid (Ints (w.alloc (.cells #[.int .i64 n] 3)) a b o xs) := hx'
  have HI := fun cc => indexFunc_any n a b o cc w.heap.size xs (w.alloc (.cells #[.int .i64 n] 3)) hx' (by simp)
  have HC : Hid _ := HI
  clear hx hx' HI
  cases hb : anyOut n xs with
  | false =>
    have HR : Hid (badIdx n xs = -1) := badIdx_none (fun j hj => by
      have := List.any_eq_false.1 hb (xs.getD j 0) (by rw [getD_eq xs j hj]; exact List.getElem_mem _)
      simpa using this)
    go_enter Ybaf.func12, Ybaf.ntmps12
    go_wp2_with fail
    refine (HC.out _).mono ?_
    rintro e w' ⟨rfl, rfl⟩
    rw [HR.out]
    go_wp2
    go_ret2
    exact ⟨⟨_, rfl⟩, rfl⟩
  | true =>
    obtain ⟨k, hk, HR, x, hcell⟩ : ∃ k : Nat, k < xs.length ∧ Hid (badIdx n xs = (k : Int)) ∧ ∃ x, (w.alloc (.cells #[.int .i64 n] 3)).cell? ⟨b, o + k, none⟩ = some (.int .i64 x) := by
      cases hf : xs.findIdx? (outB n) with
      | none =>
        rw [List.findIdx?_eq_none_iff] at hf
        obtain ⟨x, hx, hy⟩ := List.any_eq_true.1 hb
        rw [hf x hx] at hy; cases hy
      | some k =>
        have hk := (List.findIdx?_eq_some_iff_getElem.1 hf).1
        exact ⟨k, hk, by show badIdx n xs = _; simp [badIdx, hf], _, HX.out.cell k hk⟩
    obtain rfl := HX.out.at' (by omega)
    have hkl : (k : Int) < (xs.length : Int) := by omega
    go_enter Ybaf.func12, Ybaf.ntmps12
    go_wp2_with fail
    refine (HC.out _).mono ?_
    rintro e w' ⟨rfl, rfl⟩
    rw [HR.out]
    go_wp2
    go_ret2
    exact ⟨⟨_, rfl⟩, rfl⟩

set_option maxHeartbeats 400000 in
/-- slices.Equal of two slices over one row. -/
theorem equal_any (a : Option Addr) (b o c : Nat) (xs : List Int) (w : World) (hx : Ints w a b o xs) :
    Calls Ybaf.prog 13 #[.slice a xs.length c, .slice a xs.length c] w fun e w' => e = .returned (.bool true) ∧ ∃ n, w' = w.drewN n := by
  have hlen := hx.len
  have HX : Hid (Ints w a b o xs) := hx
  clear hx
  go_enter Ybaf.func13, Ybaf.ntmps13
  go_wp2
  go_loopw [13] (fun i wr => ∃ k : Nat, k ≤ xs.length ∧ i = .int .i64 k ∧ ∃ n, wr = w.drewN n) (fun i _ => xs.length - (intOf i).toNat)
  case atStart => exact ⟨0, Nat.zero_le _, rfl, 0, rfl⟩
  case round =>
    obtain ⟨k, hk, rfl, nd, rfl⟩ := hrel
    by_cases hlt : k < xs.length
    · obtain rfl := HX.out.at' (by omega)
      have hcell := HX.out.cell k hlt
      have hkl : (k : Int) < (xs.length : Int) := by omega
      go_wp2
      go_quiet (fail)
      go_wp2
      go_roundw
      case rel => exact ⟨k + 1, by omega, by go_num, nd + nq, by simp [World.drewN]⟩
      case measure => simp [intOf]; omega
    · go_wp2
      go_ret
      exact ⟨rfl, _, rfl⟩
end Go.Proofs.YbulkctcuFmt
