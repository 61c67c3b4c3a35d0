/-
  SEAT b4747a. THE CONTRACT OF (spareTables).keep.
-/
import Derived.Test.YbulkcthcRows
import Derived.Test.YbulkcthcMap
import Derived.WalkKit
import Derived.WalkSpells
import Derived.Deep.OwnRows
namespace Go.Proofs.Ybulkcthc
open Go.RowKit

/-- A table as the law makes it: n tags at bt; no other row. -/
abbrev table (bt n : Nat) : Value := .agg #[.slice (some ⟨bt, 0, none⟩) n n, .slice none 0 0, .slice none 0 0]
abbrev noTable : Value := .agg #[.slice none 0 0, .slice none 0 0, .slice none 0 0]
theorem zero38 (w : World) : (zeroValue 38).run Yba.prog w = .ok noTable w := by kernel_rfl

theorem neq_map (w : World) (r : Option Nat) : (binOp .neq 40 (.map r) (.map none)).run Yba.prog w = .ok (.bool r.isSome) w := by
  have := run_neq_map_nil (P := Yba.prog) w 40 _ _ r Yba.underlying40
  cases r <;> simpa using this
theorem eql_map (w : World) (r : Option Nat) : (binOp .eql 40 (.map r) (.map none)).run Yba.prog w = .ok (.bool r.isNone) w := run_eql_map_nil w 40 _ _ r Yba.underlying40

theorem keep_nil (bt n : Nat) (w : World) :
    Calls Yba.prog 8 #[.map none, table bt n] w fun e w' => e = .returned (.tuple #[]) ∧ Below w.heap.size w w' := by
  have hq := fun W => neq_map W none
  go_enter Yba.func8, Yba.ntmps8
  go_wp2
  go_end0
  exact ⟨rfl, (Below.refl _ _).alloc (Nat.le_refl _) _⟩

theorem keep_out (b bt n : Nat) (hn : n = 0 ∨ 65536 < n) (w : World) :
    Calls Yba.prog 8 #[.map (some b), table bt n] w fun e w' => e = .returned (.tuple #[]) ∧ Below w.heap.size w w' := by
  have hq := fun W => neq_map W (some b)
  rcases hn with h | h
  · subst h
    go_enter Yba.func8, Yba.ntmps8
    go_wp2
    go_end0
    exact ⟨rfl, (Below.refl _ _).alloc (Nat.le_refl _) _⟩
  · have h1 : (0 : Int) < n := by omega
    have h2 : ¬ (n : Int) ≤ 65536 := by omega
    go_enter Yba.func8, Yba.ntmps8
    go_wp2
    go_end0
    exact ⟨rfl, (Below.refl _ _).alloc (Nat.le_refl _) _⟩

/-- A table that is laid in the map ahead of keep: one wide cell at a. -/
abbrev wideT (a : Addr) : Value := .agg #[.slice none 0 0, .slice none 0 0, .slice (some a) 1 1]

set_option maxRecDepth 100000 in
theorem keep_has (b bt n : Nat) (h0 : 0 < n) (h1 : n ≤ 65536) (es : List (Int × Value)) (a : Addr) (ha : alook es (n : Int) = some (wideT a)) (w : World) (hm : mapIs (Value.int .i64) w b es) :
    Calls Yba.prog 8 #[.map (some b), table bt n] w fun e w' => e = .returned (.tuple #[]) ∧ Below w.heap.size w w' := by
  have hq := fun W => neq_map W (some b)
  have hl := (hm.alloc (.cells #[.slice (some ⟨bt, 0, none⟩) n n, .slice none 0 0, .slice none 0 0] 38)).look_ok int_keys Yba.underlying40 Yba.underlying3 (zero38 _) (n : Int)
  rw [ha] at hl
  go_enter Yba.func8, Yba.ntmps8
  go_wp2
  go_end0
  exact ⟨rfl, ((Below.refl _ _).alloc (Nat.le_refl _) _).alloc (by simp) _⟩

set_option maxRecDepth 100000 in
theorem keep_new (b bt n : Nat) (h0 : 0 < n) (h1 : n ≤ 65536) (es : List (Int × Value)) (ha : alook es (n : Int) = none) (w : World) (hm : mapIs (Value.int .i64) w b es) :
    Calls Yba.prog 8 #[.map (some b), table bt n] w fun e w' => e = .returned (.tuple #[]) ∧ mapIs (Value.int .i64) w' b (aput es n (table bt n)) ∧ Below b w w' := by
  have hq := fun W => neq_map W (some b)
  have hlt := hm.lt
  have hl := (hm.alloc (.cells #[.slice (some ⟨bt, 0, none⟩) n n, .slice none 0 0, .slice none 0 0] 38)).look_ok int_keys Yba.underlying40 Yba.underlying3 (zero38 _) (n : Int)
  rw [ha] at hl
  obtain ⟨w1, hrun, hm1, ht1⟩ := ((hm.alloc (.cells #[.slice (some ⟨bt, 0, none⟩) n n, .slice none 0 0, .slice none 0 0] 38)).alloc (.cells #[.slice none 0 0, .slice none 0 0, .slice none 0 0] 38)).store (P := Yba.prog) int_keys Yba.underlying40 Yba.underlying3 (n : Int) (table bt n)
  go_enter Yba.func8, Yba.ntmps8
  go_wp2
  go_end0
  exact ⟨rfl, hm1, (((Below.refl _ _).alloc (by omega) _).alloc (by simp; omega) _).trans (turned_below ht1)⟩
end Go.Proofs.Ybulkcthc
