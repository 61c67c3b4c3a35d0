/-
  SEAT b4739aF. HEAD VOTES IN A ROW; the contract of zzs4739aeq.
-/
import Derived.Test.YbulkctcuFmtSmall
namespace Go.Proofs.YbulkctcuFmt
open Go.RowKit

/-- A head vote: its slot, its validators (a slice value and its numbers), its head. -/
structure HV where
  slot : Int
  a : Option Addr
  b : Nat
  o : Nat
  c : Nat
  xs : List Int
  head : Nat

/-- The vote's three cells. -/
def HV.cells (v : HV) : List Value := [.int .i64 v.slot, .slice v.a v.xs.length v.c, .int .i64 v.head]
def hcells (l : List HV) : List Value := l.flatMap HV.cells

theorem hcells_length (l : List HV) : (hcells l).length = l.length * 3 := by
  induction l with
  | nil => rfl
  | cons v r ih => simp only [hcells, List.flatMap_cons, List.length_append] at ih ⊢; rw [ih]; simp [HV.cells]; omega
theorem hcells_at (l : List HV) (i t : Nat) (h : i < l.length) (ht : t < 3) : (hcells l)[i * 3 + t]? = (l[i].cells)[t]? := by
  induction l generalizing i with
  | nil => simp at h
  | cons v r ih =>
    have e : hcells (v :: r) = v.cells ++ hcells r := rfl
    have hl : v.cells.length = 3 := rfl
    rw [e]
    cases i with
    | zero => rw [List.getElem?_append_left (by rw [hl]; omega)]; simp
    | succ i =>
      rw [List.getElem?_append_right (by rw [hl]; omega), hl, show (i + 1) * 3 + t - 3 = i * 3 + t from by omega]
      exact ih i (by simpa using h)
theorem hcells_snoc (l : List HV) (v : HV) : hcells (l ++ [v]) = hcells l ++ v.cells := by simp [hcells]

/-- A slice value that reads as the votes l in the world w. -/
structure HRow (w : World) (a : Option Addr) (b : Nat) (l : List HV) : Prop where
  at' : 0 < l.length → a = some ⟨b, 0, none⟩
  cell : ∀ i t u, i < l.length → t < 3 → (l.getD i ⟨0, none, 0, 0, 0, [], 0⟩).cells[t]? = some u → w.cell? ⟨b, i * 3 + t, none⟩ = some u

theorem hrow_of_owns {w : World} {base : Nat} {v : Value} {l : List HV} (h : w.ownsRow base 41 3 v l.length (hcells l)) : ∃ a b c, v = .slice a l.length c ∧ HRow w a b l ∧ (0 < l.length → base ≤ b ∧ b < w.heap.size) := by
  obtain ⟨h1, h2⟩ := h
  rcases h2 with ⟨rfl, h0⟩ | ⟨g, cap, cur, rfl, hb, hg, hn, hm, hc, ht⟩
  · refine ⟨none, 0, 0, by rw [h0], ⟨fun h => by omega, fun i t u hi => by omega⟩, fun h => by omega⟩
  · refine ⟨some ⟨g, 0, none⟩, g, cap, rfl, ⟨fun _ => rfl, fun i t u hi ht3 hu => ?_⟩, fun _ => ⟨hb, (Array.getElem?_eq_some_iff.1 hg).1⟩⟩
    have e1 : l.getD i ⟨0, none, 0, 0, 0, [], 0⟩ = l[i] := by simp [List.getD, hi]
    rw [e1, ← hcells_at l i t hi ht3, ← ht, List.getElem?_take, if_pos (by omega)] at hu
    simp [World.cell?, hg]
    simpa using hu

theorem HRow.below {w w' : World} {a : Option Addr} {b : Nat} {l : List HV} (h : HRow w a b l) (hb : ∀ o, w'.cell? ⟨b, o, none⟩ = w.cell? ⟨b, o, none⟩) : HRow w' a b l :=
  ⟨h.at', fun i t u hi ht hu => (hb _).trans (h.cell i t u hi ht hu)⟩

theorem quiet_behind {P : Program} {f : FuncId} {args : Array Value} {w : World} {v : Value} (h : ∀ n, Calls P f args (w.drewN n) fun e w' => e = .returned v ∧ ∃ m, w' = (w.drewN n).drewN m) (nd x : Nat) :
    Calls P f args (w.drewN (nd + x)) fun e w'' => e = .returned v ∧ ∃ n, w'' = w.drewN (nd + n) :=
  (h (nd + x)).mono fun _ _ ⟨he, m, hm⟩ => ⟨he, x + m, by rw [hm, World.drewN_drewN, Nat.add_assoc]⟩

set_option maxHeartbeats 400000 in
/-- zzs4739aeq says yes where both read as the same votes. -/
theorem eq_any (a1 a2 : Option Addr) (b1 b2 c1 c2 : Nat) (l : List HV) (w : World) (hl : l.length ≤ 1048576) (h1 : HRow w a1 b1 l) (h2 : HRow w a2 b2 l) (hx : ∀ v ∈ l, Ints w v.a v.b v.o v.xs) :
    Calls Ybaf.prog 9 #[.slice a1 l.length c1, .slice a2 l.length c2] w fun e w' => e = .returned (.bool true) ∧ ∃ n, w' = w.drewN n := by
  have H1 : Hid (HRow w a1 b1 l) := h1
  have H2 : Hid (HRow w a2 b2 l) := h2
  have HX : Hid (∀ v ∈ l, Ints w v.a v.b v.o v.xs) := hx
  clear h1 h2 hx
  go_enter Ybaf.func9, Ybaf.ntmps9
  go_wp2
  go_loopw [5] (fun i wr => ∃ k : Nat, k ≤ l.length ∧ i = .int .i64 k ∧ ∃ n, wr = w.drewN n) (fun i _ => l.length - (intOf i).toNat)
  case atStart => exact ⟨0, Nat.zero_le _, rfl, 0, rfl⟩
  case round =>
    obtain ⟨k, hk, rfl, nd, rfl⟩ := hrel
    by_cases hlt : k < l.length
    · obtain rfl := H1.out.at' (by omega)
      obtain rfl := H2.out.at' (by omega)
      obtain ⟨v, hv⟩ : ∃ v, v = l.getD k ⟨0, none, 0, 0, 0, [], 0⟩ := ⟨_, rfl⟩
      have hvl : v ∈ l := by rw [hv]; simp [List.getD, hlt]
      have hin := HX.out v hvl
      have p0 := H1.out.cell k 0 (.int .i64 v.slot) hlt (by omega) (by rw [← hv]; rfl)
      have p1 := H1.out.cell k 1 (.slice v.a v.xs.length v.c) hlt (by omega) (by rw [← hv]; rfl)
      have p2 := H1.out.cell k 2 (.int .i64 v.head) hlt (by omega) (by rw [← hv]; rfl)
      have q0 := H2.out.cell k 0 (.int .i64 v.slot) hlt (by omega) (by rw [← hv]; rfl)
      have q1 := H2.out.cell k 1 (.slice v.a v.xs.length v.c) hlt (by omega) (by rw [← hv]; rfl)
      have q2 := H2.out.cell k 2 (.int .i64 v.head) hlt (by omega) (by rw [← hv]; rfl)
      simp only [Nat.add_zero] at p0 q0
      clear hv hvl
      obtain ⟨slot, a, b, o, c, xs, head⟩ := v
      simp only at p0 p1 p2 q0 q1 q2 hin
      have HI : Hid (Ints w a b o xs) := hin
      clear hin
      have hkl : (k : Int) < (l.length : Int) := by omega
      have HE : Hid (∀ n, Calls Ybaf.prog 13 #[.slice a xs.length c, .slice a xs.length c] (w.drewN n) fun e w' => e = .returned (.bool true) ∧ ∃ m, w' = (w.drewN n).drewN m) := fun n => equal_any a b o c xs _ ⟨HI.out.at', HI.out.lt, HI.out.cell, HI.out.len⟩
      go_wp2
      go_quiet ((go_at_call 13; exact quiet_behind HE.out _ _))
      go_wp2
      go_roundw
      case rel => exact ⟨k + 1, by omega, by go_num, nd + nq, by simp [World.drewN]⟩
      case measure => simp [intOf]; omega
    · go_wp2
      go_ret
      exact ⟨rfl, _, rfl⟩
end Go.Proofs.YbulkctcuFmt
