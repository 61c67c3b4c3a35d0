/-
  SEAT b4739aF. THE VOTES THAT COME IN, OPENED: from the datum to 'In'.
-/
import Derived.Test.YbulkctcuFmtFill
import Derived.ChangeSlices
import Derived.ChangeArms
import Derived.Deep.Slices
import Derived.SizedLaws
import Derived.ProofKit
import Derived.OpenShut
namespace Go.Proofs.YbulkctcuFmt
open Go.ChangeShapes Go.WideShapes Go.ChangeAt Go.RowKit Go.Deep

theorem cells3 : Ybaf.prog.cellsOf 3 = 1 := by kernel_rfl
theorem cells4 : Ybaf.prog.cellsOf 4 = 1 := by kernel_rfl
theorem cells5 : Ybaf.prog.cellsOf 5 = 1 := by kernel_rfl
theorem cells22 : Ybaf.prog.cellsOf 22 = 1 := by kernel_rfl
theorem cells37 : Ybaf.prog.cellsOf 37 = 5 := by kernel_rfl
theorem bytes3 : Ybaf.prog.bytesOf 3 = 8 := by kernel_rfl

section
variable {H : Type} {enc : TypeId × Value → H}

theorem weightsAll_mem {P : Program} {e : TypeId} : ∀ {l : List (DataW H)} {d : DataW H}, d ∈ l → ∀ n ∈ d.weights P e, n ∈ DataW.weightsAll P e l
  | x :: l, d, hd, n, hn => by
    simp only [DataW.weightsAll, List.mem_append]
    rcases List.mem_cons.1 hd with rfl | hd
    · exact Or.inl hn
    · exact Or.inr (weightsAll_mem hd n hn)
  | [], d, hd, n, hn => by cases hd

/-- A slice of ints, opened. -/
theorem open_nums {w : World} {fuel : Nat} {a : Option Addr} {len cap : Nat} {x : DataW H × List MemPlace} (h : DataW.trod enc Ybaf.prog w 0 (fun _ => true) true fuel 22 [.slice a len cap] = some x) (hw : ∀ n ∈ x.1.weights Ybaf.prog 22, n ≤ reachBytes) :
    ∃ b o xs, xs.length = len ∧ Ints w a b o xs ∧ b ≠ w.heap.size := by
  have hr := reachBytes_lt
  rcases open_ints Ybaf.underlying22 Ybaf.underlying3 cells3 h with ⟨hcs, _⟩ | ⟨y, l, c, zs, hcs, _, hl, hm, hz, rfl, hcell, hwz⟩
  · simp at hcs
    obtain ⟨rfl, rfl, rfl⟩ := hcs
    exact ⟨w.heap.size + 1, 0, [], rfl, ⟨fun h => absurd h (by simp), fun h => absurd h (by simp), fun j h => absurd h (by simp), by simp⟩, by omega⟩
  · simp at hcs
    obtain ⟨rfl, rfl, rfl⟩ := hcs
    simp only [if_true] at hz
    have hb : len ≤ 17592186044416 := by
      have := hw ((zs.take len).length * 8 + (zs.drop len).length * 8) (by simp [DataW.weights, Ybaf.underlying22, bytes3, lits, Nat.add_mul])
      rw [List.length_take, List.length_drop] at this
      omega
    obtain ⟨bb, off, spot⟩ := y
    by_cases h0 : 0 < len
    · have hspot : spot = none := by simpa [Addr.add] using World.cell?_spot (hcell 0 (by omega))
      subst hspot
      refine ⟨bb, off, zs.take len, by rw [List.length_take]; omega, ⟨fun _ => rfl, fun _ => World.block_lt_of_cell? _ _ (hcell 0 (by omega)), fun j hj => ?_, by rw [List.length_take]; omega⟩, ?_⟩
      · rw [List.length_take] at hj
        have := hcell j (by omega)
        rw [add_plain] at this
        rw [this]
        simp only [List.getD_eq_getElem?_getD, List.getElem?_take_of_lt (show j < len by omega)]
      · have := World.block_lt_of_cell? _ _ (hcell 0 (by omega))
        exact Nat.ne_of_lt this
    · have : len = 0 := by omega
      subst this
      exact ⟨w.heap.size + 1, 0, [], rfl, ⟨fun h => absurd h (by simp), fun h => absurd h (by simp), fun j h => absurd h (by simp), by simp⟩, by omega⟩

/-- One vote, opened. -/
def IV.Ok (w : World) (A : Addr) (v : IV) : Prop :=
  (∀ t u, t < 5 → v.cells[t]? = some u → w.cell? (A.add t) = some u) ∧ Ints w v.a v.b v.o v.xs ∧ v.head < 256 ∧ v.b ≠ w.heap.size

theorem open_vote {w : World} {A : Addr} {fuel : Nat} {cs : List Value} {x : DataW H × List MemPlace} (hc : w.cells? 0 A 5 = some cs) (h : DataW.trod enc Ybaf.prog w 0 (fun _ => true) true fuel 37 cs = some x) (hw : ∀ n ∈ x.1.weights Ybaf.prog 37, n ≤ reachBytes) :
    ∃ v : IV, v.Ok w A := by
  obtain ⟨_, hlen, hcell⟩ := World.cells?_some hc
  obtain ⟨xs, n, _, rfl, _, hxl, hf⟩ := DataW.trod_struct Ybaf.underlying37 h
  match cs, hlen with
  | [c0, c1, c2, c3, c4], _ =>
    match xs, hxl with
    | [y0, y1, y2, y3, y4], _ =>
      have h0 := hf 0 _ rfl
      have h1 := hf 1 _ rfl
      have h2 := hf 2 _ rfl
      have h3 := hf 3 _ rfl
      have h4 := hf 4 _ rfl
      simp [cells3, cells4, cells5, cells22] at h0 h1 h2 h3 h4
      obtain ⟨b0, e0, _⟩ := DataW.trod_bool Ybaf.underlying4 h0
      obtain ⟨n1, e1, _, _⟩ := DataW.trod_int Ybaf.underlying3 h1
      obtain ⟨b2, e2, _⟩ := DataW.trod_bool Ybaf.underlying4 h2
      obtain ⟨n3, e3, _, hw3⟩ := DataW.trod_int Ybaf.underlying5 h3
      obtain ⟨a4, l4, c4', e4⟩ : ∃ a l c, [c4] = [Value.slice a l c] := by
        rcases open_ints Ybaf.underlying22 Ybaf.underlying3 cells3 h4 with ⟨hcs, _⟩ | ⟨y, l, c, zs, hcs, _⟩
        · exact ⟨_, _, _, hcs⟩
        · exact ⟨_, _, _, hcs⟩
      simp at e0 e1 e2 e3 e4
      subst e0 e1 e2 e3 e4
      obtain ⟨b, o, zs, rfl, hi, hne⟩ := open_nums h4 (fun m hm => hw m (by
        simp only [DataW.weights, Ybaf.underlying37, List.map_cons]
        exact DataW.weights_mem_each (j := 4) rfl rfl m hm))
      have hb := bounds_u8 hw3
      obtain ⟨hd, rfl⟩ := Int.eq_ofNat_of_zero_le hb.1
      refine ⟨⟨b0, n1, b2, hd, a4, b, o, c4', zs⟩, ⟨fun t u ht hu => ?_, hi, by simp; omega, hne⟩⟩
      rw [hcell t ht]
      simp only [IV.cells] at hu
      exact hu

/-- The row of votes, opened. -/
theorem open_votes {w : World} {fuel : Nat} {a : Option Addr} {len cap : Nat} {x : DataW H × List MemPlace} (h : DataW.trod enc Ybaf.prog w 0 (fun _ => true) true fuel 23 [.slice a len cap] = some x) (hw : ∀ n ∈ x.1.weights Ybaf.prog 23, n ≤ reachBytes) :
    ∃ b o l, l.length = len ∧ In w a b o l := by
  rcases open_slice Ybaf.underlying23 h with ⟨hcs, _⟩ | ⟨A, l, c, m, n, D, Pl, hcs, _, hl, hm, hmm, rfl, hel⟩
  · simp at hcs
    obtain ⟨rfl, rfl, rfl⟩ := hcs
    exact ⟨0, 0, [], rfl, ⟨fun h => absurd h (by simp), fun h => absurd h (by simp), fun i t u h => absurd h (by simp), fun v hv => by cases hv⟩⟩
  · simp at hcs
    obtain ⟨rfl, rfl, rfl⟩ := hcs
    simp only [if_true] at hmm
    subst hmm
    have hone : ∀ i, i < len → ∃ v : IV, v.Ok w (A.add (i * 5)) := fun i hi => by
      obtain ⟨cs, hc, ht⟩ := hel i (by omega)
      rw [cells37] at hc
      refine open_vote hc ht fun k hk => hw k ?_
      simp only [DataW.weights, Ybaf.underlying23, List.mem_cons, List.mem_append]
      exact Or.inr (Or.inl (weightsAll_mem (List.mem_map.2 ⟨i, List.mem_range.2 hi, rfl⟩) k hk))
    letI : Inhabited IV := ⟨noIV⟩
    obtain ⟨f, hfv⟩ := choose_lt hone
    have hgl : ∀ i, i < len → ((List.range len).map f).getD i noIV = f i := fun i hi => by simp [List.getD, hi]
    by_cases h0 : 0 < len
    · have hc0 := (hfv 0 h0).1 0 _ (by omega) rfl
      obtain ⟨bb, off, spot⟩ := A
      have hspot : spot = none := by
        have := World.cell?_spot hc0
        simpa [Addr.add] using this
      subst hspot
      refine ⟨bb, off, (List.range len).map f, by simp, ⟨fun _ => rfl, fun _ => ?_, fun i t u hi ht hu => ?_, fun v hv => ?_⟩⟩
      · have := World.block_lt_of_cell? _ _ hc0
        simpa [Addr.add] using this
      · simp only [List.length_map, List.length_range] at hi
        rw [hgl i hi] at hu
        have := (hfv i hi).1 t u ht hu
        rwa [add_plain, add_plain, Nat.add_assoc] at this
      · obtain ⟨i, hi, rfl⟩ := List.mem_map.1 hv
        exact (hfv i (List.mem_range.1 hi)).2
    · have : len = 0 := by omega
      subst this
      exact ⟨0, 0, [], rfl, ⟨fun h => absurd h (by simp), fun h => absurd h (by simp), fun i t u h => absurd h (by simp), fun v hv => by cases hv⟩⟩
end
end Go.Proofs.YbulkctcuFmt
