/-
  SEAT b4743a. QUEUE: the law's fourth loop.
-/
import Derived.Test.YbulkcteyLaw7
namespace Go.Proofs.Ybulkctey
open Go.RowKit Go.Deep

/-- Behind the fourth loop. -/
structure St27 (N s B T R g1 g2 rv rc gb c n : Nat) (pk : Nat → Nat) (w0 : World) (it gl : List Nat) (cl ov ob : Nat) (idb : Nat → Nat) (vi vg : Value) (ids : List Nat) (v : Value) (oc : Nat → Bool) (A : Array Value) (w : World) : Prop where
  fm : Fm s B g1 g2 rv gb c n A
  f15 : A.getD 15 undef = vg
  f19 : A.getD 19 undef = .int .u64 (ov : Nat)
  l : L3 N s B T R g1 g2 rv rc gb c n pk w0 it gl cl ov ob idb vi vg ids v oc w
  ov_le : ov ≤ 1024
  gll : gl.length ≤ 1024
  idl : ids.length ≤ 40
  lt : ∀ k ∈ gl, k < n

/-- A cell that holds no task. -/
theorem L3.empty {N s B T R g1 g2 rv rc gb c n : Nat} {pk : Nat → Nat} {w0 : World} {it gl : List Nat} {cl ov ob : Nat} {idb : Nat → Nat} {vi vg : Value} {ids : List Nat} {v : Value} {oc : Nat → Bool} {w : World} (h : L3 N s B T R g1 g2 rv rc gb c n pk w0 it gl cl ov ob idb vi vg ids v oc w) (k : Nat) (hk : k < 2 * c) (hd : ¬ dist c cl k < it.length) :
    w.cell? ⟨T, k, none⟩ = some .nilFunc ∧ w.cell? ⟨R, k, none⟩ = some (.pointer none) := by
  obtain ⟨nt, x, hq⟩ := h.sx.q
  have e : lay c cl 0 (it.map (ent rv idb (gOf g1 g2 pk))) k = none := by
    unfold lay; rw [if_pos (Nat.zero_le _), List.getElem?_eq_none (by simp; omega)]
  refine ⟨(hq.t.cell hk).trans ?_, (hq.g.cell hk).trans ?_⟩
  · unfold tkC; rw [e]; rfl
  · unfold gkC; rw [e]; rfl

set_option maxRecDepth 1000000 in
set_option maxHeartbeats 16000000 in
theorem part26 (N s B T R g1 g2 rv rc gb c n : Nat) (pk : Nat → Nat) (w0 : World) (it gl : List Nat) (cl ov ob : Nat) (idb : Nat → Nat) (vi vg : Value) (ids : List Nat) (v : Value) (oc : Nat → Bool) (A : Array Value) (w : World) (Rr : Ending → World → Prop)
    (h : St26 N s B T R g1 g2 rv rc gb c n pk w0 it gl cl ov ob idb vi vg ids v oc A w)
    (hnext : ∀ A' w', St27 N s B T R g1 g2 rv rc gb c n pk w0 it gl cl ov ob idb vi vg ids v oc A' w' → Code.wp Yba.prog (dropS 27 (Yba.f5.body.getD .skip)) (bodyPost Yba.prog Yba.f5 Rr) ⟨A', []⟩ w') :
    Code.wp Yba.prog (dropS 26 (Yba.f5.body.getD .skip)) (bodyPost Yba.prog Yba.f5 Rr) ⟨A, []⟩ w := by
  have HN : Hid _ := hnext
  clear hnext
  obtain ⟨⟨hA, h5, h6, h7, h8, h9, h10, h11, h12⟩, h15, h19, h25, hL, ho, hil, hovl, hgll, hidl, hltg⟩ := h
  have hcc : 2 ≤ c ∧ c ≤ 32 := by rcases hL.sx.lw.cap with rfl | rfl | rfl | rfl | rfl <;> omega
  have HL : Hid (L3 N s B T R g1 g2 rv rc gb c n pk w0 it gl cl ov ob idb vi vg ids v oc w) := hL
  have HO : Hid _ := ho
  have HLT : Hid _ := hltg
  have c1 : w.cell? ⟨B, 1, none⟩ = some (.slice (some ⟨T, 0, none⟩) (2 * c) (2 * c)) := by obtain ⟨nt, x, hq⟩ := hL.sx.q; exact hq.c1
  have c2 : w.cell? ⟨B, 2, none⟩ = some (.slice (some ⟨R, 0, none⟩) (2 * c) (2 * c)) := by obtain ⟨nt, x, hq⟩ := hL.sx.q; exact hq.c2
  clear hL ho hltg
  obtain ⟨f, hf, rfl⟩ := lit469 A hA
  rw [hf] at h5 h6 h7 h8 h9 h10 h11 h12 h15 h19 h25
  clear hf hA
  conv => arg 2; whnf
  rw [h5, h6, h7, h8, h9, h10, h11, h12, h15, h19, h25]
  clear h5 h6 h7 h8 h9 h10 h11 h12 h15 h19 h25
  refine wp_seq_k ?_; intro K hK; have HK : Hid _ := hK; clear hK
  refine wp_seq_k ?_; intro K1 hK1
  go_wp2_with fail
  refine wp_loopN (fun m a w' => ∃ (A' : Array Value) (k : Nat), a = ⟨A', []⟩ ∧ w' = w ∧ m = 2 * c - k ∧ k ≤ 2 * c ∧ Fm s B g1 g2 rv gb c n A' ∧ A'.getD 15 undef = vg ∧ A'.getD 19 undef = .int .u64 (ov : Nat) ∧ A'.getD 25 undef = .slice (some ⟨ob, 0, none⟩) (2 * c) (2 * c) ∧ A'.getD 29 undef = .int .i64 (k : Nat)) (2 * c) ?_ ?_
  · exact ⟨_, 0, rfl, rfl, rfl, Nat.zero_le _, ⟨rfl, rfl, rfl, rfl, rfl, rfl, rfl, rfl, rfl⟩, rfl, rfl, rfl, rfl⟩
  · rintro m a w' ⟨A', k, rfl, rfl, rfl, hk, ⟨hA, h5, h6, h7, h8, h9, h10, h11, h12⟩, h15, h19, h25, h29⟩
    obtain ⟨f2, hf, rfl⟩ := lit469 A' hA
    rw [hf] at h5 h6 h7 h8 h9 h10 h11 h12 h15 h19 h25 h29
    clear hf hA
    rw [h5, h6, h7, h8, h9, h10, h11, h12, h15, h19, h25, h29]
    clear h5 h6 h7 h8 h9 h10 h11 h12 h15 h19 h25 h29
    by_cases hlt : k < 2 * c
    · have hlt' : (k : Int) < 2 * (c : Int) := by omega
      have co := HL.out.occ.cell hlt
      have hok := HO.out k hlt
      by_cases hd : dist c cl k < it.length
      · rw [hok, decide_eq_true hd] at co
        clear hok hd
        go_wp2_with fail
        exact ⟨2 * c - (k + 1), by omega, _, k + 1, rfl, trivial, rfl, by omega, ⟨rfl, rfl, rfl, rfl, rfl, rfl, rfl, rfl, rfl⟩, rfl, rfl, rfl, rfl⟩
      · rw [hok, decide_eq_false hd] at co
        obtain ⟨ct, cg⟩ := HL.out.empty k hlt hd
        have hqf := fun W => run_neq_nilFunc Yba.underlying92 W
        clear hok hd
        go_wp2_with fail
        exact ⟨2 * c - (k + 1), by omega, _, k + 1, rfl, trivial, rfl, by omega, ⟨rfl, rfl, rfl, rfl, rfl, rfl, rfl, rfl, rfl⟩, rfl, rfl, rfl, rfl⟩
    · have hje : 2 * c = k := by omega
      have hje' : ¬ (k : Int) < 2 * (c : Int) := by omega
      clear hje
      go_wp2_with fail
      refine HK.out _ _ ?_
      exact HN.out _ _ ⟨⟨rfl, rfl, rfl, rfl, rfl, rfl, rfl, rfl, rfl⟩, rfl, rfl, HL.out, hovl, hgll, hidl, HLT.out⟩
end Go.Proofs.Ybulkctey
