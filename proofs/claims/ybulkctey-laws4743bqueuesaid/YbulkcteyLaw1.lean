/-
  SEAT b4743a. QUEUE: the law's first loop.
-/
import Derived.Test.YbulkcteyLaw0
namespace Go.Proofs.Ybulkctey
open Go.RowKit Go.Deep

theorem wp_loopN {P : Program} {Q : Exit → Act → World → Prop} {a : Act} {w : World} {c : Code} (I : Nat → Act → World → Prop) (n : Nat) (h₀ : I n a w)
    (round : ∀ n a w, I n a w → c.wp P (Exit.then (fun a' w' => ∃ m, m < n ∧ I m a' w') Q) a w) : (Code.loop c).wp P Q a w := by
  intro b k cs
  have key : ∀ n a w, I n a w → ∃ e a' w', Q e a' w' ∧ Arrives P (lone (b.at a (.code c :: .inLoop c :: k)) cs w) b k cs e a' w' := by
    intro n
    induction n using Nat.strongRecOn with
    | _ n ih =>
      intro a w hI
      obtain ⟨e, a₁, w₁, hq, r⟩ := round n a w hI b (.inLoop c :: k) cs
      cases e
      case normal =>
        obtain ⟨m, hm, hI'⟩ := hq
        obtain ⟨e₂, a₂, w₂, q₂, r₂⟩ := ih m hm a₁ w₁ hI'
        exact ⟨e₂, a₂, w₂, q₂, .of_steps (Steps.trans r (.one step_inLoop)) r₂⟩
      all_goals exact ⟨_, a₁, w₁, hq, .pass (x := .inLoop c) rfl (fun _ _ => .inl (by simp)) r⟩
  obtain ⟨e, a', w', q, r⟩ := key n a w h₀
  exact ⟨e, a', w', q, .of_steps (.one step_loop) r⟩

/-- The group that a pick says. -/
def gOf (g1 g2 : Nat) (pk : Nat → Nat) (k : Nat) : Option Addr := if pk k % 3 = 1 then some (at0 g1) else if pk k % 3 = 2 then some (at0 g2) else none
/-- Behind the first loop. -/
structure St13 (N s B T R g1 g2 rv rc gb c n : Nat) (pk : Nat → Nat) (w0 : World) (A : Array Value) (w : World) : Prop where
  fm : Fm s B g1 g2 rv gb c n A
  lw : Lw N s B T R g1 g2 rv rc gb c n (gOf g1 g2 pk) w0 w
  q : QC B T R c (lay c 0 0 []) false (word 0 0 0 0) w
  g : GS N s g1 g2 0 0 [] w
  r : RecI rv rc [] (.slice none 0 0) w

/-- What the first loop turns: the groups' row alone. -/
structure L1 (N s B T R g1 g2 rv rc gb c n k : Nat) (pk : Nat → Nat) (w0 w : World) : Prop where
  lw : Lw N s B T R g1 g2 rv rc gb c n (fun j => if j < k then gOf g1 g2 pk j else none) w0 w
  q : QC B T R c (lay c 0 0 []) false (word 0 0 0 0) w
  g : GS N s g1 g2 0 0 [] w
  r : RecI rv rc [] (.slice none 0 0) w
/-- The groups' row is apart from all else. -/
theorem L1.set {N s B T R g1 g2 rv rc gb c n k : Nat} {pk : Nat → Nat} {w0 w : World} {a : Addr} (h : L1 N s B T R g1 g2 rv rc gb c n k pk w0 w) (hg : gOf g1 g2 pk k = some a) : L1 N s B T R g1 g2 rv rc gb c n (k + 1) pk w0 (w.setCell ⟨gb, k, none⟩ (.pointer (some a))) := by
  obtain ⟨⟨hc, hge, hbel, hgrp, hgbR⟩, hq, hg', hr⟩ := h
  obtain ⟨fB, hB, _⟩ := hq.p
  refine ⟨⟨hc, hge, hbel.setCell (by simp; omega) _, (hgrp.set k _).congr fun j hj => ?_, hgbR⟩, ?_, ?_, ?_⟩
  · by_cases e : j = k
    · subst e; simp [hg]
    · have : (j < k + 1) = (j < k) := by simp; omega
      simp [e, this]
  · exact QM.frame hq ((Fr.refl (fun b => b = gb) w).setCell (fun _ => rfl) _) (rowIs_ne hB hgrp (by decide)) (rowIs_ne hq.t hgrp (by decide)) (fun e => hgbR e.symm)
  · refine hg'.keep fun b cs t hb ht => blk_setCell_other _ _ _ _ ?_
    rintro rfl
    obtain ⟨c', hc', _⟩ := hgrp
    rw [hc'] at hb; simp only [Option.some.injEq, Obj.cells.injEq] at hb
    exact absurd hb.2.1 (by rcases ht with rfl | rfl | rfl | rfl | rfl <;> decide)
  · exact ⟨hr.var.setOther (rowIs_ne hr.var hgrp (by decide)) _, hr.cell.setOther (rowIs_ne hr.cell hgrp (by decide)) _, ⟨rfl, .inl ⟨rfl, rfl⟩⟩⟩
theorem L1.same {N s B T R g1 g2 rv rc gb c n k : Nat} {pk : Nat → Nat} {w0 w : World} (h : L1 N s B T R g1 g2 rv rc gb c n k pk w0 w) (hg : gOf g1 g2 pk k = none) : L1 N s B T R g1 g2 rv rc gb c n (k + 1) pk w0 w := by
  obtain ⟨⟨hc, hge, hbel, hgrp, hgbR⟩, hq, hg', hr⟩ := h
  refine ⟨⟨hc, hge, hbel, hgrp.congr fun j hj => ?_, hgbR⟩, hq, hg', hr⟩
  by_cases e : j = k
  · subst e; simp [hg]
  · have : (j < k + 1) = (j < k) := by simp; omega
    simp [this]

set_option maxRecDepth 1000000 in
set_option maxHeartbeats 8000000 in
theorem part12 (N s B T R g1 g2 rv rc gb c n pb po cap : Nat) (a0 : Option Addr) (pk : Nat → Nat) (w0 : World) (hn : n ≤ 1024) (ha : 0 < n → a0 = some ⟨pb, po, none⟩) (hpb : 0 < n → pb < N) (hpk : ∀ k, k < n → w0.cell? ⟨pb, po + k, none⟩ = some (.int .u8 (pk k : Nat)) ∧ pk k < 256) (A : Array Value) (w : World) (Q : Exit → Act → World → Prop)
    (h : St12 N s B T R g1 g2 rv rc gb c n (.slice a0 n cap) w0 A w)
    (hnext : ∀ A' w', St13 N s B T R g1 g2 rv rc gb c n pk w0 A' w' → Code.wp Yba.prog (dropS 13 (Yba.f5.body.getD .skip)) Q ⟨A', []⟩ w') :
    Code.wp Yba.prog (dropS 12 (Yba.f5.body.getD .skip)) Q ⟨A, []⟩ w := by
  have HN : Hid _ := hnext
  have HPK : Hid _ := hpk
  have HPB : Hid _ := hpb
  clear hnext hpk hpb
  obtain ⟨⟨hA, h5, h6, h7, h8, h9, h10, h11, h12⟩, h1, hlw, hq, hg, hr⟩ := h
  have HL : Hid (L1 N s B T R g1 g2 rv rc gb c n 0 pk w0 w) := ⟨by simpa using hlw, hq, hg, hr⟩
  clear hlw hq hg hr
  obtain ⟨f, hf, rfl⟩ := lit469 A hA
  rw [hf] at h1 h5 h6 h7 h8 h9 h10 h11 h12
  clear hf hA
  conv => arg 2; whnf
  rw [h1, h5, h6, h7, h8, h9, h10, h11, h12]
  clear h1 h5 h6 h7 h8 h9 h10 h11 h12
  refine wp_seq_k ?_; intro K hK; have HK : Hid _ := hK; clear hK
  refine wp_seq_k ?_; intro K1 hK1
  go_wp2_with fail
  refine wp_loopN (fun m a w' => ∃ (A' : Array Value) (k : Nat), a = ⟨A', []⟩ ∧ m = n - k ∧ k ≤ n ∧ Fm s B g1 g2 rv gb c n A' ∧ A'.getD 1 undef = .slice a0 n cap ∧ A'.getD 13 undef = .int .i64 k ∧ L1 N s B T R g1 g2 rv rc gb c n k pk w0 w') n ?_ ?_
  · exact ⟨_, 0, rfl, rfl, Nat.zero_le _, ⟨rfl, rfl, rfl, rfl, rfl, rfl, rfl, rfl, rfl⟩, rfl, rfl, HL.out⟩
  · rintro m a w' ⟨A', k, rfl, rfl, hk, ⟨hA, h5, h6, h7, h8, h9, h10, h11, h12⟩, h1, h13, hL⟩
    have HL1 : Hid (L1 N s B T R g1 g2 rv rc gb c n k pk w0 w') := hL
    clear hL HL
    obtain ⟨f2, hf, rfl⟩ := lit469 A' hA
    rw [hf] at h1 h5 h6 h7 h8 h9 h10 h11 h12 h13
    clear hf hA
    rw [h1, h5, h6, h7, h8, h9, h10, h11, h12, h13]
    clear h1 h5 h6 h7 h8 h9 h10 h11 h12 h13
    by_cases hlt : k < n
    · have hlt' : (k : Int) < (n : Int) := by omega
      obtain ⟨hp, hp2⟩ := HPK.out k hlt
      have hp3 : w'.cell? ⟨pb, po + k, none⟩ = some (.int .u8 (pk k : Nat)) := (HL1.out.lw.bel.cell (HPB.out (by omega))).trans hp
      have hgc := HL1.out.lw.grp.cell hlt
      have hgz := HL1.out.lw.grp.frozen k
      have ha' := ha (by omega)
      subst ha'
      obtain ⟨x, hx⟩ : ∃ x, x = pk k := ⟨_, rfl⟩
      have HX : Hid (x = pk k) := hx
      rw [← hx] at hp2 hp3
      clear hp hx ha
      have h3 : x % 3 = 0 ∨ x % 3 = 1 ∨ x % 3 = 2 := by omega
      rcases h3 with h3 | h3 | h3
      · have h3' : (x : Int) % 3 = 0 := by omega
        have HG : Hid (gOf g1 g2 pk k = none) := by show _ = _; have := HX.out; unfold gOf; rw [if_neg (by omega), if_neg (by omega)]
        clear h3
        go_wp2_with fail
        exact ⟨n - (k + 1), by omega, _, k + 1, rfl, rfl, by omega, ⟨rfl, rfl, rfl, rfl, rfl, rfl, rfl, rfl, rfl⟩, rfl, rfl, HL1.out.same HG.out⟩
      · have h3' : (x : Int) % 3 = 1 := by omega
        have HG : Hid (gOf g1 g2 pk k = some (at0 g1)) := by show _ = _; have := HX.out; unfold gOf; rw [if_pos (by omega)]
        clear h3
        go_wp2_with fail
        exact ⟨n - (k + 1), by omega, _, k + 1, rfl, rfl, by omega, ⟨rfl, rfl, rfl, rfl, rfl, rfl, rfl, rfl, rfl⟩, rfl, rfl, HL1.out.set HG.out⟩
      · have h3' : (x : Int) % 3 = 2 := by omega
        have HG : Hid (gOf g1 g2 pk k = some (at0 g2)) := by show _ = _; have := HX.out; unfold gOf; rw [if_neg (by omega), if_pos (by omega)]
        clear h3
        go_wp2_with fail
        exact ⟨n - (k + 1), by omega, _, k + 1, rfl, rfl, by omega, ⟨rfl, rfl, rfl, rfl, rfl, rfl, rfl, rfl, rfl⟩, rfl, rfl, HL1.out.set HG.out⟩
    · have hkn : n = k := by omega
      subst hkn
      go_wp2_with fail
      refine HK.out _ _ ?_
      refine HN.out _ _ ⟨⟨rfl, rfl, rfl, rfl, rfl, rfl, rfl, rfl, rfl⟩, ?_, HL1.out.q, HL1.out.g, HL1.out.r⟩
      have h1 := HL1.out.lw
      exact ⟨h1.cap, h1.ge, h1.bel, h1.grp.congr fun j hj => by simp [hj], h1.gbR⟩
end Go.Proofs.Ybulkctey
