/-
  SEAT b4743a. QUEUE: the law's last tests.
-/
import Derived.Test.YbulkcteyLaw9
import Derived.Test.YbulkcteyPosEq
namespace Go.Proofs.Ybulkctey
open Go.RowKit Go.Deep

/-- Behind the fifth loop. -/
structure St30 (N s B T R g1 g2 rv rc gb c n : Nat) (pk : Nat → Nat) (w0 : World) (gl : List Nat) (ov : Nat) (idb : Nat → Nat) (vg : Value) (Bs : Nat → Nat) (GB : Nat → Option Nat) (v1 v2 : Value) (ids : List Nat) (v : Value) (A : Array Value) (w : World) : Prop where
  fm : Fm s B g1 g2 rv gb c n A
  f30 : A.getD 30 undef = .int .i64 (cntA (gl.map (ent rv idb (gOf g1 g2 pk))) (at0 g1) gl.length : Nat)
  f31 : A.getD 31 undef = .int .i64 (cntA (gl.map (ent rv idb (gOf g1 g2 pk))) (at0 g2) gl.length : Nat)
  f32 : A.getD 32 undef = .int .i64 (cntS (gl.map (ent rv idb (gOf g1 g2 pk))) gl.length : Nat)
  l : L5 N s B T R g1 g2 rv rc gb c n pk w0 gl ov idb vg Bs GB v1 v2 ids v w
  gll : gl.length ≤ 1024

set_option maxRecDepth 1000000 in
set_option maxHeartbeats 16000000 in
theorem part30 (N s B T R g1 g2 rv rc gb c n : Nat) (pk : Nat → Nat) (w0 : World) (gl : List Nat) (ov : Nat) (idb : Nat → Nat) (vg : Value) (Bs : Nat → Nat) (GB : Nat → Option Nat) (v1 v2 : Value) (ids : List Nat) (v : Value) (A : Array Value) (w : World) (Rr : Ending → World → Prop)
    (h : St30 N s B T R g1 g2 rv rc gb c n pk w0 gl ov idb vg Bs GB v1 v2 ids v A w) (hR : ∀ w', Below N w0 w' → Rr (.returned (.bool true)) w') :
    Code.wp Yba.prog (dropS 30 (Yba.f5.body.getD .skip)) (bodyPost Yba.prog Yba.f5 Rr) ⟨A, []⟩ w := by
  have HR : Hid _ := hR
  clear hR
  obtain ⟨⟨hA, h5, h6, h7, h8, h9, h10, h11, h12⟩, h30, h31, h32, hL, hgll⟩ := h
  have HL : Hid (L5 N s B T R g1 g2 rv rc gb c n pk w0 gl ov idb vg Bs GB v1 v2 ids v w) := hL
  have hlen : (gl.map (ent rv idb (gOf g1 g2 pk))).length = gl.length := by simp
  have e1 := pos_length (gl.map (ent rv idb (gOf g1 g2 pk))) Bs (at0 g1)
  have e2 := pos_length (gl.map (ent rv idb (gOf g1 g2 pk))) Bs (at0 g2)
  have e3 := gcount_eq (gl.map (ent rv idb (gOf g1 g2 pk)))
  rw [hlen] at e1 e2 e3
  obtain ⟨a1, cap1, hv1⟩ := hL.s1.form
  obtain ⟨a2, cap2, hv2⟩ := hL.s2.form
  have l1 := cntA_le (gl.map (ent rv idb (gOf g1 g2 pk))) (at0 g1) gl.length
  have l2 := cntA_le (gl.map (ent rv idb (gOf g1 g2 pk))) (at0 g2) gl.length
  have l3 := cntS_le (gl.map (ent rv idb (gOf g1 g2 pk))) gl.length
  obtain ⟨f1, hf1, hf12, hf13⟩ := hL.s1.row
  obtain ⟨f2, hf2, hf22, hf23⟩ := hL.s2.row
  have c12 := hf1.cell (i := 2) (by omega)
  have c13 := hf1.cell (i := 3) (by omega)
  have c22 := hf2.cell (i := 2) (by omega)
  have c23 := hf2.cell (i := 3) (by omega)
  rw [hf12, hv1] at c12
  rw [hf22, hv2] at c22
  rw [hf13] at c13
  rw [hf23] at c23
  have c17 := hL.q.sch.c17
  rw [e3] at c17
  have x1 : (if pos (gl.map (ent rv idb (gOf g1 g2 pk))) Bs (at0 g1) = [] then 0 else 1 : Nat) = if cntA (gl.map (ent rv idb (gOf g1 g2 pk))) (at0 g1) gl.length = 0 then 0 else 1 := by
    rw [← e1]; simp [List.length_eq_zero_iff]
  have x2 : (if pos (gl.map (ent rv idb (gOf g1 g2 pk))) Bs (at0 g2) = [] then 0 else 1 : Nat) = if cntA (gl.map (ent rv idb (gOf g1 g2 pk))) (at0 g2) gl.length = 0 then 0 else 1 := by
    rw [← e2]; simp [List.length_eq_zero_iff]
  rw [x1] at c13
  rw [x2] at c23
  rw [e1] at c12
  rw [e2] at c22
  clear hL e1 e2 e3 hv1 hv2 hf1 hf12 hf13 hf2 hf22 hf23 x1 x2 hlen
  generalize cntA (gl.map (ent rv idb (gOf g1 g2 pk))) (at0 g1) gl.length = m1 at *
  generalize cntA (gl.map (ent rv idb (gOf g1 g2 pk))) (at0 g2) gl.length = m2 at *
  generalize cntS (gl.map (ent rv idb (gOf g1 g2 pk))) gl.length = m3 at *
  obtain ⟨f, hf, rfl⟩ := lit469 A hA
  rw [hf] at h5 h6 h7 h8 h9 h10 h11 h12 h30 h31 h32
  clear hf hA
  conv => arg 2; whnf
  rw [h5, h6, h7, h8, h9, h10, h11, h12, h30, h31, h32]
  clear h5 h6 h7 h8 h9 h10 h11 h12 h30 h31 h32
  refine wp_seq_k ?_; intro K hK; have HK : Hid _ := hK; clear hK
  go_wp2_with fail
  refine HK.out _ _ ?_; clear HK K
  have HB1 : Hid (∀ b : Bool, (b = decide (m1 ≠ 0)) → Calls Yba.prog 20 #[.pointer (some ⟨g1, 3, none⟩)] w fun e w' => e = .returned (.bool b) ∧ w' = w) := fun b hb => by
    have h := boolLoad_any g1 3 (if m1 = 0 then 0 else 1) w c13
    rw [hb]
    by_cases h0 : m1 = 0
    · simpa [h0] using h
    · simpa [h0] using h
  have HB2 : Hid (∀ b : Bool, (b = decide (m2 ≠ 0)) → Calls Yba.prog 20 #[.pointer (some ⟨g2, 3, none⟩)] w fun e w' => e = .returned (.bool b) ∧ w' = w) := fun b hb => by
    have h := boolLoad_any g2 3 (if m2 = 0 then 0 else 1) w c23
    rw [hb]
    by_cases h0 : m2 = 0
    · simpa [h0] using h
    · simpa [h0] using h
  refine wp_seq_k ?_; intro K hK; have HK : Hid _ := hK; clear hK
  by_cases h1 : m1 = 0
  · have HB1 : Hid _ := fun (_ : Unit) => HB1.out false (by simp [h1])
    have h1' : ¬ (0 : Int) < (m1 : Int) := by omega
    clear h1
    by_cases h2 : m2 = 0
    · have HB2 : Hid _ := fun (_ : Unit) => HB2.out false (by simp [h2])
      have h2' : ¬ (0 : Int) < (m2 : Int) := by omega
      clear h2
      go_wp2_with fail
      refine (HB1.out ()).mono ?_
      rintro e w1 ⟨rfl, rfl⟩
      go_wp2_with fail
      refine (HB2.out ()).mono ?_
      rintro e w1 ⟨rfl, rfl⟩
      go_wp2_with fail
      refine HK.out _ _ ?_; clear HK K
      go_wp2_with fail
      exact HR.out _ HL.out.lw.bel
    · have HB2 : Hid _ := fun (_ : Unit) => HB2.out true (by simp [h2])
      have h2' : (0 : Int) < (m2 : Int) := by omega
      have h2n : 0 < m2 := by omega
      clear h2
      go_wp2_with fail
      refine (HB1.out ()).mono ?_
      rintro e w1 ⟨rfl, rfl⟩
      go_wp2_with fail
      refine (HB2.out ()).mono ?_
      rintro e w1 ⟨rfl, rfl⟩
      go_wp2_with fail
      refine HK.out _ _ ?_; clear HK K
      go_wp2_with fail
      exact HR.out _ HL.out.lw.bel
  · have HB1 : Hid _ := fun (_ : Unit) => HB1.out true (by simp [h1])
    have h1' : (0 : Int) < (m1 : Int) := by omega
    have h1n : 0 < m1 := by omega
    clear h1
    by_cases h2 : m2 = 0
    · have HB2 : Hid _ := fun (_ : Unit) => HB2.out false (by simp [h2])
      have h2' : ¬ (0 : Int) < (m2 : Int) := by omega
      clear h2
      go_wp2_with fail
      refine (HB1.out ()).mono ?_
      rintro e w1 ⟨rfl, rfl⟩
      go_wp2_with fail
      refine (HB2.out ()).mono ?_
      rintro e w1 ⟨rfl, rfl⟩
      go_wp2_with fail
      refine HK.out _ _ ?_; clear HK K
      go_wp2_with fail
      exact HR.out _ HL.out.lw.bel
    · have HB2 : Hid _ := fun (_ : Unit) => HB2.out true (by simp [h2])
      have h2' : (0 : Int) < (m2 : Int) := by omega
      have h2n : 0 < m2 := by omega
      clear h2
      go_wp2_with fail
      refine (HB1.out ()).mono ?_
      rintro e w1 ⟨rfl, rfl⟩
      go_wp2_with fail
      refine (HB2.out ()).mono ?_
      rintro e w1 ⟨rfl, rfl⟩
      go_wp2_with fail
      refine HK.out _ _ ?_; clear HK K
      go_wp2_with fail
      exact HR.out _ HL.out.lw.bel
end Go.Proofs.Ybulkctey
