/-
  SEAT b4743a. QUEUE: the law: what stands at the cuts; the set-up.
-/
import Derived.Test.YbulkcteyCut
namespace Go.Proofs.Ybulkctey
open Go.RowKit Go.Deep

/-- What holds through the law. -/
structure Lw (N s B T R g1 g2 rv rc gb c n : Nat) (G : Nat → Option Addr) (w0 w : World) : Prop where
  cap : Cap c
  ge : N ≤ s ∧ N ≤ B ∧ N ≤ T ∧ N ≤ R ∧ N ≤ g1 ∧ N ≤ g2 ∧ N ≤ rv ∧ N ≤ rc ∧ N ≤ gb
  bel : Below N w0 w
  grp : w.rowIs gb 81 n (fun k => .pointer (G k))
  gbR : gb ≠ R
/-- The slots that live through the law. -/
structure Fm (s B g1 g2 rv gb c n : Nat) (A : Array Value) : Prop where
  size : A.size = 469
  f5 : A.getD 5 undef = .int .i64 c
  f6 : A.getD 6 undef = .pointer (some ⟨s, 0, none⟩)
  f7 : A.getD 7 undef = .pointer (some ⟨B, 0, none⟩)
  f8 : A.getD 8 undef = .pointer (some ⟨g1, 0, none⟩)
  f9 : A.getD 9 undef = .pointer (some ⟨g2, 0, none⟩)
  f10 : A.getD 10 undef = .pointer (some ⟨rv, 0, none⟩)
  f11 : A.getD 11 undef = .int .i64 n
  f12 : A.getD 12 undef = .slice (some ⟨gb, 0, none⟩) n n
/-- Behind the set-up. -/
structure St12 (N s B T R g1 g2 rv rc gb c n : Nat) (p : Value) (w0 : World) (A : Array Value) (w : World) : Prop where
  fm : Fm s B g1 g2 rv gb c n A
  f1 : A.getD 1 undef = p
  lw : Lw N s B T R g1 g2 rv rc gb c n (fun _ => none) w0 w
  q : QC B T R c (lay c 0 0 []) false (word 0 0 0 0) w
  g : GS N s g1 g2 0 0 [] w
  r : RecI rv rc [] (.slice none 0 0) w

theorem cap_of (q : Nat) : ∃ c : Nat, Cap c ∧ wrap64 (2 * 2 ^ (q % 5)) = (c : Int) := by
  have h : q % 5 = 0 ∨ q % 5 = 1 ∨ q % 5 = 2 ∨ q % 5 = 3 ∨ q % 5 = 4 := by omega
  rcases h with h | h | h | h | h <;> rw [h]
  · exact ⟨2, .inl rfl, by simp [wrap64]⟩
  · exact ⟨4, .inr (.inl rfl), by simp [wrap64]⟩
  · exact ⟨8, .inr (.inr (.inl rfl)), by simp [wrap64]⟩
  · exact ⟨16, .inr (.inr (.inr (.inl rfl))), by simp [wrap64]⟩
  · exact ⟨32, .inr (.inr (.inr (.inr rfl))), by simp [wrap64]⟩

theorem Sch.set1 {s : Nat} {mu : Int} {ov la n ne gc : Nat} {hd tl : Option Addr} {w : World} (h : Sch s mu ov hd tl la n ne gc w) (v : Value) : Sch s mu ov hd tl la n ne gc (w.setCell ⟨s, 1, none⟩ v) := by
  obtain ⟨f, hf, h2, h11, h12, h13, h14, h15, h16, h17, h26⟩ := h
  exact ⟨_, hf.set 1 _, by simpa using h2, by simpa using h11, by simpa using h12, by simpa using h13, by simpa using h14, by simpa using h15, by simpa using h16, by simpa using h17, by simpa using h26⟩

/-- The world behind the set-up. -/
def setW (s B n : Nat) (w : World) : World :=
  ((((((w.setCell ⟨s, 1, none⟩ (.slice (some ⟨w.heap.size, 0, none⟩) 1 1)).alloc (.cells #[.pointer (some ⟨B, 0, none⟩)] 79)).alloc (.cells #[.pointer none, .int .i64 0, .slice none 0 0, .int .u32 0] 87)).alloc
    (.cells #[.pointer none, .int .i64 0, .slice none 0 0, .int .u32 0] 87)).alloc (.cells #[.slice none 0 0] 91)).alloc (.cells #[.pointer (some ⟨w.heap.size + 1 + 1 + 1, 0, none⟩)] 88)).alloc (.cells (madeCells #[.pointer none] n) 81)
theorem setW_ok {N B T R c n : Nat} {w0 w : World} (hc : Cap c) (hs : Sch N 0 0 none none 0 0 0 0 w) (hq : QM B T R c (fun _ => .nilFunc) (fun _ => .pointer none) false 0 w) (hb : Below N w0 w) (hB : N ≤ B) (hT : N ≤ T) (hR : N ≤ R) :
    Lw N N B T R (w.heap.size + 1) (w.heap.size + 1 + 1) (w.heap.size + 1 + 1 + 1 + 1) (w.heap.size + 1 + 1 + 1) (w.heap.size + 1 + 1 + 1 + 1 + 1) c n (fun _ => none) w0 (setW N B n w) ∧
    QC B T R c (lay c 0 0 []) false (word 0 0 0 0) (setW N B n w) ∧ GS N N (w.heap.size + 1) (w.heap.size + 1 + 1) 0 0 [] (setW N B n w) ∧ RecI (w.heap.size + 1 + 1 + 1 + 1) (w.heap.size + 1 + 1 + 1) [] (.slice none 0 0) (setW N B n w) := by
  have hsl := hs.lt
  have hltB := hq.ltB
  have hltT := hq.t.lt
  have hltR := hq.g.lt
  have hs' := hs
  obtain ⟨fs, hfs, _⟩ := hs'
  have nB : N ≠ B := by obtain ⟨f, hf, _⟩ := hq.p; exact rowIs_ne hfs hf (by decide)
  have nT : N ≠ T := rowIs_ne hfs hq.t (by decide)
  have nR : N ≠ R := rowIs_ne hfs hq.g (by decide)
  have hs1 := hs.set1 (.slice (some ⟨w.heap.size, 0, none⟩) 1 1)
  have hq1 : QM B T R c (fun _ => .nilFunc) (fun _ => .pointer none) false 0 (w.setCell ⟨N, 1, none⟩ (.slice (some ⟨w.heap.size, 0, none⟩) 1 1)) := hq.frame ((Fr.refl (fun b => b = N) w).setCell (fun _ => rfl) _) (fun e => nB e.symm) (fun e => nT e.symm) (fun e => nR e.symm)
  have hb1 : Below N w0 (w.setCell ⟨N, 1, none⟩ (.slice (some ⟨w.heap.size, 0, none⟩) 1 1)) := hb.setCell (Nat.le_refl _) _
  have z0 : (w.setCell ⟨N, 1, none⟩ (.slice (some ⟨w.heap.size, 0, none⟩) 1 1)).heap.size = w.heap.size := by simp [World.setCell]
  unfold setW
  generalize w.setCell ⟨N, 1, none⟩ (.slice (some ⟨w.heap.size, 0, none⟩) 1 1) = u0 at *
  rw [← z0] at hsl hltB hltT hltR ⊢
  clear hq hb hs hfs
  have r1 := rowIs_any (u0.alloc (.cells #[.pointer (some ⟨B, 0, none⟩)] 79)) #[.pointer none, .int .i64 0, .slice none 0 0, .int .u32 0] 87 (n := 4) rfl
  have z1 : (u0.alloc (.cells #[.pointer (some ⟨B, 0, none⟩)] 79)).heap.size = u0.heap.size + 1 := by simp
  rw [z1] at r1
  have hs2 := hs1.alloc (.cells #[.pointer (some ⟨B, 0, none⟩)] 79)
  have hq2 := hq1.alloc (.cells #[.pointer (some ⟨B, 0, none⟩)] 79)
  have hb2 := hb1.alloc (by omega) (.cells #[.pointer (some ⟨B, 0, none⟩)] 79)
  generalize u0.alloc (.cells #[.pointer (some ⟨B, 0, none⟩)] 79) = u1 at *
  have hs3 := hs2.alloc (.cells #[.pointer none, .int .i64 0, .slice none 0 0, .int .u32 0] 87)
  have hq3 := hq2.alloc (.cells #[.pointer none, .int .i64 0, .slice none 0 0, .int .u32 0] 87)
  have hb3 := hb2.alloc (by omega) (.cells #[.pointer none, .int .i64 0, .slice none 0 0, .int .u32 0] 87)
  have r2 := rowIs_any (u1.alloc (.cells #[.pointer none, .int .i64 0, .slice none 0 0, .int .u32 0] 87)) #[.pointer none, .int .i64 0, .slice none 0 0, .int .u32 0] 87 (n := 4) rfl
  have z2 : (u1.alloc (.cells #[.pointer none, .int .i64 0, .slice none 0 0, .int .u32 0] 87)).heap.size = u0.heap.size + 1 + 1 := by simp [z1]
  rw [z2] at r2
  generalize u1.alloc (.cells #[.pointer none, .int .i64 0, .slice none 0 0, .int .u32 0] 87) = u2 at *
  have hs4 := hs3.alloc (.cells #[.pointer none, .int .i64 0, .slice none 0 0, .int .u32 0] 87)
  have hq4 := hq3.alloc (.cells #[.pointer none, .int .i64 0, .slice none 0 0, .int .u32 0] 87)
  have hb4 := hb3.alloc (by omega) (.cells #[.pointer none, .int .i64 0, .slice none 0 0, .int .u32 0] 87)
  have r1a := r1.alloc (.cells #[.pointer none, .int .i64 0, .slice none 0 0, .int .u32 0] 87)
  have r3 := rowIs_any (u2.alloc (.cells #[.pointer none, .int .i64 0, .slice none 0 0, .int .u32 0] 87)) #[.slice none 0 0] 91 (n := 1) rfl
  have z3 : (u2.alloc (.cells #[.pointer none, .int .i64 0, .slice none 0 0, .int .u32 0] 87)).heap.size = u0.heap.size + 1 + 1 + 1 := by simp [z2]
  rw [z3] at r3
  generalize u2.alloc (.cells #[.pointer none, .int .i64 0, .slice none 0 0, .int .u32 0] 87) = u3 at *
  have hs5 := hs4.alloc (.cells #[.slice none 0 0] 91)
  have hq5 := hq4.alloc (.cells #[.slice none 0 0] 91)
  have hb5 := hb4.alloc (by omega) (.cells #[.slice none 0 0] 91)
  have r1b := r1a.alloc (.cells #[.slice none 0 0] 91)
  have r2b := r2.alloc (.cells #[.slice none 0 0] 91)
  have r4 := rowIs_any (u3.alloc (.cells #[.slice none 0 0] 91)) #[.pointer (some ⟨u0.heap.size + 1 + 1 + 1, 0, none⟩)] 88 (n := 1) rfl
  have z4 : (u3.alloc (.cells #[.slice none 0 0] 91)).heap.size = u0.heap.size + 1 + 1 + 1 + 1 := by simp [z3]
  rw [z4] at r4
  generalize u3.alloc (.cells #[.slice none 0 0] 91) = u4 at *
  have hs6 := hs5.alloc (.cells #[.pointer (some ⟨u0.heap.size + 1 + 1 + 1, 0, none⟩)] 88)
  have hq6 := hq5.alloc (.cells #[.pointer (some ⟨u0.heap.size + 1 + 1 + 1, 0, none⟩)] 88)
  have hb6 := hb5.alloc (by omega) (.cells #[.pointer (some ⟨u0.heap.size + 1 + 1 + 1, 0, none⟩)] 88)
  have r1c := r1b.alloc (.cells #[.pointer (some ⟨u0.heap.size + 1 + 1 + 1, 0, none⟩)] 88)
  have r2c := r2b.alloc (.cells #[.pointer (some ⟨u0.heap.size + 1 + 1 + 1, 0, none⟩)] 88)
  have r3c := r3.alloc (.cells #[.pointer (some ⟨u0.heap.size + 1 + 1 + 1, 0, none⟩)] 88)
  have z5 : (u4.alloc (.cells #[.pointer (some ⟨u0.heap.size + 1 + 1 + 1, 0, none⟩)] 88)).heap.size = u0.heap.size + 1 + 1 + 1 + 1 + 1 := by simp [z4]
  generalize u4.alloc (.cells #[.pointer (some ⟨u0.heap.size + 1 + 1 + 1, 0, none⟩)] 88) = u5 at *
  have hs7 := hs6.alloc (.cells (madeCells #[.pointer none] n) 81)
  have hq7 := hq6.alloc (.cells (madeCells #[.pointer none] n) 81)
  have hb7 := hb6.alloc (by omega) (.cells (madeCells #[.pointer none] n) 81)
  have r5 := World.rowIs_made u5 (.pointer none) n 81
  rw [z5] at r5
  refine ⟨⟨hc, by omega, hb7, r5, by omega⟩, ?_, ⟨fun _ => 0, fun _ => none, .slice none 0 0, .slice none 0 0, ⟨hs7, fun m hm => absurd hm (by simp), fun m b hm => absurd hm (by simp), fun m hm => absurd hm (by simp), fun m m' _ hm => absurd hm (by simp), Nat.le_refl _, fun m hm => absurd hm (by simp), fun m b hm => absurd hm (by simp), fun m m' _ _ _ hm => absurd hm (by simp)⟩, ⟨⟨_, r1c.alloc _, rfl, rfl⟩, ⟨rfl, .inl ⟨rfl, rfl⟩⟩, by omega⟩, ⟨⟨_, r2c.alloc _, rfl, rfl⟩, ⟨rfl, .inl ⟨rfl, rfl⟩⟩, by omega⟩, (fun k hk => by cases hk), by omega⟩, ?_⟩
  · exact QM.congr hq7 (fun k _ => by simp [tkC, lay, oT]) (fun k _ => by simp [gkC, lay, oG])
  · exact ⟨(r4.alloc _).congr fun j hj => by simp [show j = 0 by omega], (r3c.alloc _).congr fun j hj => by simp [show j = 0 by omega], ⟨rfl, .inl ⟨rfl, rfl⟩⟩⟩

set_option maxRecDepth 1000000 in
set_option maxHeartbeats 8000000 in
theorem part0 (q len cap : Nat) (a0 : Option Addr) (hq : q < 256) (hl : len ≤ 1024) (A : Array Value) (hA : A.size = 469) (h0 : A.getD 0 undef = .int .u8 q) (h1 : A.getD 1 undef = .slice a0 len cap) (w : World) (Q : Exit → Act → World → Prop)
    (hnext : ∀ A' w' s B T R g1 g2 rv rc gb c, St12 w.heap.size s B T R g1 g2 rv rc gb c len (.slice a0 len cap) w A' w' → Code.wp Yba.prog (dropS 12 (Yba.f5.body.getD .skip)) Q ⟨A', []⟩ w') :
    Code.wp Yba.prog (dropS 0 (Yba.f5.body.getD .skip)) Q ⟨A, []⟩ w := by
  have HN : Hid _ := hnext
  clear hnext
  obtain ⟨f, hf, rfl⟩ := lit469 A hA
  have f0 : f 0 = .int .u8 q := (hf 0).symm.trans h0
  have f1 : f 1 = .slice a0 len cap := (hf 1).symm.trans h1
  clear hf h0 h1 hA
  obtain ⟨c, hcp, hcap⟩ := cap_of q
  have hl' : ¬ (1024 : Int) < (len : Int) := by omega
  conv => arg 2; whnf
  rw [f0, f1]
  clear f0 f1
  refine wp_seq_k ?_; intro K hK; have HK : Hid _ := hK; clear hK
  go_wp2_with fail
  refine HK.out _ _ ?_; clear HK K
  refine wp_seq_k ?_; intro K hK; have HK : Hid _ := hK; clear hK
  go_wp2_with fail
  refine HK.out _ _ ?_; clear HK K
  refine wp_seq_k ?_; intro K hK; have HK : Hid _ := hK; clear hK
  go_wp2_with fail
  refine HK.out _ _ ?_; clear HK K
  rw [hcap]
  refine wp_seq_k ?_; intro K hK; have HK : Hid _ := hK; clear hK
  go_wp2_with fail
  refine HK.out _ _ ?_; clear HK K
  refine wp_seq_k ?_; intro K hK; have HK : Hid _ := hK; clear hK
  go_wp2_with fail
  refine HK.out _ _ ?_; clear HK K
  refine wp_seq_k ?_; intro K hK; have HK : Hid _ := hK; clear hK
  go_wp2_with fail
  have hcc : 2 ≤ c ∧ c ≤ 32 := by rcases hcp with rfl | rfl | rfl | rfl | rfl <;> omega
  generalize hW1 : World.alloc w _ = W1
  have HS1 : Hid (Sch w.heap.size 0 0 none none 0 0 0 0 W1) := by show Sch _ _ _ _ _ _ _ _ _ _; rw [← hW1]; exact ⟨_, rowIs_any w _ 77 rfl, rfl, rfl, rfl, rfl, rfl, rfl, rfl, rfl, rfl⟩
  have HB1 : Hid (Below w.heap.size w W1) := by show Below _ _ _; rw [← hW1]; exact (Below.refl _ _).alloc (Nat.le_refl _) _
  have hz1 : W1.heap.size = w.heap.size + 1 := by rw [← hW1]; simp
  clear hW1
  refine (newProc_any c (by omega) W1).mono ?_
  rintro e w2 ⟨B, T, R, rfl, hq2, hgB, hgT, hgR, hb2⟩
  have hz2 : w.heap.size < w2.heap.size := by have := hb2.size; omega
  have HS2 : Hid (Sch w.heap.size 0 0 none none 0 0 0 0 w2) := HS1.out.frame (hb2.block _ (by omega))
  have HB2 : Hid (Below w.heap.size w w2) := HB1.out.trans (hb2.mono (by omega))
  have HQ2 : Hid (QM B T R c (fun _ => .nilFunc) (fun _ => .pointer none) false 0 w2) := hq2
  have hltB := hq2.ltB
  have hltT := hq2.t.lt
  have hltR := hq2.g.lt
  have hne := hq2.ne
  clear hq2 hb2 HS1 HB1
  go_wp2_with fail
  refine HK.out _ _ ?_; clear HK K
  obtain ⟨fs, hfs⟩ : ∃ fs, w2.rowIs w.heap.size 77 46 fs := by obtain ⟨fs, h, _⟩ := HS2.out; exact ⟨fs, h⟩
  have s1 := hfs.cell (i := 1) (by omega)
  have s1z := hfs.frozen 1
  clear hfs
  refine wp_seq_k ?_; intro K hK; have HK : Hid _ := hK; clear hK
  go_wp2_with fail
  refine HK.out _ _ ?_; clear HK K
  refine wp_seq_k ?_; intro K hK; have HK : Hid _ := hK; clear hK
  go_wp2_with fail
  refine HK.out _ _ ?_; clear HK K
  refine wp_seq_k ?_; intro K hK; have HK : Hid _ := hK; clear hK
  go_wp2_with fail
  refine HK.out _ _ ?_; clear HK K
  refine wp_seq_k ?_; intro K hK; have HK : Hid _ := hK; clear hK
  go_wp2_with fail
  refine HK.out _ _ ?_; clear HK K
  refine wp_seq_k ?_; intro K hK; have HK : Hid _ := hK; clear hK
  go_wp2_with fail
  refine HK.out _ _ ?_; clear HK K
  refine wp_seq_k ?_; intro K hK; have HK : Hid _ := hK; clear hK
  have hmk := fun W => run_make_row' (P := Yba.prog) 26 81 (.pointer none) 8 Yba.underlying26 info81 rfl .i64 .i64 len (by omega) (by omega) W
  go_wp2_with fail
  refine HK.out _ _ ?_; clear HK K
  obtain ⟨k1, k2, k3, k4⟩ := setW_ok (n := len) hcp HS2.out HQ2.out HB2.out (by omega) (by omega) (by omega)
  exact HN.out _ _ _ _ _ _ _ _ _ _ _ _ ⟨⟨rfl, rfl, rfl, rfl, rfl, rfl, rfl, rfl, rfl⟩, rfl, k1, k2, k3, k4⟩
end Go.Proofs.Ybulkctey
