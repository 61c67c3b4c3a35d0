/-
  SEAT b4743a. QUEUE: the law's fifth loop: an entry of the first group.
-/
import Derived.Test.YbulkcteyLaw11
namespace Go.Proofs.Ybulkctey
open Go.RowKit Go.Deep

set_option maxRecDepth 1000000 in
set_option maxHeartbeats 32000000 in
theorem rest_g1 (N s B T R g1 g2 rv rc gb c n : Nat) (pk : Nat → Nat) (w0 : World) (gl : List Nat) (ov : Nat) (idb : Nat → Nat) (vg : Value) (Bs : Nat → Nat) (GB : Nat → Option Nat) (v1 v2 : Value) (ids : List Nat) (v : Value) (es : List Ent) (m p k l b0 gi capg : Nat) (A4 : Array Value) (w2 : World) (Q : Exit → Act → World → Prop)
    (hFm : Fm s B g1 g2 rv gb c n A4) (hFm5 : Fm5 es g1 g2 m p (.slice (some ⟨gi, 0, none⟩) m capg) A4) (h33 : A4.getD 33 undef = .pointer (some ⟨b0, 0, none⟩)) (h34 : A4.getD 34 undef = .int .i64 (l : Nat)) (h36 : A4.getD 36 undef = .int .i64 (k : Nat))
    (hL6 : L5 N s B T R g1 g2 rv rc gb c n pk w0 gl ov idb vg Bs GB v1 v2 ids v w2)
    (hes : es = gl.map (ent rv idb (gOf g1 g2 pk))) (hel : es.length = m) (hml : m ≤ 1024) (hlt : p < m) (hkn : k < n) (hb0 : b0 = Bs (p / 256)) (hll : l = p % 256) (hgr : grp es p = gOf g1 g2 pk k) (hga : gOf g1 g2 pk k = some (at0 g1))
    (fin : ∀ (A5 : Array Value) (w5 : World), Fm s B g1 g2 rv gb c n A5 → A5.getD 30 undef = .int .i64 (cntA es (at0 g1) (p + 1) : Nat) → A5.getD 31 undef = .int .i64 (cntA es (at0 g2) (p + 1) : Nat) → A5.getD 32 undef = .int .i64 (cntS es (p + 1) : Nat) → A5.getD 296 undef = .slice (some ⟨gi, 0, none⟩) m capg → A5.getD 297 undef = .int .i64 (m : Nat) → A5.getD 298 undef = .int .i64 (p : Nat) → A5.getD 33 undef = .pointer (some ⟨b0, 0, none⟩) → A5.getD 34 undef = .int .i64 ((l : Nat) + 1) → L5 N s B T R g1 g2 rv rc gb c n pk w0 gl ov idb vg Bs GB v1 v2 ids v w5 → Q .normal ⟨A5, []⟩ w5) :
    Code.wp Yba.prog (restC (dropS 29 (Yba.f5.body.getD .skip))) Q ⟨A4, []⟩ w2 := by
  have FIN : Hid _ := fin
  have HL6 : Hid (L5 N s B T R g1 g2 rv rc gb c n pk w0 gl ov idb vg Bs GB v1 v2 ids v w2) := hL6
  have HQ6 : Hid (GQ N s 0 ov es Bs GB w2) := by rw [hes]; exact hL6.q
  have HES : Hid (es = gl.map (ent rv idb (gOf g1 g2 pk))) := hes
  have HEL : Hid (es.length = m) := hel
  have HB0 : Hid (b0 = Bs (p / 256)) := hb0
  have HLL : Hid (l = p % 256) := hll
  have HGA : Hid (grp es p = some (at0 g1)) := hgr.trans hga
  have hl256 : (l : Int) < 256 := by omega
  have hlt' : (p : Int) < (m : Int) := by omega
  have hkn' : (k : Int) < (n : Int) := by omega
  clear hL6 hes hel hb0 hll hgr fin
  obtain ⟨hA, h5, h6, h7, h8, h9, h10, h11, h12⟩ := hFm
  obtain ⟨h30, h31, h32, h296, h297, h298⟩ := hFm5
  obtain ⟨f4, hf, rfl⟩ := lit469 A4 hA
  rw [hf] at h5 h6 h7 h8 h9 h10 h11 h12 h30 h31 h32 h296 h297 h298 h33 h34 h36
  clear hf hA
  conv => arg 2; whnf
  rw [h5, h6, h7, h8, h9, h10, h11, h12, h30, h31, h32, h296, h297, h298, h33, h34, h36]
  clear h5 h6 h7 h8 h9 h10 h11 h12 h30 h31 h32 h296 h297 h298 h33 h34 h36
  have cg := HL6.out.lw.grp.cell hkn
  obtain ⟨fn, hfn, hfk, hfg, hfx⟩ := HQ6.out.seg (p / 256) (by have := HEL.out; omega)
  have c256 := hfn.cell (i := 256) (by omega)
  rw [hfg, ← HB0.out] at c256
  clear hfn hfk hfg hfx
  rw [hga] at cg
  clear hga
  have hgg := HL6.out.gg
  have hnat : at0 g1 ≠ at0 g2 := fun e => hgg (by simpa [at0] using e)
  obtain ⟨o, ho⟩ : ∃ o, o = GB (p / 256) := ⟨_, rfl⟩
  have HOO : Hid (o = GB (p / 256)) := ho
  rw [← ho] at c256
  clear ho
  have hgs : ∃ gbk, o = some gbk := by
    cases o with
    | none =>
      have h1 := HQ6.out.no (p / 256) (by have := HEL.out; omega) HOO.out.symm l (by omega)
      rw [show 256 * (p / 256) + l = p from by have := HLL.out; omega, HGA.out] at h1
      cases h1
    | some gbk => exact ⟨gbk, rfl⟩
  obtain ⟨gbk, rfl⟩ := hgs
  have e1 := cntA_succ es (at0 g1) p
  have e2 := cntA_succ es (at0 g2) p
  have e3 := cntS_succ es p
  rw [HGA.out] at e1 e2 e3
  rw [if_pos rfl] at e1
  rw [if_neg (fun e => hnat (Option.some.inj e))] at e2
  simp only [Option.isSome_some, ↓reduceIte] at e3
  obtain ⟨E1, E2, E3⟩ : Hid (cntA es (at0 g1) (p + 1) = cntA es (at0 g1) p + 1) ∧ Hid (cntA es (at0 g2) (p + 1) = cntA es (at0 g2) p + 0) ∧ Hid (cntS es (p + 1) = cntS es p + 1) := ⟨e1, e2, e3⟩
  have hpe : p < es.length := by have := HEL.out; omega
  have hs0 : SP N g1 (pos es Bs (at0 g1)) v1 w2 := by rw [HES.out]; exact HL6.out.s1
  obtain ⟨gs, cap, hvs, cs0, cs1⟩ := hs0.at (cntA es (at0 g1) p) (Bs (p / 256)) (p % 256) (pos_at es Bs (at0 g1) p hpe HGA.out)
  rw [← HB0.out] at cs0
  rw [← HLL.out] at cs1
  have hk1 := cntA_lt es Bs (at0 g1) p hpe HGA.out
  have hpl := pos_len es Bs (at0 g1)
  obtain ⟨fg, hfg, hfg2, _⟩ := hs0.row
  have cg2 := hfg.cell (i := 2) (by omega)
  rw [hfg2, hvs] at cg2
  have hltg := hfg.lt
  have hlts := World.block_lt_of_cell? _ _ cs0
  simp only at hlts
  obtain ⟨f1', hf1', _⟩ := HL6.out.s1.row
  obtain ⟨f2', hf2', _⟩ := HL6.out.s2.row
  have cgk := (HQ6.out.ga (p / 256) gbk (by have := HEL.out; omega) HOO.out.symm).cell (i := l) (by omega)
  rw [show 256 * (p / 256) + l = p from by have := HLL.out; omega, HGA.out] at cgk
  obtain ⟨j87, h87, hz87⟩ := info87
  have hpn := fun W => neq_ptr_same (P := Yba.prog) W (some ⟨g1, 0, none⟩) Yba.underlying81 h87
  have heq := fun W => eql_ptr_same (P := Yba.prog) W (some ⟨g1, 0, none⟩) Yba.underlying81 h87
  have hps := fun W => neq_pos_same W ⟨b0, 0, none⟩ (l : Int)
  obtain ⟨k1, hk1e⟩ : ∃ k1, k1 = cntA es (at0 g1) p := ⟨_, rfl⟩
  have HK1 : Hid (k1 = cntA es (at0 g1) p) := hk1e
  have l3 := cntS_le es p
  rw [← hk1e] at hk1 cs0 cs1
  rw [← hk1e]
  obtain ⟨m1, hm1e⟩ : ∃ m1, m1 = (pos es Bs (at0 g1)).length := ⟨_, rfl⟩
  rw [← hm1e] at hk1 cg2
  have hm1b : m1 ≤ 1024 := by have := HEL.out; omega
  have hd1 : ¬ (m1 : Int) ≤ (k1 : Int) := by omega
  have hd2 : (k1 : Int) < (m1 : Int) := by omega
  have hd3 : decide ((m1 : Int) ≤ (k1 : Int)) = false := by simp; omega
  rw [Nat.mul_comm 2 k1] at cs0 cs1
  obtain ⟨m3, hm3e⟩ : ∃ m3, m3 = cntS es p := ⟨_, rfl⟩
  have HM3 : Hid (m3 = cntS es p) := hm3e
  rw [← hm3e] at l3 ⊢
  simp only [Option.map, at0] at c256 cgk cg cs0
  clear e1 e2 e3 hfg hfg2 hvs hs0 hk1e hm1e hpl hnat hpe hm3e hf1' hf2'
  go_wp2_with fail
  go_quiet (fail)
  go_wp2_with fail
  exact FIN.out _ _ ⟨rfl, rfl, rfl, rfl, rfl, rfl, rfl, rfl, rfl⟩ (congrArg (Value.int .i64) (by rw [E1.out, ← HK1.out]; show (k1 : Int) + 1 = _; omega)) (by rw [E2.out]; rfl) (congrArg (Value.int .i64) (by rw [E3.out, ← HM3.out]; show (m3 : Int) + 1 = _; omega)) rfl rfl rfl rfl rfl ((HL6.out.alloc _).drewN _)
end Go.Proofs.Ybulkctey
