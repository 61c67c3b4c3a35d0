/-
  SEAT b4743a. QUEUE: the law's fifth loop: an entry of no group.
-/
import Derived.Test.YbulkcteyLaw8
import Derived.Test.YbulkcteyLaw10
namespace Go.Proofs.Ybulkctey
open Go.RowKit Go.Deep

theorem Sch.c13 {s : Nat} {mu : Int} {ov la n ne gc : Nat} {hd tl : Option Addr} {w : World} (h : Sch s mu ov hd tl la n ne gc w) : w.cell? ⟨s, 13, none⟩ = some (.int .i64 0) := by
  obtain ⟨f, hf, h2, h11, h12, h13, _⟩ := h
  rw [← h13]; exact hf.cell (by omega)
/-- Where the fifth loop stands ahead of the p-th entry. -/
def segB (Bs : Nat → Nat) (p : Nat) : Nat := if p = 0 then Bs 0 else Bs ((p - 1) / 256)
def idxI (p : Nat) : Nat := if p = 0 then 0 else (p - 1) % 256 + 1
/-- The loop's slots. -/
structure Fm5 (es : List Ent) (g1 g2 m p : Nat) (vg : Value) (A : Array Value) : Prop where
  f30 : A.getD 30 undef = .int .i64 (cntA es (at0 g1) p : Nat)
  f31 : A.getD 31 undef = .int .i64 (cntA es (at0 g2) p : Nat)
  f32 : A.getD 32 undef = .int .i64 (cntS es p : Nat)
  f296 : A.getD 296 undef = vg
  f297 : A.getD 297 undef = .int .i64 (m : Nat)
  f298 : A.getD 298 undef = .int .i64 (p : Nat)

/-- A statement's part, by the way to it. -/
def subC : List Bool → Code → Code
  | [], c => c
  | false :: l, .seq a _ => subC l a
  | true :: l, .seq _ b => subC l b
  | false :: l, .cond _ a _ => subC l a
  | true :: l, .cond _ _ b => subC l b
  | _ :: l, .block _ b => subC l b
  | _ :: l, .loop b => subC l b
  | _ :: _, c => c
/-- In the fifth loop's body: what follows the test of the entry's id. -/
def restC (c : Code) : Code := subC [false, true, true, true, true, false, true, false, false, true, true, false, false, true, true, true, true] c

set_option maxRecDepth 1000000 in
set_option maxHeartbeats 32000000 in
theorem rest_none (N s B T R g1 g2 rv rc gb c n : Nat) (pk : Nat → Nat) (w0 : World) (gl : List Nat) (ov : Nat) (idb : Nat → Nat) (vg : Value) (Bs : Nat → Nat) (GB : Nat → Option Nat) (v1 v2 : Value) (ids : List Nat) (v : Value) (es : List Ent) (m p k l b0 gi capg : Nat) (A4 : Array Value) (w2 : World) (Q : Exit → Act → World → Prop)
    (hFm : Fm s B g1 g2 rv gb c n A4) (hFm5 : Fm5 es g1 g2 m p (.slice (some ⟨gi, 0, none⟩) m capg) A4) (h33 : A4.getD 33 undef = .pointer (some ⟨b0, 0, none⟩)) (h34 : A4.getD 34 undef = .int .i64 (l : Nat)) (h36 : A4.getD 36 undef = .int .i64 (k : Nat))
    (hL6 : L5 N s B T R g1 g2 rv rc gb c n pk w0 gl ov idb vg Bs GB v1 v2 ids v w2)
    (hes : es = gl.map (ent rv idb (gOf g1 g2 pk))) (hel : es.length = m) (_hml : m ≤ 1024) (hlt : p < m) (hkn : k < n) (hb0 : b0 = Bs (p / 256)) (hll : l = p % 256) (hgr : grp es p = gOf g1 g2 pk k) (hga : gOf g1 g2 pk k = none)
    (fin : ∀ (A5 : Array Value) (w5 : World), Fm s B g1 g2 rv gb c n A5 → A5.getD 30 undef = .int .i64 (cntA es (at0 g1) (p + 1) : Nat) → A5.getD 31 undef = .int .i64 (cntA es (at0 g2) (p + 1) : Nat) → A5.getD 32 undef = .int .i64 (cntS es (p + 1) : Nat) → A5.getD 296 undef = .slice (some ⟨gi, 0, none⟩) m capg → A5.getD 297 undef = .int .i64 (m : Nat) → A5.getD 298 undef = .int .i64 (p : Nat) → A5.getD 33 undef = .pointer (some ⟨b0, 0, none⟩) → A5.getD 34 undef = .int .i64 ((l : Nat) + 1) → L5 N s B T R g1 g2 rv rc gb c n pk w0 gl ov idb vg Bs GB v1 v2 ids v w5 → Q .normal ⟨A5, []⟩ w5) :
    Code.wp Yba.prog (restC (dropS 29 (Yba.f5.body.getD .skip))) Q ⟨A4, []⟩ w2 := by
  have FIN : Hid _ := fin
  have HL6 : Hid (L5 N s B T R g1 g2 rv rc gb c n pk w0 gl ov idb vg Bs GB v1 v2 ids v w2) := hL6
  have HQ6 : Hid (GQ N s 0 ov es Bs GB w2) := by rw [hes]; exact hL6.q
  have HES : Hid (es = gl.map (ent rv idb (gOf g1 g2 pk))) := hes
  have HEL : Hid (es.length = m) := hel
  have HB0 : Hid (b0 = Bs (p / 256)) := hb0
  have HLL : Hid (l = p % 256) := hll
  have HGA : Hid (grp es p = none) := hgr.trans hga
  have hl256 : (l : Int) < 256 := by omega
  have hlt' : (p : Int) < (m : Int) := by omega
  have hkn' : (k : Int) < (n : Int) := by omega
  clear hL6 hes hel hb0 hll hgr fin
  obtain ⟨hA, h5, h6, h7, h8, h9, h10, h11, h12⟩ := hFm
  obtain ⟨h30, h31, h32, h296, h297, h298⟩ := hFm5
  obtain ⟨f4, hf, rfl⟩ := lit469 A4 hA
  rw [hf] at h5 h6 h7 h8 h9 h10 h11 h12 h30 h31 h32 h296 h297 h298 h33 h34 h36
  clear hf hA
  conv => arg 2; whnf
  rw [h5, h6, h7, h8, h9, h10, h11, h12, h30, h31, h32, h296, h297, h298, h33, h34, h36]
  clear h5 h6 h7 h8 h9 h10 h11 h12 h30 h31 h32 h296 h297 h298 h33 h34 h36
  have cg := HL6.out.lw.grp.cell hkn
  obtain ⟨fn, hfn, hfk, hfg, hfx⟩ := HQ6.out.seg (p / 256) (by have := HEL.out; omega)
  have c256 := hfn.cell (i := 256) (by omega)
  rw [hfg, ← HB0.out] at c256
  clear hfn hfk hfg hfx
  rw [hga] at cg
  clear hga
  have hgg := HL6.out.gg
  have hnat : at0 g1 ≠ at0 g2 := fun e => hgg (by simpa [at0] using e)
  obtain ⟨o, ho⟩ : ∃ o, o = GB (p / 256) := ⟨_, rfl⟩
  have HOO : Hid (o = GB (p / 256)) := ho
  rw [← ho] at c256
  clear ho
  have e1 := cntA_succ es (at0 g1) p
  have e2 := cntA_succ es (at0 g2) p
  have e3 := cntS_succ es p
  rw [HGA.out] at e1 e2 e3
  rw [if_neg (by simp)] at e1 e2 e3
  obtain ⟨E1, E2, E3⟩ : Hid (cntA es (at0 g1) (p + 1) = cntA es (at0 g1) p + 0) ∧ Hid (cntA es (at0 g2) (p + 1) = cntA es (at0 g2) p + 0) ∧ Hid (cntS es (p + 1) = cntS es p + 0) := ⟨e1, e2, e3⟩
  clear e1 e2 e3 hnat
  cases o with
  | none =>
    simp only [Option.map] at c256
    go_wp2_with fail
    exact FIN.out _ _ ⟨rfl, rfl, rfl, rfl, rfl, rfl, rfl, rfl, rfl⟩ (by rw [E1.out]; rfl) (by rw [E2.out]; rfl) (by rw [E3.out]; rfl) rfl rfl rfl rfl rfl HL6.out
  | some gbk =>
    simp only [Option.map, at0] at c256
    have cgk := (HQ6.out.ga (p / 256) gbk (by have := HEL.out; omega) HOO.out.symm).cell (i := l) (by omega)
    rw [show 256 * (p / 256) + l = p from by have := HLL.out; omega, HGA.out] at cgk
    go_wp2_with fail
    exact FIN.out _ _ ⟨rfl, rfl, rfl, rfl, rfl, rfl, rfl, rfl, rfl⟩ (by rw [E1.out]; rfl) (by rw [E2.out]; rfl) (by rw [E3.out]; rfl) rfl rfl rfl rfl rfl HL6.out
end Go.Proofs.Ybulkctey
