/-
  SEAT b4743a. QUEUE: the law's third loop, walked.
-/
import Derived.Test.YbulkcteyLaw6
import Derived.Test.YbulkcteyPtrEq
namespace Go.Proofs.Ybulkctey
open Go.RowKit Go.Deep

/-- Behind the third loop. -/
structure St26 (N s B T R g1 g2 rv rc gb c n : Nat) (pk : Nat → Nat) (w0 : World) (it gl : List Nat) (cl ov ob : Nat) (idb : Nat → Nat) (vi vg : Value) (ids : List Nat) (v : Value) (oc : Nat → Bool) (A : Array Value) (w : World) : Prop where
  fm : Fm s B g1 g2 rv gb c n A
  f15 : A.getD 15 undef = vg
  f19 : A.getD 19 undef = .int .u64 (ov : Nat)
  f25 : A.getD 25 undef = .slice (some ⟨ob, 0, none⟩) (2 * c) (2 * c)
  l : L3 N s B T R g1 g2 rv rc gb c n pk w0 it gl cl ov ob idb vi vg ids v oc w
  ho : ∀ k, k < 2 * c → oc k = decide (dist c cl k < it.length)
  il : it.length ≤ c + 1
  ov_le : ov ≤ 1024
  gll : gl.length ≤ 1024
  idl : ids.length ≤ 40
  lt : ∀ k ∈ gl, k < n

set_option maxRecDepth 1000000 in
set_option maxHeartbeats 16000000 in
theorem part25 (N s B T R g1 g2 rv rc gb c n : Nat) (pk : Nat → Nat) (w0 : World) (it gl : List Nat) (cl ov ob : Nat) (idb : Nat → Nat) (vi vg : Value) (A : Array Value) (w : World) (Rr : Ending → World → Prop)
    (h : St25 N s B T R g1 g2 rv rc gb c n pk w0 it gl cl ov ob idb vi vg A w)
    (hnext : ∀ A' w' ids v oc, St26 N s B T R g1 g2 rv rc gb c n pk w0 it gl cl ov ob idb vi vg ids v oc A' w' → Code.wp Yba.prog (dropS 26 (Yba.f5.body.getD .skip)) (bodyPost Yba.prog Yba.f5 Rr) ⟨A', []⟩ w') :
    Code.wp Yba.prog (dropS 25 (Yba.f5.body.getD .skip)) (bodyPost Yba.prog Yba.f5 Rr) ⟨A, []⟩ w := by
  have HN : Hid _ := hnext
  clear hnext
  obtain ⟨⟨hA, h5, h6, h7, h8, h9, h10, h11, h12⟩, h15, h18, h19, h24, h25, ⟨sl, hsd⟩, hin, hocc, hob, hil, hcll, hovl, hgll, hlt⟩ := h
  have hcap := hsd.lw.cap
  have hcc : 2 ≤ c ∧ c ≤ 32 := by rcases hcap with rfl | rfl | rfl | rfl | rfl <;> omega
  have hvi : ∃ a cap, vi = .slice a it.length cap := by
    rcases hin.ring.2 with ⟨rfl, h0⟩ | ⟨g, cap, cur, rfl, _⟩
    · rw [h0]; exact ⟨_, _, rfl⟩
    · exact ⟨_, _, rfl⟩
  obtain ⟨ai, capi, hvi⟩ := hvi
  subst hvi
  have HL : Hid (L3 N s B T R g1 g2 rv rc gb c n pk w0 it gl cl ov ob idb (.slice ai it.length capi) vg [] (.slice none 0 0) (fun k => decide (dist c cl k < 0)) w) := by
    obtain ⟨nt, _, hq⟩ := hsd.q
    exact ⟨⟨hsd.lw, ⟨nt, _, hq⟩, hsd.g⟩, hin, ⟨hsd.r, fun b hb => (by cases hb), fun b hb => (by cases hb)⟩, hocc.congr fun j _ => by simp, hob⟩
  have HLT : Hid _ := hlt
  clear hsd hin hocc hlt hob
  obtain ⟨f, hf, rfl⟩ := lit469 A hA
  rw [hf] at h5 h6 h7 h8 h9 h10 h11 h12 h15 h18 h19 h24 h25
  clear hf hA
  conv => arg 2; whnf
  rw [h5, h6, h7, h8, h9, h10, h11, h12, h15, h18, h19, h24, h25]
  clear h5 h6 h7 h8 h9 h10 h11 h12 h15 h18 h19 h24 h25
  refine wp_seq_k ?_; intro K hK; have HK : Hid _ := hK; clear hK
  refine wp_seq_k ?_; intro K1 hK1
  go_wp2_with fail
  refine wp_loopN (fun m a w' => ∃ (A' : Array Value) (j : Nat) (ids : List Nat) (v : Value), a = ⟨A', []⟩ ∧ m = it.length - j ∧ j ≤ it.length ∧ Fm s B g1 g2 rv gb c n A' ∧ A'.getD 15 undef = vg ∧ A'.getD 18 undef = .int .u32 (cl : Nat) ∧ A'.getD 19 undef = .int .u64 (ov : Nat) ∧ A'.getD 25 undef = .slice (some ⟨ob, 0, none⟩) (2 * c) (2 * c) ∧ A'.getD 183 undef = .slice ai it.length capi ∧ A'.getD 184 undef = .int .i64 (it.length : Nat) ∧ A'.getD 185 undef = .int .i64 (j : Nat) ∧ ids.length = j ∧ L3 N s B T R g1 g2 rv rc gb c n pk w0 it gl cl ov ob idb (.slice ai it.length capi) vg ids v (fun k => decide (dist c cl k < j)) w') it.length ?_ ?_
  · exact ⟨_, 0, [], _, rfl, rfl, Nat.zero_le _, ⟨rfl, rfl, rfl, rfl, rfl, rfl, rfl, rfl, rfl⟩, rfl, rfl, rfl, rfl, rfl, rfl, rfl, rfl, HL.out⟩
  · rintro m a w' ⟨A', j, ids, v, rfl, rfl, hjl, ⟨hA, h5, h6, h7, h8, h9, h10, h11, h12⟩, h15, h18, h19, h25, h183, h184, h185, hids, hL⟩
    have HL1 : Hid (L3 N s B T R g1 g2 rv rc gb c n pk w0 it gl cl ov ob idb (.slice ai it.length capi) vg ids v (fun k => decide (dist c cl k < j)) w') := hL
    clear hL HL
    obtain ⟨f2, hf, rfl⟩ := lit469 A' hA
    rw [hf] at h5 h6 h7 h8 h9 h10 h11 h12 h15 h18 h19 h25 h183 h184 h185
    clear hf hA
    rw [h5, h6, h7, h8, h9, h10, h11, h12, h15, h18, h19, h25, h183, h184, h185]
    clear h5 h6 h7 h8 h9 h10 h11 h12 h15 h18 h19 h25 h183 h184 h185
    by_cases hlt : j < it.length
    · have hlt' : (j : Int) < (it.length : Int) := by omega
      obtain ⟨k, hk⟩ : ∃ k, it[j]? = some k := ⟨_, List.getElem?_eq_getElem hlt⟩
      have HKK : Hid (it[j]? = some k) := hk
      have hkn : k < n := HLT.out.1 k (List.mem_of_getElem? hk)
      have hkd : it.getD j 0 = k := by simp [List.getD, hk]
      obtain ⟨gi, capi', hvf, _, _⟩ := World.ownsRow.form HL1.out.ints.ring (by omega)
      simp only [Value.slice.injEq] at hvf
      obtain ⟨hai, hx1, hx2⟩ := hvf
      clear hx1 hx2
      have hic : w'.cell? ⟨gi, j, none⟩ = some (.int .i64 (k : Nat)) := by
        have hr := HL1.out.ints.ring
        rw [hai] at hr
        rw [(own_int hr j hlt).1, hkd]
      have HAI : Hid (ai = some ⟨gi, 0, none⟩) := hai
      rw [hai]
      clear hai hkd hk
      obtain ⟨q, hq⟩ : ∃ q, q = (cl + j) % (2 * c) := ⟨_, rfl⟩
      have HQQ : Hid (q = (cl + j) % (2 * c)) := hq
      have hqb : q < 2 * c := by rw [hq]; exact Nat.mod_lt _ (by omega)
      have hqb' : (q : Int) < 2 * (c : Int) := by omega
      have HCE : Hid _ := fun W a h => cell_any B 1 c (cl + j) a hcap (by omega) W h
      rw [← hq] at HCE
      clear hq
      have c1 : w'.cell? ⟨B, 1, none⟩ = some (.slice (some ⟨T, 0, none⟩) (2 * c) (2 * c)) := by obtain ⟨nt, x, hq⟩ := HL1.out.sx.q; exact hq.c1
      have co := HL1.out.occ.cell hqb
      have coz := HL1.out.occ.frozen q
      go_wp2_with fail
      rw [show (cl : Int) + (j : Int) = ((cl + j : Nat) : Int) from by omega]
      refine (HCE.out w' _ c1).mono ?_
      rintro e w1 ⟨rfl, rfl⟩
      go_wp2_with fail
      have HL2 : Hid (L3 N s B T R g1 g2 rv rc gb c n pk w0 it gl cl ov ob idb (.slice ai it.length capi) vg ids v (fun k => decide (dist c cl k < j + 1)) (w1.setCell ⟨ob, q, none⟩ (.bool true))) := HL1.out.setOcc q (fun x hx => by
        have he := dist_eq c cl j x hcap (by omega) hx
        rw [← HQQ.out] at he
        by_cases e : x = q
        · have := he.1 e; rw [if_pos e]; simp; omega
        · have hd : dist c cl x ≠ j := fun h => e (he.2 h)
          rw [if_neg e]; simp; omega)
      generalize w1.setCell ⟨ob, q, none⟩ (.bool true) = W at *
      have c1 : W.cell? ⟨B, 1, none⟩ = some (.slice (some ⟨T, 0, none⟩) (2 * c) (2 * c)) := by obtain ⟨nt, x, hq⟩ := HL2.out.sx.q; exact hq.c1
      have cr := HL2.out.rx.r.var.cell (i := 0) (by omega)
      have ct := (HL2.out.cells j k HKK.out hil).1
      rw [← HQQ.out] at ct
      have ci := (HL2.out.ints.ids k hkn).1.cell (i := 0) (by omega)
      have HBD : Hid _ := fun W h1 h2 => bid_any rv rc (idb k) k ids v W (by omega) h1 h2
      have HCI : Hid (W.cell? ⟨idb k, 0, none⟩ = some (.int .i64 (k : Nat))) := ci
      clear ci co coz hic HL1
      unfold taskV at ct HBD
      go_region_with (go_at_call 19; refine (HBD.out W.drew (HL2.out.drewN 1).rx.r HCI.out).mono ?_; rintro e w2 ⟨rfl, ht⟩; have HTD : Hid (Told rv rc ids k v W.drew w2) := ht; clear ht)
      all_goals
        obtain ⟨v', hL3⟩ := (HL2.out.drewN 1).told HTD.out
        have HL3 : Hid (L3 N s B T R g1 g2 rv rc gb c n pk w0 it gl cl ov ob idb (.slice ai it.length capi) vg (ids ++ [k]) v' (fun k => decide (dist c cl k < j + 1)) w2) := hL3
        clear hL3
        have d2 : w2.cell? ⟨B, 2, none⟩ = some (.slice (some ⟨R, 0, none⟩) (2 * c) (2 * c)) := by obtain ⟨nt, x, hq⟩ := HL3.out.sx.q; exact hq.c2
        have dg := (HL3.out.cells j k HKK.out hil).2
        rw [← HQQ.out] at dg
        have dp := HL3.out.sx.lw.grp.cell hkn
        have hkn' : (k : Int) < (n : Int) := by omega
        go_wp2_with fail
        obtain ⟨j87, h87, _⟩ := info87
        have hpn := fun W => neq_ptr_same (P := Yba.prog) W (gOf g1 g2 pk k) Yba.underlying81 h87
        go_quiet (fail)
        clear hpn h87
        go_wp2_with fail
        refine ⟨it.length - (j + 1), by omega, _, j + 1, ids ++ [k], v', rfl, rfl, by omega, ⟨rfl, rfl, rfl, rfl, rfl, rfl, rfl, rfl, rfl⟩, rfl, rfl, rfl, rfl, rfl, rfl, congrArg (Value.int .i64) ?_, by simp [hids], by have h := HL3.out.drewN nq; rw [HAI.out] at h; exact h⟩
        · show (j : Int) + 1 = _
          omega
    · have hje : it.length = j := by omega
      go_wp2_with fail
      refine HK.out _ _ ?_
      refine HN.out _ _ ids v _ ⟨⟨rfl, rfl, rfl, rfl, rfl, rfl, rfl, rfl, rfl⟩, rfl, rfl, rfl, HL1.out, fun k _ => by rw [hje], hil, by omega, by omega, by omega, HLT.out.2⟩
end Go.Proofs.Ybulkctey
