/-
  SEAT b4743a. QUEUE: the law's fifth loop.
-/
import Derived.Test.YbulkcteyLaw12
import Derived.Test.YbulkcteyLaw13
namespace Go.Proofs.Ybulkctey
open Go.RowKit Go.Deep

set_option maxRecDepth 1000000 in
set_option maxHeartbeats 32000000 in
theorem part27 (N s B T R g1 g2 rv rc gb c n : Nat) (pk : Nat → Nat) (w0 : World) (it gl : List Nat) (cl ov ob : Nat) (idb : Nat → Nat) (vi vg : Value) (ids : List Nat) (v : Value) (oc : Nat → Bool) (A : Array Value) (w : World) (Rr : Ending → World → Prop)
    (h : St27 N s B T R g1 g2 rv rc gb c n pk w0 it gl cl ov ob idb vi vg ids v oc A w)
    (hnext : ∀ A' w' Bs GB v1 v2 ids v, St30 N s B T R g1 g2 rv rc gb c n pk w0 gl ov idb vg Bs GB v1 v2 ids v A' w' → Code.wp Yba.prog (dropS 30 (Yba.f5.body.getD .skip)) (bodyPost Yba.prog Yba.f5 Rr) ⟨A', []⟩ w') :
    Code.wp Yba.prog (dropS 27 (Yba.f5.body.getD .skip)) (bodyPost Yba.prog Yba.f5 Rr) ⟨A, []⟩ w := by
  have HN : Hid _ := hnext
  clear hnext
  obtain ⟨⟨hA, h5, h6, h7, h8, h9, h10, h11, h12⟩, h15, h19, hL, hovl, hgll, hidl, hltg⟩ := h
  obtain ⟨Bs, GB, v1, v2, hL5⟩ := hL.to5
  have HL : Hid (L5 N s B T R g1 g2 rv rc gb c n pk w0 gl ov idb vg Bs GB v1 v2 ids v w) := hL5
  have HLT : Hid _ := hltg
  clear hL hltg
  obtain ⟨es, hes⟩ : ∃ es, es = gl.map (ent rv idb (gOf g1 g2 pk)) := ⟨_, rfl⟩
  have HES : Hid (es = gl.map (ent rv idb (gOf g1 g2 pk))) := hes
  have hlen : es.length = gl.length := by rw [hes]; simp
  have HQ : Hid (GQ N s 0 ov es Bs GB w) := by rw [hes]; exact hL5.q
  have hvg : ∃ a cap, vg = .slice a gl.length cap := by
    rcases hL5.ints.glob.2 with ⟨rfl, h0⟩ | ⟨g, cap, cur, rfl, _⟩
    · rw [h0]; exact ⟨_, _, rfl⟩
    · exact ⟨_, _, rfl⟩
  obtain ⟨ag, capg, hvg⟩ := hvg
  subst hvg
  rw [← hlen] at hgll
  have s15 := HQ.out.sch.c15
  have s26 := HQ.out.sch.c26
  have s11 := HQ.out.sch.c11
  have s12 := HQ.out.sch.c12
  have s13 := HQ.out.sch.c13
  have s14 := HQ.out.sch.c14
  have HLEN : Hid (es.length = gl.length) := hlen
  obtain ⟨m, hm⟩ : ∃ m, m = gl.length := ⟨_, rfl⟩
  rw [hlen, ← hm] at s15 s11 s12 s14
  rw [← hm] at h15
  have HM : Hid (m = gl.length) := hm
  have hml : m ≤ 1024 := by omega
  clear hL5 hes hlen hgll
  obtain ⟨f, hf, rfl⟩ := lit469 A hA
  rw [hf] at h5 h6 h7 h8 h9 h10 h11 h12 h15 h19
  clear hf hA
  conv => arg 2; whnf
  rw [h5, h6, h7, h8, h9, h10, h11, h12, h15, h19]
  clear h5 h6 h7 h8 h9 h10 h11 h12 h15 h19 hm
  refine wp_seq_k ?_; intro K hK; have HK : Hid _ := hK; clear hK
  go_wp2_with fail
  refine HK.out _ _ ?_; clear HK K
  refine wp_seq_k ?_; intro K hK; have HK : Hid _ := hK; clear hK
  go_wp2_with fail
  refine HK.out _ _ ?_; clear HK K
  refine wp_seq_k ?_; intro K hK; have HK : Hid _ := hK; clear hK
  by_cases h0 : m = 0
  · subst h0
    have h11' : headOf 0 Bs = none := rfl
    rw [h11'] at s11
    go_wp2_with fail
    refine HK.out _ _ ?_
    have hg0 : gl = [] := List.eq_nil_of_length_eq_zero HM.out.symm
    have hL := HL.out
    subst hg0
    exact HN.out _ _ _ _ _ _ _ _ ⟨⟨rfl, rfl, rfl, rfl, rfl, rfl, rfl, rfl, rfl⟩, rfl, rfl, rfl, hL, Nat.zero_le _⟩
  · have h11' : headOf m Bs = some ⟨Bs 0, 0, none⟩ := if_neg h0
    rw [h11'] at s11
    have hme : ((m : Int) == 0) = false := by rw [beq_eq_false_iff_ne]; omega
    have HM0 : Hid (0 < m) := by show 0 < m; omega
    clear h11' h0
    go_wp2_with fail
    refine wp_loopN (fun mm a w' => ∃ (A' : Array Value) (p : Nat) (ids : List Nat) (v : Value), a = ⟨A', []⟩ ∧ mm = m - p ∧ p ≤ m ∧ Fm s B g1 g2 rv gb c n A' ∧ Fm5 es g1 g2 m p (.slice ag m capg) A' ∧ A'.getD 33 undef = .pointer (some ⟨segB Bs p, 0, none⟩) ∧ A'.getD 34 undef = .int .i64 (idxI p : Nat) ∧ ids.length ≤ 40 + p ∧ L5 N s B T R g1 g2 rv rc gb c n pk w0 gl ov idb (.slice ag gl.length capg) Bs GB v1 v2 ids v w') m ?_ ?_
    · exact ⟨_, 0, ids, v, rfl, rfl, Nat.zero_le _, ⟨rfl, rfl, rfl, rfl, rfl, rfl, rfl, rfl, rfl⟩, ⟨rfl, rfl, rfl, rfl, rfl, rfl⟩, rfl, rfl, by omega, HL.out⟩
    · rintro mm a w' ⟨A', p, ids', v', rfl, rfl, hp, ⟨hA, h5, h6, h7, h8, h9, h10, h11, h12⟩, ⟨h30, h31, h32, h296, h297, h298⟩, h33, h34, hidl', hL⟩
      have HL5 : Hid (L5 N s B T R g1 g2 rv rc gb c n pk w0 gl ov idb (.slice ag gl.length capg) Bs GB v1 v2 ids' v' w') := hL
      have HQ5 : Hid (GQ N s 0 ov es Bs GB w') := by rw [HES.out]; exact hL.q
      clear hL s15 s26 s11 s12 s13 s14 HQ HL
      obtain ⟨f2, hf, rfl⟩ := lit469 A' hA
      rw [hf] at h5 h6 h7 h8 h9 h10 h11 h12 h30 h31 h32 h296 h297 h298 h33 h34
      clear hf hA
      rw [h5, h6, h7, h8, h9, h10, h11, h12, h30, h31, h32, h296, h297, h298, h33, h34]
      clear h5 h6 h7 h8 h9 h10 h11 h12 h30 h31 h32 h296 h297 h298 h33 h34
      have hel : es.length = m := HLEN.out.trans HM.out.symm
      have HEL : Hid (es.length = m) := hel
      clear hel
      by_cases hlt : p < m
      · have hlt' : (p : Int) < (m : Int) := by omega
        have hpg : p < gl.length := by have := HM.out; omega
        obtain ⟨k, hk⟩ : ∃ k, gl[p]? = some k := ⟨_, List.getElem?_eq_getElem hpg⟩
        have hkn : k < n := HLT.out k (List.mem_of_getElem? hk)
        have hkn' : (k : Int) < (n : Int) := by omega
        have hep : es[p]? = some (ent rv idb (gOf g1 g2 pk) k) := by rw [HES.out, List.getElem?_map, hk]; rfl
        have HTS : Hid (tsk es p = taskV rv (idb k)) := by show _ = _; unfold tsk; simp [List.getD, hep, ent]
        have HGR : Hid (grp es p = gOf g1 g2 pk k) := by show _ = _; unfold grp; simp [List.getD, hep, ent]
        have hkd : gl.getD p 0 = k := by simp [List.getD, hk]
        obtain ⟨gi, capi', hvf, _, _⟩ := World.ownsRow.form HL5.out.ints.glob (by omega)
        simp only [Value.slice.injEq] at hvf
        obtain ⟨hai, hx1, hx2⟩ := hvf
        clear hx1 hx2
        have hic : w'.cell? ⟨gi, p, none⟩ = some (.int .i64 (k : Nat)) := by
          have hr := HL5.out.ints.glob
          rw [hai] at hr
          rw [(own_int hr p hpg).1, hkd]
        have HAI : Hid (ag = some ⟨gi, 0, none⟩) := hai
        rw [hai]
        clear hai hkd hk hep
        obtain ⟨b0, hb0⟩ : ∃ b0, b0 = Bs (p / 256) := ⟨_, rfl⟩
        have HB0 : Hid (b0 = Bs (p / 256)) := hb0
        obtain ⟨l, hl⟩ : ∃ l, l = p % 256 := ⟨_, rfl⟩
        have HLL : Hid (l = p % 256) := hl
        have hl256 : (l : Int) < 256 := by omega
        clear hb0 hl
        refine wp_seq_k ?_; intro Ka hKa; have HKa : Hid _ := hKa; clear hKa
        go_wp2_with fail
        refine HKa.out _ _ ?_; clear HKa Ka
        refine wp_seq_k ?_; intro Kb hKb; have HKb : Hid _ := hKb; clear hKb
        go_wp2_with fail
        refine HKb.out _ _ ?_; clear HKb Kb
        refine wp_seq_k ?_; intro Kc hKc; have HKc : Hid _ := hKc; clear hKc
        refine wp_block ?_
        refine wp_seq_k ?_; intro Ka hKa; have HKa : Hid _ := hKa; clear hKa
        go_wp2_with fail
        refine HKa.out _ _ ?_; clear HKa
        refine wp_seq_k ?_; intro Kb hKb; have HKb : Hid _ := hKb; clear hKb
        go_wp2_with fail
        refine HKb.out _ _ ?_; clear HKb
        refine wp_seq_k ?_; intro Kd hKd; have HKd : Hid _ := hKd; clear hKd
        have REST : Hid (∀ A3 : Array Value, Fm s B g1 g2 rv gb c n A3 → Fm5 es g1 g2 m p (.slice (some ⟨gi, 0, none⟩) m capg) A3 → A3.getD 33 undef = .pointer (some ⟨b0, 0, none⟩) → A3.getD 34 undef = .int .i64 (l : Nat) → A3.getD 36 undef = .int .i64 (k : Nat) → Kd ⟨A3, []⟩ w') := by
          rintro A3 ⟨hA, h5, h6, h7, h8, h9, h10, h11, h12⟩ ⟨h30, h31, h32, h296, h297, h298⟩ h33 h34 h36
          refine HKd.out _ _ ?_
          clear hic
          obtain ⟨f3, hf, rfl⟩ := lit469 A3 hA
          rw [hf] at h5 h6 h7 h8 h9 h10 h11 h12 h30 h31 h32 h296 h297 h298 h33 h34 h36
          clear hf hA
          rw [h5, h6, h7, h8, h9, h10, h11, h12, h30, h31, h32, h296, h297, h298, h33, h34, h36]
          clear h5 h6 h7 h8 h9 h10 h11 h12 h30 h31 h32 h296 h297 h298 h33 h34 h36
          refine wp_seq_k ?_; intro Ke hKe; have HKe : Hid _ := hKe; clear hKe
          have REST2 : Hid (∀ (A4 : Array Value) (w2 : World) (v2' : Value), Fm s B g1 g2 rv gb c n A4 → Fm5 es g1 g2 m p (.slice (some ⟨gi, 0, none⟩) m capg) A4 → A4.getD 33 undef = .pointer (some ⟨b0, 0, none⟩) → A4.getD 34 undef = .int .i64 (l : Nat) → A4.getD 36 undef = .int .i64 (k : Nat) → L5 N s B T R g1 g2 rv rc gb c n pk w0 gl ov idb (.slice ag gl.length capg) Bs GB v1 v2 (ids' ++ [k]) v2' w2 → Ke ⟨A4, []⟩ w2) := by
            rintro A4 w2 v2' hFm hFm5 h33 h34 h36 hL6
            refine HKe.out _ _ ?_
            have FIN : Hid (∀ (A5 : Array Value) (w5 : World), Fm s B g1 g2 rv gb c n A5 → A5.getD 30 undef = .int .i64 (cntA es (at0 g1) (p + 1) : Nat) → A5.getD 31 undef = .int .i64 (cntA es (at0 g2) (p + 1) : Nat) → A5.getD 32 undef = .int .i64 (cntS es (p + 1) : Nat) → A5.getD 296 undef = .slice (some ⟨gi, 0, none⟩) m capg → A5.getD 297 undef = .int .i64 (m : Nat) → A5.getD 298 undef = .int .i64 (p : Nat) → A5.getD 33 undef = .pointer (some ⟨b0, 0, none⟩) → A5.getD 34 undef = .int .i64 ((l : Nat) + 1) → L5 N s B T R g1 g2 rv rc gb c n pk w0 gl ov idb (.slice ag gl.length capg) Bs GB v1 v2 (ids' ++ [k]) v2' w5 → Kc ⟨A5, []⟩ w5) := by
              rintro A5 w5 ⟨hA, h5, h6, h7, h8, h9, h10, h11, h12⟩ h30 h31 h32 h296 h297 h298 h33 h34 hL7
              refine HKc.out _ _ ?_
              have HL7 : Hid (L5 N s B T R g1 g2 rv rc gb c n pk w0 gl ov idb (.slice ag gl.length capg) Bs GB v1 v2 (ids' ++ [k]) v2' w5) := hL7
              clear hL7
              obtain ⟨f5, hf, rfl⟩ := lit469 A5 hA
              rw [hf] at h5 h6 h7 h8 h9 h10 h11 h12 h30 h31 h32 h296 h297 h298 h33 h34
              clear hf hA
              rw [h5, h6, h7, h8, h9, h10, h11, h12, h30, h31, h32, h296, h297, h298, h33, h34]
              clear h5 h6 h7 h8 h9 h10 h11 h12 h30 h31 h32 h296 h297 h298 h33 h34
              go_wp2_with fail
              refine ⟨m - (p + 1), by omega, _, p + 1, ids' ++ [k], v2', rfl, rfl, by omega, ⟨rfl, rfl, rfl, rfl, rfl, rfl, rfl, rfl, rfl⟩, ⟨rfl, rfl, rfl, rfl, rfl, congrArg (Value.int .i64) ?_⟩, ?_, congrArg (Value.int .i64) ?_, by simp; omega, by have h := HL7.out; rw [HAI.out] at h; exact h⟩
              · show (p : Int) + 1 = _
                omega
              · have e : segB Bs (p + 1) = b0 := by rw [HB0.out]; unfold segB; rw [if_neg (by omega)]; rfl
                rw [e]; rfl
              · show (l : Int) + 1 = _
                have e : idxI (p + 1) = l + 1 := by rw [HLL.out]; unfold idxI; rw [if_neg (by omega)]; rfl
                rw [e]; omega
            clear HL5 HQ5
            have hel := HEL.out
            have hcase : gOf g1 g2 pk k = none ∨ gOf g1 g2 pk k = some (at0 g1) ∨ gOf g1 g2 pk k = some (at0 g2) := by
              unfold gOf
              by_cases h1 : pk k % 3 = 1
              · rw [if_pos h1]; exact .inr (.inl rfl)
              · rw [if_neg h1]
                by_cases h2 : pk k % 3 = 2
                · rw [if_pos h2]; exact .inr (.inr rfl)
                · rw [if_neg h2]; exact .inl rfl
            rcases hcase with hga | hga | hga
            · exact rest_none N s B T R g1 g2 rv rc gb c n pk w0 gl ov idb _ Bs GB v1 v2 _ v2' es m p k l b0 gi capg A4 w2 _ hFm hFm5 h33 h34 h36 hL6 HES.out hel hml hlt hkn HB0.out HLL.out HGR.out hga FIN.out
            · exact rest_g1 N s B T R g1 g2 rv rc gb c n pk w0 gl ov idb _ Bs GB v1 v2 _ v2' es m p k l b0 gi capg A4 w2 _ hFm hFm5 h33 h34 h36 hL6 HES.out hel hml hlt hkn HB0.out HLL.out HGR.out hga FIN.out
            · exact rest_g2 N s B T R g1 g2 rv rc gb c n pk w0 gl ov idb _ Bs GB v1 v2 _ v2' es m p k l b0 gi capg A4 w2 _ hFm hFm5 h33 h34 h36 hL6 HES.out hel hml hlt hkn HB0.out HLL.out HGR.out hga FIN.out
          have cr := HL5.out.rx.r.var.cell (i := 0) (by omega)
          obtain ⟨fn, hfn, hfk, hfg, hfx⟩ := HQ5.out.seg (p / 256) (by have := HEL.out; omega)
          have ct := hfn.cell (i := l) (by omega)
          rw [hfk l (by omega), show 256 * (p / 256) + l = p from by have := HLL.out; omega, HTS.out, ← HB0.out] at ct
          have HBD : Hid _ := fun W h1 h2 => bid_any rv rc (idb k) k ids' v' W (by omega) h1 h2
          have HCI : Hid (w'.cell? ⟨idb k, 0, none⟩ = some (.int .i64 (k : Nat))) := (HL5.out.ints.ids k hkn).1.cell (i := 0) (by omega)
          clear hfn hfk hfg hfx
          unfold taskV at ct HBD
          go_wp2_with fail
          go_region_with (go_at_call 19; refine (HBD.out w'.drew (HL5.out.drewN 1).rx.r HCI.out).mono ?_; rintro e w2 ⟨rfl, ht⟩; have HTD : Hid (Told rv rc ids' k v' w'.drew w2) := ht; clear ht)
          all_goals
            obtain ⟨v2', hL6⟩ := (HL5.out.drewN 1).told HTD.out
            have HL6 : Hid (L5 N s B T R g1 g2 rv rc gb c n pk w0 gl ov idb (.slice ag gl.length capg) Bs GB v1 v2 (ids' ++ [k]) v2' w2) := hL6
            clear hL6
            go_wp2_with fail
            exact REST2.out _ _ v2' ⟨rfl, rfl, rfl, rfl, rfl, rfl, rfl, rfl, rfl⟩ ⟨rfl, rfl, rfl, rfl, rfl, rfl⟩ rfl rfl rfl HL6.out
        by_cases hroll : p ≠ 0 ∧ p % 256 = 0
        · obtain ⟨fn, hfn, hfk, hfg, hfx⟩ := HQ5.out.seg ((p - 1) / 256) (by have := HEL.out; omega)
          have cx := hfn.cell (i := 258) (by omega)
          rw [hfx, if_pos (by have := HEL.out; omega), show (p - 1) / 256 + 1 = p / 256 from by omega, ← HB0.out] at cx
          unfold at0 at cx
          rw [show segB Bs p = Bs ((p - 1) / 256) from if_neg hroll.1, show idxI p = 256 from by unfold idxI; rw [if_neg hroll.1]; omega]
          have hl0 : l = 0 := by have := HLL.out; omega
          subst hl0
          generalize Bs ((p - 1) / 256) = bq at *
          clear hroll hfn hfk hfg hfx
          go_wp2_with fail
          exact REST.out _ ⟨rfl, rfl, rfl, rfl, rfl, rfl, rfl, rfl, rfl⟩ ⟨rfl, rfl, rfl, rfl, rfl, rfl⟩ rfl rfl rfl
        · have e1 : segB Bs p = b0 := by
            have := HB0.out
            unfold segB
            by_cases h0 : p = 0
            · rw [if_pos h0, this, h0]
            · rw [if_neg h0, this]; congr 1; omega
          have e2 : idxI p = l := by
            have := HLL.out
            unfold idxI
            by_cases h0 : p = 0
            · rw [if_pos h0]; omega
            · rw [if_neg h0]; omega
          rw [e1, e2]
          have hne : ((l : Int) == 256) = false := by rw [beq_eq_false_iff_ne]; omega
          clear hroll e1 e2
          go_wp2_with fail
          exact REST.out _ ⟨rfl, rfl, rfl, rfl, rfl, rfl, rfl, rfl, rfl⟩ ⟨rfl, rfl, rfl, rfl, rfl, rfl⟩ rfl rfl rfl
      · have hpm : p = m := by omega
        subst hpm
        have t12 := HQ5.out.sch.c12
        have t14 := HQ5.out.sch.c14
        rw [HEL.out, show tailOf p Bs = some ⟨segB Bs p, 0, none⟩ from by have := HM0.out; unfold tailOf segB; rw [if_neg (by omega), if_neg (by omega)]; rfl] at t12
        rw [HEL.out, show lastOf p = idxI p from rfl] at t14
        obtain ⟨j107, h107⟩ := info107
        have hpn := fun W => neq_ptr_same (P := Yba.prog) W (some ⟨segB Bs p, 0, none⟩) Yba.underlying60 h107
        go_wp2_with fail
        refine HK.out _ _ ?_
        exact HN.out _ _ _ _ _ _ _ _ ⟨⟨rfl, rfl, rfl, rfl, rfl, rfl, rfl, rfl, rfl⟩, by rw [← HM.out, ← HES.out]; rfl, by rw [← HM.out, ← HES.out]; rfl, by rw [← HM.out, ← HES.out]; rfl, HL5.out, by have := HM.out; omega⟩
end Go.Proofs.Ybulkctey
