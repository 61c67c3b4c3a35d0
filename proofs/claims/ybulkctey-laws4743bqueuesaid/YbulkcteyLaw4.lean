/-
  SEAT b4743a. QUEUE: the law's second loop.
-/
import Derived.Test.YbulkcteyLaw3
namespace Go.Proofs.Ybulkctey
open Go.RowKit Go.Deep

/-- The variable 'slot' behind i rounds. -/
def slotI (i : Nat) : Int := (i : Int) - 1
theorem slotI_succ (j : Nat) : slotI (j + 1) = (j : Int) := by unfold slotI; omega
/-- The second loop's slots. -/
structure Fm2 (cl ov i : Nat) (rg : List Nat) (vr vg : Value) (A : Array Value) : Prop where
  f14 : A.getD 14 undef = vr
  f15 : A.getD 15 undef = vg
  f16 : A.getD 16 undef = .int .i64 (slotI i)
  f17 : A.getD 17 undef = .int .u32 ((cl + (itm i rg).length : Nat) : Int)
  f18 : A.getD 18 undef = .int .u32 (cl : Nat)
  f19 : A.getD 19 undef = .int .u64 (ov : Nat)
/-- Behind the second loop. -/
structure St18 (N s B T R g1 g2 rv rc gb c n : Nat) (pk : Nat → Nat) (w0 : World) (rg gl : List Nat) (cl ov : Nat) (idb : Nat → Nat) (vr vg : Value) (A : Array Value) (w : World) : Prop where
  fm : Fm s B g1 g2 rv gb c n A
  fm2 : Fm2 cl ov n rg vr vg A
  l : L2 N s B T R g1 g2 rv rc gb c n pk w0 n rg gl cl ov idb vr vg w

set_option maxRecDepth 1000000 in
set_option maxHeartbeats 16000000 in
theorem part13 (N s B T R g1 g2 rv rc gb c n : Nat) (pk : Nat → Nat) (w0 : World) (hn : n ≤ 1024) (A : Array Value) (w : World) (Q : Exit → Act → World → Prop)
    (h : St13 N s B T R g1 g2 rv rc gb c n pk w0 A w)
    (hnext : ∀ A' w' rg gl cl ov idb vr vg, St18 N s B T R g1 g2 rv rc gb c n pk w0 rg gl cl ov idb vr vg A' w' → Code.wp Yba.prog (dropS 18 (Yba.f5.body.getD .skip)) Q ⟨A', []⟩ w') :
    Code.wp Yba.prog (dropS 13 (Yba.f5.body.getD .skip)) Q ⟨A, []⟩ w := by
  have HN : Hid _ := hnext
  clear hnext
  obtain ⟨⟨hA, h5, h6, h7, h8, h9, h10, h11, h12⟩, hlw, hq, hg, hr⟩ := h
  have HL : Hid (L2 N s B T R g1 g2 rv rc gb c n pk w0 0 [] [] 0 0 (fun _ => 0) (.slice none 0 0) (.slice none 0 0) w) :=
    ⟨⟨hlw, hr, ⟨false, (fun _ e he => by cases he), hq⟩, hg⟩, ⟨fun k hk => absurd hk (by omega), ⟨rfl, .inl ⟨rfl, rfl⟩⟩, ⟨rfl, .inl ⟨rfl, rfl⟩⟩, fun b hb => (by cases hb), fun k hk => absurd hk (by omega)⟩, rfl, Nat.le_refl _, Nat.le_refl _, Nat.zero_le _, fun _ => rfl, fun k hk => (by cases hk), fun k hk => (by cases hk), fun _ => rfl⟩
  clear hlw hq hg hr
  obtain ⟨i0, hi, hz0, hz1, hz2⟩ := info3'
  have HI : Hid (Yba.prog.info? 3 = some i0 ∧ i0.zero = some (.int .i64 0) ∧ i0.size = 1 ∧ i0.bytes = 8) := ⟨hi, hz0, hz1, hz2⟩
  clear hi hz0 hz1 hz2
  obtain ⟨f, hf, rfl⟩ := lit469 A hA
  rw [hf] at h5 h6 h7 h8 h9 h10 h11 h12
  clear hf hA
  conv => arg 2; whnf
  rw [h5, h6, h7, h8, h9, h10, h11, h12]
  clear h5 h6 h7 h8 h9 h10 h11 h12
  refine wp_seq_k ?_; intro K hK; have HK : Hid _ := hK; clear hK
  go_wp2_with fail
  refine HK.out _ _ ?_; clear HK K
  refine wp_seq_k ?_; intro K hK; have HK : Hid _ := hK; clear hK
  go_wp2_with fail
  refine HK.out _ _ ?_; clear HK K
  refine wp_seq_k ?_; intro K hK; have HK : Hid _ := hK; clear hK
  go_wp2_with fail
  refine HK.out _ _ ?_; clear HK K
  refine wp_seq_k ?_; intro K hK; have HK : Hid _ := hK; clear hK
  go_wp2_with fail
  refine HK.out _ _ ?_; clear HK K
  refine wp_seq_k ?_; intro K hK; have HK : Hid _ := hK; clear hK
  refine wp_seq_k ?_; intro K1 hK1
  go_wp2_with fail
  refine wp_loopN (fun m a w' => ∃ (A' : Array Value) (i : Nat) (rg gl : List Nat) (cl ov : Nat) (idb : Nat → Nat) (vr vg : Value), a = ⟨A', []⟩ ∧ m = n - i ∧ i ≤ n ∧ Fm s B g1 g2 rv gb c n A' ∧ Fm2 cl ov i rg vr vg A' ∧ A'.getD 20 undef = .int .i64 i ∧ L2 N s B T R g1 g2 rv rc gb c n pk w0 i rg gl cl ov idb vr vg w') n ?_ ?_
  · exact ⟨_, 0, [], [], 0, 0, _, _, _, rfl, rfl, Nat.zero_le _, ⟨rfl, rfl, rfl, rfl, rfl, rfl, rfl, rfl, rfl⟩, ⟨rfl, rfl, rfl, rfl, rfl, rfl⟩, rfl, HL.out⟩
  · rintro m a w' ⟨A', i, rg, gl, cl, ov, idb, vr, vg, rfl, rfl, hin, ⟨hA, h5, h6, h7, h8, h9, h10, h11, h12⟩, ⟨h14, h15, h16, h17, h18, h19⟩, h20, hL⟩
    have HL2 : Hid (L2 N s B T R g1 g2 rv rc gb c n pk w0 i rg gl cl ov idb vr vg w') := hL
    have hcn := hL.cnt
    have hcl := hL.cl_le
    have hov := hL.ov_le
    have hrl := hL.rl
    clear hL HL
    obtain ⟨f2, hf, rfl⟩ := lit469 A' hA
    rw [hf] at h5 h6 h7 h8 h9 h10 h11 h12 h14 h15 h16 h17 h18 h19 h20
    clear hf hA
    rw [h5, h6, h7, h8, h9, h10, h11, h12, h14, h15, h16, h17, h18, h19, h20]
    clear h5 h6 h7 h8 h9 h10 h11 h12 h14 h15 h16 h17 h18 h19 h20
    by_cases hlt : i < n
    · have hlt' : (i : Int) < (n : Int) := by omega
      have hgc := HL2.out.sd.lw.grp.cell hlt
      have hgl := HL2.out.sd.lw.grp.lt
      have hcc : 2 ≤ c ∧ c ≤ 32 := by rcases HL2.out.sd.lw.cap with rfl | rfl | rfl | rfl | rfl <;> omega
      obtain ⟨t, ht⟩ : ∃ t, t = cl + (itm i rg).length := ⟨_, rfl⟩
      have HT : Hid (t = cl + (itm i rg).length) := ht
      have htl : t ≤ 2048 := by omega
      rw [← ht]
      clear ht
      by_cases h0 : i = 0
      · subst h0
        have HP : Hid _ := fun (_ : Unit) => HL2.out.room (by omega) (.inl rfl)
        rw [show slotI 0 = -1 from rfl]
        go_wp2_with fail
        refine (HP.out ()).mono ?_
        rintro e w1 ⟨rfl, hsd, hi1⟩
        have HS : Hid _ := hsd
        have HIN : Hid (In N 1 rg gl (upd idb 0 w'.heap.size) vr vg w1) := hi1
        have HS2 : Hid (Sd N s B T R g1 g2 rv rc gb c n (gOf g1 g2 pk) w0 cl ov 1 ((itm 0 rg ++ [0]).map (ent rv (upd idb 0 w'.heap.size) (gOf g1 g2 pk))) (gl.map (ent rv (upd idb 0 w'.heap.size) (gOf g1 g2 pk))) w1) := hsd
        clear hsd hi1 HS
        go_wp2_with fail
        have hrg := HL2.out.z rfl
        subst hrg
        refine ⟨n - 1, by omega, _, 1, [], gl, cl, ov, upd idb 0 w'.heap.size, vr, vg, rfl, rfl, by omega, ⟨rfl, rfl, rfl, rfl, rfl, rfl, rfl, rfl, rfl⟩, ⟨rfl, rfl, rfl, congrArg (Value.int .u32) ?_, rfl, rfl⟩, rfl, ⟨HS2.out, HIN.out, ?_, hcl, hov, Nat.zero_le _, fun h => absurd h (by omega), fun k hk => (by cases hk), fun k hk => Nat.lt_trans (HL2.out.ltg k hk) (by omega), HL2.out.vz⟩⟩
        · show (t : Int) + 1 = _
          have h1 := HT.out
          have h2 : (itm 0 ([] : List Nat)).length = 0 := rfl
          have h3 : (itm 1 ([] : List Nat)).length = 1 := rfl
          omega
        · have h2 : (itm 0 ([] : List Nat)).length = 0 := rfl
          have h3 : (itm 1 ([] : List Nat)).length = 1 := rfl
          omega
      · obtain ⟨j, rfl⟩ : ∃ j, i = j + 1 := ⟨i - 1, by omega⟩
        have hitm : itm (j + 1) rg = rg ++ [j] := by unfold itm; rw [if_neg (by omega)]; rfl
        have hil : (itm (j + 1) rg).length = rg.length + 1 := by rw [hitm]; simp
        have HIT : Hid (itm (j + 1) rg = rg ++ [j]) := hitm
        have HJ : Hid ((((j + 1 : Nat) : Int)) = (j : Int) + 1) := by show _ = _; omega
        clear hitm
        rw [slotI_succ]
        obtain ⟨hi, hz0, hz1, hz2⟩ := HI.out
        have hvr : ∃ a cap, vr = .slice a rg.length cap := by
          rcases HL2.out.ints.ring.2 with ⟨rfl, h0⟩ | ⟨g, cap, cur, rfl, _⟩
          · rw [h0]; exact ⟨_, _, rfl⟩
          · exact ⟨_, _, rfl⟩
        by_cases hfull : rg.length = c
        · subst hfull
          have HP : Hid _ := fun (_ : Unit) => HL2.out.full (by omega) (by omega) rfl
          obtain ⟨gr, capr, hvrf, _, _⟩ := World.ownsRow.form HL2.out.ints.ring (by omega)
          clear hvr
          subst hvrf
          have hcapr : rg.length ≤ capr := by
            rcases HL2.out.ints.ring.2 with ⟨h1, _⟩ | ⟨g', cap', cur, h1, _, _, h2, _⟩
            · cases h1
            · simp only [Value.slice.injEq] at h1; omega
          obtain ⟨nn, hnn⟩ : ∃ nn, nn = rg.length / 2 := ⟨_, rfl⟩
          have HNN : Hid (nn = rg.length / 2) := hnn
          have hn1 : 0 < nn := by omega
          have hn2 : nn < rg.length := by omega
          have hn3 : (rg.length : Int) / 2 = (nn : Int) := by omega
          have hn4 : ¬ capr = nn := by omega
          have hn5 : nn ≤ capr := by omega
          rw [← hnn] at HP
          clear hnn
          go_wp2_with fail
          refine (HP.out ()).mono ?_
          rintro e w1 ⟨rfl, hsd, hi1⟩
          have hNz : N ≤ w1.heap.size := by have := hsd.lw.grp.lt; have := hsd.lw.ge; omega
          have HI1 : Hid (In N (j + 1 + 1) rg gl (upd idb (j + 1) w'.heap.size) (.slice (some ⟨gr, 0, none⟩) rg.length capr) vg w1) := hi1
          have HSA : Hid (Sd N s B T R g1 g2 rv rc gb rg.length n (gOf g1 g2 pk) w0 (cl + nn) (ov + 1) 1 ((rg.drop nn ++ [j + 1]).map (ent rv (upd idb (j + 1) w'.heap.size) (gOf g1 g2 pk))) ((gl ++ rg.take nn ++ [j + 1 - 1]).map (ent rv (upd idb (j + 1) w'.heap.size) (gOf g1 g2 pk))) w1) := hsd
          clear hsd hi1 HP
          go_wp2_with (first
            | (refine wpList_append_lies _ rfl (.tmp 119) (.tmp 123) 89 rfl N 3 i0 _ 1 8 Yba.underlying89 hi hz0 hz1 hz2 rfl (by decide) vg gl.length (ints gl) rfl (by exact HI1.out.glob) ⟨gr, 0, none⟩ nn capr (ints (rg.take nn)) rfl (by rw [ints_len]; simp; omega) (by have h := news_ints HI1.out.ring 0 nn (by omega); simpa using h) (ints_one _) hn1 (by unfold maxLen; omega) (by omega) (by exact hNz) _ rfl ?_; intro ga1 cap1 w2 hown2 hgr2 hat2 hlt2; have HI2 : Hid (In N (j + 1 + 1) rg (gl ++ rg.take nn) (upd idb (j + 1) w'.heap.size) (.slice (some ⟨gr, 0, none⟩) rg.length capr) (.slice (some ⟨ga1, 0, none⟩) (gl.length + nn) cap1) w2) := HI1.out.pushG hgr2 (by rw [ints_append, List.length_append, show (rg.take nn).length = nn by simp; omega]; exact hown2) (hat2.imp (fun e => e.symm) (fun e => by rw [e]; rfl)); have HS2 : Hid (Sd N s B T R g1 g2 rv rc gb rg.length n (gOf g1 g2 pk) w0 (cl + nn) (ov + 1) 1 ((rg.drop nn ++ [j + 1]).map (ent rv (upd idb (j + 1) w'.heap.size) (gOf g1 g2 pk))) ((gl ++ rg.take nn ++ [j + 1 - 1]).map (ent rv (upd idb (j + 1) w'.heap.size) (gOf g1 g2 pk))) w2) := HSA.out.ints (IF.own HI1.out.glob hgr2); have hNz2 : N ≤ w2.heap.size := Nat.le_trans hNz hgr2.size; clear hown2 hgr2 hat2 hlt2)
            | (refine wpList_append_lies _ rfl (.const (.slice none 0 0)) (.tmp 128) 89 rfl N 3 i0 _ 1 8 Yba.underlying89 hi hz0 hz1 hz2 rfl (by decide) (.slice none 0 0) 0 (ints []) rfl ⟨rfl, .inl ⟨rfl, rfl⟩⟩ ⟨gr, nn, none⟩ (rg.length - nn) (capr - nn) (ints (rg.drop nn)) rfl (by rw [ints_len]; simp) (by have h := news_ints HI2.out.ring nn (rg.length - nn) (by omega); rw [List.take_of_length_le (by simp)] at h; exact h) (ints_one _) (by omega) (by unfold maxLen; omega) (by omega) (by exact hNz2) _ rfl ?_; intro gr3 cap3 w3 hown3 hgr3 hat3 hlt3; have HI3 : Hid (In N (j + 1 + 1) (rg.drop nn) (gl ++ rg.take nn) (upd idb (j + 1) w'.heap.size) (.slice (some ⟨gr3, 0, none⟩) (0 + (rg.length - nn)) cap3) (.slice (some ⟨ga1, 0, none⟩) (gl.length + nn) cap1) w3) := HI2.out.newR hgr3 (by rw [List.length_drop]; rw [Nat.zero_add] at hown3 ⊢; exact hown3) (by rcases hat3 with e | e; cases e; rw [e]; rfl); have HS3 : Hid (Sd N s B T R g1 g2 rv rc gb rg.length n (gOf g1 g2 pk) w0 (cl + nn) (ov + 1) 1 ((rg.drop nn ++ [j + 1]).map (ent rv (upd idb (j + 1) w'.heap.size) (gOf g1 g2 pk))) ((gl ++ rg.take nn ++ [j + 1 - 1]).map (ent rv (upd idb (j + 1) w'.heap.size) (gOf g1 g2 pk))) w3) := HS2.out.ints ((Fr.refl _ w2).grown hgr3 (fun k hk _ => by cases hk)); have hNz3 : N ≤ w3.heap.size := Nat.le_trans hNz2 hgr3.size; clear hown3 hgr3 hat3 hlt3)
            | (refine wpList_append_lies _ rfl (.tmp 130) (.tmp 132) 89 rfl N 3 i0 _ 1 8 Yba.underlying89 hi hz0 hz1 hz2 rfl (by decide) (.slice (some ⟨ga1, 0, none⟩) (gl.length + nn) cap1) (gl.length + nn) (ints (gl ++ rg.take nn)) rfl (by have h := (HI3.out.alloc (.cells #[.int .i64 (j : Nat)] 3)).glob; rw [List.length_append, show (rg.take nn).length = nn by simp; omega] at h; exact h) ⟨w3.heap.size, 0, none⟩ 1 1 [.int .i64 (j : Nat)] rfl rfl (news1 (by simp)) (by simp [Value.oneCell']) (by decide) (by unfold maxLen; omega) (by omega) (by simp; omega) _ rfl ?_; intro ga4 cap4 w4 hown4 hgr4 hat4 hlt4; have HI4 : Hid (In N (j + 1 + 1) (rg.drop nn) (gl ++ rg.take nn ++ [j]) (upd idb (j + 1) w'.heap.size) (.slice (some ⟨gr3, 0, none⟩) (0 + (rg.length - nn)) cap3) (.slice (some ⟨ga4, 0, none⟩) (gl.length + nn + 1) cap4) w4) := (HI3.out.alloc (.cells #[.int .i64 (j : Nat)] 3)).pushG hgr4 (by rw [ints_push, List.length_append, List.length_append, show (rg.take nn).length = nn by simp; omega]; exact hown4) (hat4.imp (fun e => e.symm) (fun e => by rw [e]; rfl)); have HS4 : Hid (Sd N s B T R g1 g2 rv rc gb rg.length n (gOf g1 g2 pk) w0 (cl + nn) (ov + 1) 1 ((rg.drop nn ++ [j + 1]).map (ent rv (upd idb (j + 1) w'.heap.size) (gOf g1 g2 pk))) ((gl ++ rg.take nn ++ [j + 1 - 1]).map (ent rv (upd idb (j + 1) w'.heap.size) (gOf g1 g2 pk))) w4) := (HS3.out.ints ((Fr.refl _ w3).alloc _)).ints (IF.own (HI3.out.alloc (.cells #[.int .i64 (j : Nat)] 3)).glob hgr4); clear hown4 hgr4 hat4 hlt4))
          have hI4 := HI4.out
          rw [Nat.zero_add] at hI4
          refine ⟨n - (j + 1 + 1), by omega, _, j + 1 + 1, rg.drop nn, gl ++ rg.take nn ++ [j], cl + nn, ov + 1, upd idb (j + 1) w'.heap.size, _, _, rfl, rfl, by omega, ⟨rfl, rfl, rfl, rfl, rfl, rfl, rfl, rfl, rfl⟩, ⟨rfl, rfl, congrArg (Value.int .i64) ?_, congrArg (Value.int .u32) ?_, congrArg (Value.int .u32) ?_, congrArg (Value.int .u64) ?_⟩, congrArg (Value.int .i64) ?_, ⟨?_, hI4, ?_, ?_, ?_, ?_, fun h => absurd h (by omega), ?_, ?_, fun h => absurd (congrArg List.length h) (by simp; omega)⟩⟩
          · show (j : Int) + 1 = _
            rw [slotI_succ]; omega
          · show ((((t : Int) - 1) % 4294967296 + 1) % 4294967296) = _
            have h1 := HT.out
            have h2 : (itm (j + 1 + 1) (rg.drop nn)).length = rg.length - nn + 1 := by simp [itm]
            omega
          · show (cl : Int) + (nn : Int) = _
            omega
          · show (ov : Int) + 1 = _
            omega
          · show (j : Int) + 1 + 1 = _
            omega
          · have e : itm (j + 1 + 1) (rg.drop nn) = rg.drop nn ++ [j + 1] := by simp [itm]
            rw [e, if_neg (by omega)]; exact HS4.out
          · have e : (itm (j + 1 + 1) (rg.drop nn)).length = rg.length - nn + 1 := by simp [itm]
            rw [e]; simp; omega
          · simp; omega
          · simp; omega
          · simp
          · intro k hk
            exact Nat.lt_succ_of_lt (HL2.out.ltr k (List.mem_of_mem_drop hk))
          · intro k hk
            rcases List.mem_append.1 hk with hk | hk
            · rcases List.mem_append.1 hk with hk | hk
              · exact Nat.lt_succ_of_lt (HL2.out.ltg k hk)
              · exact Nat.lt_succ_of_lt (HL2.out.ltr k (List.mem_of_mem_take hk))
            · simp at hk; omega
        · have HP : Hid _ := fun (_ : Unit) => HL2.out.room (by omega) (.inr (by omega))
          have hne : ((rg.length : Int) == (c : Int)) = false := by rw [beq_eq_false_iff_ne]; omega
          obtain ⟨ar, capr, hvr⟩ := hvr
          subst hvr
          go_wp2_with fail
          refine (HP.out ()).mono ?_
          rintro e w1 ⟨rfl, hsd, hi1⟩
          have hia := hi1.alloc (.cells #[.int .i64 (j : Nat)] 3)
          have hNz : N ≤ (w1.alloc (.cells #[.int .i64 (j : Nat)] 3)).heap.size := by have := hsd.lw.grp.lt; have := hsd.lw.ge; simp; omega
          have HIA : Hid (In N (j + 1 + 1) rg gl (upd idb (j + 1) w'.heap.size) (.slice ar rg.length capr) vg (w1.alloc (.cells #[.int .i64 (j : Nat)] 3))) := hia
          have HSA : Hid (Sd N s B T R g1 g2 rv rc gb c n (gOf g1 g2 pk) w0 cl ov 1 ((itm (j + 1) rg ++ [j + 1]).map (ent rv (upd idb (j + 1) w'.heap.size) (gOf g1 g2 pk))) (gl.map (ent rv (upd idb (j + 1) w'.heap.size) (gOf g1 g2 pk))) (w1.alloc (.cells #[.int .i64 (j : Nat)] 3))) := hsd.ints ((Fr.refl _ w1).alloc _)
          clear hsd hi1 hia
          go_wp2_with (refine wpList_append_lies _ rfl (.tmp 145) (.tmp 147) 89 rfl N 3 i0 _ 1 8 Yba.underlying89 hi hz0 hz1 hz2 rfl (by decide) (.slice ar rg.length capr) rg.length (ints rg) rfl (by exact HIA.out.ring) ⟨w1.heap.size, 0, none⟩ 1 1 [.int .i64 (j : Nat)] rfl rfl (news1 (by simp)) (by simp [Value.oneCell']) (by decide) (by unfold maxLen; omega) (by omega) (by exact hNz) _ rfl ?_; intro g cap w2 hown2 hgr hat hlt2; have HIN : Hid (In N (j + 1 + 1) (rg ++ [j]) gl (upd idb (j + 1) w'.heap.size) (.slice (some ⟨g, 0, none⟩) (rg.length + 1) cap) vg w2) := HIA.out.pushR hgr (by rw [ints_push, List.length_append]; exact hown2) (hat.imp (fun e => e.symm) (fun e => by rw [e]; rfl)); have HSD : Hid (Sd N s B T R g1 g2 rv rc gb c n (gOf g1 g2 pk) w0 cl ov 1 ((itm (j + 1) rg ++ [j + 1]).map (ent rv (upd idb (j + 1) w'.heap.size) (gOf g1 g2 pk))) (gl.map (ent rv (upd idb (j + 1) w'.heap.size) (gOf g1 g2 pk))) w2) := HSA.out.ints (IF.own HIA.out.ring hgr); clear hown2 hgr hat hlt2 hi hz0 hz1 hz2)
          refine ⟨n - (j + 1 + 1), by omega, _, j + 1 + 1, rg ++ [j], gl, cl, ov, upd idb (j + 1) w'.heap.size, _, vg, rfl, rfl, by omega, ⟨rfl, rfl, rfl, rfl, rfl, rfl, rfl, rfl, rfl⟩, ⟨rfl, rfl, congrArg (Value.int .i64) ?_, congrArg (Value.int .u32) ?_, rfl, rfl⟩, congrArg (Value.int .i64) ?_, ⟨?_, HIN.out, ?_, hcl, hov, by simp; omega, fun h => absurd h (by omega), ?_, fun k hk => Nat.lt_succ_of_lt (HL2.out.ltg k hk), fun h => absurd h (by simp)⟩⟩
          · show (j : Int) + 1 = _
            rw [slotI_succ]; omega
          · show (t : Int) + 1 = _
            have h1 := HT.out
            have h2 : (itm (j + 1 + 1) (rg ++ [j])).length = (itm (j + 1) rg).length + 1 := by rw [HIT.out]; simp [itm]
            omega
          · show (j : Int) + 1 + 1 = _
            omega
          · have e : itm (j + 1 + 1) (rg ++ [j]) = itm (j + 1) rg ++ [j + 1] := by rw [HIT.out]; simp [itm]
            rw [e, if_neg (by omega)]; exact HSD.out
          · have e : itm (j + 1 + 1) (rg ++ [j]) = itm (j + 1) rg ++ [j + 1] := by rw [HIT.out]; simp [itm]
            rw [e, List.length_append]; simp; omega
          · intro k hk
            rcases List.mem_append.1 hk with hk | hk
            · exact Nat.lt_succ_of_lt (HL2.out.ltr k hk)
            · simp at hk; omega
    · have hkn : n = i := by omega
      subst hkn
      go_wp2_with fail
      refine HK.out _ _ ?_
      exact HN.out _ _ _ _ _ _ _ _ _ ⟨⟨rfl, rfl, rfl, rfl, rfl, rfl, rfl, rfl, rfl⟩, ⟨rfl, rfl, rfl, rfl, rfl, rfl⟩, HL2.out⟩
end Go.Proofs.Ybulkctey
