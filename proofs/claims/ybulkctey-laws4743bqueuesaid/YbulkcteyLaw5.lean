/-
  SEAT b4743a. QUEUE: the law between its second and its third loop.
-/
import Derived.Test.YbulkcteyLaw4
namespace Go.Proofs.Ybulkctey
open Go.RowKit Go.Deep

theorem info4 : (Yba.prog.info? 4).map (fun i => (i.zero, i.size, i.bytes)) = some (some (.bool false), 1, 1) := by kernel_rfl

/-- Behind the making of 'items' and 'occ'. -/
structure St25 (N s B T R g1 g2 rv rc gb c n : Nat) (pk : Nat → Nat) (w0 : World) (it gl : List Nat) (cl ov ob : Nat) (idb : Nat → Nat) (vi vg : Value) (A : Array Value) (w : World) : Prop where
  fm : Fm s B g1 g2 rv gb c n A
  f15 : A.getD 15 undef = vg
  f18 : A.getD 18 undef = .int .u32 (cl : Nat)
  f19 : A.getD 19 undef = .int .u64 (ov : Nat)
  f24 : A.getD 24 undef = vi
  f25 : A.getD 25 undef = .slice (some ⟨ob, 0, none⟩) (2 * c) (2 * c)
  sd : ∃ sl, Sd N s B T R g1 g2 rv rc gb c n (gOf g1 g2 pk) w0 cl ov sl (it.map (ent rv idb (gOf g1 g2 pk))) (gl.map (ent rv idb (gOf g1 g2 pk))) w
  ints : In N n it gl idb vi vg w
  occ : w.rowIs ob 4 (2 * c) (fun _ => .bool false)
  hob : N ≤ ob
  il : it.length ≤ c + 1
  cl_le : cl ≤ 1024
  ov_le : ov ≤ 1024
  gll : gl.length ≤ 1024
  lt : (∀ k ∈ it, k < n) ∧ (∀ k ∈ gl, k < n)

/-- A row of another type is made. -/
theorem Sd.alloc {N s B T R g1 g2 rv rc gb c n : Nat} {G : Nat → Option Addr} {w0 : World} {cl ov sl : Nat} {it es : List Ent} {w : World} (h : Sd N s B T R g1 g2 rv rc gb c n G w0 cl ov sl it es w) (o : Obj) : Sd N s B T R g1 g2 rv rc gb c n G w0 cl ov sl it es (w.alloc o) := h.ints ((Fr.refl _ w).alloc o)

set_option maxRecDepth 1000000 in
set_option maxHeartbeats 16000000 in
theorem part18 (N s B T R g1 g2 rv rc gb c n : Nat) (pk : Nat → Nat) (w0 : World) (hn : n ≤ 1024) (rg gl : List Nat) (cl ov : Nat) (idb : Nat → Nat) (vr vg : Value) (A : Array Value) (w : World) (Q : Exit → Act → World → Prop)
    (h : St18 N s B T R g1 g2 rv rc gb c n pk w0 rg gl cl ov idb vr vg A w)
    (hnext : ∀ A' w' it ob vi, St25 N s B T R g1 g2 rv rc gb c n pk w0 it gl cl ov ob idb vi vg A' w' → Code.wp Yba.prog (dropS 25 (Yba.f5.body.getD .skip)) Q ⟨A', []⟩ w') :
    Code.wp Yba.prog (dropS 18 (Yba.f5.body.getD .skip)) Q ⟨A, []⟩ w := by
  have HN : Hid _ := hnext
  clear hnext
  obtain ⟨⟨hA, h5, h6, h7, h8, h9, h10, h11, h12⟩, ⟨h14, h15, h16, h17, h18, h19⟩, hL⟩ := h
  have HL2 : Hid (L2 N s B T R g1 g2 rv rc gb c n pk w0 n rg gl cl ov idb vr vg w) := hL
  have hcn := hL.cnt
  have hcl := hL.cl_le
  have hov := hL.ov_le
  have hrl := hL.rl
  obtain ⟨nt, _, hq⟩ := hL.sd.q
  have c5 := hq.c5
  have hcc : 2 ≤ c ∧ c ≤ 32 := by rcases hL.sd.lw.cap with rfl | rfl | rfl | rfl | rfl <;> omega
  have hgl := hL.sd.lw.grp.lt
  have hge := hL.sd.lw.ge
  rw [List.length_map] at c5
  clear hL hq
  obtain ⟨i0, hi, hz0, hz1, hz2⟩ := info3'
  have hmk := fun W => run_make_row' (P := Yba.prog) 101 4 (.bool false) 1 Yba.underlying101 info4 rfl .i64 .i64 (2 * c) (by omega) (by omega) W
  rw [show ((2 * c : Nat) : Int) = 2 * (c : Int) from by omega] at hmk
  obtain ⟨f, hf, rfl⟩ := lit469 A hA
  rw [hf] at h5 h6 h7 h8 h9 h10 h11 h12 h14 h15 h16 h17 h18 h19
  clear hf hA
  conv => arg 2; whnf
  rw [h5, h6, h7, h8, h9, h10, h11, h12, h14, h15, h16, h17, h18, h19]
  clear h5 h6 h7 h8 h9 h10 h11 h12 h14 h15 h16 h17 h18 h19
  obtain ⟨t, ht⟩ : ∃ t, t = cl + (itm n rg).length := ⟨_, rfl⟩
  have HT : Hid (t = cl + (itm n rg).length) := ht
  have htl : t ≤ 2048 := by omega
  rw [← ht] at c5 ⊢
  clear ht
  by_cases h0 : n = 0
  · subst h0
    have hrg := HL2.out.z rfl
    have hvz := HL2.out.vz hrg
    have HI0 : Hid (In N 0 [] gl idb vr vg w) := by have h := HL2.out.ints; rw [hrg] at h; exact h
    have HS0 : Hid (Sd N s B T R g1 g2 rv rc gb c 0 (gOf g1 g2 pk) w0 cl ov 0 ([].map (ent rv idb (gOf g1 g2 pk))) (gl.map (ent rv idb (gOf g1 g2 pk))) w) := HL2.out.sd
    have htt : t = cl := by have h1 := HT.out; have h2 : (itm 0 rg).length = 0 := rfl; omega
    rw [if_pos rfl] at c5
    subst hvz
    subst htt
    rw [show slotI 0 = -1 from rfl]
    clear hrg HT
    have HPK : Hid _ := fun W => packState_any t t t 0 (by omega) (by omega) (by omega) (by omega) W
    generalize hX : word t t t 0 = X at *
    clear hX
    refine wp_seq_k ?_; intro K hK; have HK : Hid _ := hK; clear hK
    go_wp2_with fail
    refine HK.out _ _ ?_; clear HK K
    refine wp_seq_k ?_; intro K hK; have HK : Hid _ := hK; clear hK
    go_wp2_with fail
    refine HK.out _ _ ?_; clear HK K
    refine wp_seq_k ?_; intro K hK; have HK : Hid _ := hK; clear hK
    go_wp2_with fail
    refine (atomicLoad_any B 5 X w c5).mono ?_
    rintro e w1 ⟨rfl, rfl⟩
    go_wp2_with fail
    refine (HPK.out _).mono ?_
    rintro e w1 ⟨rfl, rfl⟩
    go_wp2_with fail
    refine HK.out _ _ ?_; clear HK K HPK c5
    refine wp_seq_k ?_; intro K hK; have HK : Hid _ := hK; clear hK
    go_wp2_with fail
    refine HK.out _ _ ?_; clear HK K
    refine wp_seq_k ?_; intro K hK; have HK : Hid _ := hK; clear hK
    go_wp2_with fail
    refine HK.out _ _ ?_; clear HK K
    refine wp_seq_k ?_; intro K hK; have HK : Hid _ := hK; clear hK
    go_wp2_with fail
    refine HK.out _ _ ?_; clear HK K
    refine wp_seq_k ?_; intro K hK; have HK : Hid _ := hK; clear hK
    go_wp2_with fail
    refine HK.out _ _ ?_; clear HK K
    refine HN.out _ _ [] _ _ ⟨⟨rfl, rfl, rfl, rfl, rfl, rfl, rfl, rfl, rfl⟩, rfl, rfl, rfl, rfl, rfl, ⟨_, HS0.out.alloc _⟩, HI0.out.alloc _, World.rowIs_made w1 (.bool false) (2 * c) 4, ?_, Nat.zero_le _, by omega, by omega, by omega, fun k hk => (by cases hk), HL2.out.ltg⟩
    have := HS0.out.lw.grp.lt; omega
  · obtain ⟨j, rfl⟩ : ∃ j, n = j + 1 := ⟨n - 1, by omega⟩
    rw [slotI_succ]
    rw [if_neg (by omega)] at c5
    have HPK : Hid _ := fun W => packState_any cl cl t 1 (by omega) (by omega) (by omega) (by omega) W
    have hitm : itm (j + 1) rg = rg ++ [j] := by unfold itm; rw [if_neg (by omega)]; rfl
    have HIT : Hid (itm (j + 1) rg = rg ++ [j]) := hitm
    have hil : (itm (j + 1) rg).length = rg.length + 1 := by rw [hitm]; simp
    clear hitm
    generalize hX : word cl cl t 1 = X at *
    clear hX
    refine wp_seq_k ?_; intro K hK; have HK : Hid _ := hK; clear hK
    go_wp2_with fail
    refine HK.out _ _ ?_; clear HK K
    refine wp_seq_k ?_; intro K hK; have HK : Hid _ := hK; clear hK
    go_wp2_with fail
    refine HK.out _ _ ?_; clear HK K
    refine wp_seq_k ?_; intro K hK; have HK : Hid _ := hK; clear hK
    go_wp2_with fail
    refine (atomicLoad_any B 5 X w c5).mono ?_
    rintro e w1 ⟨rfl, rfl⟩
    go_wp2_with fail
    refine (HPK.out _).mono ?_
    rintro e w1 ⟨rfl, rfl⟩
    go_wp2_with fail
    refine HK.out _ _ ?_; clear HK K HPK c5
    by_cases hrg : rg = []
    · have hvz := HL2.out.vz hrg
      clear hrg
      have HI0 : Hid (In N (j + 1) rg gl idb vr vg w1) := HL2.out.ints
      have HS0 : Hid (Sd N s B T R g1 g2 rv rc gb c (j + 1) (gOf g1 g2 pk) w0 cl ov (if j + 1 = 0 then 0 else 1) ((itm (j + 1) rg).map (ent rv idb (gOf g1 g2 pk))) (gl.map (ent rv idb (gOf g1 g2 pk))) w1) := HL2.out.sd
      refine wp_seq_k ?_; intro K hK; have HK : Hid _ := hK; clear hK
      subst hvz
      go_wp2_with fail
      obtain ⟨V5, hV5⟩ : ∃ V5, V5 = Value.slice none 0 0 := ⟨_, rfl⟩
      obtain ⟨W5, hW5⟩ : ∃ W5, W5 = w1 := ⟨_, rfl⟩
      have HI5 : Hid (In N (j + 1) rg gl idb V5 vg W5) := by show In _ _ _ _ _ _ _ _; rw [hV5, hW5]; exact HI0.out
      have HS5 : Hid (Sd N s B T R g1 g2 rv rc gb c (j + 1) (gOf g1 g2 pk) w0 cl ov (if j + 1 = 0 then 0 else 1) ((itm (j + 1) rg).map (ent rv idb (gOf g1 g2 pk))) (gl.map (ent rv idb (gOf g1 g2 pk))) W5) := by rw [hW5]; exact HS0.out
      subst hV5
      subst hW5
      refine HK.out _ _ ?_; clear HK K
      refine wp_seq_k ?_; intro K hK; have HK : Hid _ := hK; clear hK
      have hNz : N ≤ (W5.alloc (.cells #[.int .i64 (j : Nat)] 3)).heap.size := by have := HS5.out.lw.grp.lt; simp; omega
      go_wp2_with (refine wpList_append_lies _ rfl (.tmp 169) (.tmp 171) 89 rfl N 3 i0 _ 1 8 Yba.underlying89 hi hz0 hz1 hz2 rfl (by decide) (.slice none 0 0) rg.length (ints rg) rfl (by exact (HI5.out.alloc _).ring) ⟨W5.heap.size, 0, none⟩ 1 1 [.int .i64 (j : Nat)] rfl rfl (news1 (by simp)) (by simp [Value.oneCell']) (by decide) (by unfold maxLen; omega) (by omega) (by exact hNz) _ rfl ?_; intro g cap w6 hown6 hgr6 hat6 hlt6; have HI6 : Hid (In N (j + 1) (rg ++ [j]) gl idb (.slice (some ⟨g, 0, none⟩) (rg.length + 1) cap) vg w6) := (HI5.out.alloc _).pushR hgr6 (by rw [ints_push, List.length_append]; exact hown6) (hat6.imp (fun e => e.symm) (fun e => by rw [e]; rfl)); have HS6 : Hid (Sd N s B T R g1 g2 rv rc gb c (j + 1) (gOf g1 g2 pk) w0 cl ov (if j + 1 = 0 then 0 else 1) ((itm (j + 1) rg).map (ent rv idb (gOf g1 g2 pk))) (gl.map (ent rv idb (gOf g1 g2 pk))) w6) := (HS5.out.alloc _).ints (IF.own (HI5.out.alloc _).ring hgr6); clear hown6 hgr6 hat6 hlt6 hi hz0 hz1 hz2 hNz)
      refine HK.out _ _ ?_; clear HK K
      have htc : (t : Int) - (cl : Int) = (rg.length : Int) + 1 := by have := HT.out; omega
      have hrb : rg.length ≤ 32 := by omega
      refine wp_seq_k ?_; intro K hK; have HK : Hid _ := hK; clear hK
      go_wp2_with fail
      refine HK.out _ _ ?_; clear HK K
      refine wp_seq_k ?_; intro K hK; have HK : Hid _ := hK; clear hK
      go_wp2_with fail
      refine HK.out _ _ ?_; clear HK K
      refine HN.out _ _ (rg ++ [j]) _ _ ⟨⟨rfl, rfl, rfl, rfl, rfl, rfl, rfl, rfl, rfl⟩, rfl, rfl, rfl, rfl, rfl, ⟨_, by rw [← HIT.out]; exact HS6.out.alloc _⟩, HI6.out.alloc _, World.rowIs_made w6 (.bool false) (2 * c) 4, ?_, ?_, by omega, by omega, by omega, ?_, HL2.out.ltg⟩
      · have := HS6.out.lw.grp.lt; omega
      · simp; omega
      · intro k hk
        rcases List.mem_append.1 hk with hk | hk
        · exact HL2.out.ltr k hk
        · simp at hk; omega
    · obtain ⟨gr, capr, hvrf, _, _⟩ := World.ownsRow.form HL2.out.ints.ring (by have : rg.length ≠ 0 := fun h => hrg (List.eq_nil_of_length_eq_zero h); omega)
      have hrp : 0 < rg.length := by have : rg.length ≠ 0 := fun h => hrg (List.eq_nil_of_length_eq_zero h); omega
      subst hvrf
      have HI0 : Hid (In N (j + 1) rg gl idb (.slice (some ⟨gr, 0, none⟩) rg.length capr) vg w1) := HL2.out.ints
      have HS0 : Hid (Sd N s B T R g1 g2 rv rc gb c (j + 1) (gOf g1 g2 pk) w0 cl ov (if j + 1 = 0 then 0 else 1) ((itm (j + 1) rg).map (ent rv idb (gOf g1 g2 pk))) (gl.map (ent rv idb (gOf g1 g2 pk))) w1) := HL2.out.sd
      refine wp_seq_k ?_; intro K hK; have HK : Hid _ := hK; clear hK
      go_wp2_with (refine wpList_append_lies _ rfl (.const (.slice none 0 0)) (.tmp 165) 89 rfl N 3 i0 _ 1 8 Yba.underlying89 hi hz0 hz1 hz2 rfl (by decide) (.slice none 0 0) 0 (ints []) rfl ⟨rfl, .inl ⟨rfl, rfl⟩⟩ ⟨gr, 0, none⟩ rg.length capr (ints rg) rfl (by rw [ints_len]; simp) (by have h := news_ints HI0.out.ring 0 rg.length (by omega); simpa using h) (ints_one _) hrp (by unfold maxLen; omega) (by omega) (by omega) _ rfl ?_; intro g5 cap5 W5 hown5 hgr5 hat5 hlt5; have HI5 : Hid (In N (j + 1) rg gl idb (.slice (some ⟨g5, 0, none⟩) rg.length cap5) vg W5) := HI0.out.newR hgr5 (by rw [Nat.zero_add] at hown5; exact hown5) (by rcases hat5 with e | e; cases e; rw [e]; rfl); have HS5 : Hid (Sd N s B T R g1 g2 rv rc gb c (j + 1) (gOf g1 g2 pk) w0 cl ov (if j + 1 = 0 then 0 else 1) ((itm (j + 1) rg).map (ent rv idb (gOf g1 g2 pk))) (gl.map (ent rv idb (gOf g1 g2 pk))) W5) := HS0.out.ints ((Fr.refl _ w1).grown hgr5 (fun k hk _ => by cases hk)); clear hown5 hgr5 hat5 hlt5)
      refine HK.out _ _ ?_; clear HK K
      refine wp_seq_k ?_; intro K hK; have HK : Hid _ := hK; clear hK
      have hNz : N ≤ (W5.alloc (.cells #[.int .i64 (j : Nat)] 3)).heap.size := by have := HS5.out.lw.grp.lt; simp; omega
      go_wp2_with (refine wpList_append_lies _ rfl (.tmp 169) (.tmp 171) 89 rfl N 3 i0 _ 1 8 Yba.underlying89 hi hz0 hz1 hz2 rfl (by decide) (.slice (some ⟨g5, 0, none⟩) rg.length cap5) rg.length (ints rg) rfl (by exact (HI5.out.alloc _).ring) ⟨W5.heap.size, 0, none⟩ 1 1 [.int .i64 (j : Nat)] rfl rfl (news1 (by simp)) (by simp [Value.oneCell']) (by decide) (by unfold maxLen; omega) (by omega) (by exact hNz) _ rfl ?_; intro g cap w6 hown6 hgr6 hat6 hlt6; have HI6 : Hid (In N (j + 1) (rg ++ [j]) gl idb (.slice (some ⟨g, 0, none⟩) (rg.length + 1) cap) vg w6) := (HI5.out.alloc _).pushR hgr6 (by rw [ints_push, List.length_append]; exact hown6) (hat6.imp (fun e => e.symm) (fun e => by rw [e]; rfl)); have HS6 : Hid (Sd N s B T R g1 g2 rv rc gb c (j + 1) (gOf g1 g2 pk) w0 cl ov (if j + 1 = 0 then 0 else 1) ((itm (j + 1) rg).map (ent rv idb (gOf g1 g2 pk))) (gl.map (ent rv idb (gOf g1 g2 pk))) w6) := (HS5.out.alloc _).ints (IF.own (HI5.out.alloc _).ring hgr6); clear hown6 hgr6 hat6 hlt6 hi hz0 hz1 hz2 hNz)
      refine HK.out _ _ ?_; clear HK K
      have htc : (t : Int) - (cl : Int) = (rg.length : Int) + 1 := by have := HT.out; omega
      have hrb : rg.length ≤ 32 := by omega
      refine wp_seq_k ?_; intro K hK; have HK : Hid _ := hK; clear hK
      go_wp2_with fail
      refine HK.out _ _ ?_; clear HK K
      refine wp_seq_k ?_; intro K hK; have HK : Hid _ := hK; clear hK
      go_wp2_with fail
      refine HK.out _ _ ?_; clear HK K
      refine HN.out _ _ (rg ++ [j]) _ _ ⟨⟨rfl, rfl, rfl, rfl, rfl, rfl, rfl, rfl, rfl⟩, rfl, rfl, rfl, rfl, rfl, ⟨_, by rw [← HIT.out]; exact HS6.out.alloc _⟩, HI6.out.alloc _, World.rowIs_made w6 (.bool false) (2 * c) 4, ?_, ?_, by omega, by omega, by omega, ?_, HL2.out.ltg⟩
      · have := HS6.out.lw.grp.lt; omega
      · simp; omega
      · intro k hk
        rcases List.mem_append.1 hk with hk | hk
        · exact HL2.out.ltr k hk
        · simp at hk; omega
end Go.Proofs.Ybulkctey
