/-
  SEAT b4747a. CHUNKS: THE CONTRACT OF (chunkWriter).Write.
-/
import Derived.Test.YbulkcthcGot
namespace Go.Proofs.Ybulkcthc
open Go.Conc Go.RowKit

theorem listed_all : ∀ b0 b1 b2 b3 b4 b5 b6 b7 : Bool, b0 = true → (b1 = false → b0 = false) → b2 = true → b3 = true → b4 = true → (b5 = false → b3 = true → b4 = false) → (b6 = false → b2 = true → b5 = false) → (b7 = false → b1 = true → b6 = false) → b7 = true := by decide

set_option maxRecDepth 100000 in
set_option maxHeartbeats 4000000 in
theorem write_any (N k m capO : Nat) (f : Nat → Int) (aB : Option Addr) (w0 w : World) (hm : m ≤ 262144) (hcap : m ≤ capO * 65536) (haB : 0 < m → aB = some ⟨N, 0, none⟩) (hp : WPre N k m capO f w0 w) :
    Calls Yba.prog 6 #[.agg #[.chan (some (N + 1)), .chan (some (N + 2))], .slice aB m m] w fun e w' => e = .returned (.tuple #[.int .i64 m, .nilIface]) ∧ ∃ outs, WInv N k m capO f w0 ((m + 65535) / 65536) w' outs := by
  have HP : Hid (WPre N k m capO f w0 w) := hp
  have HZ : Hid (w.heap.size = N + 3 + k) := hp.size
  clear hp
  obtain ⟨i0, hi, hz0, hz1, hz2⟩ := info_five
  have hmk : ∀ W : World, (Instr.makeSlice 22 (.int .i64 0) (.int .i64 65536)).run Yba.prog W = .ok (.slice (some ⟨W.heap.size, 0, none⟩) 0 65536) (W.alloc (.cells (madeCells #[.int .u8 0] 65536) 5)) := fun W => by
    have h := run_make (P := Yba.prog) W 22 5 i0 _ Yba.underlying22 hi hz0 .i64 .i64 0 65536 (by omega) (by omega) (by rw [hz2]; omega) (by omega)
    simpa [hz1, Value.cells] using h
  have HM : Hid ((madeCells #[.int .u8 0] 65536).size = 65536) := size_madeCells _ _
  generalize madeCells #[.int .u8 0] 65536 = MC at hmk HM
  clear hi hz0 hz1 hz2
  refine calls_of_wpN Yba.func6 rfl (by rintro w' ⟨h, _⟩; cases h) ?_
  simp only [Yba.ntmps6, List.size_toArray, List.length_cons, List.length_nil, Nat.reduceAdd, Nat.reduceSub, Array.replicate_succ,
     Array.replicate_zero, List.push_toArray, List.append_toArray, List.nil_append, List.cons_append]
  apply WpN.seq_k; intro _ _
  go_wp2
  apply WpN.seq_k; intro _ _
  go_wp2
  apply WpN.seq_n; intro K hK
  apply WpN.block
  refine WpN.loop (fun n a wr => ∃ (i : Nat) (outs : Array Value) (ad : Option Addr) (x7 x8 x11 x12 x13 x14 x15 x16 x17 x18 x19 x20 x21 x22 x23 x24 x25 x26 x27 x28 x29 x30 x31 x32 x33 : Value), a = ⟨#[.agg #[.chan (some (N + 1)), .chan (some (N + 2))], .slice ad (m - i * 65536) (m - i * 65536), .pointer (some ⟨w.heap.size, 0, none⟩), undef, .int .i64 0, .nilIface, .int .i64 m, x7, x8, .slice aB m m, .int .i64 m, x11, x12, x13, x14, x15, x16, x17, x18, x19, x20, x21, x22, x23, x24, x25, x26, x27, x28, x29, x30, x31, x32, x33, undef], []⟩ ∧ (0 < m - i * 65536 → ad = some ⟨N, i * 65536, none⟩) ∧ WInv N k m capO f w0 i wr outs ∧ n = m - i * 65536) m ?_ ?_
  · refine ⟨0, #[], aB, undef, undef, undef, undef, undef, undef, undef, undef, undef, undef, undef, undef, undef, undef, undef, undef, undef, undef, undef, undef, undef, undef, undef, undef, undef, ?_, ?_, ?_, ?_⟩
    · simp
    · simpa using haB
    · exact HP.out.start
    · simp
  · rintro n a wr ⟨i, outs, ad, x7, x8, x11, x12, x13, x14, x15, x16, x17, x18, x19, x20, x21, x22, x23, x24, x25, x26, x27, x28, x29, x30, x31, x32, x33, rfl, had, hinv, rfl⟩
    have HI : Hid (WInv N k m capO f w0 i wr outs) := hinv
    clear hinv
    by_cases h0 : i * 65536 < m
    · obtain rfl := had (by omega)
      obtain ⟨len, hlen⟩ : ∃ len, len = m - i * 65536 := ⟨_, rfl⟩
      rw [← hlen]
      have hl0 : (0 : Int) < (len : Int) := by omega
      have hl1 : 0 < len := by omega
      have hcell : wr.cell? ⟨w.heap.size, 1, none⟩ = some (.chan (some (N + 2))) := by rw [HZ.out]; simp [World.cell?, HI.out.box]
      have hcell0 : wr.cell? ⟨w.heap.size, 0, none⟩ = some (.chan (some (N + 1))) := by rw [HZ.out]; simp [World.cell?, HI.out.box]
      have HLE : Hid (len = m - i * 65536) := hlen
      clear hlen
      apply WpN.seq_k; intro _ _
      go_wp2
      apply WpN.block
      apply WpN.seq_k; intro _ _
      go_wp2
      apply WpN.seq_n; intro K1 hK1
      apply WpN.seq_k; intro _ _
      go_wp2
      apply WpN.seq_n; intro K2 hK2
      apply WpN.region
      have HK1 : Hid _ := hK1
      clear hK1
      have key : ∀ (v x16 x17 x18 x19 x20 : Value) (W : World) (vb : Nat), Got N k i wr W v vb → K1 ⟨#[.agg #[.chan (some (N + 1)), .chan (some (N + 2))], .slice (some ⟨N, i * 65536, none⟩) len len, .pointer (some ⟨w.heap.size, 0, none⟩), undef, .int .i64 0, .nilIface, .int .i64 m, v, x8, .slice aB m m, .int .i64 m, .slice (some ⟨N, i * 65536, none⟩) len len, .int .i64 len, .bool true, .pointer (some ⟨w.heap.size, 1, none⟩), .chan (some (N + 2)), x16, x17, x18, x19, x20, x21, x22, x23, x24, x25, x26, x27, x28, x29, x30, x31, x32, x33, undef], []⟩ W := by
        intro v x16 x17 x18 x19 x20 W vb hgot
        have HG : Hid (Got N k i wr W v vb) := hgot
        clear hgot hcell hcell0
        refine HK1.out _ _ ?_
        obtain ⟨g, cap, W', hrun, hinv', hout'⟩ := got_append (len := len) HI.out HG.out h0 hm
        obtain ⟨HRN, HNX, HOT⟩ : Hid ((Builtin.append_ #[22, 22] 22 #[v, .slice (some ⟨N, i * 65536, none⟩) (siz m i) len]).run Yba.prog W.drew = .ok (.slice (some ⟨g, 0, none⟩) (pre k i + siz m i) cap) W') ∧ Hid (WInv N k m capO f w0 (i + 1) (W'.setChan (N + 1) capO (outs.push (.slice (some ⟨g, 0, none⟩) (pre k i + siz m i) cap)) false (i + 1) 0 false) (outs.push (.slice (some ⟨g, 0, none⟩) (pre k i + siz m i) cap))) ∧ Hid (W'.heap[N + 1]? = some (.chan capO outs false i 0 false)) := ⟨hrun, hinv', hout'⟩
        clear hrun hinv' hout'
        have HX0 : Hid (W.drew.cell? ⟨w.heap.size, 0, none⟩ = some (.chan (some (N + 1)))) := by
          have hb : W.drew.heap[N + 3 + k]? = some (.cells #[.chan (some (N + 1)), .chan (some (N + 2))] 31) := (HG.out.block (N + 3 + k) HI.out.size (by omega)).trans HI.out.box
          show _ = _
          rw [HZ.out]; simp [World.cell?, hb]
        have HX1 : Hid (W'.cell? ⟨w.heap.size, 0, none⟩ = some (.chan (some (N + 1)))) := by
          have hb : W'.heap[N + 3 + k]? = some (.cells #[.chan (some (N + 1)), .chan (some (N + 2))] 31) := by have := HNX.out.box; rwa [setChan_far _ _ _ _ _ _ _ _ (by omega)] at this
          show _ = _
          rw [HZ.out]; simp [World.cell?, hb]
        have HS1 : Hid (len ≤ 65536 → len = siz m i) := fun h => by rw [HLE.out] at h ⊢; exact (Nat.min_eq_left h).symm
        have HS2 : Hid (65536 ≤ len → 65536 = siz m i) := fun h => by rw [HLE.out] at h; exact (Nat.min_eq_right h).symm
        have HN1 : Hid (m - (i + 1) * 65536 = len - siz m i ∧ (0 < m - (i + 1) * 65536 → i * 65536 + siz m i = (i + 1) * 65536) ∧ 0 < siz m i ∧ siz m i ≤ len) := by have := HLE.out; show _ ∧ _; unfold siz; omega
        apply WpN.seq_n; intro K3 hK3
        have HK3 : Hid _ := hK3
        clear hK3
        have TL : Hid (∀ (sz : Nat) (x21 x22 x23 : Value), sz = siz m i → K3 ⟨#[.agg #[.chan (some (N + 1)), .chan (some (N + 2))], .slice (some ⟨N, i * 65536, none⟩) len len, .pointer (some ⟨w.heap.size, 0, none⟩), undef, .int .i64 0, .nilIface, .int .i64 m, v, .int .i64 sz, .slice aB m m, .int .i64 m, .slice (some ⟨N, i * 65536, none⟩) len len, .int .i64 len, .bool true, .pointer (some ⟨w.heap.size, 1, none⟩), .chan (some (N + 2)), x16, x17, x18, x19, x20, x21, x22, x23, x24, x25, x26, x27, x28, x29, x30, x31, x32, x33, undef], []⟩ W) := by
          intro sz x21 x22 x23 hsz
          refine HK3.out _ _ ?_
          have hs1 : sz ≤ len := by rw [hsz, HLE.out]; unfold siz; omega
          rw [← hsz] at HRN HNX HN1
          clear hsz
          apply WpN.seq_n; intro K4 hK4
          have HK4 : Hid _ := hK4
          clear hK4
          refine WpN.region_any mixed (fun n listed a wx => ∃ b0 b1 b2 b3 b4 b5 b6 b7 : Bool, listed = #[b0, b1, b2, b3, b4, b5, b6, b7] ∧ (b1 = true → b0 = true) ∧ (b5 = true → b3 = true ∧ b4 = true) ∧ (b6 = true → b2 = true ∧ b5 = true) ∧ (b7 = true → b1 = true ∧ b6 = true) ∧ n + (b0.toNat + b1.toNat + b2.toNat + b3.toNat + b4.toNat + b5.toNat + b6.toNat + b7.toNat) = 8 ∧
            a = ⟨#[.agg #[.chan (some (N + 1)), .chan (some (N + 2))], .slice (some ⟨N, i * 65536, none⟩) len len, .pointer (some ⟨w.heap.size, 0, none⟩), undef, .int .i64 0, .nilIface, .int .i64 m, v, .int .i64 sz, .slice aB m m, .int .i64 m, .slice (some ⟨N, i * 65536, none⟩) len len, .int .i64 len, .bool true, .pointer (some ⟨w.heap.size, 1, none⟩), .chan (some (N + 2)), x16, x17, x18, x19, x20, x21, x22, x23, (bif b0 then .pointer (some ⟨w.heap.size, 0, none⟩) else x24), (bif b1 then .chan (some (N + 1)) else x25), (bif b2 then v else x26), (bif b3 then .slice (some ⟨N, i * 65536, none⟩) len len else x27), (bif b4 then .int .i64 sz else x28), (bif b5 then .slice (some ⟨N, i * 65536, none⟩) sz len else x29), (bif b6 then .slice (some ⟨g, 0, none⟩) (pre k i + sz) cap else x30), x31, x32, x33, undef], []⟩ ∧
            wx = (bif b7 then W'.setChan (N + 1) capO (outs.push (.slice (some ⟨g, 0, none⟩) (pre k i + sz) cap)) false (i + 1) 0 false else bif b6 then W' else W.drew)) ?_ ?_ ?_
          · rintro n listed a wx ⟨b0, b1, b2, b3, b4, b5, b6, b7, rfl, c1, c5, c6, c7, hcnt, rfl, rfl⟩ hend
            have hall : b7 = true := by
              rcases hend with hend | rfl
              · have hq := fun (j : Nat) (hj : j < 8) => List.filter_eq_nil_iff.1 hend j (List.mem_range.2 hj)
                have q0 := hq 0 (by decide)
                have q1 := hq 1 (by decide)
                have q2 := hq 2 (by decide)
                have q3 := hq 3 (by decide)
                have q4 := hq 4 (by decide)
                have q5 := hq 5 (by decide)
                have q6 := hq 6 (by decide)
                have q7 := hq 7 (by decide)
                clear hq hend
                simp [Region.binds] at q0 q1 q2 q3 q4 q5 q6 q7
                exact listed_all b0 b1 b2 b3 b4 b5 b6 b7 q0 q1 q2 q3 q4 q5 q6 q7
              · have hb : ∀ b : Bool, b.toNat ≤ 1 := Bool.toNat_le
                have := hb b0; have := hb b1; have := hb b2; have := hb b3; have := hb b4; have := hb b5; have := hb b6; have := hb b7
                have h7 : b7.toNat = 1 := by omega
                cases b7
                · simp at h7
                · rfl
            subst hall
            obtain ⟨rfl, rfl⟩ := c7 rfl
            obtain ⟨rfl, rfl⟩ := c6 rfl
            obtain ⟨rfl, rfl⟩ := c5 rfl
            obtain rfl := c1 rfl
            refine HK4.out _ _ (WpN.of_wp ?_)
            simp only [cond_true]
            go_wp2
            · exact ⟨0, HN1.out.2.2.1, i + 1, _, _, ⟨rfl, by have := HN1.out.1; omega⟩, (fun h => by have := HN1.out.1; omega), HNX.out, by have := HN1.out.1; omega⟩
            · exact ⟨len - sz, by have := HN1.out; omega, i + 1, _, _, ⟨rfl, HN1.out.1.symm⟩, (fun h => by rw [HN1.out.2.1 h]), HNX.out, HN1.out.1.symm⟩
          · rintro n listed a wx ⟨b0, b1, b2, b3, b4, b5, b6, b7, rfl, c1, c5, c6, c7, hcnt, rfl, rfl⟩ j hj
            have hj8 : j < 8 := List.mem_range.1 (List.mem_filter.1 hj).1
            replace hj := (List.mem_filter.1 hj).2
            match j, hj8, hj with
            | 0, _, hj =>
              simp [Region.binds] at hj
              subst hj
              intro Q' rest hnext
              refine WpO.value (v := .pointer (some ⟨w.heap.size, 0, none⟩)) rfl rfl (by simp [go_sem, execOp, Act.eval]) (hnext _ _ ⟨true, b1, b2, b3, b4, b5, b6, b7, rfl, fun _ => rfl, c5, c6, c7, by simp at hcnt ⊢; omega, rfl, rfl⟩)
            | 1, _, hj =>
              simp [Region.binds] at hj
              obtain ⟨rfl, rfl⟩ := hj
              intro Q' rest hnext
              obtain rfl : b7 = false := by cases b7; rfl; exact absurd (c7 rfl).1 (by simp)
              refine WpO.value (v := .chan (some (N + 1))) (w' := bif b6 then W' else W.drew) rfl rfl (by cases b6 <;> simp [go_sem, execOp, Act.eval, HX0.out, HX1.out]) (hnext _ _ ⟨true, true, b2, b3, b4, b5, b6, false, rfl, fun _ => rfl, c5, c6, (fun h => by cases h), by simp at hcnt ⊢; omega, rfl, rfl⟩)
            | 2, _, hj =>
              simp [Region.binds] at hj
              subst hj
              intro Q' rest hnext
              refine WpO.value (v := v) rfl rfl (by simp [go_sem, execOp, Act.eval]) (hnext _ _ ⟨b0, b1, true, b3, b4, b5, b6, b7, rfl, c1, c5, fun h => ⟨rfl, (c6 h).2⟩, c7, by simp at hcnt ⊢; omega, rfl, rfl⟩)
            | 3, _, hj =>
              simp [Region.binds] at hj
              subst hj
              intro Q' rest hnext
              refine WpO.value (v := .slice (some ⟨N, i * 65536, none⟩) len len) rfl rfl (by simp [go_sem, execOp, Act.eval]) (hnext _ _ ⟨b0, b1, b2, true, b4, b5, b6, b7, rfl, c1, fun h => ⟨rfl, (c5 h).2⟩, c6, c7, by simp at hcnt ⊢; omega, rfl, rfl⟩)
            | 4, _, hj =>
              simp [Region.binds] at hj
              subst hj
              intro Q' rest hnext
              refine WpO.value (v := .int .i64 sz) rfl rfl (by simp [go_sem, execOp, Act.eval]) (hnext _ _ ⟨b0, b1, b2, b3, true, b5, b6, b7, rfl, c1, fun h => ⟨(c5 h).1, rfl⟩, c6, c7, by simp at hcnt ⊢; omega, rfl, rfl⟩)
            | 5, _, hj =>
              simp [Region.binds] at hj
              obtain ⟨rfl, rfl, rfl⟩ := hj
              intro Q' rest hnext
              refine WpO.value (v := .slice (some ⟨N, i * 65536, none⟩) sz len) rfl rfl (slice_run _ _ N (i * 65536) len sz _ rfl rfl rfl hs1) (hnext _ _ ⟨b0, b1, b2, true, true, true, b6, b7, rfl, c1, fun _ => ⟨rfl, rfl⟩, fun h => ⟨(c6 h).1, rfl⟩, c7, by simp at hcnt ⊢; omega, rfl, rfl⟩)
            | 6, _, hj =>
              simp [Region.binds] at hj
              obtain ⟨rfl, rfl, rfl⟩ := hj
              intro Q' rest hnext
              obtain rfl : b7 = false := by cases b7; rfl; exact absurd (c7 rfl).2 (by simp)
              refine WpO.value (v := .slice (some ⟨g, 0, none⟩) (pre k i + sz) cap) (w' := W') rfl rfl (append_run rfl rfl rfl HRN.out) (hnext _ _ ⟨b0, b1, true, b3, b4, true, true, false, rfl, c1, c5, fun _ => ⟨rfl, rfl⟩, (fun h => by cases h), by simp at hcnt ⊢; omega, rfl, rfl⟩)
            | 7, _, hj =>
              simp [Region.binds] at hj
              obtain ⟨rfl, rfl, rfl⟩ := hj
              intro Q' rest hnext
              refine WpO.send (c := N + 1) rfl rfl rfl rfl HOT.out (by rw [HI.out.len]; omega) (hnext _ _ ⟨b0, true, b2, b3, b4, b5, true, true, rfl, c1, c5, c6, fun _ => ⟨rfl, rfl⟩, by simp at hcnt ⊢; omega, rfl, rfl⟩)
          · refine ⟨false, false, false, false, false, false, false, false, rfl, by simp, by simp, by simp, by simp, by simp, rfl, rfl⟩
        apply WpN.of_wp
        go_wp2
        · exact TL.out 65536 _ _ _ (HS2.out (by omega))
        · exact TL.out len _ _ _ (HS1.out (by omega))
      by_cases hik : i < k
      · have hsp := HI.out.spare
        rw [Nat.min_eq_left (Nat.le_of_lt hik)] at hsp
        refine WpO.select_recv (.slice none 0 0) (N + 2) k k i (spareA N k i) false false rfl rfl (by simp [go_sem, execOp, rcase, Act.eval]) hsp (by rw [spareA_size]; omega) ?_
        rw [spareA_head N k i hik, spareA_rest N k i]
        refine WpO.value (v := .int .i64 0) (w' := wr.setChan (N + 2) k (spareA N k (i + 1)) false k (i + 1) false) rfl rfl (by simp [go_sem, execOp, Act.eval, Act.put, goInt]) ?_
        refine WpO.value (v := .bool true) (w' := wr.setChan (N + 2) k (spareA N k (i + 1)) false k (i + 1) false) rfl rfl (by simp [go_sem, execOp, Act.eval, Act.put, goInt]) ?_
        refine WpO.nil (hK2 _ _ (WpN.of_wp ?_))
        simp only [Act.put, List.setIfInBounds_toArray]
        go_wp2
        exact key _ _ _ _ _ _ _ _ (got_spare HI.out hik)
      · have hsp := HI.out.spare
        rw [Nat.min_eq_right (by omega), spareA_nil] at hsp
        refine WpO.select_default (.slice none 0 0) (N + 2) k k k false rfl rfl (by simp [go_sem, execOp, rcase, Act.eval]) hsp ?_
        refine WpO.value (v := .int .i64 (-1)) (w' := wr) rfl rfl (by simp [go_sem, execOp, Act.eval, Act.put, goInt]) ?_
        refine WpO.value (v := .bool false) (w' := wr) rfl rfl (by simp [go_sem, execOp, Act.eval, Act.put, goInt]) ?_
        refine WpO.nil (hK2 _ _ (WpN.of_wp ?_))
        simp only [Act.put, List.setIfInBounds_toArray]
        go_wp2
        exact key _ _ _ _ _ _ _ _ (got_fresh HI.out hik MC HM.out)
    · have hz0 : m - i * 65536 = 0 := by omega
      rw [hz0]
      have HE : Hid (i = (m + 65535) / 65536) := by have := HI.out.lo; show _ = _; omega
      apply WpN.seq_k; intro _ _
      go_wp2
      apply WpN.of_wp
      go_wp2
      go_ret2
      exact ⟨rfl, outs, by rw [← HE.out]; exact HI.out⟩
end Go.Proofs.Ybulkcthc
