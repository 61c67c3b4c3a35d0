/-
  SEAT b4747a. THE WALK OF LawS4747AChunks.
-/
import Derived.Test.YbulkcthcReady
import Derived.Conc.LoneSelectN
import Derived.Deep.QuietTactic
import Derived.BigQuiet
namespace Go.Proofs.Ybulkcthc
open Go.Conc Go.RowKit

/-- Behind the third loop's rounds: the spares from j on are left. -/
structure S3 (N k j : Nat) (w6 w : World) : Prop where
  block : ∀ b, b ≠ N + 2 → w.heap[b]? = w6.heap[b]?
  spare : w.heap[N + 2]? = some (.chan k (spareA N k j) false k j false)
  size : w.heap.size = w6.heap.size
  os : w.os = w6.os
  tape : w.tape = w6.tape
  output : w.output = w6.output
theorem S3.start {N k j : Nat} {w6 : World} (h : w6.heap[N + 2]? = some (.chan k (spareA N k j) false k j false)) : S3 N k j w6 w6 := ⟨fun _ _ => rfl, h, rfl, rfl, rfl, rfl⟩
theorem S3.step {N k j : Nat} {w6 w : World} (h : S3 N k j w6 w) : S3 N k (j + 1) w6 (w.setChan (N + 2) k (spareA N k (j + 1)) false k (j + 1) false) :=
  ⟨fun b hb => (setChan_far _ _ _ _ _ _ _ _ hb).trans (h.block b hb), heap_setChan _ _ _ _ _ _ _ _ (Array.getElem?_eq_some_iff.1 h.spare).1, (size_setChan _ _ _ _ _ _ _ _).trans h.size, h.os, h.tape, h.output⟩
/-- Behind the fourth loop's rounds: the chunks from i on are left. -/
structure S4 (N capO cnt i : Nat) (outs : Array Value) (w6 w : World) : Prop where
  block : ∀ b, b ≠ N + 1 → w.heap[b]? = w6.heap[b]?
  out : w.heap[N + 1]? = some (.chan capO (outs.extract i outs.size) false cnt i false)
  size : w.heap.size = w6.heap.size
  os : w.os = w6.os
  tape : w.tape = w6.tape
  output : w.output = w6.output
theorem S4.start {N capO cnt : Nat} {outs : Array Value} {w6 : World} (h : w6.heap[N + 1]? = some (.chan capO outs false cnt 0 false)) : S4 N capO cnt 0 outs w6 w6 := ⟨fun _ _ => rfl, by rw [Array.extract_size]; exact h, rfl, rfl, rfl, rfl⟩
theorem outs_head (outs : Array Value) (i : Nat) (h : i < outs.size) : (outs.extract i outs.size).getD 0 undef = outs.getD i undef := by
  have : 0 < outs.size - i := by omega
  simp [Array.getD, h, this]
theorem outs_rest (outs : Array Value) (i : Nat) : (outs.extract i outs.size).extract 1 (outs.extract i outs.size).size = outs.extract (i + 1) outs.size := by
  apply Array.ext
  · simp; omega
  · intro j h1 h2
    simp [Nat.add_assoc]
theorem S4.step {N capO cnt i : Nat} {outs : Array Value} {w6 w : World} (h : S4 N capO cnt i outs w6 w) : S4 N capO cnt (i + 1) outs w6 (w.setChan (N + 1) capO (outs.extract (i + 1) outs.size) false cnt (i + 1) false) :=
  ⟨fun b hb => (setChan_far _ _ _ _ _ _ _ _ hb).trans (h.block b hb), heap_setChan _ _ _ _ _ _ _ _ (Array.getElem?_eq_some_iff.1 h.out).1, (size_setChan _ _ _ _ _ _ _ _).trans h.size, h.os, h.tape, h.output⟩
theorem wantOf_cap (m : Nat) : m ≤ (wantOf m + 1) * 65536 := by rw [wantOf_eq]; omega
theorem wrap160a : ∀ j : Nat, j < 3 → IntKind.i64.wrap (160 + (j : Int)) = 160 + (j : Int)
  | 0, _ => rfl
  | 1, _ => rfl
  | 2, _ => rfl
theorem wrap160b : ∀ j : Nat, j < 3 → IntKind.u8.wrap (160 + (j : Int)) = 160 + (j : Int)
  | 0, _ => rfl
  | 1, _ => rfl
  | 2, _ => rfl

theorem quiet_first {P : Program} {f : FuncId} {args : Array Value} {w : World} {v : Value} (h : ∀ n, Calls P f args (w.drewN n) fun e w' => e = .returned v ∧ ∃ m, w' = (w.drewN n).drewN m) (x : Nat) :
    Calls P f args (w.drewN x) fun e w'' => e = .returned v ∧ ∃ n, w'' = w.drewN n :=
  (h x).mono fun _ _ ⟨he, m, hm⟩ => ⟨he, x + m, by rw [hm, World.drewN_drewN]⟩
theorem S4.drewN {N capO cnt i n : Nat} {outs : Array Value} {w6 w : World} (h : S4 N capO cnt i outs w6 w) : S4 N capO cnt i outs w6 (w.drewN n) := ⟨h.block, h.out, h.size, h.os, h.tape, h.output⟩
/-- A chunk's piece is the buffer's piece. -/
theorem chunk_eq {wy : World} {g N m kk i z : Nat} {f2 : Nat → Int} (hz : i * 65536 + z ≤ m) (hc : ∀ t, t < pre kk i + z → wy.cell? ⟨g, t, none⟩ = some (.int .u8 (byteAt kk f2 i t))) (hb : ∀ t, t < m → wy.cell? ⟨N, t, none⟩ = some (.int .u8 (f2 t))) :
    ∀ o1 l1 c1 o2 l2 c2, o1 = pre kk i → l1 = z → o2 = i * 65536 → l2 = z → ∀ n, Calls Yba.prog 7 #[.slice (some ⟨g, o1, none⟩) l1 c1, .slice (some ⟨N, o2, none⟩) l2 c2] (wy.drewN n) fun e w' => e = .returned (.bool true) ∧ ∃ m, w' = (wy.drewN n).drewN m := by
  rintro o1 l1 c1 o2 l2 c2 rfl rfl rfl rfl n
  refine (beq_any g (pre kk i) c1 N (i * 65536) c2 l2 ((List.range l2).map fun t => f2 (i * 65536 + t)) (wy.drewN n) (by simp) (fun t ht => ?_) (fun t ht => ?_)).mono fun e w' ⟨he, hw⟩ => ⟨he, 0, by rw [hw]; rfl⟩
  · have h1 := hc (pre kk i + t) (by omega)
    have h2 : byteAt kk f2 i (pre kk i + t) = f2 (i * 65536 + t) := by
      unfold byteAt
      rw [if_neg (by omega), Nat.add_sub_cancel_left]
    rw [h2] at h1
    refine h1.trans ?_
    simp [List.getD, ht]
  · refine (hb (i * 65536 + t) (by omega)).trans ?_
    simp [List.getD, ht]
set_option maxRecDepth 100000 in
set_option maxHeartbeats 4000000 in
theorem chunks_any (a0 : Option Addr) (b0 o0 len0 cap0 : Nat) (z0 : List Int) (s t : Nat) (w : World) (ht : t < 256) (hl : len0 ≤ 1024) (hz : z0.length = len0) (ha : 0 < len0 → a0 = some ⟨b0, o0, none⟩) (hb : 0 < len0 → b0 < w.heap.size) (hc : ∀ j, j < len0 → w.cell? ⟨b0, o0 + j, none⟩ = some (.int .u8 (z0.getD j 0))) :
    Calls Yba.prog 3 #[.slice a0 len0 cap0, .int .u32 s, .int .u8 t] w fun e w' => e = .returned (.bool true) ∧ Below w.heap.size w w' := by
  obtain ⟨HA, HBB, HC⟩ : Hid (0 < len0 → a0 = some ⟨b0, o0, none⟩) ∧ Hid (0 < len0 → b0 < w.heap.size) ∧ Hid (∀ j, j < len0 → w.cell? ⟨b0, o0 + j, none⟩ = some (.int .u8 (z0.getD j 0))) := ⟨ha, hb, hc⟩
  clear ha hb hc
  have hl' : ¬ (1024 : Int) < (len0 : Int) := by omega
  obtain ⟨m, hm⟩ : ∃ m, m = len0 + s % 196608 := ⟨_, rfl⟩
  obtain ⟨kk, hkk⟩ : ∃ kk, kk = t % 4 := ⟨_, rfl⟩
  have hk4 : kk ≤ 3 := by omega
  have HKK : Hid ((t : Int) % 4 = (kk : Int)) := by show _ = _; omega
  clear hkk
  have hm2 : m ≤ 262143 := by omega
  have hlm : len0 ≤ m := by omega
  have HM : Hid ((len0 : Int) + (s : Int) % 196608 = (m : Int)) := by show _ = _; omega
  clear hm
  have hw4 : wantOf m ≤ 4 := wantOf_le m hm2
  obtain ⟨i1, hi1, hb1⟩ := info22
  have hmc1 : ∀ W : World, (Instr.makeChan 25 (.int .i64 ((wantOf m : Int) + 1))).run Yba.prog W = .ok (.chan (some W.heap.size)) (W.alloc (.chan (wantOf m + 1) #[] false 0 0 false)) := fun W => by
    have := run_makeChan (P := Yba.prog) (w := W) Yba.underlying25 hi1 .i64 (wantOf m + 1) (by omega) (by rw [hb1]; omega)
    simpa using this
  have hmc2 : ∀ W : World, (Instr.makeChan 25 (.int .i64 (kk : Int))).run Yba.prog W = .ok (.chan (some W.heap.size)) (W.alloc (.chan kk #[] false 0 0 false)) := fun W => by
    have := run_makeChan (P := Yba.prog) (w := W) Yba.underlying25 hi1 .i64 kk (by omega) (by rw [hb1]; omega)
    simpa using this
  clear hi1 hb1
  obtain ⟨i0, hi, hz0, hz1, hz2⟩ := info_five
  have hmk : ∀ W : World, (Instr.makeSlice 22 (.int .i64 (m : Int)) (.int .i64 (m : Int))).run Yba.prog W = .ok (.slice (some ⟨W.heap.size, 0, none⟩) m m) (W.alloc (.cells (madeCells #[.int .u8 0] m) 5)) := fun W => by
    have h := run_make (P := Yba.prog) W 22 5 i0 _ Yba.underlying22 hi hz0 .i64 .i64 (m : Int) (m : Int) (by omega) (by omega) (by rw [hz2]; omega) (by omega)
    simpa [hz1, Value.cells] using h
  have HMC : Hid ((madeCells #[.int .u8 0] m).size = m) := size_madeCells _ _
  have HMV : Hid (∀ v ∈ (madeCells #[.int .u8 0] m).toList, ∃ n : Int, v = .int .u8 n) := by
    intro v hv
    simp [madeCells] at hv
    obtain ⟨i, hi, rfl⟩ := hv
    exact ⟨0, by simp [Nat.mod_one]⟩
  generalize madeCells #[.int .u8 0] m = MC at hmk HMC HMV
  have hsz5 : (Yba.prog.info? 5).map (·.size) = some 1 := by rw [hi]; simp [hz1]
  clear hi hz0 hz1 hz2
  refine calls_of_wpN Yba.func3 rfl (by rintro w' ⟨h, _⟩; cases h) ?_
  simp only [Yba.ntmps3, List.size_toArray, List.length_cons, List.length_nil, Nat.reduceAdd, Nat.reduceSub, Array.replicate_succ,
     Array.replicate_zero, List.push_toArray, List.append_toArray, List.nil_append, List.cons_append]
  apply WpN.seq_k; intro _ _
  go_wp2
  apply WpN.seq_k; intro _ _
  go_wp2
  apply WpN.seq_k; intro _ _
  go_wp2
  rw [HM.out]
  apply WpN.seq_k; intro _ _
  go_wp2
  obtain ⟨w1, hw1⟩ : ∃ w1, w1 = w.alloc (.cells MC 5) := ⟨_, rfl⟩
  rw [← hw1]
  have HB1 : Hid (Below w.heap.size w w1) := by rw [hw1]; exact (Below.refl _ _).alloc (Nat.le_refl _) _
  have HG1 : Hid (w1.heap[w.heap.size]? = some (.cells MC.toList.toArray 5 (0, 0))) := by show _ = _; rw [hw1, Array.toArray_toList]; exact Array.getElem?_push_size
  have HZ1 : Hid (w1.heap.size = w.heap.size + 1) := by show _ = _; rw [hw1]; simp
  have HSC : Hid (∀ j v, (z0.map (Value.int .u8))[j]? = some v → w1.cell? ((⟨b0, o0, none⟩ : Addr).add j) = some v) := by
    intro j v hj
    have hjl : j < z0.length := by have := (List.getElem?_eq_some_iff.1 hj).1; simpa using this
    have hadd : (⟨b0, o0, none⟩ : Addr).add j = ⟨b0, o0 + j, none⟩ := by unfold Addr.add; split <;> simp_all
    rw [hadd, HB1.out.cell (HBB.out (by omega)), HC.out j (by omega)]
    simpa [List.getD, hjl] using hj
  clear hw1 hmk
  apply WpN.seq_k; intro _ _
  obtain ⟨w2, hcp, hbuf, hb2, hz2⟩ := copy_run (a0 := a0) (cap0 := cap0) hsz5 (Nat.le_refl w.heap.size) HG1.out (by rw [Array.length_toList]; exact HMC.out) hz hlm HA.out HSC.out HB1.out HMV.out
  have HZ2 : Hid (w2.heap.size = w.heap.size + 1) := hz2.trans HZ1.out
  obtain ⟨HBF, HB2⟩ : Hid (Buf w2 w.heap.size m) ∧ Hid (Below w.heap.size w w2) := ⟨hbuf, hb2⟩
  clear hbuf hb2 hz2 HZ1 HSC HG1 HB1 HA HBB HC HMV HMC hsz5 hz
  go_wp2
  clear hcp
  apply WpN.seq_k; intro _ _
  go_wp2
  go_loopw [9] (fun i wr => ∃ k : Nat, k ≤ m ∧ i = .int .i64 k ∧ Buf wr w.heap.size m ∧ Below w.heap.size w wr ∧ wr.heap.size = w.heap.size + 1) (fun i _ => m - (intOf i).toNat)
  case atStart => exact ⟨len0, hlm, rfl, HBF.out, HB2.out, HZ2.out⟩
  case round =>
    obtain ⟨k, hk, rfl, ⟨f, hf⟩, hbel, hsz⟩ := hrel
    obtain ⟨HF, HBL, HSZ⟩ : Hid (wr.rowIs w.heap.size 5 m (fun t => .int .u8 (f t))) ∧ Hid (Below w.heap.size w wr) ∧ Hid (wr.heap.size = w.heap.size + 1) := ⟨hf, hbel, hsz⟩
    clear hf hbel hsz
    by_cases hlt : k < m
    · have hcell := HF.out.cell hlt
      have hfz := HF.out.frozen k
      have hkm : (k : Int) < (m : Int) := by omega
      go_wp2
      go_roundw
      case rel =>
        exact ⟨k + 1, by omega, by go_num, buf_set ⟨f, HF.out⟩, HBL.out.setCell (by simp) _, by simp [World.setCell]; exact HSZ.out⟩
      case measure => simp [intOf]; omega
    · have hke : m = k := by omega
      subst hke
      go_wp2
      have HBF2 : Hid (Buf wr w.heap.size m) := ⟨f, HF.out⟩
      apply WpN.seq_k; intro _ _
      go_wp2
      rw [HKK.out]
      apply WpN.seq_k; intro _ _
      go_wp2
      rw [wantOf_int m]
      apply WpN.seq_k; intro _ _
      go_wp2
      apply WpN.seq_k; intro _ _
      go_wp2
      apply WpN.seq_n; intro K2 hK2
      have HK2 : Hid _ := hK2
      clear hK2
      apply WpN.seq_k; intro _ _
      go_wp2
      have HRD : Hid (Ready w.heap.size kk 0 m (wantOf m + 1) w ((wr.alloc (.chan (wantOf m + 1) #[] false 0 0 false)).alloc (.chan kk #[] false 0 0 false))) := Ready.start HBF2.out HSZ.out HBL.out
      have hw2 : wr.heap.size = w.heap.size + 1 := HSZ.out
      rw [hw2]
      clear hw2
      apply WpN.block
      refine WpN.loop (fun n a wx => ∃ (j : Nat) (x67 x68 x69 x70 x71 x72 x73 x74 x75 x76 : Value), a = ⟨#[Value.slice a0 len0 cap0, Value.int IntKind.u32 ↑s, Value.int IntKind.u8 ↑t, undef, undef, undef, Value.bool false, Value.int IntKind.i64 ↑m, Value.slice (some { block := w.heap.size, off := 0 }) m m, Value.int IntKind.i64 ↑m, Value.int IntKind.i64 ↑kk, Value.int IntKind.i64 ↑(wantOf m), Value.chan (some (w.heap.size + 1)), Value.chan (some (w.heap.size + 2)), Value.int IntKind.i64 ↑j, undef, undef, undef, undef, undef, undef, undef, undef, undef, undef, Value.slice a0 len0 cap0, Value.int IntKind.i64 ↑len0, Value.bool (decide ((1024 : Int) < (len0 : Int))), Value.slice a0 len0 cap0, Value.int IntKind.i64 ↑len0, Value.int IntKind.u32 ↑s, Value.int IntKind.u32 (↑s % 196608), Value.int IntKind.i64 (↑s % 196608), Value.int IntKind.i64 ↑m, Value.int IntKind.i64 ↑m, Value.slice (some { block := w.heap.size, off := 0 }) m m, Value.slice (some { block := w.heap.size, off := 0 }) m m, Value.slice a0 len0 cap0, Value.int IntKind.i64 ↑len0, Value.slice a0 len0 cap0, Value.int IntKind.i64 ↑len0, Value.int IntKind.i64 ↑m, Value.int IntKind.i64 ↑m, Value.bool false, u44, u45, u46, u47, u48, u49, u50, u51, u52, u53, u54, Value.int IntKind.u8 ↑t, Value.int IntKind.u8 ↑kk, Value.int IntKind.i64 ↑kk, Value.int IntKind.i64 ↑m, Value.int IntKind.i64 (↑m + 65536), Value.int IntKind.i64 (↑m + 65536 - 1), Value.int IntKind.i64 ↑(wantOf m), Value.int IntKind.i64 ↑(wantOf m), Value.int IntKind.i64 (↑(wantOf m) + 1), Value.chan (some (w.heap.size + 1)), Value.int IntKind.i64 ↑kk, Value.chan (some (w.heap.size + 2)), x67, x68, x69, x70, x71, x72, x73, x74, x75, x76, undef, undef, undef, undef, undef, undef, undef, undef, undef, undef, undef, undef, undef, undef, undef, undef, undef, undef, undef, undef, undef, undef, undef, undef, undef, undef, undef, undef, undef, undef, undef, undef, undef, undef, undef, undef, undef, undef, undef, undef, undef, undef, undef, undef, undef, undef, undef, undef, undef, undef, undef, undef, undef, undef, undef, undef, undef, undef, undef, undef, undef, undef, undef, undef, undef, undef, undef, undef, undef, undef, undef, undef, undef, undef, undef, undef, undef, undef, undef, undef, undef, undef, undef, undef, undef], []⟩ ∧ j ≤ kk ∧ n = kk - j ∧ Ready w.heap.size kk j m (wantOf m + 1) w wx) kk ?_ ?_
      · exact ⟨0, undef, undef, undef, undef, undef, undef, undef, undef, undef, undef, rfl, Nat.zero_le _, rfl, HRD.out⟩
      · rintro n a wx ⟨j, x67, x68, x69, x70, x71, x72, x73, x74, x75, x76, rfl, hj, rfl, hrd⟩
        have HR : Hid (Ready w.heap.size kk j m (wantOf m + 1) w wx) := hrd
        clear hrd
        by_cases hjk : j < kk
        · have hjk' : (j : Int) < (kk : Int) := by omega
          apply WpN.seq_k; intro _ _
          go_wp2
          apply WpN.seq_n; intro K3 hK3
          apply WpN.block
          apply WpN.region
          refine WpO.value (v := .chan (some (w.heap.size + 2))) (w' := wx) rfl rfl (by simp [go_sem, execOp, Act.eval]) ?_
          refine WpO.value (v := .int .i64 (j : Int)) (w' := wx) rfl rfl (by simp [go_sem, execOp, Act.eval, Act.put]) ?_
          refine WpO.value (v := .int .i64 (160 + (j : Int))) (w' := wx) rfl rfl (by simp [go_sem, execOp, Act.eval, Act.put]; exact wrap160a j (by omega)) ?_
          refine WpO.value (v := .int .u8 (160 + (j : Int))) (w' := wx) rfl rfl (by simp [go_sem, execOp, Act.eval, Act.put]; exact wrap160b j (by omega)) ?_
          refine WpO.value (v := spareV w.heap.size j) (w' := wx.alloc (.cells #[.int .u8 (160 + (j : Int))] 5)) rfl rfl (by simp [go_sem, execOp, Act.eval, Act.put]; rw [HR.out.size]; rfl) ?_
          have hsp : (wx.alloc (.cells #[.int .u8 (160 + (j : Int))] 5)).heap[w.heap.size + 2]? = some (.chan kk (spareA w.heap.size j 0) false j 0 false) := by
            rw [Below.heap_alloc _ _ _ (by have := HR.out.size; omega)]; exact HR.out.spare
          refine WpO.send (c := w.heap.size + 2) rfl rfl rfl rfl hsp (by rw [spareA_size]; omega) ?_
          clear hsp
          refine WpO.nil (hK3 _ _ (WpN.of_wp ?_))
          simp only [Act.put, List.setIfInBounds_toArray]
          go_wp2
          exact ⟨kk - (j + 1), by omega, j + 1, ⟨_, _, _, _, _, _, _, _, _, _, rfl⟩, by omega, rfl, HR.out.step⟩
        · have hje : kk = j := by omega
          subst hje
          apply WpN.seq_k; intro _ _
          go_wp2
          refine HK2.out _ _ ?_
          obtain ⟨f2, hpre⟩ := HR.out.done
          have HPR : Hid (WPre w.heap.size kk m (wantOf m + 1) f2 w wx) := hpre
          clear hpre HR hjk hj
          apply WpN.seq_k; intro _ _
          go_wp2_with fail
          refine (write_any w.heap.size kk m (wantOf m + 1) f2 _ w wx (by omega) (wantOf_cap m) (fun _ => rfl) HPR.out).mono ?_
          rintro e w6 ⟨rfl, outs, hinv⟩
          rw [← wantOf_eq] at hinv
          have HV : Hid (WInv w.heap.size kk m (wantOf m + 1) f2 w (wantOf m) w6 outs) := hinv
          clear hinv
          have hln1 : (Builtin.len_ #[25] 3 #[.chan (some (w.heap.size + 1))]).run Yba.prog w6 = .ok (.int .i64 (wantOf m : Int)) w6 := by
            have := run_len_chan (P := Yba.prog) (w := w6) 25 3 Yba.underlying25 HV.out.out
            rwa [HV.out.len] at this
          have hln2 : (Builtin.len_ #[25] 3 #[.chan (some (w.heap.size + 2))]).run Yba.prog w6 = .ok (.int .i64 ((kk - min (wantOf m) kk : Nat) : Int)) w6 := by
            have := run_len_chan (P := Yba.prog) (w := w6) 25 3 Yba.underlying25 HV.out.spare
            rwa [spareA_size] at this
          go_wp2
          apply WpN.seq_k; intro _ _
          go_wp2
          apply WpN.seq_k; intro _ _
          go_wp2
          apply WpN.seq_n; intro K5 hK5
          have HK5 : Hid _ := hK5
          clear hK5
          have TL : Hid (∀ u : Nat, u = min (wantOf m) kk → K5 ⟨#[Value.slice a0 len0 cap0, Value.int IntKind.u32 ↑s, Value.int IntKind.u8 ↑t, undef, undef, undef, Value.bool false, Value.int IntKind.i64 ↑m, Value.slice (some { block := w.heap.size, off := 0 }) m m, Value.int IntKind.i64 ↑m, Value.int IntKind.i64 ↑kk, Value.int IntKind.i64 ↑(wantOf m), Value.chan (some (w.heap.size + 1)), Value.chan (some (w.heap.size + 2)), Value.int IntKind.i64 ↑kk, Value.int IntKind.i64 ↑m, Value.nilIface, Value.int IntKind.i64 ↑u, undef, undef, undef, undef, undef, undef, undef, Value.slice a0 len0 cap0, Value.int IntKind.i64 ↑len0, Value.bool (decide ((1024 : Int) < (len0 : Int))), Value.slice a0 len0 cap0, Value.int IntKind.i64 ↑len0, Value.int IntKind.u32 ↑s, Value.int IntKind.u32 (↑s % 196608), Value.int IntKind.i64 (↑s % 196608), Value.int IntKind.i64 ↑m, Value.int IntKind.i64 ↑m, Value.slice (some { block := w.heap.size, off := 0 }) m m, Value.slice (some { block := w.heap.size, off := 0 }) m m, Value.slice a0 len0 cap0, Value.int IntKind.i64 ↑len0, Value.slice a0 len0 cap0, Value.int IntKind.i64 ↑len0, Value.int IntKind.i64 ↑m, Value.int IntKind.i64 ↑m, Value.bool false, u44, u45, u46, u47, u48, u49, u50, u51, u52, u53, u54, Value.int IntKind.u8 ↑t, Value.int IntKind.u8 ↑kk, Value.int IntKind.i64 ↑kk, Value.int IntKind.i64 ↑m, Value.int IntKind.i64 (↑m + 65536), Value.int IntKind.i64 (↑m + 65536 - 1), Value.int IntKind.i64 ↑(wantOf m), Value.int IntKind.i64 ↑(wantOf m), Value.int IntKind.i64 (↑(wantOf m) + 1), Value.chan (some (w.heap.size + 1)), Value.int IntKind.i64 ↑kk, Value.chan (some (w.heap.size + 2)), Value.int IntKind.i64 ↑kk, Value.int IntKind.i64 ↑kk, Value.bool false, x70, x71, x72, x73, x74, x75, x76, Value.tuple #[Value.int IntKind.i64 ↑m, Value.nilIface], Value.chan (some (w.heap.size + 1)), Value.chan (some (w.heap.size + 2)), Value.agg #[Value.chan (some (w.heap.size + 1)), Value.chan (some (w.heap.size + 2))], Value.slice (some { block := w.heap.size, off := 0 }) m m, Value.tuple #[Value.int IntKind.i64 ↑m, Value.nilIface], Value.int IntKind.i64 ↑m, Value.nilIface, Value.int IntKind.i64 ↑m, Value.int IntKind.i64 ↑m, Value.bool false, Value.bool false, Value.nilIface, Value.bool false, Value.bool false, Value.chan (some (w.heap.size + 1)), Value.int IntKind.i64 ↑(wantOf m), Value.int IntKind.i64 ↑(wantOf m), Value.bool false, Value.int IntKind.i64 ↑kk, Value.int IntKind.i64 ↑(wantOf m), Value.int IntKind.i64 ↑u, undef, undef, undef, undef, undef, undef, undef, undef, undef, undef, undef, undef, undef, undef, undef, undef, undef, undef, undef, undef, undef, undef, undef, undef, undef, undef, undef, undef, undef, undef, undef, undef, undef, undef, undef, undef, undef, undef, undef, undef, undef, undef, undef, undef, undef, undef, undef, undef, undef, undef, undef, undef, undef, undef, undef, undef, undef, undef, undef, undef, undef, undef, undef], []⟩ w6) := by
            intro u hu
            have huk : u ≤ kk := by rw [hu]; exact Nat.min_le_right _ _
            have HSP : Hid (w6.heap[w.heap.size + 2]? = some (.chan kk (spareA w.heap.size kk u) false kk u false)) := by show _ = _; rw [hu]; exact HV.out.spare
            have HUW : Hid (u = kk ∨ u = wantOf m) := by show _ ∨ _; rw [hu]; omega
            clear hu hln1 hln2
            have hln2 : (Builtin.len_ #[25] 3 #[.chan (some (w.heap.size + 2))]).run Yba.prog w6 = .ok (.int .i64 ((kk : Int) - (u : Int))) w6 := by
              have := run_len_chan (P := Yba.prog) (w := w6) 25 3 Yba.underlying25 HSP.out
              rw [spareA_size] at this
              rw [this]; simp only [goInt]; congr 2; omega
            refine HK5.out _ _ ?_
            apply WpN.seq_k; intro _ _
            go_wp2
            clear hln2
            apply WpN.seq_n; intro K6 hK6
            have HK6 : Hid _ := hK6
            clear hK6
            apply WpN.seq_k; intro _ _
            go_wp2
            apply WpN.block
            refine WpN.loop (fun n a wx => ∃ (j : Nat) (x19 x106 x107 x108 x109 x110 x111 x112 x113 x114 x115 x116 x117 x118 x119 x120 x121 x122 x123 x124 : Value), a = ⟨#[Value.slice a0 len0 cap0, Value.int IntKind.u32 ↑s, Value.int IntKind.u8 ↑t, undef, undef, undef, Value.bool false, Value.int IntKind.i64 ↑m, Value.slice (some { block := w.heap.size, off := 0 }) m m, Value.int IntKind.i64 ↑m, Value.int IntKind.i64 ↑kk, Value.int IntKind.i64 ↑(wantOf m), Value.chan (some (w.heap.size + 1)), Value.chan (some (w.heap.size + 2)), Value.int IntKind.i64 ↑kk, Value.int IntKind.i64 ↑m, Value.nilIface, Value.int IntKind.i64 ↑u, Value.int IntKind.i64 ↑j, x19, undef, undef, undef, undef, undef, Value.slice a0 len0 cap0, Value.int IntKind.i64 ↑len0, Value.bool (decide ((1024 : Int) < (len0 : Int))), Value.slice a0 len0 cap0, Value.int IntKind.i64 ↑len0, Value.int IntKind.u32 ↑s, Value.int IntKind.u32 (↑s % 196608), Value.int IntKind.i64 (↑s % 196608), Value.int IntKind.i64 ↑m, Value.int IntKind.i64 ↑m, Value.slice (some { block := w.heap.size, off := 0 }) m m, Value.slice (some { block := w.heap.size, off := 0 }) m m, Value.slice a0 len0 cap0, Value.int IntKind.i64 ↑len0, Value.slice a0 len0 cap0, Value.int IntKind.i64 ↑len0, Value.int IntKind.i64 ↑m, Value.int IntKind.i64 ↑m, Value.bool false, u44, u45, u46, u47, u48, u49, u50, u51, u52, u53, u54, Value.int IntKind.u8 ↑t, Value.int IntKind.u8 ↑kk, Value.int IntKind.i64 ↑kk, Value.int IntKind.i64 ↑m, Value.int IntKind.i64 (↑m + 65536), Value.int IntKind.i64 (↑m + 65536 - 1), Value.int IntKind.i64 ↑(wantOf m), Value.int IntKind.i64 ↑(wantOf m), Value.int IntKind.i64 (↑(wantOf m) + 1), Value.chan (some (w.heap.size + 1)), Value.int IntKind.i64 ↑kk, Value.chan (some (w.heap.size + 2)), Value.int IntKind.i64 ↑kk, Value.int IntKind.i64 ↑kk, Value.bool false, x70, x71, x72, x73, x74, x75, x76, Value.tuple #[Value.int IntKind.i64 ↑m, Value.nilIface], Value.chan (some (w.heap.size + 1)), Value.chan (some (w.heap.size + 2)), Value.agg #[Value.chan (some (w.heap.size + 1)), Value.chan (some (w.heap.size + 2))], Value.slice (some { block := w.heap.size, off := 0 }) m m, Value.tuple #[Value.int IntKind.i64 ↑m, Value.nilIface], Value.int IntKind.i64 ↑m, Value.nilIface, Value.int IntKind.i64 ↑m, Value.int IntKind.i64 ↑m, Value.bool false, Value.bool false, Value.nilIface, Value.bool false, Value.bool false, Value.chan (some (w.heap.size + 1)), Value.int IntKind.i64 ↑(wantOf m), Value.int IntKind.i64 ↑(wantOf m), Value.bool false, Value.int IntKind.i64 ↑kk, Value.int IntKind.i64 ↑(wantOf m), Value.int IntKind.i64 ↑u, Value.chan (some (w.heap.size + 2)), Value.int IntKind.i64 (↑kk - ↑u), Value.int IntKind.i64 ↑kk, Value.int IntKind.i64 ↑u, Value.int IntKind.i64 (↑kk - ↑u), Value.bool false, Value.int IntKind.i64 ↑u, x106, x107, x108, x109, x110, x111, x112, x113, x114, x115, x116, x117, x118, x119, x120, x121, x122, x123, x124, undef, undef, undef, undef, undef, undef, undef, undef, undef, undef, undef, undef, undef, undef, undef, undef, undef, undef, undef, undef, undef, undef, undef, undef, undef, undef, undef, undef, undef, undef, undef, undef, undef, undef, undef, undef, undef], []⟩ ∧ u ≤ j ∧ j ≤ kk ∧ n = kk - j ∧ S3 w.heap.size kk j w6 wx) (kk - u) ?_ ?_
            · exact ⟨u, undef, undef, undef, undef, undef, undef, undef, undef, undef, undef, undef, undef, undef, undef, undef, undef, undef, undef, undef, undef, rfl, Nat.le_refl _, huk, rfl, S3.start HSP.out⟩
            · rintro n a wx ⟨j, x19, x106, x107, x108, x109, x110, x111, x112, x113, x114, x115, x116, x117, x118, x119, x120, x121, x122, x123, x124, rfl, huj, hjk, rfl, hs3⟩
              have H3 : Hid (S3 w.heap.size kk j w6 wx) := hs3
              clear hs3
              by_cases hlt3 : j < kk
              · have hj3 : (j : Int) < (kk : Int) := by omega
                apply WpN.seq_k; intro _ _
                go_wp2
                apply WpN.seq_n; intro K7 hK7
                have HK7 : Hid _ := hK7
                clear hK7
                apply WpN.block
                apply WpN.seq_n; intro K8 hK8
                have HK8 : Hid _ := hK8
                clear hK8
                apply WpN.region
                refine WpO.value (v := .chan (some (w.heap.size + 2))) (w' := wx) rfl rfl (by simp [go_sem, execOp, Act.eval]) ?_
                refine WpO.recv (.slice none 0 0) (w.heap.size + 2) kk kk j (spareA w.heap.size kk j) false false rfl rfl (by simp [go_sem, execOp, rcase, Act.eval, Act.put]) H3.out.spare (by rw [spareA_size]; omega) ?_
                rw [spareA_head _ _ _ hlt3, spareA_rest]
                refine WpO.value (v := spareV w.heap.size j) (w' := wx.setChan (w.heap.size + 2) kk (spareA w.heap.size kk (j + 1)) false kk (j + 1) false) rfl rfl (by simp [go_sem, execOp, Act.eval, Act.put]) ?_
                refine WpO.nil (HK8.out _ _ (WpN.of_wp ?_))
                simp only [Act.put, List.setIfInBounds_toArray, spareV]
                have H4 : Hid (S3 w.heap.size kk (j + 1) w6 (wx.setChan (w.heap.size + 2) kk (spareA w.heap.size kk (j + 1)) false kk (j + 1) false)) := H3.out.step
                generalize wx.setChan (w.heap.size + 2) kk (spareA w.heap.size kk (j + 1)) false kk (j + 1) false = wy at H4
                have hcy : wy.cell? ⟨w.heap.size + 3 + j, 0, none⟩ = some (.int .u8 (160 + (j : Int))) := by
                  have h1 := H4.out.block (w.heap.size + 3 + j) (by omega)
                  rw [HV.out.sp j (by have := HUW.out; omega) hlt3] at h1
                  simp [World.cell?, h1]
                have hj4 : (j : Int) ≤ 2 := by omega
                go_wp2
                refine HK7.out _ _ (WpN.of_wp ?_)
                go_wp2
                exact ⟨kk - (j + 1), by omega, j + 1, ⟨_, _, _, _, _, _, _, _, _, _, _, _, _, _, _, _, _, _, _, _, rfl⟩, by omega, by omega, rfl, H4.out⟩
              · have hje3 : kk = j := by omega
                subst hje3
                apply WpN.seq_k; intro _ _
                go_wp2
                refine HK6.out _ _ ?_
                have HB6 : Hid (Below w.heap.size w wx) := HV.out.bel.trans ⟨H3.out.os, H3.out.tape, H3.out.output, Nat.le_of_eq H3.out.size.symm, fun b hb => H3.out.block b (by omega)⟩
                apply WpN.seq_n; intro K9 hK9
                have HK9 : Hid _ := hK9
                clear hK9
                apply WpN.seq_k; intro _ _
                go_wp2
                apply WpN.block
                refine WpN.loop (fun n a wz => ∃ (i : Nat) (x21 x22 x23 x24 x125 x126 x127 x128 x129 x130 x131 x132 x133 x134 x135 x136 x137 x138 x139 x140 x141 x142 x143 x144 x145 x146 x147 x148 x149 x150 x151 x152 x153 x154 x155 x156 x157 x158 x159 x160 x161 : Value), a = ⟨#[Value.slice a0 len0 cap0, Value.int IntKind.u32 ↑s, Value.int IntKind.u8 ↑t, undef, undef, undef, Value.bool false, Value.int IntKind.i64 ↑m, Value.slice (some { block := w.heap.size, off := 0 }) m m, Value.int IntKind.i64 ↑m, Value.int IntKind.i64 ↑kk, Value.int IntKind.i64 ↑(wantOf m), Value.chan (some (w.heap.size + 1)), Value.chan (some (w.heap.size + 2)), Value.int IntKind.i64 ↑kk, Value.int IntKind.i64 ↑m, Value.nilIface, Value.int IntKind.i64 ↑u, Value.int IntKind.i64 ↑kk, x19, Value.int IntKind.i64 ↑i, x21, x22, x23, x24, Value.slice a0 len0 cap0, Value.int IntKind.i64 ↑len0, Value.bool (decide ((1024 : Int) < (len0 : Int))), Value.slice a0 len0 cap0, Value.int IntKind.i64 ↑len0, Value.int IntKind.u32 ↑s, Value.int IntKind.u32 (↑s % 196608), Value.int IntKind.i64 (↑s % 196608), Value.int IntKind.i64 ↑m, Value.int IntKind.i64 ↑m, Value.slice (some { block := w.heap.size, off := 0 }) m m, Value.slice (some { block := w.heap.size, off := 0 }) m m, Value.slice a0 len0 cap0, Value.int IntKind.i64 ↑len0, Value.slice a0 len0 cap0, Value.int IntKind.i64 ↑len0, Value.int IntKind.i64 ↑m, Value.int IntKind.i64 ↑m, Value.bool false, u44, u45, u46, u47, u48, u49, u50, u51, u52, u53, u54, Value.int IntKind.u8 ↑t, Value.int IntKind.u8 ↑kk, Value.int IntKind.i64 ↑kk, Value.int IntKind.i64 ↑m, Value.int IntKind.i64 (↑m + 65536), Value.int IntKind.i64 (↑m + 65536 - 1), Value.int IntKind.i64 ↑(wantOf m), Value.int IntKind.i64 ↑(wantOf m), Value.int IntKind.i64 (↑(wantOf m) + 1), Value.chan (some (w.heap.size + 1)), Value.int IntKind.i64 ↑kk, Value.chan (some (w.heap.size + 2)), Value.int IntKind.i64 ↑kk, Value.int IntKind.i64 ↑kk, Value.bool false, x70, x71, x72, x73, x74, x75, x76, Value.tuple #[Value.int IntKind.i64 ↑m, Value.nilIface], Value.chan (some (w.heap.size + 1)), Value.chan (some (w.heap.size + 2)), Value.agg #[Value.chan (some (w.heap.size + 1)), Value.chan (some (w.heap.size + 2))], Value.slice (some { block := w.heap.size, off := 0 }) m m, Value.tuple #[Value.int IntKind.i64 ↑m, Value.nilIface], Value.int IntKind.i64 ↑m, Value.nilIface, Value.int IntKind.i64 ↑m, Value.int IntKind.i64 ↑m, Value.bool false, Value.bool false, Value.nilIface, Value.bool false, Value.bool false, Value.chan (some (w.heap.size + 1)), Value.int IntKind.i64 ↑(wantOf m), Value.int IntKind.i64 ↑(wantOf m), Value.bool false, Value.int IntKind.i64 ↑kk, Value.int IntKind.i64 ↑(wantOf m), Value.int IntKind.i64 ↑u, Value.chan (some (w.heap.size + 2)), Value.int IntKind.i64 (↑kk - ↑u), Value.int IntKind.i64 ↑kk, Value.int IntKind.i64 ↑u, Value.int IntKind.i64 (↑kk - ↑u), Value.bool false, Value.int IntKind.i64 ↑u, Value.int IntKind.i64 ↑kk, Value.int IntKind.i64 ↑kk, Value.bool false, x109, x110, x111, x112, x113, x114, x115, x116, x117, x118, x119, x120, x121, x122, x123, x124, x125, x126, x127, x128, x129, x130, x131, x132, x133, x134, x135, x136, x137, x138, x139, x140, x141, x142, x143, x144, x145, x146, x147, x148, x149, x150, x151, x152, x153, x154, x155, x156, x157, x158, x159, x160, x161], []⟩ ∧ i ≤ wantOf m ∧ n = wantOf m - i ∧ S4 w.heap.size (wantOf m + 1) (wantOf m) i outs wx wz) (wantOf m) ?_ ?_
                · exact ⟨0, undef, undef, undef, undef, undef, undef, undef, undef, undef, undef, undef, undef, undef, undef, undef, undef, undef, undef, undef, undef, undef, undef, undef, undef, undef, undef, undef, undef, undef, undef, undef, undef, undef, undef, undef, undef, undef, undef, undef, undef, undef, rfl, Nat.zero_le _, rfl, S4.start ((H3.out.block _ (by omega)).trans HV.out.out)⟩
                · rintro n a wz ⟨i, x21, x22, x23, x24, x125, x126, x127, x128, x129, x130, x131, x132, x133, x134, x135, x136, x137, x138, x139, x140, x141, x142, x143, x144, x145, x146, x147, x148, x149, x150, x151, x152, x153, x154, x155, x156, x157, x158, x159, x160, x161, rfl, hiw, rfl, hs4⟩
                  have H4 : Hid (S4 w.heap.size (wantOf m + 1) (wantOf m) i outs wx wz) := hs4
                  clear hs4
                  by_cases hi4 : i < wantOf m
                  · have hi5 : (i : Int) < (wantOf m : Int) := by omega
                    apply WpN.seq_k; intro _ _
                    go_wp2
                    apply WpN.seq_n; intro KA hKA
                    have HKA : Hid _ := hKA
                    clear hKA
                    apply WpN.block
                    apply WpN.seq_n; intro KB hKB
                    have HKB : Hid _ := hKB
                    clear hKB
                    apply WpN.region
                    refine WpO.value (v := .chan (some (w.heap.size + 1))) (w' := wz) rfl rfl (by simp [go_sem, execOp, Act.eval]) ?_
                    refine WpO.recv (.slice none 0 0) (w.heap.size + 1) (wantOf m + 1) (wantOf m) i (outs.extract i outs.size) false false rfl rfl (by simp [go_sem, execOp, rcase, Act.eval, Act.put]) H4.out.out (by have := HV.out.len; simp; omega) ?_
                    rw [outs_head _ _ (by have := HV.out.len; omega), outs_rest]
                    obtain ⟨g, c, hv, hgc, hgw, hgl, hgcell⟩ := HV.out.sent i hi4
                    rw [hv]
                    refine WpO.value (v := .slice (some ⟨g, 0, none⟩) (pre kk i + siz m i) c) (w' := wz.setChan (w.heap.size + 1) (wantOf m + 1) (outs.extract (i + 1) outs.size) false (wantOf m) (i + 1) false) rfl rfl (by simp [go_sem, execOp, Act.eval, Act.put]) ?_
                    refine WpO.nil (HKB.out _ _ (WpN.of_wp ?_))
                    simp only [Act.put, List.setIfInBounds_toArray]
                    have H5 : Hid (S4 w.heap.size (wantOf m + 1) (wantOf m) (i + 1) outs wx (wz.setChan (w.heap.size + 1) (wantOf m + 1) (outs.extract (i + 1) outs.size) false (wantOf m) (i + 1) false)) := H4.out.step
                    generalize wz.setChan (w.heap.size + 1) (wantOf m + 1) (outs.extract (i + 1) outs.size) false (wantOf m) (i + 1) false = wy at H5
                    have HCH : Hid (∀ t, t < pre kk i + siz m i → wy.cell? ⟨g, t, none⟩ = some (.int .u8 (byteAt kk f2 i t))) := by
                      intro t ht'
                      have hz6 := HV.out.size
                      rw [World.cell?_of_block (w := w6) ((H5.out.block g (by omega)).trans (H3.out.block g (by omega)))]
                      exact hgcell t ht'
                    have HBF6 : Hid (∀ t, t < m → wy.cell? ⟨w.heap.size, t, none⟩ = some (.int .u8 (f2 t))) := by
                      intro t ht'
                      rw [World.cell?_of_block (w := w6) ((H5.out.block w.heap.size (by omega)).trans (H3.out.block w.heap.size (by omega)))]
                      exact HV.out.buf t ht'
                    clear hgcell hv hgw hgl
                    have HZM : Hid (siz m i = min (m - i * 65536) 65536) := rfl
                    have HIW : Hid (i * 65536 < m) := by show _ < _; have := wantOf_eq m; omega
                    generalize siz m i = z at HCH HZM hgc
                    have HE : Hid _ := chunk_eq (by have := HZM.out; have := HIW.out; omega) HCH.out HBF6.out
                    have hlo : (i : Int) * 65536 < (m : Int) := by have := HIW.out; omega
                    have hz0 : 0 < z := by have := HIW.out; have := HZM.out; omega
                    by_cases hfull : (m : Int) ≤ (i : Int) * 65536 + 65536
                    · by_cases hik : i < kk
                      · have hik' : (i : Int) < (kk : Int) := by omega
                        have hp : pre kk i = 1 := by unfold pre; exact if_pos hik
                        have hc0 : wy.cell? ⟨g, 0, none⟩ = some (.int .u8 (160 + (i : Int))) := by
                          have h1 := HCH.out 0 (by omega)
                          rwa [byteAt, if_pos (by omega)] at h1
                        have hc1 : ¬ c = 1 := by omega
                        rw [hp] at hgc ⊢
                        go_wp2
                        go_quiet ((go_at_call 7; exact quiet_first (HE.out _ _ _ _ _ _ hp.symm (by omega) (by omega) (by have := HZM.out; omega)) _))
                        go_wp2
                        refine HKA.out _ _ (WpN.of_wp ?_)
                        go_wp2
                        exact ⟨wantOf m - (i + 1), by omega, i + 1, ⟨_, _, _, _, _, _, _, _, _, _, _, _, _, _, _, _, _, _, _, _, _, _, _, _, _, _, _, _, _, _, _, _, _, _, _, _, _, _, _, _, _, rfl⟩, by omega, rfl, H5.out.drewN⟩
                      · have hik' : ¬ (i : Int) < (kk : Int) := by omega
                        have hp : pre kk i = 0 := by unfold pre; exact if_neg hik
                        rw [hp, Nat.zero_add] at hgc ⊢
                        go_wp2
                        go_quiet ((go_at_call 7; exact quiet_first (HE.out _ _ _ _ _ _ hp.symm (by omega) (by omega) (by have := HZM.out; omega)) _))
                        go_wp2
                        refine HKA.out _ _ (WpN.of_wp ?_)
                        go_wp2
                        exact ⟨wantOf m - (i + 1), by omega, i + 1, ⟨_, _, _, _, _, _, _, _, _, _, _, _, _, _, _, _, _, _, _, _, _, _, _, _, _, _, _, _, _, _, _, _, _, _, _, _, _, _, _, _, _, rfl⟩, by omega, rfl, H5.out.drewN⟩
                    · by_cases hik : i < kk
                      · have hik' : (i : Int) < (kk : Int) := by omega
                        have hp : pre kk i = 1 := by unfold pre; exact if_pos hik
                        have hc0 : wy.cell? ⟨g, 0, none⟩ = some (.int .u8 (160 + (i : Int))) := by
                          have h1 := HCH.out 0 (by omega)
                          rwa [byteAt, if_pos (by omega)] at h1
                        have hc1 : ¬ c = 1 := by omega
                        clear hlo hz0
                        rw [hp] at hgc ⊢
                        go_wp2
                        go_quiet ((go_at_call 7; exact quiet_first (HE.out _ _ _ _ _ _ hp.symm (by omega) (by omega) (by have := HZM.out; omega)) _))
                        go_wp2
                        refine HKA.out _ _ (WpN.of_wp ?_)
                        go_wp2
                        exact ⟨wantOf m - (i + 1), by omega, i + 1, ⟨_, _, _, _, _, _, _, _, _, _, _, _, _, _, _, _, _, _, _, _, _, _, _, _, _, _, _, _, _, _, _, _, _, _, _, _, _, _, _, _, _, rfl⟩, by omega, rfl, H5.out.drewN⟩
                      · have hik' : ¬ (i : Int) < (kk : Int) := by omega
                        have hp : pre kk i = 0 := by unfold pre; exact if_neg hik
                        rw [hp, Nat.zero_add] at hgc ⊢
                        go_wp2
                        go_quiet ((go_at_call 7; exact quiet_first (HE.out _ _ _ _ _ _ hp.symm (by omega) (by omega) (by have := HZM.out; omega)) _))
                        go_wp2
                        refine HKA.out _ _ (WpN.of_wp ?_)
                        go_wp2
                        exact ⟨wantOf m - (i + 1), by omega, i + 1, ⟨_, _, _, _, _, _, _, _, _, _, _, _, _, _, _, _, _, _, _, _, _, _, _, _, _, _, _, _, _, _, _, _, _, _, _, _, _, _, _, _, _, rfl⟩, by omega, rfl, H5.out.drewN⟩
                  · have hie : wantOf m = i := by omega
                    apply WpN.seq_k; intro _ _
                    go_wp2
                    refine HK9.out _ _ (WpN.of_wp ?_)
                    go_wp2
                    go_ret
                    exact ⟨rfl, HB6.out.trans ⟨H4.out.os, H4.out.tape, H4.out.output, Nat.le_of_eq H4.out.size.symm, fun b hb => H4.out.block b (by omega)⟩⟩
          apply WpN.of_wp
          go_wp2
          · exact TL.out _ (by omega)
          · exact TL.out _ (by omega)
end Go.Proofs.Ybulkcthc
