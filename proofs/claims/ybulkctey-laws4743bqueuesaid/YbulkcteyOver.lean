/-
  SEAT b4743a. QUEUE: overflow.
-/
import Derived.Test.YbulkcteyLay
namespace Go.Proofs.Ybulkctey
open Go.RowKit Go.Deep

/-- An entry: a function, of no group or of one of the two. -/
def Good (g1 g2 : Nat) (e : Ent) : Prop := (∃ fn xs ys, e.1 = .func fn xs ys) ∧ ∀ a, e.2 = some a → IsG g1 g2 a

theorem SF.trans {N B T R s g1 g2 : Nat} {w w1 w2 : World} (h : Fr (SF N B T R s g1 g2 w) w w1) (h2 : Fr (SF N B T R s g1 g2 w1) w1 w2) : Fr (SF N B T R s g1 g2 w) w w2 := Fr.transS h h2
/-- Entries' blocks are apart. -/
theorem SF.apart {N B T R s g1 g2 D n : Nat} {f : Nat → Value} {w : World} (h : w.rowIs D 95 n f) (hD : ¬ (D = s ∨ D = g1 ∨ D = g2 ∨ D = B ∨ D = T ∨ D = R)) : ¬ SF N B T R s g1 g2 w D := rowIs_apart h hD (by decide)

set_option maxHeartbeats 4000000 in
theorem overflow_any (N B T R s g1 g2 c cl ov : Nat) (it es : List Ent) (z : Ent) (nt : Bool) (w : World) (hc : Cap c) (hil : it.length = c) (hcl : cl + c + 1 < 1048575) (hes : es.length + c + 1 < 1048576) (hov : ov < 1048576) (hg : ∀ e ∈ it ++ [z], Good g1 g2 e) (hnt : nt = false → ∀ e ∈ it ++ [z], e.2 = none)
    (hq : QC B T R c (lay c cl 0 (it ++ [z])) nt (word cl cl (cl + c + 1) 1) w) (hgs : GS N s g1 g2 0 ov es w) :
    Calls Yba.prog 32 #[.pointer (some ⟨s, 0, none⟩), .pointer (some ⟨B, 0, none⟩)] w fun e w' => e = .returned (.tuple #[]) ∧ QC B T R c (lay c (cl + c / 2) 0 (it.drop (c / 2))) nt (word (cl + c / 2) (cl + c / 2) (cl + c) 0) w' ∧ GS N s g1 g2 0 (ov + 1) (es ++ it.take (c / 2) ++ [z]) w' ∧ Fr (SF N B T R s g1 g2 w) w w' := by
  have hcc : 2 ≤ c ∧ c ≤ 32 := by rcases hc with rfl | rfl | rfl | rfl | rfl <;> omega
  obtain ⟨⟨zfn, zxs, zys, hz1⟩, hzg⟩ := hg z (by simp)
  obtain ⟨zv, zg⟩ := z
  simp only at hz1 hzg
  subst hz1
  have HCO : Hid _ := fun W h => claimOverflow_any B T R c cl (cl + c + 1) (tkC (lay c cl 0 (it ++ [(.func zfn zxs zys, zg)]))) (gkC (lay c cl 0 (it ++ [(.func zfn zxs zys, zg)]))) nt W hc hcl (by omega) h
  obtain ⟨n, hn⟩ : ∃ n, n = c / 2 := ⟨_, rfl⟩
  rw [← hn] at HCO ⊢
  have hn1 : n ≤ 16 := by omega
  have hn2 : n ≤ c := by omega
  have HTS : Hid _ := fun W h => takeSlot_any B T R c (cl + n) (cl + c) (tkC (lay c cl 0 (it ++ [(.func zfn zxs zys, zg)]))) (gkC (lay c cl 0 (it ++ [(.func zfn zxs zys, zg)]))) nt zfn zxs zys zg W hc (by omega) (by omega)
    (by unfold tkC; rw [lay_at c cl 0 c _ hc (by omega) (Nat.zero_le _), ← hil]; simp [oT]) (by unfold gkC; rw [lay_at c cl 0 c _ hc (by omega) (Nat.zero_le _), ← hil]; simp [oG]) (fun h => hnt h (.func zfn zxs zys, zg) (by simp)) h
  have HLK : Hid _ := fun W h => lock_any N s g1 g2 ov es W h
  have HUL : Hid _ := fun W h => unlock_any N s g1 g2 (ov + 1) (es ++ it.take n ++ [(.func zfn zxs zys, zg)]) W h
  have HPG : Hid _ := fun W h => pushGlobal_any N s g1 g2 1 ov (es ++ it.take n) zfn zxs zys zg W hzg (by simp; omega) h
  have HQ0 : Hid (QC B T R c (lay c cl 0 (it ++ [(.func zfn zxs zys, zg)])) nt (word cl cl (cl + c + 1) 1) w) := hq
  have HG0 : Hid (GS N s g1 g2 0 ov es w) := hgs
  have HG : Hid (∀ e ∈ it, Good g1 g2 e) := fun e he => hg e (by simp [he])
  have HN : Hid (nt = false → ∀ e ∈ it, e.2 = none) := fun h e he => hnt h e (by simp [he])
  have hltq := hq.ltB
  have hltT := hq.t.lt
  have hltR := hq.g.lt
  have hlts := hgs.lts
  have hsf := fun (W : World) (a : Addr) (fn : Fn) (xs ys : Array Value) => run_store Yba.prog W a (.func fn xs ys) .plain rfl
  have HNN : Hid (n = c / 2) := hn
  clear hq hgs hg hnt hzg hn
  go_enter Yba.func32, Yba.ntmps32
  go_wp2_with fail
  refine (HCO.out w HQ0.out).mono ?_
  rintro e w1 ⟨rfl, hq1, hf1⟩
  have HG1 : Hid (GS N s g1 g2 0 ov es w1) := HG0.out.local HQ0.out (hf1.mono fun b _ h => .inl h)
  have HF1 : Hid (Fr (SF N B T R s g1 g2 w) w w1) := (hf1.mono (T := fun b => b = B ∨ b = T ∨ b = R) fun b _ h => .inl h).qf
  have HQ1 : Hid (QM B T R c (tkC (lay c cl 0 (it ++ [(.func zfn zxs zys, zg)]))) (gkC (lay c cl 0 (it ++ [(.func zfn zxs zys, zg)]))) nt (word (cl + n) (cl + n) (cl + c + 1) 1) w1) := hq1
  clear hq1 hf1 HCO HQ0 HG0
  go_wp2_with fail
  refine (HTS.out w1 HQ1.out).mono ?_
  rintro e w2 ⟨rfl, hq2, hf2⟩
  have HG2 : Hid (GS N s g1 g2 0 ov es w2) := HG1.out.local HQ1.out hf2
  have HF2 : Hid (Fr (SF N B T R s g1 g2 w) w w2) := SF.trans HF1.out hf2.qf
  have HQ2 : Hid (QC B T R c (lay c cl 0 it) nt (word (cl + n) (cl + n) (cl + c) 0) w2) := by
    have h1 := QC.of (o := none) hq2 rfl rfl
    refine h1.congr fun k hk => ?_
    have h2 := lay_pop c cl k it (.func zfn zxs zys, zg) hc (by omega) hk
    rw [hil] at h2
    exact h2
  clear hq2 hf2 HTS HQ1 HG1 HF1
  have hsz2 : w.heap.size ≤ w2.heap.size := HF2.out.size
  go_wp2_with fail
  have HD : Hid ((w2.alloc (.cells #[.func zfn zxs zys, .pointer zg] 95)).rowIs w2.heap.size 95 2 (fun j => if j = 0 then .func zfn zxs zys else .pointer zg)) := World.rowIs_alloc w2 _ 95 _ (by intro j hj; match j, hj with | 0, _ => rfl | 1, _ => rfl)
  have HQ3 : Hid (QC B T R c (lay c cl 0 it) nt (word (cl + n) (cl + n) (cl + c) 0) (w2.alloc (.cells #[.func zfn zxs zys, .pointer zg] 95))) := QM.alloc HQ2.out _
  have HG3 : Hid (GS N s g1 g2 0 ov es (w2.alloc (.cells #[.func zfn zxs zys, .pointer zg] 95))) := HG2.out.alloc _
  have HF3 : Hid (Fr (SF N B T R s g1 g2 w) w (w2.alloc (.cells #[.func zfn zxs zys, .pointer zg] 95))) := HF2.out.alloc _
  generalize w2.alloc (.cells #[.func zfn zxs zys, .pointer zg] 95) = W3 at *
  generalize w2.heap.size = D at *
  clear HQ2 HG2 HF2
  refine (HLK.out W3 HG3.out).mono ?_
  rintro e w4 ⟨rfl, hg4, hf4⟩
  have hDn : ¬ (D = s ∨ D = g1 ∨ D = g2 ∨ D = B ∨ D = T ∨ D = R) := by omega
  have HQ4 : Hid (QC B T R c (lay c cl 0 it) nt (word (cl + n) (cl + n) (cl + c) 0) w4) := QM.global HQ3.out HG3.out hf4
  have HD4 : Hid (w4.rowIs D 95 2 (fun j => if j = 0 then .func zfn zxs zys else .pointer zg)) := (hf4.gf (B := B) (T := T) (R := R)).row HD.out (SF.apart HD.out hDn)
  have HF4 : Hid (Fr (SF N B T R s g1 g2 w) w w4) := SF.trans HF3.out hf4.gf
  have HG4 : Hid (GS N s g1 g2 1 ov es w4) := hg4
  clear hg4 hf4 HQ3 HG3 HF3 HD HLK
  generalize hY : word (cl + n) (cl + n) (cl + c) 0 = Y at *
  have HY : Hid (word (cl + n) (cl + n) (cl + c) 0 = Y) := hY
  clear hY
  go_wp2_with fail
  go_loopw [8] (fun i wr => ∃ k : Nat, k ≤ n ∧ i = .int .i64 k ∧ QC B T R c (lay c cl k it) nt Y wr ∧ GS N s g1 g2 1 ov (es ++ it.take k) wr ∧ wr.rowIs D 95 2 (fun j => if j = 0 then .func zfn zxs zys else .pointer zg) ∧ Fr (SF N B T R s g1 g2 w) w wr) (fun i _ => n - (intOf i).toNat)
  case atStart => exact ⟨0, Nat.zero_le _, rfl, HQ4.out, by simpa using HG4.out, HD4.out, HF4.out⟩
  case round =>
    obtain ⟨k, hk, rfl, hq5, hg5, hd5, hf5⟩ := hrel
    obtain ⟨HQ5, HG5, HD5, HF5⟩ : Hid (QC B T R c (lay c cl k it) nt Y wr) ∧ Hid (GS N s g1 g2 1 ov (es ++ it.take k) wr) ∧ Hid (wr.rowIs D 95 2 (fun j => if j = 0 then .func zfn zxs zys else .pointer zg)) ∧ Hid (Fr (SF N B T R s g1 g2 w) w wr) := ⟨hq5, hg5, hd5, hf5⟩
    clear hq5 hg5 hd5 hf5
    by_cases hlt : k < n
    · have hkl : k < it.length := by omega
      have hlt' : (k : Int) < (n : Int) := by omega
      obtain ⟨⟨fn, xs, ys, hv⟩, hga⟩ := HG.out it[k] (List.getElem_mem _)
      obtain ⟨ga, hgae⟩ : ∃ ga, ga = it[k].2 := ⟨_, rfl⟩
      have hite : it[k]? = some (.func fn xs ys, ga) := by rw [List.getElem?_eq_getElem hkl, ← hv, hgae]
      have HTK : Hid (it.take (k + 1) = it.take k ++ [(.func fn xs ys, ga)]) := by
        show _ = _
        rw [List.take_add_one, hite]; rfl
      have HOR : Hid _ := fun W h => ownerRemove_any B T R c (cl + k) Y (tkC (lay c cl k it)) (gkC (lay c cl k it)) nt fn xs ys ga W hc (by omega) (by unfold tkC; rw [lay_at c cl k k _ hc (by omega) (Nat.le_refl _), hite]; rfl) (by unfold gkC; rw [lay_at c cl k k _ hc (by omega) (Nat.le_refl _), hite]; rfl) (fun h => by rw [hgae]; exact HN.out h _ (List.getElem_mem _)) h
      have HGA : Hid (∀ a, ga = some a → IsG g1 g2 a) := fun a ha => hga a (by rw [← hgae]; exact ha)
      clear hv hga hgae hite
      go_wp2_with fail
      rw [show (cl : Int) + (k : Int) = ((cl + k : Nat) : Int) from by omega]
      refine (HOR.out wr HQ5.out).mono ?_
      rintro e w6 ⟨rfl, hq6, hf6⟩
      have hf6' : Fr (fun b => b = B ∨ b = T ∨ b = R) wr w6 := hf6.mono fun b _ h => .inr h
      have HQ6 : Hid (QC B T R c (lay c cl (k + 1) it) nt Y (w6.alloc (.cells #[.func fn xs ys, .pointer ga] 95))) := QM.alloc ((QC.of (o := none) hq6 rfl rfl).congr fun j hj => lay_take c cl k j it hc (by omega) hj) _
      have HG6 : Hid (GS N s g1 g2 1 ov (es ++ it.take k) (w6.alloc (.cells #[.func fn xs ys, .pointer ga] 95))) := (HG5.out.local HQ5.out hf6').alloc _
      have HF6 : Hid (Fr (SF N B T R s g1 g2 w) w (w6.alloc (.cells #[.func fn xs ys, .pointer ga] 95))) := (SF.trans HF5.out hf6'.qf).alloc _
      have HD6 : Hid ((w6.alloc (.cells #[.func fn xs ys, .pointer ga] 95)).rowIs D 95 2 (fun j => if j = 0 then .func zfn zxs zys else .pointer zg)) := (hf6'.row HD5.out (by omega)).alloc _
      have he0 : (w6.alloc (.cells #[.func fn xs ys, .pointer ga] 95)).cell? ⟨w6.heap.size, 0, none⟩ = some (.func fn xs ys) := by simp
      have he1 : (w6.alloc (.cells #[.func fn xs ys, .pointer ga] 95)).cell? ⟨w6.heap.size, 1, none⟩ = some (.pointer ga) := by simp
      clear hq6 hf6 hf6' HQ5 HG5 HD5 HF5 HOR
      cases ga with
      | none =>
        have HP : Hid _ := fun W hW => GS.push (w := W) (N := N) (s := s) (g1 := g1) (g2 := g2) (mu := 1) (ov := ov) (es := es ++ it.take k) hW fn xs ys (by simp; omega)
        go_wp2_with fail
        generalize w6.alloc (.cells #[.func fn xs ys, .pointer none] 95) = W6 at *
        go_region_with (go_at_call 42; refine (HP.out _ HG6.out.drew).mono ?_; rintro e w7 ⟨rfl, hg7, hf7⟩; have HG7 : Hid (GS N s g1 g2 1 ov (es ++ it.take k ++ [(.func fn xs ys, none)]) w7) := hg7; have HF7 : Hid (Fr (GF N s g1 g2 W6.drew) W6.drew w7) := hf7; clear hg7 hf7)
        all_goals
          go_wp2_with fail
          go_roundw
          case rel =>
            refine ⟨k + 1, by omega, by go_num, QM.global (QM.drew HQ6.out) HG6.out.drew HF7.out, ?_, (HF7.out.gf (B := B) (T := T) (R := R)).row HD6.out.drew (SF.apart HD6.out.drew hDn), SF.trans HF6.out.drew HF7.out.gf⟩
            rw [HTK.out, ← List.append_assoc]; exact HG7.out
          case measure => simp [intOf]; omega
      | some a =>
        have HP : Hid _ := fun W hW => spill_any N s g1 g2 1 ov (es ++ it.take k) fn xs ys a W (HGA.out a rfl) (by simp; omega) hW
        go_wp2_with fail
        generalize w6.alloc (.cells #[.func fn xs ys, .pointer (some a)] 95) = W6 at *
        refine (HP.out _ HG6.out).mono ?_
        rintro e w7 ⟨rfl, hg7, hf7⟩
        have HG7 : Hid (GS N s g1 g2 1 ov (es ++ it.take k ++ [(.func fn xs ys, some a)]) w7) := hg7
        have HF7 : Hid (Fr (GF N s g1 g2 W6) W6 w7) := hf7
        clear hg7 hf7
        go_wp2_with fail
        go_roundw
        case rel =>
          refine ⟨k + 1, by omega, by go_num, QM.global HQ6.out HG6.out HF7.out, ?_, (HF7.out.gf (B := B) (T := T) (R := R)).row HD6.out (SF.apart HD6.out hDn), SF.trans HF6.out HF7.out.gf⟩
          rw [HTK.out, ← List.append_assoc]; exact HG7.out
        case measure => simp [intOf]; omega
    · have hkn : k = n := by omega
      subst hkn
      have hd0 := HD5.out.cell (i := 0) (by omega)
      have hd1 := HD5.out.cell (i := 1) (by omega)
      simp only [↓reduceIte, Nat.one_ne_zero] at hd0 hd1
      have hqf := fun W => run_neq_func Yba.underlying92 zfn zxs zys W
      go_wp2_with fail
      refine (HPG.out wr HG5.out).mono ?_
      rintro e w8 ⟨rfl, hg8, hf8⟩
      have HQ8 : Hid (QC B T R c (lay c cl k it) nt Y w8) := QM.global HQ5.out HG5.out hf8
      have HF8 : Hid (Fr (SF N B T R s g1 g2 w) w w8) := SF.trans HF5.out hf8.gf
      have HG8 : Hid (GS N s g1 g2 1 ov (es ++ it.take k ++ [(.func zfn zxs zys, zg)]) w8) := hg8
      obtain ⟨_, h26, hz26⟩ := HG8.out.mu
      clear hg8 hf8
      go_wp2_with fail
      rw [show ((ov : Int) + 1) = ((ov + 1 : Nat) : Int) from by omega]
      obtain ⟨hg9, hf9⟩ := HG8.out.cellSet (k := 26) (v := .int .u64 ((ov + 1 : Nat) : Int)) (mu' := 1) (ov' := ov + 1) fun _ _ _ _ _ _ hs => hs.set26 (ov + 1)
      refine (HUL.out _ hg9).mono ?_
      rintro e w10 ⟨rfl, hg10, hf10⟩
      go_wp2_with fail
      go_end0
      refine ⟨rfl, ?_, hg10, SF.trans (SF.trans HF8.out hf9.gf) hf10.gf⟩
      have hq10 : QC B T R c (lay c cl k it) nt Y w10 := QM.global (QM.global HQ8.out HG8.out hf9) hg9 hf10
      rw [HY.out]
      exact hq10.congr fun j hj => lay_base c cl k j it hc (by omega) (by omega) hj
end Go.Proofs.Ybulkctey
