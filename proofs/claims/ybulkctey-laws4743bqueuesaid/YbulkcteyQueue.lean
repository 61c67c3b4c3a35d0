/-
  SEAT b4743a. QUEUE: queueLocal.
-/
import Derived.Test.YbulkcteyOver
namespace Go.Proofs.Ybulkctey
open Go.RowKit Go.Deep

/-- put where there is room, by the items. -/
theorem put_C (B T R c cl sl : Nat) (it : List Ent) (nt : Bool) (fn : Fn) (xs ys : Array Value) (ga : Option Addr) (w : World) (hc : Cap c) (hsl : (sl = 0 ∧ it.length ≤ c + 1) ∨ (sl = 1 ∧ it.length ≤ c)) (hcl : cl + it.length < 1048575) (hq : QC B T R c (lay c cl 0 it) nt (word cl cl (cl + it.length) sl) w) :
    Calls Yba.prog 31 #[.pointer (some ⟨B, 1, none⟩), .agg #[.func fn xs ys, .pointer ga]] w fun e w' => e = .returned (.bool true) ∧ (∃ nt', (nt' = false → nt = false ∧ ga = none) ∧ QC B T R c (lay c cl 0 (it ++ [(.func fn xs ys, ga)])) nt' (word cl cl (cl + it.length + 1) 1) w') ∧ Fr (fun b => b = B ∨ b = T ∨ b = R) w w' := by
  have hcc : 2 ≤ c ∧ c ≤ 32 := by rcases hc with rfl | rfl | rfl | rfl | rfl <;> omega
  have hgi : gkC (lay c cl 0 it) ((cl + it.length) % (2 * c)) = .pointer none := by
    unfold gkC; rw [lay_at c cl 0 it.length it hc (by omega) (Nat.zero_le _), List.getElem?_eq_none (Nat.le_refl _)]; rfl
  have key : ∀ e w', (e = Ending.returned (.bool true) ∧ Putted B T R c ((cl + it.length) % (2 * c)) (tkC (lay c cl 0 it)) (gkC (lay c cl 0 it)) nt (.func fn xs ys) (.pointer ga) (word cl cl (cl + it.length + 1) 1) w w') → e = .returned (.bool true) ∧ (∃ nt', (nt' = false → nt = false ∧ ga = none) ∧ QC B T R c (lay c cl 0 (it ++ [(.func fn xs ys, ga)])) nt' (word cl cl (cl + it.length + 1) 1) w') ∧ Fr (fun b => b = B ∨ b = T ∨ b = R) w w' := by
    rintro e w' ⟨rfl, ⟨nt', hn, hq'⟩, hf⟩
    refine ⟨rfl, ⟨nt', fun h => ⟨(hn h).1, by simpa using (hn h).2⟩, ?_⟩, hf⟩
    exact (QC.of (o := some (.func fn xs ys, ga)) hq' rfl rfl).congr fun k hk => lay_put c cl k it _ hc (by omega) hk
  rcases hsl with ⟨rfl, hl⟩ | ⟨rfl, hl⟩
  · exact (put_room0 B T R c cl (cl + it.length) _ _ nt fn xs ys ga w hc hcl (by omega) (by omega) hgi hq).mono key
  · exact (put_room1 B T R c cl (cl + it.length) _ _ nt fn xs ys ga w hc hcl (by omega) (by omega) hgi hq).mono key

/-- What queueLocal leaves. -/
def Local (N B T R s g1 g2 c cl ov : Nat) (it es : List Ent) (nt : Bool) (ga : Option Addr) (w w' : World) : Prop :=
  (∃ nt', (nt' = false → nt = false ∧ ga = none) ∧ QC B T R c (lay c cl 0 it) nt' (word cl cl (cl + it.length) 1) w') ∧ GS N s g1 g2 0 ov es w' ∧ Fr (SF N B T R s g1 g2 w) w w'

set_option maxHeartbeats 4000000 in
theorem local_room (N B T R s g1 g2 c cl sl ov : Nat) (it es : List Ent) (nt : Bool) (fn : Fn) (xs ys : Array Value) (ga : Option Addr) (w : World) (hc : Cap c) (hsl : (sl = 0 ∧ it.length ≤ c + 1) ∨ (sl = 1 ∧ it.length ≤ c)) (hcl : cl + it.length < 1048575)
    (hq : QC B T R c (lay c cl 0 it) nt (word cl cl (cl + it.length) sl) w) (hgs : GS N s g1 g2 0 ov es w) :
    Calls Yba.prog 16 #[.pointer (some ⟨s, 0, none⟩), .pointer (some ⟨B, 0, none⟩), .agg #[.func fn xs ys, .pointer ga]] w fun e w' => e = .returned (.tuple #[]) ∧ Local N B T R s g1 g2 c cl ov (it ++ [(.func fn xs ys, ga)]) es nt ga w w' := by
  have HP : Hid _ := fun W h => put_C B T R c cl sl it nt fn xs ys ga W hc hsl hcl h
  have HQ : Hid (QC B T R c (lay c cl 0 it) nt (word cl cl (cl + it.length) sl) (w.alloc (.cells #[.func fn xs ys, .pointer ga] 95))) := QM.alloc hq _
  have HG : Hid (GS N s g1 g2 0 ov es (w.alloc (.cells #[.func fn xs ys, .pointer ga] 95))) := hgs.alloc _
  have HF : Hid (Fr (SF N B T R s g1 g2 w) w (w.alloc (.cells #[.func fn xs ys, .pointer ga] 95))) := (Fr.refl _ w).alloc _
  have he0 : (w.alloc (.cells #[.func fn xs ys, .pointer ga] 95)).cell? ⟨w.heap.size, 0, none⟩ = some (.func fn xs ys) := by simp
  have he1 : (w.alloc (.cells #[.func fn xs ys, .pointer ga] 95)).cell? ⟨w.heap.size, 1, none⟩ = some (.pointer ga) := by simp
  clear hq hgs hsl
  go_enter Yba.func16, Yba.ntmps16
  go_wp2_with fail
  generalize w.alloc (.cells #[.func fn xs ys, .pointer ga] 95) = W at *
  go_loopw [10] (fun _ wr => wr = W) (fun _ _ => 0)
  case atStart => rfl
  case round =>
    subst hrel
    go_wp2_with fail
    go_region_with (go_at_call 31; refine (HP.out wr.drew (QM.drew HQ.out)).mono ?_; rintro e w1 ⟨rfl, hq1, hf1⟩; have HQ1 : Hid (∃ nt', (nt' = false → nt = false ∧ ga = none) ∧ QC B T R c (lay c cl 0 (it ++ [(.func fn xs ys, ga)])) nt' (word cl cl (cl + it.length + 1) 1) w1) := hq1; have HF1 : Hid (Fr (fun b => b = B ∨ b = T ∨ b = R) wr.drew w1) := hf1; clear hq1 hf1)
    all_goals
      go_wp2_with fail
      go_end0
      refine ⟨rfl, ?_, HG.out.drew.local (QM.drew HQ.out) HF1.out, SF.trans HF.out.drew HF1.out.qf⟩
      rw [show cl + (it ++ [((Value.func fn xs ys, ga) : Ent)]).length = cl + it.length + 1 from by simp; omega]
      exact HQ1.out

set_option maxHeartbeats 4000000 in
theorem local_full (N B T R s g1 g2 c cl ov : Nat) (it es : List Ent) (z : Ent) (nt : Bool) (fn : Fn) (xs ys : Array Value) (ga : Option Addr) (w : World) (hc : Cap c) (hil : it.length = c) (hcl : cl + c + 1 < 1048575) (hes : es.length + c + 1 < 1048576) (hov : ov < 1048576) (hg : ∀ e ∈ it ++ [z], Good g1 g2 e) (hnt : nt = false → ∀ e ∈ it ++ [z], e.2 = none)
    (hq : QC B T R c (lay c cl 0 (it ++ [z])) nt (word cl cl (cl + c + 1) 1) w) (hgs : GS N s g1 g2 0 ov es w) :
    Calls Yba.prog 16 #[.pointer (some ⟨s, 0, none⟩), .pointer (some ⟨B, 0, none⟩), .agg #[.func fn xs ys, .pointer ga]] w fun e w' => e = .returned (.tuple #[]) ∧ Local N B T R s g1 g2 c (cl + c / 2) (ov + 1) (it.drop (c / 2) ++ [(.func fn xs ys, ga)]) (es ++ it.take (c / 2) ++ [z]) nt ga w w' := by
  have hcc : 2 ≤ c ∧ c ≤ 32 := by rcases hc with rfl | rfl | rfl | rfl | rfl <;> omega
  have hdl : (it.drop (c / 2)).length = c - c / 2 := by simp [hil]
  have hce : cl + c / 2 + (it.drop (c / 2)).length = cl + c := by omega
  have HP1 : Hid _ := fun W h => put_full B T R c cl (cl + c + 1) (tkC (lay c cl 0 (it ++ [z]))) (gkC (lay c cl 0 (it ++ [z]))) nt (.func fn xs ys) (.pointer ga) W (by rw [gap_sub _ _ (by omega) (by omega)]; omega) h
  have HOV : Hid _ := fun W h1 h2 => overflow_any N B T R s g1 g2 c cl ov it es z nt W hc hil hcl hes hov hg hnt h1 h2
  have HP2 : Hid _ := fun W h => put_C B T R c (cl + c / 2) 0 (it.drop (c / 2)) nt fn xs ys ga W hc (.inl ⟨rfl, by omega⟩) (by omega) h
  rw [hce] at HP2
  have HQ : Hid (QC B T R c (lay c cl 0 (it ++ [z])) nt (word cl cl (cl + c + 1) 1) (w.alloc (.cells #[.func fn xs ys, .pointer ga] 95))) := QM.alloc hq _
  have HG : Hid (GS N s g1 g2 0 ov es (w.alloc (.cells #[.func fn xs ys, .pointer ga] 95))) := hgs.alloc _
  have HF : Hid (Fr (SF N B T R s g1 g2 w) w (w.alloc (.cells #[.func fn xs ys, .pointer ga] 95))) := (Fr.refl _ w).alloc _
  have HE : Hid ((w.alloc (.cells #[.func fn xs ys, .pointer ga] 95)).rowIs w.heap.size 95 2 (fun j => if j = 0 then .func fn xs ys else .pointer ga)) := World.rowIs_alloc w _ 95 _ (by intro j hj; match j, hj with | 0, _ => rfl | 1, _ => rfl)
  have hDn : ¬ (w.heap.size = s ∨ w.heap.size = g1 ∨ w.heap.size = g2 ∨ w.heap.size = B ∨ w.heap.size = T ∨ w.heap.size = R) := by
    have h1 := hq.ltB; have h2 := hq.t.lt; have h3 := hq.g.lt; have h4 := hgs.lts; omega
  have HCE : Hid (cl + c / 2 + (it.drop (c / 2)).length = cl + c) := hce
  clear hq hgs hg hnt hdl hce hil hes
  go_enter Yba.func16, Yba.ntmps16
  go_wp2_with fail
  generalize w.alloc (.cells #[.func fn xs ys, .pointer ga] 95) = W at *
  go_loopw [10] (fun _ wr => wr.rowIs w.heap.size 95 2 (fun j => if j = 0 then .func fn xs ys else .pointer ga) ∧ Fr (SF N B T R s g1 g2 w) w wr ∧ ((QC B T R c (lay c cl 0 (it ++ [z])) nt (word cl cl (cl + c + 1) 1) wr ∧ GS N s g1 g2 0 ov es wr) ∨ (QC B T R c (lay c (cl + c / 2) 0 (it.drop (c / 2))) nt (word (cl + c / 2) (cl + c / 2) (cl + c) 0) wr ∧ GS N s g1 g2 0 (ov + 1) (es ++ it.take (c / 2) ++ [z]) wr))) (fun _ wr => match wr.cell? ⟨s, 26, none⟩ with | some (.int _ n) => ov + 1 - n.toNat | _ => 0)
  case atStart => exact ⟨HE.out, HF.out, .inl ⟨HQ.out, HG.out⟩⟩
  case round =>
    obtain ⟨hr, hf, ⟨hq1, hg1⟩ | ⟨hq1, hg1⟩⟩ := hrel
    · obtain ⟨HR1, HF1, HQ1, HG1⟩ : Hid (wr.rowIs w.heap.size 95 2 (fun j => if j = 0 then .func fn xs ys else .pointer ga)) ∧ Hid (Fr (SF N B T R s g1 g2 w) w wr) ∧ Hid (QC B T R c (lay c cl 0 (it ++ [z])) nt (word cl cl (cl + c + 1) 1) wr) ∧ Hid (GS N s g1 g2 0 ov es wr) := ⟨hr, hf, hq1, hg1⟩
      have he0 := hr.cell (i := 0) (by omega)
      have he1 := hr.cell (i := 1) (by omega)
      have H26 : Hid _ := hg1.mu.2.1
      clear hr hf hq1 hg1
      go_wp2_with fail
      go_region_with (go_at_call 31; refine (HP1.out wr.drew (QM.drew HQ1.out)).mono ?_; rintro e w1 ⟨rfl, hf1⟩; have HFa : Hid (Fr (fun _ => False) wr.drew w1) := hf1; clear hf1)
      all_goals
        have HQa : Hid (QC B T R c (lay c cl 0 (it ++ [z])) nt (word cl cl (cl + c + 1) 1) w1) := QM.frame (QM.drew HQ1.out) HFa.out id id id
        have HGa : Hid (GS N s g1 g2 0 ov es w1) := HG1.out.drew.keep fun b cs t hc _ => HFa.out.alive hc id
        have HRa : Hid (w1.rowIs w.heap.size 95 2 (fun j => if j = 0 then .func fn xs ys else .pointer ga)) := HFa.out.row HR1.out.drew id
        have HFb : Hid (Fr (SF N B T R s g1 g2 w) w w1) := SF.trans HF1.out.drew (HFa.out.mono fun _ _ h => h.elim)
        go_wp2_with fail
        refine (HOV.out w1 HQa.out HGa.out).mono ?_
        rintro e w2 ⟨rfl, hq2, hg2, hf2⟩
        obtain ⟨HQ2, HG2, HF2⟩ : Hid (QC B T R c (lay c (cl + c / 2) 0 (it.drop (c / 2))) nt (word (cl + c / 2) (cl + c / 2) (cl + c) 0) w2) ∧ Hid (GS N s g1 g2 0 (ov + 1) (es ++ it.take (c / 2) ++ [z]) w2) ∧ Hid (Fr (SF N B T R s g1 g2 w1) w1 w2) := ⟨hq2, hg2, hf2⟩
        clear hq2 hg2 hf2
        go_wp2_with fail
        go_roundw
        case rel => exact ⟨HF2.out.row HRa.out (SF.apart HRa.out hDn), SF.trans HFb.out HF2.out, .inr ⟨HQ2.out, HG2.out⟩⟩
        case measure => rw [H26.out, HG2.out.mu.2.1]; simp
    · obtain ⟨HR1, HF1, HQ1, HG1⟩ : Hid (wr.rowIs w.heap.size 95 2 (fun j => if j = 0 then .func fn xs ys else .pointer ga)) ∧ Hid (Fr (SF N B T R s g1 g2 w) w wr) ∧ Hid (QC B T R c (lay c (cl + c / 2) 0 (it.drop (c / 2))) nt (word (cl + c / 2) (cl + c / 2) (cl + c) 0) wr) ∧ Hid (GS N s g1 g2 0 (ov + 1) (es ++ it.take (c / 2) ++ [z]) wr) := ⟨hr, hf, hq1, hg1⟩
      have he0 := hr.cell (i := 0) (by omega)
      have he1 := hr.cell (i := 1) (by omega)
      clear hr hf hq1 hg1
      go_wp2_with fail
      go_region_with (go_at_call 31; refine (HP2.out wr.drew (QM.drew HQ1.out)).mono ?_; rintro e w1 ⟨rfl, hq1, hf1⟩; have HQa : Hid (∃ nt', (nt' = false → nt = false ∧ ga = none) ∧ QC B T R c (lay c (cl + c / 2) 0 (it.drop (c / 2) ++ [(.func fn xs ys, ga)])) nt' (word (cl + c / 2) (cl + c / 2) (cl + c + 1) 1) w1) := hq1; have HFa : Hid (Fr (fun b => b = B ∨ b = T ∨ b = R) wr.drew w1) := hf1; clear hq1 hf1)
      all_goals
        go_wp2_with fail
        go_end0
        refine ⟨rfl, ?_, HG1.out.drew.local (QM.drew HQ1.out) HFa.out, SF.trans HF1.out.drew HFa.out.qf⟩
        rw [show cl + c / 2 + (it.drop (c / 2) ++ [((Value.func fn xs ys, ga) : Ent)]).length = cl + c + 1 from by have := HCE.out; rw [List.length_append]; simp only [List.length_singleton]; omega]
        exact HQa.out
end Go.Proofs.Ybulkctey
