/-
  SEAT b4743a. QUEUE: spill, pushGlobal.
-/
import Derived.Test.YbulkcteyGlo
namespace Go.Proofs.Ybulkctey
open Go.RowKit Go.Deep

theorem GS.alloc {N s g1 g2 : Nat} {mu : Int} {ov : Nat} {es : List Ent} {w : World} (h : GS N s g1 g2 mu ov es w) (o : Obj) : GS N s g1 g2 mu ov es (w.alloc o) := h.keep fun _ _ _ hc _ => blk_alloc_lt _ _ _ (Array.getElem?_eq_some_iff.1 hc).1
theorem GS.drewN {N s g1 g2 : Nat} {mu : Int} {ov : Nat} {es : List Ent} {w : World} (h : GS N s g1 g2 mu ov es w) (n : Nat) : GS N s g1 g2 mu ov es (w.drewN n) := h.keep fun _ _ _ _ _ => rfl
theorem GS.drew {N s g1 g2 : Nat} {mu : Int} {ov : Nat} {es : List Ent} {w : World} (h : GS N s g1 g2 mu ov es w) : GS N s g1 g2 mu ov es w.drew := h.drewN 1

set_option maxHeartbeats 1600000 in
theorem spill_any (N s g1 g2 : Nat) (mu : Int) (ov : Nat) (es : List Ent) (fn : Fn) (xs ys : Array Value) (ga : Addr) (w : World) (hga : IsG g1 g2 ga) (hl : es.length < 1048576) (h : GS N s g1 g2 mu ov es w) :
    Calls Yba.prog 41 #[.pointer (some ⟨s, 0, none⟩), .agg #[.func fn xs ys, .pointer (some ga)]] w fun e w' => e = .returned (.tuple #[]) ∧ GS N s g1 g2 mu ov (es ++ [(.func fn xs ys, some ga)]) w' ∧ Fr (GF N s g1 g2 w) w w' := by
  have HP : Hid _ := fun W hW => GS.pushGroup (w := W) (N := N) (s := s) (g1 := g1) (g2 := g2) (mu := mu) (ov := ov) (es := es) hW fn xs ys ga hga hl
  have HG : Hid (GS N s g1 g2 mu ov es (w.alloc (.cells #[.func fn xs ys, .pointer (some ga)] 95))) := h.alloc _
  have HF : Hid (Fr (GF N s g1 g2 w) w (w.alloc (.cells #[.func fn xs ys, .pointer (some ga)] 95))) := (Fr.refl _ w).alloc _
  have he0 : (w.alloc (.cells #[.func fn xs ys, .pointer (some ga)] 95)).cell? ⟨w.heap.size, 0, none⟩ = some (.func fn xs ys) := by simp
  have he1 : (w.alloc (.cells #[.func fn xs ys, .pointer (some ga)] 95)).cell? ⟨w.heap.size, 1, none⟩ = some (.pointer (some ga)) := by simp
  have HE : Hid ((w.alloc (.cells #[.func fn xs ys, .pointer (some ga)] 95)).rowIs w.heap.size 95 2 (fun j => if j = 0 then .func fn xs ys else .pointer (some ga))) := World.rowIs_alloc w _ 95 _ (by intro j hj; match j, hj with | 0, _ => rfl | 1, _ => rfl)
  have hlts := h.lts
  clear h
  go_enter Yba.func41, Yba.ntmps41
  go_wp2_with fail
  generalize w.alloc (.cells #[.func fn xs ys, .pointer (some ga)] 95) = W at *
  go_region_with (first | (go_at_call 49; refine (HP.out _ HG.out.drew).mono ?_; rintro e w1 ⟨v, rfl, hf1, hc⟩; have hr1 := hf1.row HE.out.drew (rowIs_apart HE.out.drew (by omega) (by decide)); have he2 := hr1.cell (i := 0) (by omega); have he3 := hr1.cell (i := 1) (by omega); clear hf1 hr1; have HC : Hid (Calls Yba.prog 48 #[.pointer (some ga), v] w1 fun e2 w2 => e2 = .returned (.tuple #[]) ∧ GS N s g1 g2 mu ov (es ++ [(.func fn xs ys, some ga)]) w2 ∧ Fr (GF N s g1 g2 W.drew) W.drew w2) := hc; clear hc) | (go_at_call 48; refine HC.out.mono ?_; rintro e w2 ⟨rfl, hg2, hf2⟩; have HG2 : Hid (GS N s g1 g2 mu ov (es ++ [(.func fn xs ys, some ga)]) w2) := hg2; have HF2 : Hid (Fr (GF N s g1 g2 W.drew) W.drew w2) := hf2; clear hg2 hf2))
  all_goals
    go_wp2_with fail
    go_end0
    exact ⟨rfl, HG2.out, HF.out.drew.transS HF2.out⟩

set_option maxHeartbeats 1600000 in
theorem pushGlobal_any (N s g1 g2 : Nat) (mu : Int) (ov : Nat) (es : List Ent) (fn : Fn) (xs ys : Array Value) (ga : Option Addr) (w : World) (hga : ∀ a, ga = some a → IsG g1 g2 a) (hl : es.length < 1048576) (h : GS N s g1 g2 mu ov es w) :
    Calls Yba.prog 43 #[.pointer (some ⟨s, 0, none⟩), .agg #[.func fn xs ys, .pointer ga]] w fun e w' => e = .returned (.tuple #[]) ∧ GS N s g1 g2 mu ov (es ++ [(.func fn xs ys, ga)]) w' ∧ Fr (GF N s g1 g2 w) w w' := by
  have HG : Hid (GS N s g1 g2 mu ov es (w.alloc (.cells #[.func fn xs ys, .pointer ga] 95))) := h.alloc _
  have HF : Hid (Fr (GF N s g1 g2 w) w (w.alloc (.cells #[.func fn xs ys, .pointer ga] 95))) := (Fr.refl _ w).alloc _
  have he0 : (w.alloc (.cells #[.func fn xs ys, .pointer ga] 95)).cell? ⟨w.heap.size, 0, none⟩ = some (.func fn xs ys) := by simp
  have he1 : (w.alloc (.cells #[.func fn xs ys, .pointer ga] 95)).cell? ⟨w.heap.size, 1, none⟩ = some (.pointer ga) := by simp
  clear h
  cases ga with
  | none =>
    have HP : Hid _ := fun W hW => GS.push (w := W) (N := N) (s := s) (g1 := g1) (g2 := g2) (mu := mu) (ov := ov) (es := es) hW fn xs ys hl
    go_enter Yba.func43, Yba.ntmps43
    go_wp2_with fail
    generalize w.alloc (.cells #[.func fn xs ys, .pointer none] 95) = W at *
    go_region_with (go_at_call 42; refine (HP.out _ HG.out.drew).mono ?_; rintro e w2 ⟨rfl, hg2, hf2⟩; have HG2 : Hid (GS N s g1 g2 mu ov (es ++ [(.func fn xs ys, none)]) w2) := hg2; have HF2 : Hid (Fr (GF N s g1 g2 W.drew) W.drew w2) := hf2; clear hg2 hf2)
    all_goals
      go_wp2_with fail
      exact bodyPost_ret (results_none rfl _ _ _) rfl ⟨rfl, HG2.out, HF.out.drew.transS HF2.out⟩
  | some a =>
    have HP : Hid _ := fun W hW => spill_any N s g1 g2 mu ov es fn xs ys a W (hga a rfl) hl hW
    clear hga
    go_enter Yba.func43, Yba.ntmps43
    go_wp2_with fail
    generalize w.alloc (.cells #[.func fn xs ys, .pointer (some a)] 95) = W at *
    refine (HP.out W HG.out).mono ?_
    rintro e w2 ⟨rfl, hg2, hf2⟩
    go_wp2_with fail
    go_end0
    exact ⟨rfl, hg2, HF.out.transS hf2⟩
end Go.Proofs.Ybulkctey
