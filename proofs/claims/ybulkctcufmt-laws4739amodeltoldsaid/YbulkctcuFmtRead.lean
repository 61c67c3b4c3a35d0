/-
  SEAT b4739aF. THE CONTRACT OF (*scriptScenario).readVotes.
-/
import Derived.Test.YbulkctcuFmtVotes
import Derived.Deep.RegionLaw
import Derived.Deep.RegionHeldLaw
import Derived.Deep.DeepCutAuto
namespace Go.Proofs.YbulkctcuFmt
open Go.RowKit Go.Extern.Stop Go.Stop

set_option maxRecDepth 100000 in
set_option maxHeartbeats 8000000 in
theorem readVotes_any (F : Interp) (n : Int) (sl : List Int) (S BL C SV M : Nat) (es : List (ByteArray × Value)) (l : List RV) (w : World) (hF : F.answers w.tape) (_hsl : sl.length ≤ 256) (hN : l.length ≤ 1024)
    (hS : w.heap[S]? = some (scen n BL sl.length (.slice none 0 0))) (hBL : BL < w.heap.size ∧ BL ≠ S) (hbl : ∀ j, j < sl.length → w.cell? ⟨BL, j * 5 + 1, none⟩ = some (.int .i64 (sl.getD j 0)))
    (hM : M ≠ S) (hmap : mapIs Value.string w M es) (hidx : Index sl.length es) (_hC : C < w.heap.size ∧ C ≠ S) (hc1 : w.cell? ⟨C, 1, none⟩ = some (.slice (some ⟨SV, 0, none⟩) l.length l.length)) (hv : VRow S SV w l) :
    Calls Ybaf.prog 8 #[.pointer (some ⟨S, 0, none⟩), .pointer (some ⟨C, 0, none⟩), .map (some M)] w fun e w' => Left n sl S BL l w e w' := by
  obtain ⟨i0, hi, hz0, hz1, hz2⟩ := info_parts info41
  obtain ⟨HS, HBL, Hbl, HMP, HI, HV⟩ : Hid (w.heap[S]? = some (scen n BL sl.length (.slice none 0 0))) ∧ Hid (BL < w.heap.size ∧ BL ≠ S) ∧ Hid (∀ j, j < sl.length → w.cell? ⟨BL, j * 5 + 1, none⟩ = some (.int .i64 (sl.getD j 0))) ∧ Hid (mapIs Value.string w M es) ∧ Hid (Index sl.length es) ∧ Hid (VRow S SV w l) := ⟨hS, hBL, hbl, hmap, hidx, hv⟩
  clear hS hBL hbl hmap hidx hv
  go_enter Ybaf.func8, Ybaf.ntmps8
  go_wp2
  go_loopw [24] (fun i wr => ∃ (k : Nat) (v : Value), k ≤ l.length ∧ i = .int .i64 k ∧ (l.take k).all (good n sl) = true ∧ Inv n sl S BL l w k wr v) (fun i _ => l.length - (intOf i).toNat)
  case atStart =>
    refine ⟨0, .slice none 0 0, Nat.zero_le _, rfl, by simp, HS.out, ?_, But.refl _ _⟩
    exact World.ownsRow_nil _ _ _ _
  case round =>
    obtain ⟨k, v, hk, rfl, hall, hinv⟩ := hrel
    have HA : Hid ((l.take k).all (good n sl) = true) := hall
    have HN : Hid (Inv n sl S BL l w k wr v) := hinv
    clear hall hinv
    by_cases hlt : k < l.length
    · obtain ⟨rv, hrv⟩ : ∃ rv, rv = l.getD k ⟨false, 0, false, 0, none, 0, 0, 0, [], 0, 0⟩ := ⟨_, rfl⟩
      have hrl : rv = l[k] := by rw [hrv]; simp [List.getD, hlt]
      have hmem : rv ∈ l := by rw [hrl]; exact List.getElem_mem _
      have hbut := HN.out.but
      have p0 := (hbut.cell (a := ⟨SV, k * 3 + 0, none⟩) HV.out.lt HV.out.ne).trans (HV.out.cell k 0 (ptrIf rv.hs rv.px) hlt (by omega) (by rw [← hrv]; rfl))
      have p1 := (hbut.cell (a := ⟨SV, k * 3 + 1, none⟩) HV.out.lt HV.out.ne).trans (HV.out.cell k 1 (.slice rv.a rv.xs.length rv.c) hlt (by omega) (by rw [← hrv]; rfl))
      have p2 := (hbut.cell (a := ⟨SV, k * 3 + 2, none⟩) HV.out.lt HV.out.ne).trans (HV.out.cell k 2 (ptrIf rv.hh rv.ph) hlt (by omega) (by rw [← hrv]; rfl))
      have hfit := HV.out.fits rv hmem
      simp only [Nat.add_zero] at p0
      have HRL : Hid (rv = l[k]) := hrl
      clear hrv hrl hmem
      obtain ⟨hs, slot, hh, head, a, b, o, c, xs, px, ph⟩ := rv
      simp only at p0 p1 p2
      have HFT : Hid (RV.Fits S w ⟨hs, slot, hh, head, a, b, o, c, xs, px, ph⟩) := hfit
      have hkl : (k : Int) < (l.length : Int) := by omega
      have hFr : F.answers wr.tape := by rw [hbut.tape]; exact hF
      have hsz := hbut.size
      have HB : Hid (But S w wr) := hbut
      clear hfit hbut
      cases hs
      · -- no slot
        have HG : Hid (good n sl l[k] = false) := by show _ = _; rw [← HRL.out]; simp [good]
        simp only [ptrIf, Bool.false_eq_true, if_false] at p0
        cases hh <;> simp only [ptrIf, Bool.false_eq_true, if_false, if_true] at p2
        all_goals
          go_wp2_with fail
          refine (wrong0 F k (wr.heap.size + 1) _ (by exact hFr) (by simp)).mono ?_
          rintro e w3 ⟨rfl, hcell, hb3⟩
          go_wp2
          go_ret
          exact left_wrong hlt HN.out HA.out HG.out ((((Below.refl _ _).alloc (Nat.le_refl _) _).alloc (by simp) _).trans (hb3.mono (by simp; omega))) (by simpa using hcell)
      · obtain ⟨s0, s1, s2⟩ := HFT.out.slotAt rfl
        have s0' := (HB.out.cell (a := ⟨px, 0, none⟩) s1 s2).trans s0
        have hpw : px < w.heap.size := s1
        clear s1 s2
        simp only [ptrIf, if_true] at p0
        clear s0
        cases hh
        · -- no head
          have HG : Hid (good n sl l[k] = false) := by show _ = _; rw [← HRL.out]; simp [good]
          simp only [ptrIf, Bool.false_eq_true, if_false] at p2
          go_wp2_with fail
          refine (wrong1 F k (wr.heap.size + 1) _ (by exact hFr) (by simp)).mono ?_
          rintro e w3 ⟨rfl, hcell, hb3⟩
          go_wp2
          go_ret
          exact left_wrong hlt HN.out HA.out HG.out ((((Below.refl _ _).alloc (Nat.le_refl _) _).alloc (by simp) _).trans (hb3.mono (by simp; omega))) (by simpa using hcell)
        · obtain ⟨t0, t1, t2⟩ := HFT.out.headAt rfl
          have t0' := (HB.out.cell (a := ⟨ph, 0, none⟩) t1 t2).trans t0
          simp only at t0'
          have hqw : ph < w.heap.size := t1
          clear t1 t2
          simp only [ptrIf, if_true] at p2
          clear t0
          have hmr : mapIs Value.string wr M es := HMP.out.of_block (HB.out.block M HMP.out.lt hM)
          have hlk := (hmr.alloc (.cells #[.pointer (some ⟨px, 0, none⟩), .slice a xs.length c, .pointer (some ⟨ph, 0, none⟩)] 35)).look_ok (P := Ybaf.prog) string_keys Ybaf.underlying25 Ybaf.underlying9 (zero3 _) (nameOf head)
          have hpl : px < wr.heap.size := by omega
          have hql : ph < wr.heap.size := by omega
          clear hmr
          by_cases hhl : head < sl.length
          · rw [HI.out.has head hhl] at hlk
            have hSl : S < wr.heap.size := (Array.getElem?_eq_some_iff.1 HN.out.scen).1
            have hS0 : wr.cell? ⟨S, 0, none⟩ = some (.int .i64 n) := by simp [World.cell?, HN.out.scen, scen]
            have hS2 : wr.cell? ⟨S, 2, none⟩ = some (.slice (some ⟨BL, 0, none⟩) sl.length sl.length) := by simp [World.cell?, HN.out.scen, scen]
            have hS3 : wr.cell? ⟨S, 3, none⟩ = some v := by simp [World.cell?, HN.out.scen, scen]
            obtain ⟨y, hy⟩ : ∃ y, y = sl.getD head 0 := ⟨_, rfl⟩
            have hB1 := (HB.out.cell (a := ⟨BL, head * 5 + 1, none⟩) HBL.out.1 HBL.out.2).trans (Hbl.out head hhl)
            rw [← hy] at hB1
            have HY : Hid (y = sl.getD head 0) := hy
            have hBl : BL < wr.heap.size := by have := HBL.out.1; omega
            have hhi : (head : Int) < (sl.length : Int) := by omega
            clear hy
            by_cases hys : slot < y
            · -- the head is of a later slot
              have HG : Hid (good n sl l[k] = false) := by show _ = _; rw [← HRL.out]; simp only [good, ← HY.out]; simp; omega
              go_wp2
              go_region_held (fun w' => w'.cell? ⟨wr.heap.size, 0, none⟩ = some (.pointer (some ⟨px, 0, none⟩)) ∧ w'.cell? ⟨wr.heap.size, 2, none⟩ = some (.pointer (some ⟨ph, 0, none⟩)) ∧ w'.cell? ⟨px, 0, none⟩ = some (.int .i64 slot) ∧ w'.cell? ⟨ph, 0, none⟩ = some (.string (nameOf head)))
                (first | (simp [*, World.cell?_alloc_some]; done) | (exact ⟨(hb3.cell (by simp; omega)).trans (by simp [*]), (hb3.cell (by simp; omega)).trans (by simp [*]), (hb3.cell (by simp; omega)).trans (by simp [*]), (hb3.cell (by simp; omega)).trans (by simp [*])⟩))
                (first | (go_at_call 10; refine (wrong3 F k slot (nameOf head) y (wr.heap.size + 1) _ (by exact hFr) (by simp) (by simp) (by simp) (by simp)).mono ?_; rintro e w3 ⟨rfl, hcell, hb3⟩))
              go_wp2
              go_ret
              exact left_wrong hlt HN.out HA.out HG.out ((((Below.refl _ _).alloc (Nat.le_refl _) _).alloc (by simp) _).drew.trans (hb3.mono (by simp; omega))) (by simpa using hcell)
            · have hiw : Ints wr a b o xs := by
                have h : Ints w a b o xs := HFT.out.ints
                exact ⟨h.at', fun h0 => Nat.lt_of_lt_of_le (h.lt h0) hsz, fun j hj => (HB.out.cell (h.lt (by omega)) HFT.out.far).trans (h.cell j hj), h.len⟩
              have HIW : Hid (Ints ((wr.alloc (.cells #[.pointer (some ⟨px, 0, none⟩), .slice a xs.length c, .pointer (some ⟨ph, 0, none⟩)] 35)).drew) a b o xs) := hiw.below ((Below.refl _ _).alloc (Nat.le_refl _) _).drew
              clear hiw
              go_wp2
              go_upto_region 16 with fail
              go_cut [14, 15] (fun x1 x2 wd => (∃ vv, x1 = .int .i64 vv) ∧ x2 = .bool (anyOut n xs) ∧ wd = ((wr.alloc (.cells #[.pointer (some ⟨px, 0, none⟩), .slice a xs.length c, .pointer (some ⟨ph, 0, none⟩)] 35)).alloc (.cells #[.int .i64 n] 3)).drew)
              case first =>
                go_region_held (fun w' => w'.cell? ⟨wr.heap.size, 1, none⟩ = some (.slice a xs.length c) ∧ w'.cell? ⟨S, 0, none⟩ = some (.int .i64 n)) (go_keep)
                  (first | (go_at_call 12; refine (firstOutside_any n a b o c xs _ (by exact HIW.out)).mono ?_; rintro e w3 ⟨⟨vv, rfl⟩, rfl⟩))
                all_goals
                  go_wp2_with fail
                  go_meet
                  exact ⟨⟨_, rfl⟩, rfl, rfl⟩
              case rest =>
                obtain ⟨⟨vv, rfl⟩, rfl, rfl⟩ := hcut
                have hfr : wr.frozen? ⟨S, 3, none⟩ = false := by simp [World.frozen?, HN.out.scen, scen]
                clear hlk
                cases hao : anyOut n xs with
                | true =>
                  have HG : Hid (good n sl l[k] = false) := by show _ = _; rw [← HRL.out]; simp [good, hao]
                  go_wp2_with fail
                  refine (wrong4 F k vv (wrap64 (n - 1)) (wr.heap.size + 1 + 1) _ (by exact hFr) (by go_simp) (by go_simp) (by go_simp)).mono ?_
                  rintro e w3 ⟨rfl, hcell, hb3⟩
                  go_wp2
                  go_ret
                  exact left_wrong hlt HN.out HA.out HG.out (((((Below.refl _ _).alloc (Nat.le_refl _) _).alloc (by simp) _).alloc (by simp; omega) _).drew.trans (hb3.mono (by simp; omega))) (by simpa using hcell)
                | false =>
                  have HG : Hid (good n sl l[k] = true) := by show _ = _; rw [← HRL.out]; simp only [good, ← HY.out, hao]; simp; omega
                  have hown := HN.out.own
                  have hge := ownBlock_ge hown
                  have HGE : Hid (∀ b, v.ownBlock = some b → w.heap.size ≤ b) := hge
                  have HO : Hid (wr.ownsRow w.heap.size 41 3 v k (hcells ((l.take k).map RV.hv))) := hown
                  have hSw : S < w.heap.size := (Array.getElem?_eq_some_iff.1 HS.out).1
                  have HLK : Hid (l[k].hv.cells = [.int .i64 slot, .slice a xs.length c, .int .i64 head]) := by show _ = _; rw [← HRL.out]; rfl
                  clear hown hge
                  go_wp2_with fail
                  obtain ⟨Wd, hWd⟩ : ∃ Wd, Wd = ((wr.alloc (.cells #[.pointer (some ⟨px, 0, none⟩), .slice a xs.length c, .pointer (some ⟨ph, 0, none⟩)] 35)).alloc (.cells #[.int .i64 n] 3)).drew := ⟨_, rfl⟩
                  rw [← hWd]
                  have HBd : Hid (Below wr.heap.size wr Wd) := by rw [hWd]; exact ((((Below.refl _ _).alloc (Nat.le_refl _) _).alloc (by simp) _).drew)
                  have HOd : Hid (Wd.ownsRow w.heap.size 41 3 v k (hcells ((l.take k).map RV.hv))) := owns_below HO.out HBd.out
                  have g0 : Wd.cell? ⟨wr.heap.size, 0, none⟩ = some (.pointer (some ⟨px, 0, none⟩)) := by rw [hWd]; simp
                  have g1 : Wd.cell? ⟨wr.heap.size, 1, none⟩ = some (.slice a xs.length c) := by rw [hWd]; simp
                  have g2 : Wd.cell? ⟨px, 0, none⟩ = some (.int .i64 slot) := (HBd.out.cell hpl).trans s0'
                  have g3 : Wd.cell? ⟨S, 3, none⟩ = some v := (HBd.out.cell hSl).trans hS3
                  have g4 : Wd.frozen? ⟨S, 3, none⟩ = false := (HBd.out.frozen hSl).trans hfr
                  have gz : Wd.heap.size = wr.heap.size + 2 := by rw [hWd]; simp
                  have gl0 : wr.heap.size < Wd.heap.size := by omega
                  have gl1 : px < Wd.heap.size := by omega
                  have gl2 : S < Wd.heap.size := by omega
                  have GZ : Hid (Wd.heap.size = wr.heap.size + 2) := gz
                  clear hWd gz HI HMP HV HBL Hbl HS p0 p1 p2 t0' hF hM _hC hc1 _hsl HY HFT hB1 hS0 hS2 hhi hBl hhl hys hql hqw HIW hkl hk HB hFr s0' hS3 hfr HO hpl hpw hao
                  go_region_law (first | (refine step_append_lies _ rfl (.tmp 127) (.tmp 136) 39 rfl w.heap.size 41 i0 _ 3 40 Ybaf.underlying39 hi hz0 hz1 hz2 rfl (by decide) v k _ rfl (by exact HOd.out.alloc _) ⟨Wd.heap.size, 0, none⟩ 1 1 [.int .i64 slot, .slice a xs.length c, .int .i64 head] rfl rfl (news3 (by simp) (by simp) (by simp)) (by simp [Value.oneCell']) (by decide) (by unfold maxLen; omega) (by omega) (by simp; omega) _ rfl ?_; intro g cap w1 hown1 hgrow hat hlt1; have q1 : w1.cell? ⟨S, 3, none⟩ = some v := (hgrow.cell_far ⟨S, 3, none⟩ (by simp; omega) (fun e => by have := HGE.out _ e.symm; simp at this; omega)).trans ((World.cell?_alloc_lt _ _ _ gl2).trans g3); have q2 : w1.frozen? ⟨S, 3, none⟩ = false := (hgrow.frozen_far ⟨S, 3, none⟩ (by simp; omega) (fun e => by have := HGE.out _ e.symm; simp at this; omega)).trans ((frozen_alloc_lt _ _ gl2).trans g4); clear hi hz0 hz1 hz2 hat hlt1))
                  all_goals
                    have R := HN.out.step hSw hlt ((HBd.out.alloc HBd.out.size _).drew) (by rw [HLK.out]; exact hown1) hgrow HGE.out
                    clear hown1 hgrow q1 q2
                    go_wp2
                    go_roundw
                    case rel => exact ⟨k + 1, _, by omega, by go_num, all_take_succ hlt HA.out HG.out, R⟩
                    case measure => simp [intOf]; omega
          · -- the head is no listed block
            have HG : Hid (good n sl l[k] = false) := by show _ = _; rw [← HRL.out]; simp [good, hhl]
            rw [HI.out.no (j := head) (by omega) HFT.out.head] at hlk
            go_wp2_with fail
            refine (wrong2 F k (nameOf head) (wr.heap.size + 1) _ (by exact hFr) (by simp) (by simp)).mono ?_
            rintro e w3 ⟨rfl, hcell, hb3⟩
            go_wp2
            go_ret
            exact left_wrong hlt HN.out HA.out HG.out ((((Below.refl _ _).alloc (Nat.le_refl _) _).alloc (by simp) _).trans (hb3.mono (by simp; omega))) (by simpa using hcell)
    · have hkn : k = l.length := by omega
      subst hkn
      go_wp2
      go_ret
      exact left_all HN.out HA.out
end Go.Proofs.YbulkctcuFmt
