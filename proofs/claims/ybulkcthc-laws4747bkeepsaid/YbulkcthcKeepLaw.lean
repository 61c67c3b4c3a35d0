/-
  SEAT b4747a. THE WALK OF LawS4747BKeep.
-/
import Derived.Test.YbulkcthcKeep
import Derived.Deep.DeepCutAuto
import Derived.Deep.CutBlock
namespace Go.Proofs.Ybulkcthc
open Go.RowKit

/-- The map holds just the keys on the list, each with a wide table. -/
structure Filled (l : List Int) (es : List (Int × Value)) : Prop where
  keys : ∀ x, (alook es x).isSome = l.contains x
  wide : ∀ x v, alook es x = some v → ∃ a, v = wideT a

theorem filled_nil : Filled [] [] := ⟨fun _ => rfl, fun _ _ h => by simp [alook] at h⟩
theorem Filled.put {l : List Int} {es : List (Int × Value)} (h : Filled l es) (k : Int) (a : Addr) : Filled (l ++ [k]) (aput es k (wideT a)) := by
  refine ⟨fun x => ?_, fun x v hv => ?_⟩
  · by_cases hx : x = k
    · subst hx; rw [alook_aput_same]; simp
    · rw [alook_aput_other es _ hx, h.keys x]; simp [hx]
  · by_cases hx : x = k
    · subst hx; rw [alook_aput_same] at hv; exact ⟨a, (Option.some.inj hv).symm⟩
    · rw [alook_aput_other es _ hx] at hv; exact h.wide x v hv

/-- What the law's second half needs of the map: every number that came in is a key; 'had' says whether n is; each table is wide. -/
structure Laid (zs : List Int) (len : Nat) (n : Int) (had : Bool) (es : List (Int × Value)) : Prop where
  keys : ∀ j, j < len → ∃ a, alook es (zs.getD j 0) = some (wideT a)
  own : (alook es n).isSome = had
  wide : ∀ x v, alook es x = some v → ∃ a, v = wideT a

theorem Filled.laid {zs : List Int} {len : Nat} {es : List (Int × Value)} (hz : len ≤ zs.length) (h : Filled (zs.take len) es) (n : Int) : Laid zs len n ((zs.take len).contains n) es := by
  refine ⟨fun j hj => ?_, h.keys n, h.wide⟩
  have hk := h.keys (zs.getD j 0)
  have hm : (zs.take len).contains (zs.getD j 0) = true := by
    rw [List.contains_iff_mem]
    have e : zs.getD j 0 = (zs.take len)[j]'(by simp; omega) := by simp [List.getD, show j < zs.length by omega]
    rw [e]; exact List.getElem_mem _
  rw [hm] at hk
  obtain ⟨v, hv⟩ := Option.isSome_iff_exists.1 hk
  obtain ⟨a, rfl⟩ := h.wide _ _ hv
  exact ⟨a, hv⟩
theorem Laid.put {zs : List Int} {len : Nat} {n : Int} {had : Bool} {es : List (Int × Value)} (h : Laid zs len n had es) (a : Addr) : Laid zs len n true (aput es n (wideT a)) := by
  refine ⟨fun j hj => ?_, by rw [alook_aput_same]; rfl, fun x v hv => ?_⟩
  · by_cases hx : zs.getD j 0 = n
    · rw [hx]; exact ⟨a, alook_aput_same _ _ _⟩
    · rw [alook_aput_other es _ hx]; exact h.keys j hj
  · by_cases hx : x = n
    · subst hx; rw [alook_aput_same] at hv; exact ⟨a, (Option.some.inj hv).symm⟩
    · rw [alook_aput_other es _ hx] at hv; exact h.wide x v hv

theorem take_snoc (zs : List Int) (k : Nat) (h : k < zs.length) : zs.take (k + 1) = zs.take k ++ [zs.getD k 0] := by
  rw [List.take_succ_eq_append_getElem h]; simp [List.getD, h]

theorem length_aput_le (es : List (Int × Value)) (k : Int) (v : Value) : (aput es k v).length ≤ es.length + 1 := by
  rw [length_aput]; split <;> omega

theorem t_cells (w : World) (M c : Array Value) (i : Nat) : (((w.alloc (.cells M 5)).alloc (.cells c 38)).alloc (.map #[] 0)).cell? ⟨w.heap.size + 1, i, none⟩ = c[i]? := by
  rw [World.cell?_alloc_past _ _ _ (by simp), World.cell?_alloc_at _ _ _ _ (by simp)]

theorem field_wide (a : Addr) (w : World) : (Instr.field 38 (wideT a) 2).run Yba.prog w = .ok (.slice (some a) 1 1) w := by kernel_rfl

theorem contains_snoc (l : List Int) (p n : Int) : (l ++ [p]).contains n = (l.contains n || (n == p)) := by
  rw [Bool.eq_iff_iff]; simp

theorem info5 : (Yba.prog.info? 5).map (fun i => (i.zero, i.size, i.bytes)) = some (some (.int .u8 0), 1, 1) := by kernel_rfl
theorem info23 : (Yba.prog.info? 23).map (fun i => (i.zero, i.size, i.bytes)) = some (some (.int .u32 0), 1, 4) := by kernel_rfl

theorem make_one (W : World) : (Instr.makeSlice 36 (.int .i64 1) (.int .i64 1)).run Yba.prog W = .ok (.slice (some ⟨W.heap.size, 0, none⟩) 1 1) (W.alloc (.cells (madeCells #[.int .u32 0] 1) 23)) := by
  have h := run_make_row' (P := Yba.prog) 36 23 (.int .u32 0) 4 Yba.underlying36 info23 rfl .i64 .i64 1 (by omega) (by omega) W
  simpa using h

set_option maxRecDepth 100000 in
set_option maxHeartbeats 400000 in
theorem law_nil (a0 : Option Addr) (len0 cap0 : Nat) (s : Nat) (a2 : Bool) (w : World) (hs : s < 4294967296) (hl : ¬ 1024 < len0) :
    Calls Yba.prog 4 #[.slice a0 len0 cap0, .int .u32 s, .bool a2, .bool true] w fun e w' => e = .returned (.bool true) ∧ Below w.heap.size w w' := by
  have hl' : ¬ (1024 : Int) < (len0 : Int) := by omega
  go_enter Yba.func4, Yba.ntmps4
  go_upto_block 0 with fail
  go_cut [9] (fun v wc => wc = w ∧ ∃ n : Nat, n < 70000 ∧ v = .int .i64 n)
  case first =>
    go_wp2
    all_goals go_meet
    · exact ⟨rfl, (s / 4 % 80), by omega, by simp⟩
    · exact ⟨rfl, (65534 + s / 4 % 4), by omega, by simp⟩
    · exact ⟨rfl, (s / 4 % 70000), by omega, by simp⟩
  case rest =>
    obtain ⟨rfl, n, hn, rfl⟩ := hcut
    have hmk := fun W => run_make_row' (P := Yba.prog) 22 5 (.int .u8 0) 1 Yba.underlying22 info5 rfl .i64 .i64 n (by omega) (by omega) W
    have hq := fun W => eql_map W none
    generalize madeCells #[.int .u8 0] n = M at hmk
    go_wp2_with fail
    refine (keep_nil _ n _).mono ?_
    rintro e w1 ⟨rfl, hb⟩
    go_wp2
    go_ret
    exact ⟨rfl, (((Below.refl _ _).alloc (Nat.le_refl _) _).alloc (by simp) _).trans (hb.mono (by simp; omega))⟩
set_option maxRecDepth 100000 in
set_option maxHeartbeats 1000000 in
theorem law_map (a0 : Option Addr) (bb off len0 cap0 : Nat) (ha0 : 0 < len0 → a0 = some ⟨bb, off, none⟩) (zs : List Int) (s : Nat) (a2 : Bool) (w : World) (hs : s < 4294967296) (hl : len0 ≤ 1024) (hz : len0 ≤ zs.length) (hbb : 0 < len0 → bb < w.heap.size)
    (hc : ∀ i, i < len0 → w.cell? ⟨bb, off + i, none⟩ = some (.int .u16 (zs.getD i 0))) (hw : ∀ i, i < len0 → 0 ≤ zs.getD i 0 ∧ zs.getD i 0 ≤ 65535) :
    Calls Yba.prog 4 #[.slice a0 len0 cap0, .int .u32 s, .bool a2, .bool false] w fun e w' => e = .returned (.bool true) ∧ Below w.heap.size w w' := by
  have hl' : ¬ (1024 : Int) < (len0 : Int) := by omega
  have HA : Hid (0 < len0 → a0 = some ⟨bb, off, none⟩) := ha0
  clear ha0
  go_enter Yba.func4, Yba.ntmps4
  go_upto_block 0 with fail
  go_cut [9] (fun v wc => wc = w ∧ ∃ n : Nat, n < 70000 ∧ v = .int .i64 n)
  case first =>
    clear hc hw
    go_wp2
    all_goals go_meet
    · exact ⟨rfl, (s / 4 % 80), by omega, by simp⟩
    · exact ⟨rfl, (65534 + s / 4 % 4), by omega, by simp⟩
    · exact ⟨rfl, (s / 4 % 70000), by omega, by simp⟩
  case rest =>
    obtain ⟨hwc, n, hn, rfl⟩ := hcut
    have hwc' := hwc.symm
    clear hwc
    subst hwc'
    have hmk := fun W => run_make_row' (P := Yba.prog) 22 5 (.int .u8 0) 1 Yba.underlying22 info5 rfl .i64 .i64 n (by omega) (by omega) W
    have hm1 := make_one
    have hmm := @run_makeMap Yba.prog
    generalize madeCells #[.int .u8 0] n = M at hmk
    generalize madeCells #[.int .u32 0] 1 = N at hm1
    obtain ⟨HC, HW⟩ : Hid (∀ i, i < len0 → w.cell? ⟨bb, off + i, none⟩ = some (.int .u16 (zs.getD i 0))) ∧ Hid (∀ i, i < len0 → 0 ≤ zs.getD i 0 ∧ zs.getD i 0 ≤ 65535) := ⟨hc, hw⟩
    clear hc hw
    have H0 : Hid (Below w.heap.size w (((w.alloc (.cells M 5)).alloc (.cells #[.slice (some ⟨w.heap.size, 0, none⟩) n n, .slice none 0 0, .slice none 0 0] 38)).alloc (.map #[] 0))) :=
      (((Below.refl _ _).alloc (Nat.le_refl _) _).alloc (by simp) _).alloc (by simp; omega) _
    go_wp2_with fail
    go_loopw [13, 59] (fun h i wr => ∃ (k : Nat) (es : List (Int × Value)), k ≤ len0 ∧ es.length ≤ k ∧ i = .int .i64 k ∧ h = .bool (a2 || (zs.take k).contains (n : Int)) ∧ mapIs (Value.int .i64) wr (w.heap.size + 1 + 1) es ∧ Filled (zs.take k) es ∧
        Below (w.heap.size + 1 + 1) (((w.alloc (.cells M 5)).alloc (.cells #[.slice (some ⟨w.heap.size, 0, none⟩) n n, .slice none 0 0, .slice none 0 0] 38)).alloc (.map #[] 0)) wr) (fun _ i _ => len0 - (intOf i).toNat)
    case atStart =>
      refine ⟨0, [], Nat.zero_le _, Nat.le_refl _, rfl, by simp, ?_, by simpa using filled_nil, Below.refl _ _⟩
      have h := mapIs_made (Value.int .i64) ((w.alloc (.cells M 5)).alloc (.cells #[.slice (some ⟨w.heap.size, 0, none⟩) n n, .slice none 0 0, .slice none 0 0] 38))
      simpa using h
    case round =>
      obtain ⟨k, es, hk, hel, rfl, rfl, hmap, hfill, hbel⟩ := hrel
      by_cases hlt : k < len0
      · obtain rfl := HA.out (by omega)
        obtain ⟨p, hp⟩ : ∃ p, p = zs.getD k 0 := ⟨_, rfl⟩
        have hp1 := HW.out k hlt
        have hcell := HC.out k hlt
        rw [← hp] at hp1 hcell
        obtain ⟨hp0, hp1⟩ := hp1
        have hcell' : wr.cell? ⟨bb, off + k, none⟩ = some (.int .u16 p) := ((H0.out.trans (hbel.mono (by omega))).cell (hbb (by omega))).trans hcell
        clear hcell
        obtain ⟨w1, hrun, hm1, ht1⟩ := (hmap.alloc (.cells N 23)).store (P := Yba.prog) int_keys Yba.underlying40 Yba.underlying3 p (wideT ⟨wr.heap.size, 0, none⟩)
        have hsz := hmap.lt
        have R1 : Hid (mapIs (Value.int .i64) w1 (w.heap.size + 1 + 1) (aput es p (wideT ⟨wr.heap.size, 0, none⟩))) := hm1
        have R2 : Hid (Filled (zs.take (k + 1)) (aput es p (wideT ⟨wr.heap.size, 0, none⟩))) := by
          rw [take_snoc zs k (by omega), ← hp]; exact hfill.put p _
        have R3 : Hid (Below (w.heap.size + 1 + 1) (((w.alloc (.cells M 5)).alloc (.cells #[.slice (some ⟨w.heap.size, 0, none⟩) n n, .slice none 0 0, .slice none 0 0] 38)).alloc (.map #[] 0)) w1) :=
          (hbel.alloc (by omega) _).trans (turned_below ht1)
        have R4 : Hid ((zs.take (k + 1)).contains (n : Int) = ((zs.take k).contains (n : Int) || ((n : Int) == p))) := by
          rw [take_snoc zs k (by omega), ← hp]; exact contains_snoc _ _ _
        have HF : Hid (Filled (zs.take k) es) := hfill
        clear hm1 ht1 hp hfill hbel
        by_cases hpn : p = n
        · have hpb : (p == (n : Int)) = true := by simp [hpn]
          have R5 : Hid (((n : Int) == p) = true) := beq_iff_eq.2 hpn.symm
          clear hpn
          go_wp2
          go_roundw
          case rel => exact ⟨k + 1, _, by omega, Nat.le_trans (length_aput_le es p _) (by omega), by go_num, by rw [R4.out, R5.out]; simp, R1.out, R2.out, R3.out⟩
          case measure => simp [intOf]; omega
        · have hpb : (p == (n : Int)) = false := by simp [hpn]
          have R5 : Hid (((n : Int) == p) = false) := beq_eq_false_iff_ne.2 (fun h => hpn h.symm)
          clear hpn
          go_wp2
          go_roundw
          case rel => exact ⟨k + 1, _, by omega, Nat.le_trans (length_aput_le es p _) (by omega), by go_num, by rw [R4.out, R5.out]; simp, R1.out, R2.out, R3.out⟩
          case measure => simp [intOf]; omega
      · have hkl : k = len0 := by omega
        subst hkl
        have HL : Hid (Laid zs k n ((zs.take k).contains (n : Int)) es) := hfill.laid hz n
        generalize hhad : (zs.take k).contains (n : Int) = had at *
        clear hhad hfill
        go_upto_if 73 with fail
        go_cut [13] (fun h wd => ∃ (es : List (Int × Value)) (had : Bool), h = .bool had ∧ es.length ≤ k + 1 ∧ mapIs (Value.int .i64) wd (w.heap.size + 1 + 1) es ∧ Laid zs k n had es ∧
          Below (w.heap.size + 1 + 1) (((w.alloc (.cells M 5)).alloc (.cells #[.slice (some ⟨w.heap.size, 0, none⟩) n n, .slice none 0 0, .slice none 0 0] 38)).alloc (.map #[] 0)) wd)
        case first =>
          have hsz := hmap.lt
          cases a2
          · go_wp2
            go_meet
            exact ⟨es, had, by simp, by omega, hmap, HL.out, hbel⟩
          · obtain ⟨w1, hrun, hm1, ht1⟩ := (hmap.alloc (.cells N 23)).store (P := Yba.prog) int_keys Yba.underlying40 Yba.underlying3 (n : Int) (wideT ⟨wr.heap.size, 0, none⟩)
            go_wp2
            go_meet
            exact ⟨_, true, by simp, Nat.le_trans (length_aput_le es n _) (by omega), hm1, HL.out.put _, (hbel.alloc (by omega) _).trans (turned_below ht1)⟩
        case rest =>
          obtain ⟨es, had, rfl, hel, hmap, hlaid, hbel⟩ := hcut
          have hb1 : Below w.heap.size w wc := H0.out.trans (hbel.mono (by omega))
          have hsz := hmap.lt
          have hc0 : wc.cell? ⟨w.heap.size + 1, 0, none⟩ = some (.slice (some ⟨w.heap.size, 0, none⟩) n n) := by rw [hbel.cell (by simp), t_cells]; rfl
          have hc1 : wc.cell? ⟨w.heap.size + 1, 1, none⟩ = some (.slice none 0 0) := by rw [hbel.cell (by simp), t_cells]; rfl
          have hc2 : wc.cell? ⟨w.heap.size + 1, 2, none⟩ = some (.slice none 0 0) := by rw [hbel.cell (by simp), t_cells]; rfl
          clear hmm hmk hm1 H0 HL hbel
          have hlen := fun ty => hmap.len (P := Yba.prog) Yba.underlying40 ty
          have hq36 := fun W a n c => Lib.run_eql_slice_nil (P := Yba.prog) W 36 23 a n c 0 0 Yba.underlying36
          have hq36' := fun W a n c => run_neq_slice_nil_any (P := Yba.prog) W 36 23 a n c 0 0 Yba.underlying36
          have hfld := field_wide
          have HK : Hid (Laid zs k n had es) := hlaid
          by_cases hin : 0 < n ∧ n ≤ 65536
          · obtain ⟨hn0, hn1⟩ := hin
            have hd0 : decide ((0 : Int) < (n : Int)) = true := by simp; omega
            have hd1 : decide ((n : Int) ≤ 65536) = true := by simp; omega
            cases had
            · skip
              have hah : alook es (n : Int) = none := by
                have h := HK.out.own
                cases h2 : alook es (n : Int) with
                | none => rfl
                | some v => rw [h2] at h; cases h
              have HAH : Hid _ := hah
              clear hah
              go_wp2_with fail
              refine (keep_new _ _ n hn0 hn1 es HAH.out _ hmap).mono ?_
              rintro e w4 ⟨rfl, hm4, hb4⟩
              have hlen4 := fun ty => hm4.len (P := Yba.prog) Yba.underlying40 ty
              have hl4 := hm4.look_ok (P := Yba.prog) int_keys Yba.underlying40 Yba.underlying3 (zero38 _) (n : Int)
              rw [alook_aput_same] at hl4
              have hle : (aput es (n : Int) (table w.heap.size n)).length = es.length + 1 := by rw [length_aput, HAH.out]; rfl
              rw [hle] at hlen4
              have KEYS : Hid (∀ j, j < k → ∃ a, alook (aput es (n : Int) (table w.heap.size n)) (zs.getD j 0) = some (wideT a)) := by
                intro j hj
                obtain ⟨a, ha⟩ := HK.out.keys j hj
                refine ⟨a, ?_⟩
                rw [alook_aput_other es _ (fun e => by rw [e, HAH.out] at ha; cases ha)]
                exact ha
              have hb5 := (hb1.trans (hb4.mono (by omega))).alloc (by have := hb1.size; have := hb4.size; omega) (.cells #[.slice (some ⟨w.heap.size, 0, none⟩) n n, .slice none 0 0, .slice none 0 0] 38)
              have hm5 := hm4.alloc (.cells #[.slice (some ⟨w.heap.size, 0, none⟩) n n, .slice none 0 0, .slice none 0 0] 38)
              generalize aput es (n : Int) (table w.heap.size n) = es2 at *
              clear hlaid hmap hle
              go_wp2_with fail
              go_loop [140] (fun i => ∃ j : Nat, j ≤ k ∧ i = .int .i64 j) (fun i => k - (intOf i).toNat)
              case atStart => exact ⟨0, Nat.zero_le _, rfl⟩
              case round =>
                obtain ⟨j, hj, rfl⟩ := hrel
                by_cases hjk : j < k
                · obtain rfl := HA.out (by omega)
                  obtain ⟨p, hp⟩ : ∃ p, p = zs.getD j 0 := ⟨_, rfl⟩
                  obtain ⟨aw, haw⟩ := KEYS.out j hjk
                  have hp1 := HW.out j hjk
                  have hcell := (hb5.cell (p := ⟨bb, off + j, none⟩) (hbb (by omega))).trans (HC.out j hjk)
                  rw [← hp] at hp1 hcell haw
                  obtain ⟨hp0, hp1⟩ := hp1
                  have hl5 := hm5.look (P := Yba.prog) int_keys Yba.underlying40 Yba.underlying3 (zero38 _) p
                  rw [haw] at hl5
                  clear hp haw
                  go_wp2
                  go_round
                  case rel => exact ⟨j + 1, by omega, by go_num⟩
                  case measure => simp [intOf]; omega
                · go_wp2
                  go_ret
                  exact ⟨rfl, hb5⟩
            · skip
              obtain ⟨ah, hah⟩ : ∃ ah, alook es (n : Int) = some (wideT ah) := by
                obtain ⟨v, hv⟩ := Option.isSome_iff_exists.1 HK.out.own
                obtain ⟨ah, rfl⟩ := HK.out.wide _ _ hv
                exact ⟨ah, hv⟩
              have HAH : Hid _ := hah
              clear hah
              go_wp2_with fail
              refine (keep_has _ _ n hn0 hn1 es ah HAH.out _ hmap).mono ?_
              rintro e w4 ⟨rfl, hb4⟩
              have hm4 := hmap.of_block (hb4.block _ hsz)
              have hlen4 := fun ty => hm4.len (P := Yba.prog) Yba.underlying40 ty
              have hl4 := hm4.look_ok (P := Yba.prog) int_keys Yba.underlying40 Yba.underlying3 (zero38 _) (n : Int)
              rw [HAH.out] at hl4
              have KEYS : Hid (∀ j, j < k → ∃ a, alook es (zs.getD j 0) = some (wideT a)) := HK.out.keys
              have hb5 := (hb1.trans (hb4.mono (Nat.le_of_lt (by have := hb1.size; omega)))).alloc (by have := hb1.size; have := hb4.size; omega) (.cells #[.slice none 0 0, .slice none 0 0, .slice (some ah) 1 1] 38)
              have hm5 := hm4.alloc (.cells #[.slice none 0 0, .slice none 0 0, .slice (some ah) 1 1] 38)
              clear hlaid hmap
              go_wp2_with fail
              go_loop [140] (fun i => ∃ j : Nat, j ≤ k ∧ i = .int .i64 j) (fun i => k - (intOf i).toNat)
              case atStart => exact ⟨0, Nat.zero_le _, rfl⟩
              case round =>
                obtain ⟨j, hj, rfl⟩ := hrel
                by_cases hjk : j < k
                · obtain rfl := HA.out (by omega)
                  obtain ⟨p, hp⟩ : ∃ p, p = zs.getD j 0 := ⟨_, rfl⟩
                  obtain ⟨aw, haw⟩ := KEYS.out j hjk
                  have hp1 := HW.out j hjk
                  have hcell := (hb5.cell (p := ⟨bb, off + j, none⟩) (hbb (by omega))).trans (HC.out j hjk)
                  rw [← hp] at hp1 hcell haw
                  obtain ⟨hp0, hp1⟩ := hp1
                  have hl5 := hm5.look (P := Yba.prog) int_keys Yba.underlying40 Yba.underlying3 (zero38 _) p
                  rw [haw] at hl5
                  clear hp haw
                  go_wp2
                  go_round
                  case rel => exact ⟨j + 1, by omega, by go_num⟩
                  case measure => simp [intOf]; omega
                · go_wp2
                  go_ret
                  exact ⟨rfl, hb5⟩
          · have hout : n = 0 ∨ 65536 < n := by omega
            clear hin
            rcases hout with hout | hout
            · have hn0 : ¬ 0 < n := by omega
              have HO : Hid (n = 0 ∨ 65536 < n) := .inl hout
              clear hout
              cases had
              · skip
                have hah : alook es (n : Int) = none := by
                  have h := HK.out.own
                  cases h2 : alook es (n : Int) with
                  | none => rfl
                  | some v => rw [h2] at h; cases h
                have HAH : Hid _ := hah
                clear hah
                go_wp2_with fail
                refine (keep_out _ _ n HO.out _).mono ?_
                rintro e w4 ⟨rfl, hb4⟩
                have hm4 := hmap.of_block (hb4.block _ hsz)
                have hlen4 := fun ty => hm4.len (P := Yba.prog) Yba.underlying40 ty
                have hl4 := hm4.look_ok (P := Yba.prog) int_keys Yba.underlying40 Yba.underlying3 (zero38 _) (n : Int)
                rw [HAH.out] at hl4
                have KEYS : Hid (∀ j, j < k → ∃ a, alook es (zs.getD j 0) = some (wideT a)) := HK.out.keys
                have hb5 := (hb1.trans (hb4.mono (Nat.le_of_lt (by have := hb1.size; omega)))).alloc (by have := hb1.size; have := hb4.size; omega) (.cells #[.slice none 0 0, .slice none 0 0, .slice none 0 0] 38)
                have hm5 := hm4.alloc (.cells #[.slice none 0 0, .slice none 0 0, .slice none 0 0] 38)
                clear hlaid hmap
                go_wp2_with fail
                go_loop [140] (fun i => ∃ j : Nat, j ≤ k ∧ i = .int .i64 j) (fun i => k - (intOf i).toNat)
                case atStart => exact ⟨0, Nat.zero_le _, rfl⟩
                case round =>
                  obtain ⟨j, hj, rfl⟩ := hrel
                  by_cases hjk : j < k
                  · obtain rfl := HA.out (by omega)
                    obtain ⟨p, hp⟩ : ∃ p, p = zs.getD j 0 := ⟨_, rfl⟩
                    obtain ⟨aw, haw⟩ := KEYS.out j hjk
                    have hp1 := HW.out j hjk
                    have hcell := (hb5.cell (p := ⟨bb, off + j, none⟩) (hbb (by omega))).trans (HC.out j hjk)
                    rw [← hp] at hp1 hcell haw
                    obtain ⟨hp0, hp1⟩ := hp1
                    have hl5 := hm5.look (P := Yba.prog) int_keys Yba.underlying40 Yba.underlying3 (zero38 _) p
                    rw [haw] at hl5
                    clear hp haw
                    go_wp2
                    go_round
                    case rel => exact ⟨j + 1, by omega, by go_num⟩
                    case measure => simp [intOf]; omega
                  · go_wp2
                    go_ret
                    exact ⟨rfl, hb5⟩
              · skip
                obtain ⟨ah, hah⟩ : ∃ ah, alook es (n : Int) = some (wideT ah) := by
                  obtain ⟨v, hv⟩ := Option.isSome_iff_exists.1 HK.out.own
                  obtain ⟨ah, rfl⟩ := HK.out.wide _ _ hv
                  exact ⟨ah, hv⟩
                have HAH : Hid _ := hah
                clear hah
                go_wp2_with fail
                refine (keep_out _ _ n HO.out _).mono ?_
                rintro e w4 ⟨rfl, hb4⟩
                have hm4 := hmap.of_block (hb4.block _ hsz)
                have hlen4 := fun ty => hm4.len (P := Yba.prog) Yba.underlying40 ty
                have hl4 := hm4.look_ok (P := Yba.prog) int_keys Yba.underlying40 Yba.underlying3 (zero38 _) (n : Int)
                rw [HAH.out] at hl4
                have KEYS : Hid (∀ j, j < k → ∃ a, alook es (zs.getD j 0) = some (wideT a)) := HK.out.keys
                have hb5 := (hb1.trans (hb4.mono (Nat.le_of_lt (by have := hb1.size; omega)))).alloc (by have := hb1.size; have := hb4.size; omega) (.cells #[.slice none 0 0, .slice none 0 0, .slice (some ah) 1 1] 38)
                have hm5 := hm4.alloc (.cells #[.slice none 0 0, .slice none 0 0, .slice (some ah) 1 1] 38)
                clear hlaid hmap
                go_wp2_with fail
                go_loop [140] (fun i => ∃ j : Nat, j ≤ k ∧ i = .int .i64 j) (fun i => k - (intOf i).toNat)
                case atStart => exact ⟨0, Nat.zero_le _, rfl⟩
                case round =>
                  obtain ⟨j, hj, rfl⟩ := hrel
                  by_cases hjk : j < k
                  · obtain rfl := HA.out (by omega)
                    obtain ⟨p, hp⟩ : ∃ p, p = zs.getD j 0 := ⟨_, rfl⟩
                    obtain ⟨aw, haw⟩ := KEYS.out j hjk
                    have hp1 := HW.out j hjk
                    have hcell := (hb5.cell (p := ⟨bb, off + j, none⟩) (hbb (by omega))).trans (HC.out j hjk)
                    rw [← hp] at hp1 hcell haw
                    obtain ⟨hp0, hp1⟩ := hp1
                    have hl5 := hm5.look (P := Yba.prog) int_keys Yba.underlying40 Yba.underlying3 (zero38 _) p
                    rw [haw] at hl5
                    clear hp haw
                    go_wp2
                    go_round
                    case rel => exact ⟨j + 1, by omega, by go_num⟩
                    case measure => simp [intOf]; omega
                  · go_wp2
                    go_ret
                    exact ⟨rfl, hb5⟩
            · have hd0 : decide ((0 : Int) < (n : Int)) = true := by simp; omega
              have hd1 : decide ((n : Int) ≤ 65536) = false := by simp; omega
              have HO : Hid (n = 0 ∨ 65536 < n) := .inr hout
              cases had
              · skip
                have hah : alook es (n : Int) = none := by
                  have h := HK.out.own
                  cases h2 : alook es (n : Int) with
                  | none => rfl
                  | some v => rw [h2] at h; cases h
                have HAH : Hid _ := hah
                clear hah
                go_wp2_with fail
                refine (keep_out _ _ n HO.out _).mono ?_
                rintro e w4 ⟨rfl, hb4⟩
                have hm4 := hmap.of_block (hb4.block _ hsz)
                have hlen4 := fun ty => hm4.len (P := Yba.prog) Yba.underlying40 ty
                have hl4 := hm4.look_ok (P := Yba.prog) int_keys Yba.underlying40 Yba.underlying3 (zero38 _) (n : Int)
                rw [HAH.out] at hl4
                have KEYS : Hid (∀ j, j < k → ∃ a, alook es (zs.getD j 0) = some (wideT a)) := HK.out.keys
                have hb5 := (hb1.trans (hb4.mono (Nat.le_of_lt (by have := hb1.size; omega)))).alloc (by have := hb1.size; have := hb4.size; omega) (.cells #[.slice none 0 0, .slice none 0 0, .slice none 0 0] 38)
                have hm5 := hm4.alloc (.cells #[.slice none 0 0, .slice none 0 0, .slice none 0 0] 38)
                clear hlaid hmap
                go_wp2_with fail
                go_loop [140] (fun i => ∃ j : Nat, j ≤ k ∧ i = .int .i64 j) (fun i => k - (intOf i).toNat)
                case atStart => exact ⟨0, Nat.zero_le _, rfl⟩
                case round =>
                  obtain ⟨j, hj, rfl⟩ := hrel
                  by_cases hjk : j < k
                  · obtain rfl := HA.out (by omega)
                    obtain ⟨p, hp⟩ : ∃ p, p = zs.getD j 0 := ⟨_, rfl⟩
                    obtain ⟨aw, haw⟩ := KEYS.out j hjk
                    have hp1 := HW.out j hjk
                    have hcell := (hb5.cell (p := ⟨bb, off + j, none⟩) (hbb (by omega))).trans (HC.out j hjk)
                    rw [← hp] at hp1 hcell haw
                    obtain ⟨hp0, hp1⟩ := hp1
                    have hl5 := hm5.look (P := Yba.prog) int_keys Yba.underlying40 Yba.underlying3 (zero38 _) p
                    rw [haw] at hl5
                    clear hp haw
                    go_wp2
                    go_round
                    case rel => exact ⟨j + 1, by omega, by go_num⟩
                    case measure => simp [intOf]; omega
                  · go_wp2
                    go_ret
                    exact ⟨rfl, hb5⟩
              · skip
                obtain ⟨ah, hah⟩ : ∃ ah, alook es (n : Int) = some (wideT ah) := by
                  obtain ⟨v, hv⟩ := Option.isSome_iff_exists.1 HK.out.own
                  obtain ⟨ah, rfl⟩ := HK.out.wide _ _ hv
                  exact ⟨ah, hv⟩
                have HAH : Hid _ := hah
                clear hah
                go_wp2_with fail
                refine (keep_out _ _ n HO.out _).mono ?_
                rintro e w4 ⟨rfl, hb4⟩
                have hm4 := hmap.of_block (hb4.block _ hsz)
                have hlen4 := fun ty => hm4.len (P := Yba.prog) Yba.underlying40 ty
                have hl4 := hm4.look_ok (P := Yba.prog) int_keys Yba.underlying40 Yba.underlying3 (zero38 _) (n : Int)
                rw [HAH.out] at hl4
                have KEYS : Hid (∀ j, j < k → ∃ a, alook es (zs.getD j 0) = some (wideT a)) := HK.out.keys
                have hb5 := (hb1.trans (hb4.mono (Nat.le_of_lt (by have := hb1.size; omega)))).alloc (by have := hb1.size; have := hb4.size; omega) (.cells #[.slice none 0 0, .slice none 0 0, .slice (some ah) 1 1] 38)
                have hm5 := hm4.alloc (.cells #[.slice none 0 0, .slice none 0 0, .slice (some ah) 1 1] 38)
                clear hlaid hmap
                go_wp2_with fail
                go_loop [140] (fun i => ∃ j : Nat, j ≤ k ∧ i = .int .i64 j) (fun i => k - (intOf i).toNat)
                case atStart => exact ⟨0, Nat.zero_le _, rfl⟩
                case round =>
                  obtain ⟨j, hj, rfl⟩ := hrel
                  by_cases hjk : j < k
                  · obtain rfl := HA.out (by omega)
                    obtain ⟨p, hp⟩ : ∃ p, p = zs.getD j 0 := ⟨_, rfl⟩
                    obtain ⟨aw, haw⟩ := KEYS.out j hjk
                    have hp1 := HW.out j hjk
                    have hcell := (hb5.cell (p := ⟨bb, off + j, none⟩) (hbb (by omega))).trans (HC.out j hjk)
                    rw [← hp] at hp1 hcell haw
                    obtain ⟨hp0, hp1⟩ := hp1
                    have hl5 := hm5.look (P := Yba.prog) int_keys Yba.underlying40 Yba.underlying3 (zero38 _) p
                    rw [haw] at hl5
                    clear hp haw
                    go_wp2
                    go_round
                    case rel => exact ⟨j + 1, by omega, by go_num⟩
                    case measure => simp [intOf]; omega
                  · go_wp2
                    go_ret
                    exact ⟨rfl, hb5⟩

end Go.Proofs.Ybulkcthc
