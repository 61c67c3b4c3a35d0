/-
  SEAT b4739aF. THE CONTRACT OF zzs4739abuild.
-/
import Derived.Test.YbulkctcuFmtSmall
import Derived.Test.YbulkctcuFmtMap
import Derived.Deep.RegionHeldLaw
import Derived.Deep.DeepCutAuto
namespace Go.Proofs.YbulkctcuFmt
open Go.RowKit

theorem info68 : (Ybaf.prog.info? 68).map (fun i => (i.zero, i.size, i.bytes)) = some (some (.agg #[.string ⟨#[]⟩, .int .i64 0, .int .i64 0, .int .i64 0, .slice none 0 0]), 5, 64) := by kernel_rfl

/-- The scenario's block: its validators' number, its blocks, its votes. -/
def scen (n : Int) (BL L : Nat) (v : Value) : Obj := .cells #[.int .i64 n, .int .i64 1, .slice (some ⟨BL, 0, none⟩) L L, v, .int .i8 0, .int .i64 0] 57

/-- What the index holds behind k rounds: the names of the first k blocks, each with its number. -/
structure Index (k : Nat) (es : List (ByteArray × Value)) : Prop where
  has : ∀ j, j < k → alook es (nameOf j) = some (.int .i64 (j : Int))
  only : ∀ x v, alook es x = some v → ∃ j, j < k ∧ x = nameOf j

theorem index_nil : Index 0 [] := ⟨fun j h => absurd h (by omega), fun x v h => by simp [alook] at h⟩
theorem Index.put {k : Nat} {es : List (ByteArray × Value)} (h : Index k es) (hk : k < 256) : Index (k + 1) (aput es (nameOf k) (.int .i64 (k : Int))) := by
  refine ⟨fun j hj => ?_, fun x v hv => ?_⟩
  · by_cases hjk : j = k
    · subst hjk; exact alook_aput_same _ _ _
    · rw [alook_aput_other es _ (fun e => hjk (nameOf_inj (by omega) hk e))]; exact h.has j (by omega)
  · by_cases hx : x = nameOf k
    · exact ⟨k, by omega, hx⟩
    · rw [alook_aput_other es _ hx] at hv
      obtain ⟨j, hj, e⟩ := h.only x v hv
      exact ⟨j, by omega, e⟩
theorem Index.no {k : Nat} {es : List (ByteArray × Value)} (h : Index k es) {j : Nat} (hj : k ≤ j) (hj2 : j < 256) : alook es (nameOf j) = none := by
  cases he : alook es (nameOf j) with
  | none => rfl
  | some v =>
    obtain ⟨i, hi, e⟩ := h.only _ _ he
    have := nameOf_inj hj2 (by omega) e
    omega

theorem mapIs.drew' {w : World} {b : Nat} {es : List (ByteArray × Value)} (h : mapIs Value.string w b es) : mapIs Value.string w.drew b es := h

/-- What one round leaves. -/
theorem round_end {w wr w1 : World} {n : Int} {L k : Nat} {f : Nat → Value} {xs : List Int} {x : Int} {o1 o2 : Obj} {nm : Value} {es : List (ByteArray × Value)} (hS : wr.heap[w.heap.size]? = some (scen n (w.heap.size + 1) L (.slice none 0 0)))
    (hrow : wr.rowIs (w.heap.size + 1) 68 (L * 5) f) (hf : ∀ j, j < k → f (j * 5 + 1) = .int .i64 (xs.getD j 0)) (hbel : Below w.heap.size w wr) (hx : x = xs.getD k 0) (hk : k < L) (hsz : w.heap.size + 1 + 1 < wr.heap.size)
    (hm1 : mapIs Value.string w1 (w.heap.size + 1 + 1) es)
    (ht : (((((wr.setCell ⟨w.heap.size + 1, k * 5, none⟩ nm).setCell ⟨w.heap.size + 1, k * 5 + 1, none⟩ (.int .i64 x)).alloc o1).alloc o2).drew.drew).mapTurned w1 (w.heap.size + 1 + 1)) :
    w1.heap[w.heap.size]? = some (scen n (w.heap.size + 1) L (.slice none 0 0)) ∧
    w1.rowIs (w.heap.size + 1) 68 (L * 5) (fun j => if j = k * 5 + 1 then .int .i64 x else if j = k * 5 then nm else f j) ∧
    (∀ j, j < k + 1 → (fun j => if j = k * 5 + 1 then Value.int .i64 x else if j = k * 5 then nm else f j) (j * 5 + 1) = .int .i64 (xs.getD j 0)) ∧
    mapIs Value.string w1 (w.heap.size + 1 + 1) es ∧ Below w.heap.size w w1 := by
  have hb2 := ((((hrow.set (k * 5) nm).set (k * 5 + 1) (.int .i64 x)).alloc o1).alloc o2).drew.drew
  refine ⟨?_, hb2.of_block (turned_block ht (by omega)), fun j hj => ?_, hm1, ?_⟩
  · rw [turned_block ht (by omega)]
    show ((((wr.setCell _ _).setCell _ _).alloc o1).alloc o2).heap[w.heap.size]? = _
    rw [Below.heap_alloc _ _ _ (by simp; omega), Below.heap_alloc _ _ _ (by simp; omega), Below.heap_setCell _ _ _ _ (by simp), Below.heap_setCell _ _ _ _ (by simp)]
    exact hS
  · by_cases hjk : j = k
    · subst hjk; simp [hx]
    · show (if j * 5 + 1 = k * 5 + 1 then Value.int .i64 x else if j * 5 + 1 = k * 5 then nm else f (j * 5 + 1)) = _
      rw [if_neg (by omega), if_neg (by omega)]; exact hf j (by omega)
  · have h1 := ((((hbel.setCell (p := ⟨w.heap.size + 1, k * 5, none⟩) (by simp) nm).setCell (p := ⟨w.heap.size + 1, k * 5 + 1, none⟩) (by simp) (.int .i64 x)).alloc (by simp; omega) o1).alloc (by simp; omega) o2).drew.drew
    exact h1.trans ((turned_below ht).mono (by omega))

set_option maxHeartbeats 400000 in
theorem build_any (n : Int) (a : Option Addr) (b o c : Nat) (xs : List Int) (hL : xs.length ≤ 256) (w : World) (hx : Ints w a b o xs) :
    Calls Ybaf.prog 5 #[.slice a xs.length c, .int .i64 n] w fun e w' => e = .returned (.tuple #[.pointer (some ⟨w.heap.size, 0, none⟩), .map (some (w.heap.size + 2))]) ∧
      w'.heap[w.heap.size]? = some (scen n (w.heap.size + 1) xs.length (.slice none 0 0)) ∧ (∀ j, j < xs.length → w'.cell? ⟨w.heap.size + 1, j * 5 + 1, none⟩ = some (.int .i64 (xs.getD j 0))) ∧
      (∃ es, mapIs Value.string w' (w.heap.size + 2) es ∧ Index xs.length es) ∧ Below w.heap.size w w' := by
  obtain ⟨i0, hi, hz0, hz1, hz2⟩ := info_parts info68
  have hmk : ∀ W : World, (Instr.makeSlice 51 (.int .i64 (xs.length : Int)) (.int .i64 (xs.length : Int))).run Ybaf.prog W = .ok (.slice (some ⟨W.heap.size, 0, none⟩) xs.length xs.length) (W.alloc (.cells (madeCells #[.string ⟨#[]⟩, .int .i64 0, .int .i64 0, .int .i64 0, .slice none 0 0] (xs.length * 5)) 68)) := fun W => by
    have h := run_make (P := Ybaf.prog) W 51 68 i0 _ Ybaf.underlying51 hi hz0 .i64 .i64 (xs.length : Int) (xs.length : Int) (by omega) (by omega) (by rw [hz2]; omega) (by omega)
    simpa [hz1, Value.cells] using h
  have HM : Hid ((madeCells #[.string ⟨#[]⟩, .int .i64 0, .int .i64 0, .int .i64 0, .slice none 0 0] (xs.length * 5)).size = xs.length * 5) := size_madeCells _ _
  generalize madeCells #[.string ⟨#[]⟩, .int .i64 0, .int .i64 0, .int .i64 0, .slice none 0 0] (xs.length * 5) = M at hmk HM
  have hmm := @run_makeMap Ybaf.prog
  have HX : Hid (Ints w a b o xs) := hx
  clear hx hi hz0 hz1 hz2
  go_enter Ybaf.func5, Ybaf.ntmps5
  go_wp2
  go_loopw [8] (fun i wr => ∃ (k : Nat) (f : Nat → Value) (es : List (ByteArray × Value)), k ≤ xs.length ∧ i = .int .i64 k ∧ wr.heap[w.heap.size]? = some (scen n (w.heap.size + 1) xs.length (.slice none 0 0)) ∧
      wr.rowIs (w.heap.size + 1) 68 (xs.length * 5) f ∧ (∀ j, j < k → f (j * 5 + 1) = .int .i64 (xs.getD j 0)) ∧ mapIs Value.string wr (w.heap.size + 1 + 1) es ∧ Index k es ∧ Below w.heap.size w wr) (fun i _ => xs.length - (intOf i).toNat)
  case atStart =>
    have h1 := World.rowIs_alloc (w.alloc (scen n (w.heap.size + 1) xs.length (.slice none 0 0))) M 68 (fun j => M[j]!) (fun i hi => by simp [hi])
    rw [HM.out] at h1
    simp only [Deep.nblk_alloc] at h1
    have h2 := mapIs_made Value.string ((w.alloc (scen n (w.heap.size + 1) xs.length (.slice none 0 0))).alloc (.cells M 68))
    simp only [Deep.nblk_alloc] at h2
    refine ⟨0, _, [], Nat.zero_le _, rfl, ?_, h1.alloc _, fun j hj => absurd hj (by omega), h2, index_nil, ?_⟩
    · show (((w.alloc (scen n (w.heap.size + 1) xs.length (.slice none 0 0))).alloc (.cells M 68)).alloc (.map #[] 0)).heap[w.heap.size]? = _
      rw [Below.heap_alloc _ _ _ (by simp; omega), Below.heap_alloc _ _ _ (by simp), Deep.blk_alloc_new]
    · exact (((Below.refl _ _).alloc (Nat.le_refl _) _).alloc (by simp) _).alloc (by simp; omega) _
  case round =>
    obtain ⟨k, f, es, hk, rfl, hS, hrow, hf, hmap, hidx, hbel⟩ := hrel
    by_cases hlt : k < xs.length
    · obtain rfl := HX.out.at' (by omega)
      have hxc : wr.cell? ⟨b, o + k, none⟩ = some (.int .i64 (xs.getD k 0)) := (hbel.cell (HX.out.lt (by omega))).trans (HX.out.cell k hlt)
      have hxb := HX.out.lt (by omega)
      obtain ⟨x, hxk⟩ : ∃ x, x = xs.getD k 0 := ⟨_, rfl⟩
      rw [← hxk] at hxc
      have hs2 : wr.cell? ⟨w.heap.size, 2, none⟩ = some (.slice (some ⟨w.heap.size + 1, 0, none⟩) xs.length xs.length) := by simp [World.cell?, hS, scen]
      have hr0 := hrow.cell (i := k * 5) (by omega)
      have hr1 := hrow.cell (i := k * 5 + 1) (by omega)
      have hfz : ∀ j, wr.frozen? ⟨w.heap.size + 1, j, none⟩ = false := fun j => hrow.frozen j
      have hsz := hmap.lt
      have hl0 : w.heap.size < wr.heap.size := by omega
      have hl1 : w.heap.size + 1 < wr.heap.size := by omega
      have hl2 : b < wr.heap.size := by omega
      have hne : ¬ b = w.heap.size + 1 := by omega
      have hne' : ¬ w.heap.size + 1 = b := by omega
      have hkl : (k : Int) < (xs.length : Int) := by omega
      have HK : Hid (x = xs.getD k 0) := hxk
      have HS : Hid _ := hS
      have HR : Hid (wr.rowIs (w.heap.size + 1) 68 (xs.length * 5) f) := hrow
      have HF : Hid _ := hf
      have HP : Hid (mapIs Value.string wr (w.heap.size + 1 + 1) es) := hmap
      have HD : Hid _ := hidx
      have HB : Hid _ := hbel
      clear hxk hS hrow hf hmap hidx hbel
      go_wp2
      go_region_held (fun w' => w'.cell? ⟨w.heap.size, 2, none⟩ = some (.slice (some ⟨w.heap.size + 1, 0, none⟩) xs.length xs.length)) (go_keep)
        (first | (go_at_call 7; refine (name_any k (by omega) _).mono ?_; rintro e w' ⟨rfl, rfl⟩))
      go_wp2
      go_region_held (fun w' => w'.cell? ⟨w.heap.size, 2, none⟩ = some (.slice (some ⟨w.heap.size + 1, 0, none⟩) xs.length xs.length) ∧ w'.cell? ⟨b, o + k, none⟩ = some (.int .i64 x)) (simp [*, World.cell?_alloc_some, World.cell?_setCell_other]) (fail)
      go_wp2_with fail
      refine (name_any k (by omega) _).mono ?_
      rintro e w' ⟨rfl, rfl⟩
      have hmap2 := (((((HP.out.setCell (a := ⟨w.heap.size + 1, k * 5, none⟩) (by simp) (.string (nameOf k))).setCell (a := ⟨w.heap.size + 1, k * 5 + 1, none⟩) (by simp) (.int .i64 x)).alloc (.cells #[.int .u8 98, .int .u8 (k : Int)] 5)).alloc (.cells #[.int .u8 98, .int .u8 (k : Int)] 5)).drew').drew'
      obtain ⟨w1, hrun, hm1, ht1⟩ := hmap2.store (P := Ybaf.prog) string_keys Ybaf.underlying25 Ybaf.underlying9 (nameOf k) (.int .i64 (k : Int))
      have R := round_end HS.out HR.out HF.out HB.out HK.out hlt hsz hm1 ht1
      clear hmap2 hm1 ht1
      go_wp2
      go_roundw
      case rel => exact ⟨k + 1, _, _, by omega, by go_num, R.1, R.2.1, R.2.2.1, R.2.2.2.1, HD.out.put (by omega), R.2.2.2.2⟩
      case measure => simp [intOf]; omega
    · have hkn : k = xs.length := by omega
      subst hkn
      go_wp2
      go_ret2
      exact ⟨rfl, hS, fun j hj => by rw [hrow.cell (by omega), hf j hj], ⟨es, hmap, hidx⟩, hbel⟩
end Go.Proofs.YbulkctcuFmt
