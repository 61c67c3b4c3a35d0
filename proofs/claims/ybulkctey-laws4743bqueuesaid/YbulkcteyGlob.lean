/-
  SEAT b4743a. QUEUE: the global queue's memory (GQ); contracts: Bool.Store, Bool.Load, push.
-/
import Derived.Test.YbulkcteyTake
namespace Go.Proofs.Ybulkctey
open Go.RowKit Go.Deep

/-- Blocks that a call may turn: those of F, and those from N on whose cells are of a type in ts. -/
def SS (N : Nat) (F : Nat → Prop) (ts : TypeId → Prop) (w : World) (b : Nat) : Prop := F b ∨ (N ≤ b ∧ ∃ cs t z, w.heap[b]? = some (.cells cs t z) ∧ ts t)
theorem Fr.transS {N : Nat} {F : Nat → Prop} {ts : TypeId → Prop} {w w1 w2 : World} (h : Fr (SS N F ts w) w w1) (h2 : Fr (SS N F ts w1) w1 w2) : Fr (SS N F ts w) w w2 := by
  refine ⟨h2.os.trans h.os, h2.tape.trans h.tape, h2.output.trans h.output, Nat.le_trans h.size h2.size, fun b hb hs => ?_⟩
  have e := h.keep b hb hs
  refine (h2.keep b (Nat.lt_of_lt_of_le hb h.size) fun hs1 => hs ?_).trans e
  rcases hs1 with hf | ⟨hN, cs, t, z, hc, ht⟩
  · exact .inl hf
  · exact .inr ⟨hN, cs, t, z, e ▸ hc, ht⟩
theorem Fr.monoS {N : Nat} {F G : Nat → Prop} {ts us : TypeId → Prop} {w w1 : World} (h : Fr (SS N F ts w) w w1) (hg : ∀ b, F b → G b) (ht : ∀ t, ts t → us t) : Fr (SS N G us w) w w1 :=
  h.mono fun _ _ hs => hs.imp (hg _) fun ⟨hN, cs, t, z, hc, h1⟩ => ⟨hN, cs, t, z, hc, ht t h1⟩
theorem Fr.ofF {N : Nat} {F : Nat → Prop} {ts : TypeId → Prop} {w w1 : World} (h : Fr F w w1) : Fr (SS N F ts w) w w1 := h.mono fun _ _ hs => .inl hs
theorem rowIs_ne {w : World} {b b' n n' : Nat} {t t' : TypeId} {f f' : Nat → Value} (h : w.rowIs b t n f) (h' : w.rowIs b' t' n' f') (ht : t ≠ t') : b ≠ b' := by
  rintro rfl
  obtain ⟨c, h1, _⟩ := h
  obtain ⟨c', h1', _⟩ := h'
  rw [h1] at h1'
  simp at h1'
  exact ht h1'.2
theorem rowIs_typed {w : World} {b n N : Nat} {t : TypeId} {f : Nat → Value} (h : w.rowIs b t n f) (hN : N ≤ b) {F : Nat → Prop} {ts : TypeId → Prop} (ht : ts t) : SS N F ts w b := by
  obtain ⟨c, h1, _⟩ := h
  exact .inr ⟨hN, c, t, _, h1, ht⟩
theorem rowIs_apart {w : World} {b n N : Nat} {t : TypeId} {f : Nat → Value} (h : w.rowIs b t n f) {F : Nat → Prop} {ts : TypeId → Prop} (hF : ¬ F b) (ht : ¬ ts t) : ¬ SS N F ts w b := by
  rintro (h1 | ⟨_, cs, t', z, hc, h2⟩)
  · exact hF h1
  · obtain ⟨c, h1, _⟩ := h
    rw [h1] at hc
    simp only [Option.some.injEq, Obj.cells.injEq] at hc
    exact ht (hc.2.1 ▸ h2)

abbrev Ent := Value × Option Addr
def tsk (es : List Ent) (p : Nat) : Value := (es.getD p (.nilFunc, none)).1
def grp (es : List Ent) (p : Nat) : Option Addr := (es.getD p (.nilFunc, none)).2
theorem getD_push (es : List Ent) (e d : Ent) (p : Nat) : (es ++ [e]).getD p d = if p = es.length then e else es.getD p d := by
  simp only [List.getD]
  by_cases h : p = es.length
  · subst h; simp
  · rw [if_neg h]
    by_cases h2 : p < es.length
    · rw [List.getElem?_append_left h2]
    · rw [List.getElem?_eq_none (by simp; omega), List.getElem?_eq_none (by omega)]
theorem tsk_push (es : List Ent) (v : Value) (g : Option Addr) (p : Nat) : tsk (es ++ [(v, g)]) p = if p = es.length then v else tsk es p := by
  unfold tsk; rw [getD_push]; split <;> rfl
theorem grp_push (es : List Ent) (v : Value) (g : Option Addr) (p : Nat) : grp (es ++ [(v, g)]) p = if p = es.length then g else grp es p := by
  unfold grp; rw [getD_push]; split <;> rfl
theorem tsk_out (es : List Ent) (p : Nat) (h : es.length ≤ p) : tsk es p = .nilFunc := by unfold tsk; simp [List.getD, List.getElem?_eq_none h]
theorem grp_out (es : List Ent) (p : Nat) (h : es.length ≤ p) : grp es p = none := by unfold grp; simp [List.getD, List.getElem?_eq_none h]
theorem grp_push0 (es : List Ent) (v : Value) (p : Nat) : grp (es ++ [(v, none)]) p = grp es p := by
  rw [grp_push]; split
  · next h => rw [h, grp_out _ _ (Nat.le_refl _)]
  · rfl
def gcount (es : List Ent) : Nat := (es.filter fun e => e.2.isSome).length
theorem gcount_push0 (es : List Ent) (v : Value) : gcount (es ++ [(v, none)]) = gcount es := by simp [gcount]
theorem gcount_push1 (es : List Ent) (v : Value) (a : Addr) : gcount (es ++ [(v, some a)]) = gcount es + 1 := by simp [gcount]
def lastOf (n : Nat) : Nat := if n = 0 then 0 else (n - 1) % 256 + 1
def at0 (b : Nat) : Addr := ⟨b, 0, none⟩
def headOf (n : Nat) (B : Nat → Nat) : Option Addr := if n = 0 then none else some (at0 (B 0))
def tailOf (n : Nat) (B : Nat → Nat) : Option Addr := if n = 0 then none else some (at0 (B ((n - 1) / 256)))

/-- One segment. -/
def Seg (es : List Ent) (B : Nat → Nat) (GB : Nat → Option Nat) (m : Nat) (w : World) : Prop :=
  ∃ f, w.rowIs (B m) 107 259 f ∧ (∀ k, k < 256 → f k = tsk es (256 * m + k)) ∧ f 256 = .pointer ((GB m).map at0) ∧ f 258 = .pointer (if 256 * (m + 1) < es.length then some (at0 (B (m + 1))) else none)
/-- The scheduler's cells. -/
def Sch (s : Nat) (mu : Int) (ov : Nat) (hd tl : Option Addr) (la n ne gc : Nat) (w : World) : Prop :=
  ∃ f, w.rowIs s 77 46 f ∧ f 2 = .int .i32 mu ∧ f 11 = .pointer hd ∧ f 12 = .pointer tl ∧ f 13 = .int .i64 0 ∧ f 14 = .int .i64 la ∧ f 15 = .int .i64 n ∧ f 16 = .int .u32 ne ∧ f 17 = .int .i64 gc ∧ f 26 = .int .u64 ov

structure GQ (N s : Nat) (mu : Int) (ov : Nat) (es : List Ent) (B : Nat → Nat) (GB : Nat → Option Nat) (w : World) : Prop where
  sch : Sch s mu ov (headOf es.length B) (tailOf es.length B) (lastOf es.length) es.length (if es.length = 0 then 0 else 1) (gcount es) w
  seg : ∀ m, 256 * m < es.length → Seg es B GB m w
  ga : ∀ m b, 256 * m < es.length → GB m = some b → w.rowIs b 141 256 (fun k => .pointer (grp es (256 * m + k)))
  no : ∀ m, 256 * m < es.length → GB m = none → ∀ k, k < 256 → grp es (256 * m + k) = none
  mB : ∀ m m', m < m' → 256 * m' < es.length → B m < B m'
  nS : N ≤ s
  nB : ∀ m, 256 * m < es.length → N ≤ B m
  nG : ∀ m b, 256 * m < es.length → GB m = some b → N ≤ b
  mG : ∀ m m' b b', m < m' → 256 * m' < es.length → GB m = some b → GB m' = some b' → b < b'

theorem Sch.frame {s : Nat} {mu : Int} {ov la n ne gc : Nat} {hd tl : Option Addr} {w w' : World} (h : Sch s mu ov hd tl la n ne gc w) (e : w'.heap[s]? = w.heap[s]?) : Sch s mu ov hd tl la n ne gc w' := by
  obtain ⟨f, hf, hv⟩ := h; exact ⟨f, hf.of_block e, hv⟩
theorem Seg.frame {es : List Ent} {B : Nat → Nat} {GB : Nat → Option Nat} {m : Nat} {w w' : World} (h : Seg es B GB m w) (e : w'.heap[B m]? = w.heap[B m]?) : Seg es B GB m w' := by
  obtain ⟨f, hf, hv⟩ := h; exact ⟨f, hf.of_block e, hv⟩
/-- The queue's blocks are untouched. -/
theorem GQ.frame {N s : Nat} {mu : Int} {ov : Nat} {es : List Ent} {B : Nat → Nat} {GB : Nat → Option Nat} {w w' : World} (h : GQ N s mu ov es B GB w) (hk : ∀ b t n f, w.rowIs b t n f → (t = 77 ∨ t = 107 ∨ t = 141) → w'.heap[b]? = w.heap[b]?) : GQ N s mu ov es B GB w' := by
  refine ⟨?_, fun m hm => ?_, fun m b hm hb => ?_, h.no, h.mB, h.nS, h.nB, h.nG, h.mG⟩
  · obtain ⟨f, hf, hv⟩ := h.sch; exact ⟨f, hf.of_block (hk _ _ _ _ hf (.inl rfl)), hv⟩
  · obtain ⟨f, hf, hv⟩ := h.seg m hm; exact ⟨f, hf.of_block (hk _ _ _ _ hf (.inr (.inl rfl))), hv⟩
  · have hf := h.ga m b hm hb; exact hf.of_block (hk _ _ _ _ hf (.inr (.inr rfl)))

theorem run_storeU32 {a : Addr} {y : Int} {u : Value} {w : World} (hc : w.cell? a = some u) (hz : w.frozen? a = false) :
    (callFunc 57 #[.pointer (some a), .int .u32 y]).run Yba.prog w = .ok (.value (.tuple #[])) (w.setCell a (.int .u32 y)) :=
  run_call_store (fn := Yba.f57) Yba.func57 (by kernel_rfl) (by kernel_rfl) (by kernel_rfl) (by kernel_rfl) hc hz
theorem run_loadU32 {a : Addr} {x : Int} {w : World} (hc : w.cell? a = some (.int .u32 x)) : (callFunc 33 #[.pointer (some a)]).run Yba.prog w = .ok (.value (.int .u32 x)) w :=
  run_call_load (fn := Yba.f33) Yba.func33 (by kernel_rfl) (by kernel_rfl) (by kernel_rfl) .u32 (by kernel_rfl) hc
theorem b32_true (w : World) : Calls Yba.prog 58 #[.bool true] w fun e w' => e = .returned (.int .u32 1) ∧ w' = w := by
  go_enter Yba.func58, Yba.ntmps58
  go_wp2
  go_ret
  exact ⟨rfl, rfl⟩
theorem boolLoad_any (b o x : Nat) (w : World) (hc : w.cell? ⟨b, o, none⟩ = some (.int .u32 x)) : Calls Yba.prog 20 #[.pointer (some ⟨b, o, none⟩)] w fun e w' => e = .returned (.bool (!((x : Int) == 0))) ∧ w' = w := by
  have hl := run_loadU32 hc
  go_enter Yba.func20, Yba.ntmps20
  go_wp2
  go_ret
  exact ⟨rfl, rfl⟩
theorem boolStore_any (b o : Nat) (u : Value) (w : World) (hc : w.cell? ⟨b, o, none⟩ = some u) (hz : w.frozen? ⟨b, o, none⟩ = false) :
    Calls Yba.prog 50 #[.pointer (some ⟨b, o, none⟩), .bool true] w fun e w' => e = .returned (.tuple #[]) ∧ w' = (w.setCell ⟨b, o, none⟩ (.int .u32 1)).drew := by
  have hl := run_storeU32 (w := w.drew) (y := 1) (show w.drew.cell? ⟨b, o, none⟩ = some u from hc) hz
  go_enter Yba.func50, Yba.ntmps50
  go_wp2
  go_region_with (go_at_call 58; refine (b32_true _).mono ?_; rintro e w' ⟨rfl, rfl⟩)
  all_goals
    go_end0
    exact ⟨rfl, rfl⟩
end Go.Proofs.Ybulkctey
