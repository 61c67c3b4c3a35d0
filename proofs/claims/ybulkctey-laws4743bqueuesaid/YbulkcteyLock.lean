/-
  SEAT b4743a. QUEUE: the library's lock in this program.
-/
import Derived.Test.YbulkcteySpl
import Derived.Conc.MuLone
namespace Go.Proofs.Ybulkctey
open Go.RowKit Go.Deep

def muLink : Go.Conc.Locks.MuLink := { lock := 39, unlock := 44, ilock := 46, iunlock := 51, lockSlow := 56, unlockSlow := 61, disable := 52, enable := 54, acquire := 55, relMerge := 59, cas32 := 53, add32 := 60, tMutex := 51, tIMutex := 49, tPMutex := 78, tPIMutex := 137, tPI32 := 139, tUP := 54, tNoCopy := 47, tU32 := 22 }
theorem muLib : Go.Conc.Locks.MuLib Yba.prog muLink :=
  ⟨Yba.func39, Yba.func44, Yba.func46, Yba.func51, Yba.func52, Yba.func54, Yba.func55, Yba.func59, Yba.func53, Yba.func60, Yba.underlying49, Yba.runUnderlying49, Yba.sizeOf49, Yba.isAgg49, Yba.zeroValue49, Yba.underlying51, Yba.runUnderlying51, Yba.sizeOf51, Yba.isAgg51, Yba.zeroValue51, Yba.underlying78, Yba.runUnderlying78, Yba.sizeOf78, Yba.isAgg78, Yba.zeroValue78, Yba.underlying137, Yba.runUnderlying137, Yba.sizeOf137, Yba.isAgg137, Yba.zeroValue137, Yba.underlying139, Yba.runUnderlying139, Yba.sizeOf139, Yba.isAgg139, Yba.zeroValue139, Yba.underlying54, Yba.runUnderlying54, Yba.sizeOf54, Yba.isAgg54, Yba.zeroValue54, Yba.underlying47, Yba.runUnderlying47, Yba.sizeOf47, Yba.isAgg47, Yba.zeroValue47, Yba.underlying21, Yba.runUnderlying21, Yba.sizeOf21, Yba.isAgg21, Yba.zeroValue21, (by kernel_rfl)⟩

/-- A scheduler's cell is set (the mutex's word, the count of overflows). -/
theorem GS.cellSet {N s g1 g2 : Nat} {mu mu' : Int} {ov ov' : Nat} {es : List Ent} {w : World} (h : GS N s g1 g2 mu ov es w) {k : Nat} {v : Value} (hs : ∀ hd tl la n ne gc, Sch s mu ov hd tl la n ne gc w → Sch s mu' ov' hd tl la n ne gc (w.setCell ⟨s, k, none⟩ v)) : GS N s g1 g2 mu' ov' es (w.setCell ⟨s, k, none⟩ v) ∧ Fr (GF N s g1 g2 w) w (w.setCell ⟨s, k, none⟩ v) := by
  obtain ⟨B, GB, v1, v2, hq, h1, h2, hr⟩ := h
  obtain ⟨fs, ⟨cs, hs0, _⟩, _⟩ := hq.sch
  have hk : ∀ (b : Nat) (cs : Array Value) (t : TypeId), w.heap[b]? = some (Obj.cells cs t (0, 0)) → t ≠ 77 → (w.setCell ⟨s, k, none⟩ v).heap[b]? = w.heap[b]? := fun b cs' t hc ht => blk_setCell_other _ _ _ _ (by
    rintro rfl
    rw [hs0] at hc; simp only [Option.some.injEq, Obj.cells.injEq] at hc; exact ht hc.2.1.symm)
  refine ⟨⟨B, GB, v1, v2, ⟨hs _ _ _ _ _ _ hq.sch, fun m hm => ?_, fun m b hm hb => ?_, hq.no, hq.mB, hq.nS, hq.nB, hq.nG, hq.mG⟩, h1.keep fun b cs t hc ht _ => hk b cs t hc (by rcases ht with rfl | rfl <;> decide), h2.keep fun b cs t hc ht _ => hk b cs t hc (by rcases ht with rfl | rfl <;> decide), hr⟩, (Fr.refl _ w).setCell (fun _ => .inl (.inl rfl)) _⟩
  · obtain ⟨f, hf, hv⟩ := hq.seg m hm
    obtain ⟨c, hc, hc2⟩ := hf
    exact ⟨f, World.rowIs.of_block ⟨c, hc, hc2⟩ (hk _ c 107 hc (by decide)), hv⟩
  · obtain ⟨c, hc, hc2⟩ := hq.ga m b hm hb
    exact World.rowIs.of_block ⟨c, hc, hc2⟩ (hk _ c 141 hc (by decide))
theorem GS.mu {N s g1 g2 : Nat} {mu : Int} {ov : Nat} {es : List Ent} {w : World} (h : GS N s g1 g2 mu ov es w) : w.cell? ⟨s, 2, none⟩ = some (.int .i32 mu) ∧ w.cell? ⟨s, 26, none⟩ = some (.int .u64 ov) ∧ ∀ i, w.frozen? ⟨s, i, none⟩ = false := by
  obtain ⟨B, GB, v1, v2, hq, _⟩ := h
  exact ⟨hq.sch.c2, hq.sch.c26, hq.sch.fz⟩

theorem lock_any (N s g1 g2 : Nat) (ov : Nat) (es : List Ent) (w : World) (h : GS N s g1 g2 0 ov es w) :
    Calls Yba.prog 39 #[.pointer (some ⟨s, 2, none⟩)] w fun e w' => e = .returned (.tuple #[]) ∧ GS N s g1 g2 1 ov es w' ∧ Fr (GF N s g1 g2 w) w w' := by
  refine (Go.MuLone.lock_free muLib ⟨s, 2, none⟩ w h.mu.1 (h.mu.2.2 2)).mono ?_
  rintro e w' ⟨rfl, rfl⟩
  exact ⟨rfl, h.cellSet fun _ _ _ _ _ _ hs => hs.set2 1⟩
theorem unlock_any (N s g1 g2 : Nat) (ov : Nat) (es : List Ent) (w : World) (h : GS N s g1 g2 1 ov es w) :
    Calls Yba.prog 44 #[.pointer (some ⟨s, 2, none⟩)] w fun e w' => e = .returned (.tuple #[]) ∧ GS N s g1 g2 0 ov es w' ∧ Fr (GF N s g1 g2 w) w w' := by
  refine (Go.MuLone.unlock_held muLib ⟨s, 2, none⟩ w h.mu.1 (h.mu.2.2 2)).mono ?_
  rintro e w' ⟨rfl, rfl⟩
  exact ⟨rfl, h.cellSet fun _ _ _ _ _ _ hs => hs.set2 0⟩
end Go.Proofs.Ybulkctey
