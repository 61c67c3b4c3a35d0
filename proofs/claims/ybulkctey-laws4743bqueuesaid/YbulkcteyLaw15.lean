/-
  SEAT b4743a. QUEUE: THE WALK OF LawS4743BQueue.
-/
import Derived.Test.YbulkcteyLaw14
namespace Go.Proofs.Ybulkctey
open Go.RowKit Go.Deep

theorem queue_any (q : Nat) (a0 : Option Addr) (pb po len cap : Nat) (pk : Nat → Nat) (w : World) (hq : q < 256) (hl : len ≤ 1024) (ha : 0 < len → a0 = some ⟨pb, po, none⟩) (hpb : 0 < len → pb < w.heap.size) (hpk : ∀ k, k < len → w.cell? ⟨pb, po + k, none⟩ = some (.int .u8 (pk k : Nat)) ∧ pk k < 256) :
    Calls Yba.prog 5 #[.int .u8 q, .slice a0 len cap] w fun e w' => e = .returned (.bool true) ∧ Below w.heap.size w w' := by
  refine calls_of_wp Yba.func5 (c := Yba.f5.body.getD .skip) (by kernel_rfl) ?_
  refine part0 q len cap a0 hq hl _ (by simp [Yba.ntmps5]) ?_ ?_ w _ fun A1 w1 s B T R g1 g2 rv rc gb c h12 => ?_
  · simp [Array.getD]
  · simp [Array.getD]
  refine part12 _ s B T R g1 g2 rv rc gb c len pb po cap a0 pk w hl ha hpb hpk A1 w1 _ h12 fun A2 w2 h13 => ?_
  refine part13 _ s B T R g1 g2 rv rc gb c len pk w hl A2 w2 _ h13 fun A3 w3 rg gl cl ov idb vr vg h18 => ?_
  refine part18 _ s B T R g1 g2 rv rc gb c len pk w hl rg gl cl ov idb vr vg A3 w3 _ h18 fun A4 w4 it ob vi h25 => ?_
  refine part25 _ s B T R g1 g2 rv rc gb c len pk w it gl cl ov ob idb vi vg A4 w4 _ h25 fun A5 w5 ids v oc h26 => ?_
  refine part26 _ s B T R g1 g2 rv rc gb c len pk w it gl cl ov ob idb vi vg ids v oc A5 w5 _ h26 fun A6 w6 h27 => ?_
  refine part27 _ s B T R g1 g2 rv rc gb c len pk w it gl cl ov ob idb vi vg ids v oc A6 w6 _ h27 fun A7 w7 Bs GB v1 v2 ids' v' h30 => ?_
  exact part30 _ s B T R g1 g2 rv rc gb c len pk w gl ov idb vg Bs GB v1 v2 ids' v' A7 w7 _ h30 fun w' hb => ⟨rfl, hb⟩
end Go.Proofs.Ybulkctey
