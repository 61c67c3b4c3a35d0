/-
  SEAT b4747a. A WALK WITH CHANNELS IN ONE GOROUTINE: 'WpN': as 'Code.wp', of a frame that is no early one: there a send, a receive, a select steps as the machine of one says.
-/
import Derived.Test.YbulkcthcChecked
import Derived.WalkKit
import Derived.Below
import Derived.Conc.LoneCalls
import Derived.Conc.LoneSelect
namespace Go.Proofs.Ybulkcthc
open Go.Conc

/-- As 'Code.wp', of a frame that is no early one. -/
def WpN (P : Program) (c : Code) (Q : Exit → Act → World → Prop) (a : Act) (w : World) : Prop :=
  ∀ (b : Frame) (k : List Item) (cs : List Frame), b.kind = .normal → ∃ e a' w', Q e a' w' ∧ Arrives P (lone (b.at a (.code c :: k)) cs w) b k cs e a' w'
/-- The same inside a region, the operations l to come. -/
def WpO (P : Program) (ops : Array Oper) (Q : Exit → Act → World → Prop) (l : List Nat) (a : Act) (w : World) : Prop :=
  ∀ (b : Frame) (k : List Item) (cs : List Frame), b.kind = .normal → ∃ e a' w', Q e a' w' ∧ Arrives P (lone (b.at a (.inRegion ops l :: k)) cs w) b k cs e a' w'

section
variable {P : Program} {Q : Exit → Act → World → Prop} {a : Act} {w : World}

theorem WpN.of_wp {c : Code} (h : c.wp P Q a w) : WpN P c Q a w := fun b k cs _ => h b k cs

theorem WpN.seq {x y : Code} (h : WpN P x (Exit.then (WpN P y Q) Q) a w) : WpN P (.seq x y) Q a w := by
  intro b k cs hb
  obtain ⟨e, a₁, w₁, hq, r⟩ := h b (.code y :: k) cs hb
  cases e
  case normal => obtain ⟨e₂, a₂, w₂, q₂, r₂⟩ := hq b k cs hb; exact ⟨e₂, a₂, w₂, q₂, .of_steps (.head step_seq r) r₂⟩
  all_goals exact ⟨_, a₁, w₁, hq, .of_steps (.one step_seq) (.pass (x := .code y) rfl (fun _ _ => .inl (by simp)) r)⟩

/-- The first statement by the plain walk. -/
theorem WpN.seq_k {x y : Code} (h : ∀ K : Act → World → Prop, (∀ a w, WpN P y Q a w → K a w) → x.wp P (Exit.then K Q) a w) : WpN P (.seq x y) Q a w :=
  .seq (.of_wp (h _ fun _ _ h => h))
/-- The first statement by this walk. -/
theorem WpN.seq_n {x y : Code} (h : ∀ K : Act → World → Prop, (∀ a w, WpN P y Q a w → K a w) → WpN P x (Exit.then K Q) a w) : WpN P (.seq x y) Q a w :=
  .seq (h _ fun _ _ h => h)

theorem WpN.cond {c : Operand} {x y : Code} {t : Bool} (hc : a.eval c = .bool t) (h : WpN P (if t then x else y) Q a w) : WpN P (.cond c x y) Q a w :=
  fun b k cs hb => let ⟨e, a', w', q, r⟩ := h b k cs hb; ⟨e, a', w', q, .of_steps (.one (step_cond hc)) r⟩

theorem WpN.block {id : Nat} {c : Code} (h : WpN P c (Exit.inBlock id Q) a w) : WpN P (.block id c) Q a w := by
  intro b k cs hb
  obtain ⟨e, a₁, w₁, hq, r⟩ := h b (.inBlock id :: k) cs hb
  cases e with
  | normal => exact ⟨.normal, a₁, w₁, hq, .head step_block (Steps.trans r (.one step_inBlock))⟩
  | exit id' =>
    by_cases hid : id' = id
    · subst hid
      simp only [Exit.inBlock, if_true] at hq
      exact ⟨.normal, a₁, w₁, hq, .head step_block (r k (by simp [exitTo]))⟩
    · simp only [Exit.inBlock, hid, if_false] at hq
      have hne : (id == id') = false := by simp; exact fun h => hid h.symm
      exact ⟨.exit id', a₁, w₁, hq, fun k' hk => .head step_block (r k' (by simp [exitTo, hne, hk]))⟩
  | goto l => exact ⟨_, a₁, w₁, hq, fun k' hk => .head step_block (r k' (by simp [gotoIn, hk]))⟩
  | ret => exact ⟨_, a₁, w₁, hq, .of_steps (.one step_block) r⟩
  | panic ch => exact ⟨_, a₁, w₁, hq, .of_steps (.one step_block) r⟩
  | outgrown => exact ⟨_, a₁, w₁, hq, .of_steps (b := b) (k := k) (cs := cs) (e := .outgrown) (.one step_block) r⟩

theorem WpN.loop {c : Code} (I : Nat → Act → World → Prop) (n : Nat) (h₀ : I n a w)
    (round : ∀ n a w, I n a w → WpN P c (Exit.then (fun a' w' => ∃ m, m < n ∧ I m a' w') Q) a w) : WpN P (.loop c) Q a w := by
  intro b k cs hb
  have key : ∀ n a w, I n a w → ∃ e a' w', Q e a' w' ∧ Arrives P (lone (b.at a (.code c :: .inLoop c :: k)) cs w) b k cs e a' w' := by
    intro n
    induction n using Nat.strongRecOn with
    | _ n ih =>
      intro a w hI
      obtain ⟨e, a₁, w₁, hq, r⟩ := round n a w hI b (.inLoop c :: k) cs hb
      cases e
      case normal =>
        obtain ⟨m, hm, hI'⟩ := hq
        obtain ⟨e₂, a₂, w₂, q₂, r₂⟩ := ih m hm a₁ w₁ hI'
        exact ⟨e₂, a₂, w₂, q₂, .of_steps (Steps.trans r (.one step_inLoop)) r₂⟩
      all_goals exact ⟨_, a₁, w₁, hq, .pass (x := .inLoop c) rfl (fun _ _ => .inl (by simp)) r⟩
  obtain ⟨e, a', w', q, r⟩ := key n a w h₀
  exact ⟨e, a', w', q, .of_steps (.one step_loop) r⟩

theorem calls_of_wpN {f : FuncId} {fn : Func} {c : Code} {args : Array Value} {R : Ending → World → Prop} (hf : P.funcs[f]? = some fn) (hb : fn.body = some c) (hno : ∀ w, ¬ R .outgrown w)
    (h : WpN P c (bodyPost P fn R) { tmps := args ++ Array.replicate (fn.ntmps - args.size) undef, defers := [] } w) : Calls P f args w R := by
  intro cs
  have henter : Frame.enter P f args .normal = ({ (default : Frame) with fn := f, kind := .normal } : Frame).at { tmps := args ++ Array.replicate (fn.ntmps - args.size) undef, defers := [] } [.code c] := by
    simp [Frame.enter, Frame.at, hf, hb]
  obtain ⟨e, a', w', hq, r⟩ := h { (default : Frame) with fn := f, kind := .normal } [] cs rfl
  rw [← henter] at r
  cases e with
  | normal =>
    obtain ⟨hd, v, hr, hR⟩ := hq
    exact ⟨.returned v, w', _, hR, Steps.trans r (.one step_end), rfl, rfl, hd, rfl, fn, hf, hr⟩
  | ret =>
    obtain ⟨hd, v, hr, hR⟩ := hq
    obtain ⟨todo, hs⟩ := r
    exact ⟨.returned v, w', _, hR, hs, rfl, rfl, hd, rfl, fn, hf, hr⟩
  | panic chain =>
    obtain ⟨hd, hR⟩ := hq
    obtain ⟨todo, hs⟩ := r
    exact ⟨.panicked chain, w', _, hR, hs, rfl, rfl, hd, fn, hf⟩
  | exit id => exact hq.elim
  | goto l => exact hq.elim
  | outgrown => exact absurd hq (hno w')

/-! ### inside a region -/
variable {ops : Array Oper}
theorem WpN.region {id : Nat} (h : WpO P ops Q (List.range ops.size) a w) : WpN P (.region id ops false) Q a w :=
  fun b k cs hb => let ⟨e, a', w', q, r⟩ := h b k cs hb; ⟨e, a', w', q, .of_steps (.one step_region) r⟩
theorem WpN.region_draw {id : Nat} (h : ∀ t, WpO P ops Q (Region.schedule (P.follows .mixedOrders) ops t) a { w with drawn := w.drawn + 1 }) : WpN P (.region id ops true) Q a w :=
  fun b k cs hb => let ⟨e, a', w', q, r⟩ := h _ b k cs hb; ⟨e, a', w', q, .of_steps (.one step_region_draw) r⟩
theorem WpO.nil (h : Q .normal a w) : WpO P ops Q [] a w := fun _ _ _ _ => ⟨.normal, a, w, h, .one step_region_end⟩

/-- A plain operation: it yields a value. -/
theorem WpO.value {i : Nat} {rest : List Nat} {o : Oper} {v : Value} {w' : World} (ho : ops[i]? = some o) (hg : o.guard = none) (hr : (execOp a.eval o).run P w = .ok (.value v) w') (h : WpO P ops Q rest (a.put o.dst v) w') : WpO P ops Q (i :: rest) a w := by
  intro b k cs hb
  obtain ⟨e, a', w'', q, r⟩ := h b k cs hb
  have hw : Region.wanted o (yielded ops a.tmps) = true := by simp [Region.wanted, hg]
  refine ⟨e, a', w'', q, .of_steps (.one (step_lone_go ?_)) r⟩
  have hfin : (b.at a (.inRegion ops (i :: rest) :: k)).finish v = b.at (a.put o.dst v) (.inRegion ops rest :: k) := by rw [Frame.finish_at, ho]; rfl
  rw [stepG_op ho hw, ← hfin]; simp [stepG.apply, hr]

/-- The same, as the plain walk says it. -/
theorem WpO.oper {i : Nat} {rest : List Nat} {o : Oper} (ho : ops[i]? = some o) (hg : o.guard = none) (h : ∀ K : Act → World → Prop, (∀ a w, WpO P ops Q rest a w → K a w) → ∃ v w', (execOp a.eval o).run P w = .ok (.value v) w' ∧ K (a.put o.dst v) w') : WpO P ops Q (i :: rest) a w := by
  obtain ⟨v, w', hr, hk⟩ := h _ (fun _ _ h => h)
  exact .value ho hg hr hk

/-- A communication that the machine of one takes at once. -/
theorem WpO.comm {i : Nat} {rest : List Nat} {o : Oper} {v : Value} {w' : World} (ho : ops[i]? = some o)
    (hs : ∀ (b : Frame) (k : List Item) (cs : List Frame), b.kind ≠ .early → step P (solo (G (b.at a (.inRegion ops (i :: rest) :: k)) cs) w) = .next (solo (G ((b.at a (.inRegion ops (i :: rest) :: k)).finish v) cs) w'))
    (h : WpO P ops Q rest (a.put o.dst v) w') : WpO P ops Q (i :: rest) a w := by
  intro b k cs hb
  obtain ⟨e, a', w'', q, r⟩ := h b k cs hb
  have hfin : (b.at a (.inRegion ops (i :: rest) :: k)).finish v = b.at (a.put o.dst v) (.inRegion ops rest :: k) := by rw [Frame.finish_at, ho]; rfl
  have := hs b k cs (by rw [hb]; decide)
  rw [hfin] at this
  exact ⟨e, a', w'', q, .of_steps (.one this) r⟩

theorem WpO.send {i : Nat} {rest : List Nat} {o : Oper} {x y : Operand} {c cap s r : Nat} {buf : Array Value} {tm : Bool} (ho : ops[i]? = some o) (hg : o.guard = none) (hop : o.op = .send x y) (hx : a.eval x = .chan (some c))
    (hc : w.heap[c]? = some (.chan cap buf false s r tm)) (hroom : buf.size < cap) (h : WpO P ops Q rest (a.put o.dst undef) (w.setChan c cap (buf.push (a.eval y)) false (s + 1) r tm)) : WpO P ops Q (i :: rest) a w :=
  .comm ho (fun b k cs hk => step_lone_send_room (z' := .tuple #[]) (stepG_comm (cases := #[scase c (a.eval y) (.tuple #[])]) (blocking := true) (shape := .send) (w' := w) ho (by simp [Region.wanted, hg]) hk (by simp [execOp, hop, hx, scase, pure])) hc hroom) h

theorem WpO.recv {i : Nat} {rest : List Nat} {o : Oper} (z : Value) (c cap s r : Nat) (buf : Array Value) (closed tm : Bool) (ho : ops[i]? = some o) (hg : o.guard = none) (hr : (execOp a.eval o).run P w = .ok (.comm #[rcase c z] true (.recv false)) w)
    (hc : w.heap[c]? = some (.chan cap buf closed s r tm)) (hsome : 0 < buf.size) (h : WpO P ops Q rest (a.put o.dst (buf.getD 0 undef)) (w.setChan c cap (buf.extract 1 buf.size) closed s (r + 1) tm)) : WpO P ops Q (i :: rest) a w :=
  .comm ho (fun _ _ _ hk => step_lone_recv_buf false (stepG_comm ho (by simp [Region.wanted, hg]) hk hr) hc hsome) h

theorem WpO.select_recv {i : Nat} {rest : List Nat} {o : Oper} (z : Value) (c cap s r : Nat) (buf : Array Value) (closed tm : Bool) (ho : ops[i]? = some o) (hg : o.guard = none) (hr : (execOp a.eval o).run P w = .ok (.comm #[rcase c z] false .select) w)
    (hc : w.heap[c]? = some (.chan cap buf closed s r tm)) (hsome : 0 < buf.size) (h : WpO P ops Q rest (a.put o.dst (.tuple #[goInt 0, .bool true, buf.getD 0 undef])) (w.setChan c cap (buf.extract 1 buf.size) closed s (r + 1) tm)) : WpO P ops Q (i :: rest) a w :=
  .comm ho (fun _ _ _ hk => step_lone_select_recv_buf (stepG_comm ho (by simp [Region.wanted, hg]) hk hr) hc hsome) h

theorem WpO.select_default {i : Nat} {rest : List Nat} {o : Oper} (z : Value) (c cap s r : Nat) (tm : Bool) (ho : ops[i]? = some o) (hg : o.guard = none) (hr : (execOp a.eval o).run P w = .ok (.comm #[rcase c z] false .select) w)
    (hc : w.heap[c]? = some (.chan cap #[] false s r tm)) (h : WpO P ops Q rest (a.put o.dst (.tuple #[goInt (-1), .bool false, z])) w) : WpO P ops Q (i :: rest) a w :=
  .comm ho (fun _ _ _ hk => step_lone_select_default (stepG_comm ho (by simp [Region.wanted, hg]) hk hr) hc) h

/-! ### a region whose order is drawn -/
/-- Operation i leads to K, whatever follows. -/
def StepO (P : Program) (ops : Array Oper) (i : Nat) (K : Act → World → Prop) (a : Act) (w : World) : Prop :=
  ∀ (Q : Exit → Act → World → Prop) (rest : List Nat), (∀ a' w', K a' w' → WpO P ops Q rest a' w') → WpO P ops Q (i :: rest) a w

/-- Whatever order is drawn: S is what holds where the operations listed are done. -/
theorem WpO.any {md : Region.Mode} (S : Nat → Array Bool → Act → World → Prop)
    (hdone : ∀ n listed a w, S n listed a w → (Region.ready md ops listed = [] ∨ n = 0) → Q .normal a w)
    (hstep : ∀ n listed a w, S (n + 1) listed a w → ∀ i ∈ Region.ready md ops listed, StepO P ops i (S n (listed.setIfInBounds i true)) a w) :
    ∀ (n t : Nat) (listed : Array Bool) (a : Act) (w : World), S n listed a w → WpO P ops Q (Region.linearise.go md ops n t listed []) a w := by
  intro n
  induction n with
  | zero => intro t listed a w h; simpa [Region.linearise.go] using WpO.nil (hdone 0 listed a w h (.inr rfl))
  | succ n ih =>
    intro t listed a w h
    simp only [Region.linearise.go]
    change WpO P ops Q (match (Region.ready md ops listed)[t % (Region.ready md ops listed).length]? with
      | some i => Region.linearise.go md ops n (t / (Region.ready md ops listed).length) (listed.setIfInBounds i true) [i]
      | none => [].reverse) a w
    cases hi : (Region.ready md ops listed)[t % (Region.ready md ops listed).length]? with
    | none =>
      have hnil : Region.ready md ops listed = [] := by
        cases hr : Region.ready md ops listed with
        | nil => rfl
        | cons x xs =>
          rw [hr] at hi
          have hlt : t % (x :: xs).length < (x :: xs).length := Nat.mod_lt _ (by simp)
          rw [List.getElem?_eq_getElem hlt] at hi
          cases hi
      exact WpO.nil (hdone _ listed a w h (.inl hnil))
    | some i =>
      simp only []
      rw [linearise_go_acc, List.reverse_singleton, List.singleton_append]
      exact hstep n listed a w h i (List.mem_of_getElem? hi) Q _ (fun a' w' h' => ih _ _ a' w' h')

theorem WpN.region_any {id : Nat} (hm : P.follows .mixedOrders = true) (S : Nat → Array Bool → Act → World → Prop)
    (hdone : ∀ n listed a w, S n listed a w → (Region.ready .any ops listed = [] ∨ n = 0) → Q .normal a w)
    (hstep : ∀ n listed a w, S (n + 1) listed a w → ∀ i ∈ Region.ready .any ops listed, StepO P ops i (S n (listed.setIfInBounds i true)) a w)
    (h₀ : S ops.size (Array.replicate ops.size false) a { w with drawn := w.drawn + 1 }) : WpN P (.region id ops true) Q a w :=
  .region_draw fun t => by
    simp only [Region.schedule, hm, Bool.true_or, if_true]
    exact WpO.any S hdone hstep ops.size t _ a _ h₀
end
end Go.Proofs.Ybulkcthc
