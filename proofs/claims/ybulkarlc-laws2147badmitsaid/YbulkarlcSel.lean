/-
  A select of one receive with a default, on a closed channel, inside the kit's walk. 'Code.wpN': the kit's 'Code.wp' asked of ordinary frames alone (no early ones): whatever 'Code.wp' gives it has; a select has a law in it.
-/
import Derived.Conc.LoneSelect
import Derived.Calls
import Derived.Tactics
namespace Go.Proofs.Ybulkarlc
open Go.Conc

/-- 'Code.wp', asked of ordinary frames. -/
def wpN (P : Program) (c : Code) (Q : Exit → Act → World → Prop) (a : Act) (w : World) : Prop :=
  ∀ (b : Frame) (k : List Item) (cs : List Frame), b.kind ≠ .early →
    ∃ e a' w', Q e a' w' ∧ Arrives P (lone (b.at a (.code c :: k)) cs w) b k cs e a' w'

section
variable {P : Program} {Q : Exit → Act → World → Prop} {a : Act} {w : World}

theorem wpN_of_wp {c : Code} (h : c.wp P Q a w) : wpN P c Q a w := fun b k cs _ => h b k cs

theorem wpN_seq {x y : Code} (h : wpN P x (Exit.then (wpN P y Q) Q) a w) : wpN P (Code.seq x y) Q a w := by
  intro b k cs hb
  obtain ⟨e, a₁, w₁, hq, harr⟩ := h b (.code y :: k) cs hb
  cases e with
  | normal =>
    obtain ⟨e₂, a₂, w₂, hq₂, harr₂⟩ := hq b k cs hb
    exact ⟨e₂, a₂, w₂, hq₂, .of_steps (.head step_seq harr) harr₂⟩
  | exit id => exact ⟨_, a₁, w₁, hq, .of_steps (.one step_seq) (.pass (x := .code y) rfl (fun _ _ => .inl (by simp)) harr)⟩
  | goto l => exact ⟨_, a₁, w₁, hq, .of_steps (.one step_seq) (.pass (x := .code y) rfl (fun _ _ => .inl (by simp)) harr)⟩
  | ret => exact ⟨_, a₁, w₁, hq, .of_steps (.one step_seq) (.pass (x := .code y) rfl (fun _ _ => .inl (by simp)) harr)⟩
  | panic ch => exact ⟨_, a₁, w₁, hq, .of_steps (.one step_seq) (.pass (x := .code y) rfl (fun _ _ => .inl (by simp)) harr)⟩
  | outgrown => exact ⟨_, a₁, w₁, hq, .of_steps (.one step_seq) (.pass (x := .code y) rfl (fun _ _ => .inl (by simp)) harr)⟩

/-- THE SELECT, first in its region: the channel is closed and its buffer empty: index 0, ok false, the zero value; the rest of the region goes on. -/
theorem wpN_select_shut {id : Nat} {ops : Array Oper} {o : Oper} {rest : List Nat} {c cap s r : Nat} {tm : Bool} {z : Value} (hl : List.range ops.size = 0 :: rest) (ho : ops[0]? = some o) (hg : o.guard = none)
    (hrun : (execOp a.eval o).run P w = .ok (.comm #[rcase c z] false .select) w) (hc : w.heap[c]? = some (.chan cap #[] true s r tm))
    (h : wpOps P ops Q rest (a.put o.dst (.tuple #[goInt 0, .bool false, z])) w) : wpN P (Code.region id ops false) Q a w := by
  intro b k cs hb
  obtain ⟨e, a', w', hq, harr⟩ := wp_ops rest _ _ h b k cs
  refine ⟨e, a', w', hq, .of_steps (.one step_region) (.of_steps (.one ?_) harr)⟩
  rw [hl]
  have hs := step_lone_select_recv_shut (P := P) (fr := b.at a (.inRegion ops (0 :: rest) :: k)) (cs := cs) (w := w) (stepG_comm (main := true) ho (by simp [Region.wanted, hg]) hb hrun) hc
  rw [Frame.finish_at, ho] at hs
  exact hs

/-- The same, the rest as the walk takes it up. -/
theorem wpN_select_lit {id : Nat} {o : Oper} {l : List Oper} {c cap s r : Nat} {tm : Bool} {z : Value} (hg : o.guard = none)
    (hrun : (execOp a.eval o).run P w = .ok (.comm #[rcase c z] false .select) w) (hc : w.heap[c]? = some (.chan cap #[] true s r tm))
    (h : wpList P (o :: l).toArray Q l (a.put o.dst (.tuple #[goInt 0, .bool false, z])) w) : wpN P (Code.region id (o :: l).toArray false) Q a w := by
  refine wpN_select_shut (ops := (o :: l).toArray) (rest := List.range' 1 l.length) ?_ rfl hg hrun hc ?_
  · simp [List.range_eq_range', List.range'_succ]
  · rw [wpOps_eq_wpList l 1 (fun j => by simp [Nat.add_comm])]; exact h

/-- From the body to the call. -/
theorem calls_of_wpN {f : FuncId} {fn : Func} {c : Code} {args : Array Value} {R : Ending → World → Prop} (hf : P.funcs[f]? = some fn) (hb : fn.body = some c)
    (h : wpN P c (bodyPost P fn R) { tmps := args ++ Array.replicate (fn.ntmps - args.size) undef, defers := [] } w) : Calls P f args w R := by
  intro cs
  let b : Frame := { (default : Frame) with fn := f, kind := .normal }
  have henter : Frame.enter P f args .normal = b.at { tmps := args ++ Array.replicate (fn.ntmps - args.size) undef, defers := [] } [.code c] := by
    simp [Frame.enter, Frame.at, hf, hb, b]
  obtain ⟨e, a', w', hq, harr⟩ := h b [] cs (by simp [b])
  rw [← henter] at harr
  cases e with
  | normal =>
    obtain ⟨hd, v, hr, hR⟩ := hq
    exact ⟨.returned v, w', _, hR, Steps.trans harr (.one step_end), rfl, rfl, hd, rfl, fn, hf, hr⟩
  | ret =>
    obtain ⟨hd, v, hr, hR⟩ := hq
    obtain ⟨todo, hs⟩ := harr
    exact ⟨.returned v, w', _, hR, hs, rfl, rfl, hd, rfl, fn, hf, hr⟩
  | panic chain =>
    obtain ⟨hd, hR⟩ := hq
    obtain ⟨todo, hs⟩ := harr
    exact ⟨.panicked chain, w', _, hR, hs, rfl, rfl, hd, fn, hf⟩
  | exit id => exact hq.elim
  | goto l => exact hq.elim
  | outgrown => exact ⟨.outgrown, w', b, hq, harr.resolve_left (by simp [b]), rfl, trivial⟩
end
end Go.Proofs.Ybulkarlc
