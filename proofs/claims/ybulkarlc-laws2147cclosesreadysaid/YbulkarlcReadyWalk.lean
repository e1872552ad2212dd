/-
  'libgate.LawS2147CClosesReady' walked: true.
-/
import Derived.Test.YbulkarlcWake
import Derived.Conc.SmallLaws
namespace Go.Proofs.Ybulkarlc
open Go.ChangeShapes Go.WideShapes Go.RowKit Go.Conc

theorem makeChan0 (w : World) : (Instr.makeChan 44 (.int .i64 0)).run Yba.prog w = .ok (.chan (some w.heap.size)) (w.alloc (.chan 0 #[] false 0 0 false)) := by
  have h : (Yba.prog.info? 26).map (·.bytes) = some 0 := by kernel_rfl
  obtain ⟨i, hi, hb⟩ := Option.map_eq_some_iff.1 h
  simpa using run_makeChan (P := Yba.prog) (w := w) Yba.underlying44 hi .i64 0 (by omega) (by rw [hb]; omega)

/-- The three blocks behind 'wake'. -/
theorem after_wake (w : World) (cs ds : Array Value) (W : World) (hW : W = (((w.alloc (.chan 0 #[] false 0 0 false)).alloc (.cells cs 56)).alloc (.cells ds 56)).setChan w.heap.size 0 #[] true 0 0 false) :
    W.heap[w.heap.size]? = some (.chan 0 #[] true 0 0 false) ∧ W.heap[w.heap.size + 1]? = some (.cells cs 56) ∧ W.heap[w.heap.size + 1 + 1]? = some (.cells ds 56) ∧ Below w.heap.size w W := by
  subst hW
  refine ⟨?_, ?_, ?_, ?_⟩
  · exact heap_setChan _ _ _ _ _ _ _ _ (by simp; omega)
  · simp only [World.setChan]
    rw [Array.getElem?_setIfInBounds_ne (by omega)]
    show (((w.heap.push _).push _).push _)[w.heap.size + 1]? = _
    rw [Array.getElem?_push, if_neg (by simp), Array.getElem?_push, if_pos (by simp)]
  · simp only [World.setChan]
    rw [Array.getElem?_setIfInBounds_ne (by omega)]
    show (((w.heap.push _).push _).push _)[w.heap.size + 1 + 1]? = _
    rw [Array.getElem?_push, if_pos (by simp)]
  · exact below_setChan ((((Below.refl _ _).alloc (Nat.le_refl _) _).alloc (by simp) _).alloc (by simp; omega) _) (Nat.le_refl _) _ _ _ _ _ _

set_option maxHeartbeats 1000000 in
theorem ready_walk (a0 a1 : Int) (w : World) :
    Calls Yba.prog 4 #[.int .i64 a0, .int .u64 a1] w fun e w' => e = .returned (.bool true) ∧ Below w.heap.size w w' := by
  have hmk := makeChan0
  refine calls_of_wpN Yba.func4 rfl ?_
  simp only [Yba.ntmps4, List.size_toArray, List.length_cons, List.length_nil, Nat.reduceAdd, Nat.reduceSub, Array.replicate_succ, Array.replicate_zero, List.push_toArray, List.append_toArray, List.nil_append, List.cons_append]
  iterate 4 (refine wpN_seq (wpN_of_wp ?_); go_wp2)
  refine wpN_seq (wpN_of_wp ?_)
  go_wp2_with fail
  refine (wake_close (w.heap.size + 1 + 1) w.heap.size _ (by go_simp) ?hc).mono ?_
  case hc =>
    show (((w.heap.push _).push _).push _)[w.heap.size]? = _
    rw [Array.getElem?_push, if_neg (by simp; omega), Array.getElem?_push, if_neg (by simp), Array.getElem?_push, if_pos rfl]
  rintro e w1 ⟨rfl, hw⟩
  obtain ⟨k0, k1, k2, bel⟩ := after_wake w _ _ w1 hw
  clear hw
  have row := fun (b o : Nat) (cs : Array Value) (y : Value) (h1 : w1.heap[b]? = some (.cells cs 56)) (h2 : cs[o]? = some y) => (cell_of_row w1 b o cs 56 (0, 0) h1).trans h2
  have c0 := row _ 0 _ _ k2 rfl
  have c1 := row _ 1 _ _ k2 rfl
  have c2 := row _ 2 _ _ k2 rfl
  have c10 := row _ 10 _ _ k2 rfl
  have c11 := row _ 11 _ _ k2 rfl
  have c12 := row _ 12 _ _ k2 rfl
  have d0 := row _ 0 _ _ k1 rfl
  have d2 := row _ 2 _ _ k1 rfl
  have d10 := row _ 10 _ _ k1 rfl
  have Hk : Hid (w1.heap[w.heap.size]? = some (.chan 0 #[] true 0 0 false)) := k0
  have Hb : Hid (Below w.heap.size w w1) := bel
  have hq := neq_chan_same w.heap.size
  have hq0 := neq_nil_nil
  have hp := neq_same
  clear k0 k1 k2 bel row
  go_wp2
  refine wpN_seq (wpN_of_wp ?_)
  go_wp2_with fail
  refine (load_any (w.heap.size + 1 + 1) 10 0 _ c10).mono ?_
  rintro e w2 ⟨rfl, rfl⟩
  go_wp2_with fail
  refine wpN_seq (wpN_of_wp ?_)
  go_wp2_with fail
  refine (load_any (w.heap.size + 1) 10 0 _ d10).mono ?_
  rintro e w3 ⟨rfl, rfl⟩
  go_wp2_with fail
  refine wpN_seq (wpN_of_wp ?_)
  go_wp2
  refine wpN_seq (wpN_select_lit (z := .agg #[]) rfl ?hrun Hk.out ?_)
  case hrun => simp [go_sem, execOp, rcase, Act.eval]
  go_wp2
  refine wpN_of_wp ?_
  go_wp2
  go_ret
  exact ⟨rfl, Hb.out.alloc Hb.out.size _⟩
end Go.Proofs.Ybulkarlc
