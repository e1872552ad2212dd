/-
  'play.newWalk', '(*play.walk).next' on a file with no data.
-/
import Derived.Test.YbulkarggFmtNext
import Derived.LoopN
namespace Go.Proofs.YbulkarggFmt
open Go.ChangeShapes Go.WideShapes Go.RowKit

/-- An empty command stored into a block that holds one. -/
theorem wpList_store_zc {ops : Array Oper} {rest : List Oper} {op : Oper} {a : Act} {w : World} {Q : Exit → Act → World → Prop} (hgd : op.guard = none) (x y : Operand) (ho : op.op = .store 40 x y)
    (n : Nat) (hx : a.eval x = .pointer (some ⟨n, 0, none⟩)) (hy : a.eval y = .agg zc) (hn : w.heap[n]? = some (.cells zc 40 (0, 0)))
    (h : wpList Ybaf.prog ops Q rest (a.put op.dst undef) w) : wpList Ybaf.prog ops Q (op :: rest) a w :=
  wpList_plain hgd fun K hK => by
    unfold Oper.wp execOp
    rw [ho]
    simp only [hx, hy, Sem.run_bind, store40 w n hn, Result.andThen, Sem.run_pure]
    exact hK _ _ h

theorem newWalk_any (b : Nat) (w : World) (h : w.cell? ⟨b, 10, none⟩ = some (.int .i64 0)) :
    Calls Ybaf.prog 4 #[.pointer (some ⟨b, 0, none⟩)] w fun e w' => e = .returned (.agg #[.pointer (some ⟨w.heap.size + 1, 0, none⟩)])
      ∧ w' = (w.alloc (.cells #[.pointer (some ⟨w.heap.size + 1, 0, none⟩)] 34)).alloc (.cells #[.pointer (some ⟨b, 0, none⟩), .int .i64 0, .int .u32 0, .slice none 0 0] 58) := by
  have hb : b < w.heap.size := block_lt_of_cell h
  go_enter Ybaf.func4, Ybaf.ntmps4
  go_wp2_with fail
  refine (commands_any b _ (by go_simp)).mono ?_
  rintro e w' ⟨rfl, rfl⟩
  go_wp2
  refine bodyPost_ret (results_cell rfl _ _ _ ⟨w.heap.size, 0, none⟩ (.agg #[.pointer (some ⟨w.heap.size + 1, 0, none⟩)]) rfl ?_) rfl ⟨rfl, rfl⟩
  go_simp

/-- To make the walk stand, and to let it go on. -/
theorem standHere {p : Prop} (h : Hid p) : p := h
theorem goOn {p : Prop} (h : p) : Hid p := h

theorem load_zc {w : World} {n : Nat} (h : w.heap[n]? = some (.cells zc 40 (0, 0))) : (loadVar 40 ⟨n, 0, none⟩).run Ybaf.prog w = .ok (.agg zc) w :=
  run_loadVar_mid _ _ _ 40 zc.toList _ (World.rangeAt_of_block h 0 23) Ybaf.underlying40 rfl (by kernel_rfl)
theorem below3 (w : World) (o1 o2 o3 : Obj) (k : Nat) : Below w.heap.size w ((((w.alloc o1).alloc o2).alloc o3).drewN k) :=
  below_drewN ((((Below.refl _ _).alloc (Nat.le_refl _) _).alloc (by simp) _).alloc (by simp; omega) _) k

theorem at_last3 (w : World) (o1 o2 o3 : Obj) (k : Nat) : ((((w.alloc o1).alloc o2).alloc o3).drewN k).heap[w.heap.size + 2]? = some o3 := by
  show (((w.heap.push o1).push o2).push o3)[w.heap.size + 2]? = _
  rw [Array.getElem?_push, if_pos (by simp)]
theorem at_first3 (w : World) (o1 o2 o3 : Obj) (k : Nat) : ((((w.alloc o1).alloc o2).alloc o3).drewN k).heap[w.heap.size]? = some o1 := by
  show (((w.heap.push o1).push o2).push o3)[w.heap.size]? = _
  rw [Array.getElem?_push, if_neg (by simp; omega), Array.getElem?_push, if_neg (by simp), Array.getElem?_push, if_pos rfl]

set_option maxRecDepth 100000 in
set_option maxHeartbeats 1000000 in
theorem walkNext_end (bs o bc bf : Nat) (u : TypeId) (v : Value) (w : World) (hs : w.cell? ⟨bs, o, none⟩ = some (.pointer (some ⟨bc, 0, none⟩))) (h0 : w.cell? ⟨bc, 0, none⟩ = some (.pointer (some ⟨bf, 0, none⟩))) (h1 : w.cell? ⟨bc, 1, none⟩ = some (.int .i64 0)) (h2 : w.cell? ⟨bc, 2, none⟩ = some (.int .u32 0))
    (h9 : w.cell? ⟨bf, 9, none⟩ = some (.slice none 0 0)) (h11 : w.cell? ⟨bf, 11, none⟩ = some (.int .i64 0)) (hg : w.cell? ⟨0, 0, none⟩ = some (.iface u v)) :
    Calls Ybaf.prog 8 #[.pointer (some ⟨bs, o, none⟩)] w fun e w' => e = .returned (.tuple #[.int .u32 0, .agg zc, .iface u v]) ∧ Below w.heap.size w w' := by
  have b0 : bs < w.heap.size := block_lt_of_cell hs
  have b1 : bc < w.heap.size := block_lt_of_cell h0
  have b2 : bf < w.heap.size := block_lt_of_cell h9
  have b3 : 0 < w.heap.size := block_lt_of_cell hg
  go_enter Ybaf.func8, Ybaf.ntmps8
  go_wp2
  refine wp_loop_rounds 1 ?_
  rw [rounds_succ]
  go_wp2_with fail
  refine (time_any bc 0 _ (by go_simp)).mono ?_
  rintro e w' ⟨rfl, rfl⟩
  go_wp2_with fail
  refine (next_end bc bf (.iface u v) _ (by go_simp) (by go_simp) (by go_simp) (by go_simp) (by go_simp)).mono ?_
  rintro e w' ⟨rfl, nq, rfl⟩
  go_wp2_with (refine wpList_store_zc rfl _ _ rfl _ rfl rfl ?hn (standHere ?_))
  case hn => exact at_last3 _ _ _ _ _
  refine goOn ?_
  go_wp2_with (refine wpList_store_zc rfl _ _ rfl _ rfl rfl ?hn (standHere ?_))
  case hn => exact at_first3 _ _ _ _ _
  refine goOn ?_
  go_wp2_with fail
  exact bodyPost_ret (results_tmp_cell_tmp rfl _ _ _ ⟨w.heap.size, 0, none⟩ (.agg zc) rfl (load_zc (at_first3 w (.cells zc 40) (.cells zc 40) (.cells zc 40) nq))) rfl ⟨rfl, below3 w (.cells zc 40) (.cells zc 40) (.cells zc 40) nq⟩
end Go.Proofs.YbulkarggFmt
