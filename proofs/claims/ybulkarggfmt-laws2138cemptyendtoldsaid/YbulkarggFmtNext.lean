/-
  '(*vgm.Commands).Time', '(*vgm.File).Commands', '(*vgm.Commands).Next' on a file with no data.
-/
import Derived.Test.YbulkarggFmtRegion
import Derived.Deep.WholeRow
import Derived.Deep.QuietTactic
import Derived.BigQuiet
namespace Go.Proofs.YbulkarggFmt
open Go.ChangeShapes Go.WideShapes Go.RowKit

theorem time_any (b : Nat) (t : Int) (w : World) (h : w.cell? ⟨b, 2, none⟩ = some (.int .u32 t)) :
    Calls Ybaf.prog 6 #[.pointer (some ⟨b, 0, none⟩)] w fun e w' => e = .returned (.int .u32 t) ∧ w' = w := by
  go_enter Ybaf.func6, Ybaf.ntmps6
  go_wp2
  go_ret
  exact ⟨rfl, rfl⟩

theorem commands_any (b : Nat) (w : World) (h : w.cell? ⟨b, 10, none⟩ = some (.int .i64 0)) :
    Calls Ybaf.prog 7 #[.pointer (some ⟨b, 0, none⟩)] w fun e w' => e = .returned (.pointer (some ⟨w.heap.size, 0, none⟩)) ∧ w' = w.alloc (.cells #[.pointer (some ⟨b, 0, none⟩), .int .i64 0, .int .u32 0, .slice none 0 0] 58) := by
  go_enter Ybaf.func7, Ybaf.ntmps7
  go_wp2
  go_ret
  exact ⟨rfl, rfl⟩

set_option maxRecDepth 100000 in
set_option maxHeartbeats 1000000 in
theorem next_end (bc bf : Nat) (v : Value) (w : World) (h0 : w.cell? ⟨bc, 0, none⟩ = some (.pointer (some ⟨bf, 0, none⟩))) (h1 : w.cell? ⟨bc, 1, none⟩ = some (.int .i64 0))
    (h9 : w.cell? ⟨bf, 9, none⟩ = some (.slice none 0 0)) (h11 : w.cell? ⟨bf, 11, none⟩ = some (.int .i64 0)) (hg : w.cell? ⟨0, 0, none⟩ = some v) :
    Calls Ybaf.prog 9 #[.pointer (some ⟨bc, 0, none⟩)] w fun e w' => e = .returned (.tuple #[.agg zc, v]) ∧ ∃ nq, w' = (w.alloc (.cells zc 40)).drewN nq := by
  have b1 : bc < w.heap.size := block_lt_of_cell h0
  have b2 : bf < w.heap.size := block_lt_of_cell h9
  have b3 : 0 < w.heap.size := block_lt_of_cell hg
  go_enter Ybaf.func9, Ybaf.ntmps9
  go_wp2
  go_quiet (fail)
  go_wp2
  refine region_eof _ _ w.heap.size v rfl ⟨rfl, rfl, rfl⟩ ⟨rfl, rfl, rfl⟩ ⟨rfl, rfl, rfl⟩ ⟨rfl, rfl, rfl⟩ (by kernel_rfl) (by kernel_rfl) (by kernel_rfl) (by kernel_rfl) (by kernel_rfl) (by kernel_rfl) (by kernel_rfl) (by simp) rfl (by go_simp) (heap_alloc_last w _) ?_
  go_wp2
  have hl : (loadVar 40 ⟨w.heap.size, 0, none⟩).run Ybaf.prog ((w.alloc (.cells zc 40)).drewN nq).drew = .ok (.agg zc) ((w.alloc (.cells zc 40)).drewN nq).drew :=
    run_loadVar_mid _ _ _ 40 zc.toList _ (World.rangeAt_of_block (heap_alloc_last w (.cells zc 40)) 0 23) Ybaf.underlying40 rfl (by kernel_rfl)
  exact bodyPost_ret (results_cell_tmp rfl _ _ _ ⟨w.heap.size, 0, none⟩ (.agg zc) rfl hl) rfl ⟨rfl, nq + 1, rfl⟩
end Go.Proofs.YbulkarggFmt
