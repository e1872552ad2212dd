/-
  '(*waiter).wake' with a channel: it is closed. '(*atomic.Uint64).Load'.
-/
import Derived.Test.YbulkarlcRows
import Derived.Test.YbulkarlcSel
import Derived.WalkKit
import Derived.WalkLawsBesides
import Derived.Below
import Derived.Lib.Builder
namespace Go.Proofs.Ybulkarlc
open Go.ChangeShapes Go.WideShapes Go.RowKit Go.Conc

theorem neq_chan_nil (c : Nat) (w : World) : (binOp .neq 44 (.chan (some c)) (.chan none)).run Yba.prog w = .ok (.bool true) w := by kernel_rfl
theorem neq_nil_nil (w : World) : (binOp .neq 44 (.chan none) (.chan none)).run Yba.prog w = .ok (.bool false) w := by kernel_rfl
theorem neq_chan (c d : Nat) (w : World) : (binOp .neq 44 (.chan (some c)) (.chan (some d))).run Yba.prog w = .ok (.bool (!((some c : Option Nat) == some d))) w := by kernel_rfl
theorem neq_chan_same (c : Nat) (w : World) : (binOp .neq 44 (.chan (some c)) (.chan (some c))).run Yba.prog w = .ok (.bool false) w := by
  rw [neq_chan]; simp

/-- A pointer to a waiter against itself. -/
theorem neq_same (a : Addr) (w : World) : (binOp .neq 37 (.pointer (some a)) (.pointer (some a))).run Yba.prog w = .ok (.bool false) w := by
  have h : (Yba.prog.info? 56).isSome = true := by kernel_rfl
  obtain ⟨j, hj⟩ := Option.isSome_iff_exists.1 h
  exact Lib.run_neq_ptr_same w a Yba.underlying37 hj

theorem wake_close (b c : Nat) (w : World) (h : w.cell? ⟨b, 2, none⟩ = some (.chan (some c))) (hc : w.heap[c]? = some (.chan 0 #[] false 0 0 false)) :
    Calls Yba.prog 7 #[.pointer (some ⟨b, 0, none⟩)] w fun e w' => e = .returned (.tuple #[]) ∧ w' = w.setChan c 0 #[] true 0 0 false := by
  have hq := neq_chan_nil
  have hcl := fun ats ty => run_close_open (P := Yba.prog) (w := w) ats ty hc
  go_enter Yba.func7, Yba.ntmps7
  go_wp2_with fail
  exact bodyPost_ret (results_none rfl _ _ _) rfl ⟨rfl, rfl⟩

theorem load_any (b o : Nat) (n : Int) (w : World) (h : w.cell? ⟨b, o, none⟩ = some (.int .u64 n)) :
    Calls Yba.prog 8 #[.pointer (some ⟨b, o, none⟩)] w fun e w' => e = .returned (.int .u64 n) ∧ w' = w := by
  have hl := run_call_load (P := Yba.prog) Yba.func14 (by kernel_rfl) (by kernel_rfl) (by kernel_rfl) .u64 (by kernel_rfl) h
  go_enter Yba.func8, Yba.ntmps8
  go_wp2
  go_ret
  exact ⟨rfl, rfl⟩
end Go.Proofs.Ybulkarlc
