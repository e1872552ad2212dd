/-
  '(*sync.Cond).Signal' on a Cond that nobody waits on: its copy checker is set; '(*waiter).wake' without a channel; 'fits'.
-/
import Derived.Test.YbulkarlcWake
import Derived.Laws.Externs
namespace Go.Proofs.Ybulkarlc
open Go.ChangeShapes Go.WideShapes Go.RowKit Go.Conc

theorem check_any (a : Addr) (w : World) (h : w.cell? a = some (.int .u64 0)) (hf : w.frozen? a = false) :
    (callFunc 16 #[.pointer (some a)]).run Yba.prog w = .ok (.value (.tuple #[])) (w.setCell a (.pointer (some a))) := by
  rw [run_callFunc_extern (e := Extern.SyncCond.check) Yba.func16 (by kernel_rfl) (by kernel_rfl) (by kernel_rfl) (by kernel_rfl)]
  change (Sem.run Yba.prog (show Sem Value from do
    let c ← asAddr (.pointer (some a))
    if ← Extern.SyncCond.isSelf c (← load c) then return Extern.SyncCond.none_
    mark .disable
    let old ← load c .atomic
    if let .int .u64 0 := old then store c (.pointer (some c)) .atomic
    mark .enable
    if let .int .u64 0 := old then return Extern.SyncCond.none_
    if let .pointer (some a) := old then
      if a.block != c.block then unsupported _
    panicString _) w).andThen _ = _
  simp [Extern.SyncCond.isSelf, Extern.SyncCond.none_, asAddr, h, hf, Result.andThen, go_sem]

theorem notify_any (b : Nat) (w : World) (h4 : w.cell? ⟨b, 4, none⟩ = some (.int .u32 0)) (h5 : w.cell? ⟨b, 5, none⟩ = some (.int .u32 0)) :
    (callFunc 17 #[.pointer (some ⟨b, 4, none⟩)]).run Yba.prog w = .ok (.value (.tuple #[])) w := by
  rw [run_callFunc_extern (e := Extern.SyncCond.notifyOne) Yba.func17 (by kernel_rfl) (by kernel_rfl) (by kernel_rfl) (by kernel_rfl)]
  simp [Extern.SyncCond.notifyOne, Extern.SyncCond.list, Extern.SyncCond.counter, Extern.SyncCond.none_, h4, h5, Result.andThen, go_sem]

theorem signal_any (b : Nat) (w : World) (h4 : w.cell? ⟨b, 4, none⟩ = some (.int .u32 0)) (h5 : w.cell? ⟨b, 5, none⟩ = some (.int .u32 0)) (h9 : w.cell? ⟨b, 9, none⟩ = some (.int .u64 0)) (f9 : w.frozen? ⟨b, 9, none⟩ = false) :
    Calls Yba.prog 13 #[.pointer (some ⟨b, 3, none⟩)] w fun e w' => e = .returned (.tuple #[]) ∧ w' = w.setCell ⟨b, 9, none⟩ (.pointer (some ⟨b, 9, none⟩)) := by
  have e1 := check_any ⟨b, 9, none⟩ w h9 f9
  have e2 := notify_any b (w.setCell ⟨b, 9, none⟩ (.pointer (some ⟨b, 9, none⟩))) (by rw [World.cell?_setCell_other _ _ _ _ (by simp)]; exact h4) (by rw [World.cell?_setCell_other _ _ _ _ (by simp)]; exact h5)
  go_enter Yba.func13, Yba.ntmps13
  go_wp2
  go_end0
  exact ⟨rfl, rfl⟩

/-- 'wake' where there is no channel. -/
theorem wake_signal (b : Nat) (w : World) (h2 : w.cell? ⟨b, 2, none⟩ = some (.chan none)) (h4 : w.cell? ⟨b, 4, none⟩ = some (.int .u32 0)) (h5 : w.cell? ⟨b, 5, none⟩ = some (.int .u32 0)) (h9 : w.cell? ⟨b, 9, none⟩ = some (.int .u64 0)) (f9 : w.frozen? ⟨b, 9, none⟩ = false) :
    Calls Yba.prog 7 #[.pointer (some ⟨b, 0, none⟩)] w fun e w' => e = .returned (.tuple #[]) ∧ w' = w.setCell ⟨b, 9, none⟩ (.pointer (some ⟨b, 9, none⟩)) := by
  have hq0 := neq_nil_nil
  go_enter Yba.func7, Yba.ntmps7
  go_wp2_with fail
  refine (signal_any b _ h4 h5 h9 f9).mono ?_
  rintro e w' ⟨rfl, rfl⟩
  go_wp2_with fail
  go_end0
  exact ⟨rfl, rfl⟩

/-- 'fits'. -/
theorem fits_any (bg : Nat) (n f : Int) (w : World) (h : w.cell? ⟨bg, 3, none⟩ = some (.int .i64 f)) :
    Calls Yba.prog 9 #[.pointer (some ⟨bg, 0, none⟩), .int .i64 n] w fun e w' => e = .returned (.bool (decide (n ≤ f))) ∧ w' = w := by
  go_enter Yba.func9, Yba.ntmps9
  go_wp2
  go_ret
  exact ⟨rfl, rfl⟩
end Go.Proofs.Ybulkarlc
