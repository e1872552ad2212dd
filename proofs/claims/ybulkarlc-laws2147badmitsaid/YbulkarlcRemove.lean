/-
  '(*queue).remove' at the head of the queue; '(*Gate).retire'.
-/
import Derived.Test.YbulkarlcSignal
import Derived.RegionTactic
import Derived.Deep.QuietTactic
import Derived.BigQuiet
import Derived.Laws.EntriesVeiled
namespace Go.Proofs.Ybulkarlc
open Go.ChangeShapes Go.WideShapes Go.RowKit
set_option linter.unusedVariables false

set_option maxHeartbeats 1000000 in
theorem remove_last (bg b : Nat) (t : Value) (n : Int) (w : World) (nb : bg ≠ b) (nb' : b ≠ bg)
    (h11 : w.cell? ⟨b, 11, none⟩ = some (.pointer none)) (h12 : w.cell? ⟨b, 12, none⟩ = some (.pointer none))
    (g4 : ∃ x, w.cell? ⟨bg, 4, none⟩ = some x) (g5 : w.cell? ⟨bg, 5, none⟩ = some t) (g6 : w.cell? ⟨bg, 6, none⟩ = some (.int .i64 n)) (hn : 1 ≤ n) (hn' : n ≤ 1024)
    (uf : ∀ o, w.frozen? ⟨bg, o, none⟩ = false) (ub : ∀ o, w.frozen? ⟨b, o, none⟩ = false) :
    Calls Yba.prog 10 #[.pointer (some ⟨bg, 4, none⟩), .pointer (some ⟨b, 0, none⟩)] w fun e w' => e = .returned (.tuple #[])
      ∧ w' = ((((w.setCell ⟨bg, 4, none⟩ (.pointer none)).setCell ⟨bg, 5, none⟩ (.pointer none)).setCell ⟨b, 11, none⟩ (.pointer none)).setCell ⟨b, 12, none⟩ (.pointer none)).setCell ⟨bg, 6, none⟩ (.int .i64 (n - 1)) := by
  obtain ⟨x4, g4⟩ := g4
  go_enter Yba.func10, Yba.ntmps10
  go_wp2
  go_end0
  exact ⟨rfl, rfl⟩

set_option maxHeartbeats 1000000 in
theorem remove_head (bg b c : Nat) (n : Int) (w : World) (nb : bg ≠ b) (nb' : b ≠ bg) (nc : bg ≠ c) (nc' : c ≠ bg) (bc : b ≠ c) (bc' : c ≠ b)
    (h11 : w.cell? ⟨b, 11, none⟩ = some (.pointer none)) (h12 : w.cell? ⟨b, 12, none⟩ = some (.pointer (some ⟨c, 0, none⟩)))
    (g4 : ∃ x, w.cell? ⟨bg, 4, none⟩ = some x) (k11 : ∃ x, w.cell? ⟨c, 11, none⟩ = some x) (g6 : w.cell? ⟨bg, 6, none⟩ = some (.int .i64 n)) (hn : 1 ≤ n) (hn' : n ≤ 1024)
    (uf : ∀ o, w.frozen? ⟨bg, o, none⟩ = false) (ub : ∀ o, w.frozen? ⟨b, o, none⟩ = false) (uc : ∀ o, w.frozen? ⟨c, o, none⟩ = false) :
    Calls Yba.prog 10 #[.pointer (some ⟨bg, 4, none⟩), .pointer (some ⟨b, 0, none⟩)] w fun e w' => e = .returned (.tuple #[])
      ∧ ∃ k, w' = (((((w.setCell ⟨bg, 4, none⟩ (.pointer (some ⟨c, 0, none⟩))).setCell ⟨c, 11, none⟩ (.pointer none)).setCell ⟨b, 11, none⟩ (.pointer none)).setCell ⟨b, 12, none⟩ (.pointer none)).setCell ⟨bg, 6, none⟩ (.int .i64 (n - 1))).drewN k := by
  obtain ⟨x4, g4⟩ := g4
  obtain ⟨y11, k11⟩ := k11
  go_enter Yba.func10, Yba.ntmps10
  go_wp2
  go_region
  all_goals go_wp2
  all_goals (go_end0; exact ⟨rfl, 1, rfl⟩)

set_option maxHeartbeats 1000000 in
/-- 'retire' where there are spares enough. -/
theorem retire_full (bg b : Nat) (m n : Int) (w : World) (nb : bg ≠ b) (nb' : b ≠ bg)
    (h2 : ∃ x, w.cell? ⟨b, 2, none⟩ = some x) (g12 : w.cell? ⟨bg, 12, none⟩ = some (.int .i64 m)) (g6 : w.cell? ⟨bg, 6, none⟩ = some (.int .i64 n)) (g9 : w.cell? ⟨bg, 9, none⟩ = some (.int .i64 0))
    (hn0 : 0 ≤ n) (hn : n ≤ 1024) (hm : n < m) (ub : ∀ o, w.frozen? ⟨b, o, none⟩ = false) :
    Calls Yba.prog 11 #[.pointer (some ⟨bg, 0, none⟩), .pointer (some ⟨b, 0, none⟩)] w fun e w' => e = .returned (.tuple #[])
      ∧ ∃ k, w' = (w.setCell ⟨b, 2, none⟩ (.chan none)).drewN k := by
  obtain ⟨x2, h2⟩ := h2
  go_enter Yba.func11, Yba.ntmps11
  go_wp2
  go_quiet (fail)
  go_wp2
  exact bodyPost_ret (results_none rfl _ _ _) rfl ⟨rfl, _, rfl⟩

set_option maxHeartbeats 1000000 in
/-- 'retire' where the waiter becomes a spare. -/
theorem retire_push (bg b : Nat) (m n : Int) (sp : Value) (hsp : sp = .pointer none ∨ ∃ a, sp = .pointer (some a)) (w : World) (nb : bg ≠ b) (nb' : b ≠ bg)
    (h2 : ∃ x, w.cell? ⟨b, 2, none⟩ = some x) (h12 : ∃ x, w.cell? ⟨b, 12, none⟩ = some x) (g11 : w.cell? ⟨bg, 11, none⟩ = some sp) (g12 : w.cell? ⟨bg, 12, none⟩ = some (.int .i64 m)) (g6 : w.cell? ⟨bg, 6, none⟩ = some (.int .i64 n)) (g9 : w.cell? ⟨bg, 9, none⟩ = some (.int .i64 0))
    (hn0 : 0 ≤ n) (hn : n ≤ 1024) (hm0 : 0 ≤ m) (hm : ¬ n < m) (uf : ∀ o, w.frozen? ⟨bg, o, none⟩ = false) (ub : ∀ o, w.frozen? ⟨b, o, none⟩ = false) :
    Calls Yba.prog 11 #[.pointer (some ⟨bg, 0, none⟩), .pointer (some ⟨b, 0, none⟩)] w fun e w' => e = .returned (.tuple #[])
      ∧ ∃ k, w' = ((((w.setCell ⟨b, 2, none⟩ (.chan none)).setCell ⟨b, 12, none⟩ sp).setCell ⟨bg, 11, none⟩ (.pointer (some ⟨b, 0, none⟩))).setCell ⟨bg, 12, none⟩ (.int .i64 (m + 1))).drewN k := by
  obtain ⟨x2, h2⟩ := h2
  obtain ⟨x12, h12⟩ := h12
  rcases hsp with rfl | ⟨a, rfl⟩
  all_goals
    go_enter Yba.func11, Yba.ntmps11
    go_wp2
    go_quiet (fail)
    go_wp2
    go_end0
    exact ⟨rfl, _, rfl⟩
end Go.Proofs.Ybulkarlc
