/-
  'libgate.LawS2147BAdmit' at more than 1024 weights: true at once. And what an incoming row tells.
-/
import Derived.Test.YbulkarlcMore
namespace Go.Proofs.Ybulkarlc
open Go.ChangeShapes Go.WideShapes Go.RowKit
set_option linter.unusedVariables false

set_option maxRecDepth 100000 in
theorem law_big (a0 : Int) (a1 : Option Addr) (n cap : Nat) (a2 : Int) (w : World) (hn : ¬ n ≤ 1024) :
    Calls Yba.prog 3 #[.int .i64 a0, .slice a1 n cap, .int .u8 a2] w fun e w' => e = .returned (.bool true) ∧ Below w.heap.size w w' := by
  have hbig : decide ((1024 : Int) < (n : Int)) = true := by simp; omega
  go_enter Yba.func3, Yba.ntmps3
  go_wp2
  go_ret
  exact ⟨rfl, Below.refl _ _⟩

theorem range_i64 {z : Int} (h : (Lit.int .i64 z).wf = true) : -9223372036854775808 ≤ z ∧ z ≤ 9223372036854775807 := by
  simp only [Lit.wf, Bool.and_eq_true, decide_eq_true_eq] at h
  exact ⟨h.1, h.2⟩

theorem range_u8 {z : Int} (h : (Lit.int .u8 z).wf = true) : 0 ≤ z ∧ z ≤ 255 := by
  simp only [Lit.wf, Bool.and_eq_true, decide_eq_true_eq] at h
  exact ⟨h.1, h.2⟩

theorem row_at {w : World} {x : Addr} {zs : List Int} (hc : ∀ i, i < zs.length → w.cell? (x.add i) = some (.int .i64 (zs.getD i 0))) (n : Nat) (hn : n ≤ zs.length) :
    n = 0 ∨ ∃ b off, some x = some ⟨b, off, none⟩ ∧ b < w.heap.size ∧ ∀ i, i < n → w.cell? ⟨b, off + i, none⟩ = some (.int .i64 (zs.getD i 0)) := by
  by_cases h0 : n = 0
  · exact .inl h0
  · obtain ⟨b, off, sp⟩ := x
    have c0 := hc 0 (by omega)
    have e0 : (⟨b, off, sp⟩ : Addr).add 0 = ⟨b, off, sp⟩ := by unfold Addr.add; rw [if_pos rfl]
    rw [e0] at c0
    cases sp with
    | some q =>
      exfalso
      unfold World.cell? at c0
      split at c0 <;> simp_all
    | none =>
      refine .inr ⟨b, off, rfl, lt_of_some (some_of c0), fun i hi => ?_⟩
      rw [← hc i (by omega)]
      unfold Addr.add
      by_cases h : i = 0
      · subst h; rfl
      · rw [if_neg h]
end Go.Proofs.Ybulkarlc
