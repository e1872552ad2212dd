/-
  'board.besselI0' walked: at a word that is no NaN: the iterates of YbulkarggBessel.lean, up to the first at which the test says no.
-/
import Derived.Test.YbulkarggHeard
import Derived.Test.YbulkarggBessel
import Derived.Laws.FloatArith
import Derived.Below
import Derived.RowKit3
namespace Go.Proofs.Ybulkargg
open Go.ChangeShapes Go.WideShapes Go.ChangeAt Go.RowKit
open Fl

theorem den_eq (n : Nat) : floatOfInt .f64 (2 * ((n : Int) + 1)) = den n := by
  unfold floatOfInt FloatKind.nearest FloatKind.encode den
  have e1 : decide (2 * ((n : Int) + 1) < 0) = false := by simp; omega
  have e2 : (2 * ((n : Int) + 1)).natAbs = 2 * (n + 1) := by omega
  rw [e1, e2]; rfl

theorem ret_float {k : FloatKind} {a b : Nat} (h : a = b) : Ending.returned (.float k a) = .returned (.float k b) := by rw [h]

theorem testB_eq (p : Nat × Nat) : testB p = (FloatKind.f64.format.order p.1 (thr p.2) == some .gt) := rfl

set_option maxHeartbeats 1000000 in
theorem bessel_num (s : Bool) (a : Nat) (ha : a ≤ Ieee.double.infRung) (x : Nat) (hx : x = Ieee.double.word s a) (w : World) :
    Calls Yba.prog 9 #[.float .f64 x] w fun e w' => (∃ n, e = .returned (.float .f64 (st x n).2) ∧ Fl.Reach x n ∧ testB (st x n) = false) ∧ w' = w := by
  have HX : Hid (x = Ieee.double.word s a) := hx
  clear hx
  go_enter Yba.func9, Yba.ntmps9
  go_wp2
  go_loop [3, 4, 5] (fun sm t k => ∃ n : Nat, n < 5000 ∧ k = .int .i64 ((n : Int) + 1) ∧ t = .float .f64 (st x n).1 ∧ sm = .float .f64 (st x n).2 ∧ Hid (Fl.Reach x n)) (fun _ _ k => 6000 - (intOf k).toNat)
  case atStart => exact ⟨0, by omega, rfl, rfl, rfl, fun m hm => absurd hm (by omega)⟩
  case round =>
    obtain ⟨n, hn, rfl, rfl, rfl, hR⟩ := hrel
    have hhead : Head (st x n) := by rw [HX.out]; exact reach_head s a ha n (by omega) (by rw [← HX.out]; exact hR)
    have f1 : ∀ t w, (binOp .mul t (.float .f64 (st x n).2) (.float .f64 4352464011485697175)).run Yba.prog w = .ok (.float .f64 (thr (st x n).2)) w :=
      fun t w => run_float_arith w .mul t .f64 _ _ _ (thr_ok hhead).1
    by_cases ht : testB (st x n) = true
    · have hk := step_ok s a ha n (by omega) (by rw [← HX.out]; exact hhead) (by rw [← HX.out]; exact ht)
      rw [← HX.out] at hk
      obtain ⟨k1, k2, k3, k4, _⟩ := hk
      have hR' : Hid (Fl.Reach x (n + 1)) := by
        intro m hm
        by_cases c : m = n
        · subst c; exact ht
        · exact hR.out m (by omega)
      have hn' : n + 1 < 5000 := by
        have : Fl.Reach (Ieee.double.word s a) (n + 1) := by rw [← HX.out]; exact hR'.out
        exact ends s a ha (n + 1) this
      have f2 : ∀ t w, (binOp .quo t (.float .f64 x) (.float .f64 (floatOfInt .f64 (2 * ((n : Int) + 1))))).run Yba.prog w = .ok (.float .f64 (hOf x n)) w :=
        fun t w => run_float_arith w .quo t .f64 _ _ _ (by rw [den_eq]; exact k1)
      have f3 : ∀ t w, (binOp .mul t (.float .f64 (hOf x n)) (.float .f64 (hOf x n))).run Yba.prog w = .ok (.float .f64 (hh x n)) w :=
        fun t w => run_float_arith w .mul t .f64 _ _ _ k2
      have f4 : ∀ t w, (binOp .mul t (.float .f64 (st x n).1) (.float .f64 (hh x n))).run Yba.prog w = .ok (.float .f64 (st x (n + 1)).1) w :=
        fun t w => run_float_arith w .mul t .f64 _ _ _ k3
      have f5 : ∀ t w, (binOp .add t (.float .f64 (st x n).2) (.float .f64 (st x (n + 1)).1)).run Yba.prog w = .ok (.float .f64 (st x (n + 1)).2) w :=
        fun t w => run_float_arith w .add t .f64 _ _ _ k4
      rw [testB_eq] at ht
      clear k1 k2 k3 k4 hhead hR
      go_wp2
      go_round
      case rel => exact ⟨n + 1, hn', by go_num, rfl, rfl, hR'⟩
      case measure => simp [intOf]; omega
    · have ht' : testB (st x n) = false := by simpa using ht
      have Hend : Hid (Fl.Reach x n ∧ testB (st x n) = false) := ⟨hR.out, ht'⟩
      clear ht hhead hR
      rw [testB_eq] at ht'
      go_wp2
      go_ret
      exact ⟨⟨n, rfl, Hend.out.1, Hend.out.2⟩, rfl⟩
end Go.Proofs.Ybulkargg
