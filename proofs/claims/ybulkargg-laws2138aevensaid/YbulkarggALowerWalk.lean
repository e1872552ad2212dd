/-
  'board.LawS2138ALower' walked: true.
-/
import Derived.Test.YbulkarggNanWalk
namespace Go.Proofs.Ybulkargg
open Go.ChangeShapes Go.WideShapes Go.ChangeAt Go.RowKit
open Fl
set_option exponentiation.threshold 4000

/-- A float64's bits: a sign above a rung. -/
theorem word_of (x : Nat) (h : x < 2 ^ 64) : ∃ s a, x = Ieee.double.word s a ∧ a < Ieee.double.signWeight := by
  have e : (2 : Nat) ^ 64 = 18446744073709551616 := rfl
  rw [e] at h
  by_cases c : x < 9223372036854775808
  · exact ⟨false, x, rfl, by rw [hsw]; exact c⟩
  · refine ⟨true, x - 9223372036854775808, ?_, by rw [hsw]; omega⟩
    show x = Ieee.double.signWeight + _
    rw [hsw]; omega

theorem geq_true {a b : Nat} (h : b ≤ a) (ha : a ≤ Ieee.double.infRung) (hb : b ≤ Ieee.double.infRung) : (FloatKind.f64.format.order a b == some .gt || FloatKind.f64.format.order a b == some .eq) = true := by
  show (Ieee.double.order a b == some .gt || Ieee.double.order a b == some .eq) = true
  rw [order_nonneg hf ha hb]
  by_cases c : a = b
  · subst c; simp [compare, compareOfLessAndEq]
  · have h1 : ¬ a < b := by omega
    simp [compare, compareOfLessAndEq, h1, c]

theorem mul_one_ok {q : Nat} (h : q ≤ Ieee.double.infRung) : Ieee.double.mul one q = some q := by
  by_cases c : q < Ieee.double.infRung
  · obtain ⟨r, r1, _, r3, r4⟩ := mul_fin (f := Ieee.double) hU one_fin c
    have e := r1 false false
    have h1 : r ≤ q := r3 q (by rw [val_one, Nat.mul_comm]; exact Nat.le_refl _)
    have h2 : q ≤ r := r4 q h (by rw [val_one, Nat.mul_comm]; exact Nat.le_refl _)
    have h3 : r = q := by omega
    rw [h3] at e
    exact e
  · have e : q = Ieee.double.infRung := by omega
    subst e
    exact mul_fin_inf (f := Ieee.double) hf false false one_fin (by decide)

theorem test0 (x : Nat) : testB (st x 0) = true := by
  show testB (one, one) = true
  decide +kernel

theorem leave_pos {x n : Nat} (h : testB (st x n) = false) : 1 ≤ n := by
  cases n with
  | zero => rw [test0] at h; cases h
  | succ n => omega

/-- What the law asks of the number that comes back. -/
theorem lower_plain (s : Bool) (a : Nat) (ha : a ≤ Ieee.double.infRung) (x : Nat) (hx : x = Ieee.double.word s a) (n : Nat) (hR : Fl.Reach x n) (hE : testB (st x n) = false) :
    Ieee.double.div x 4611686018427387904 = some (hOf x 0) ∧ Ieee.double.mul (hOf x 0) (hOf x 0) = some (hh x 0) ∧ Ieee.double.add one (hh x 0) = some (st x 1).2
    ∧ (FloatKind.f64.format.order (st x n).2 (st x 1).2 == some .gt || FloatKind.f64.format.order (st x n).2 (st x 1).2 == some .eq) = true
    ∧ (FloatKind.f64.format.order (st x n).2 4607182418800017408 == some .gt || FloatKind.f64.format.order (st x n).2 4607182418800017408 == some .eq) = true := by
  have hn := leave_pos hE
  subst hx
  have hlt := ends s a ha n hR
  have h0 : Fl.Reach (Ieee.double.word s a) 1 := fun m hm => hR m (by omega)
  obtain ⟨k1, k2, k3, k4, k5, k6, _⟩ := step_ok s a ha 0 (by omega) (head0 _) (test0 _)
  have hq : hh (Ieee.double.word s a) 0 ≤ Ieee.double.infRung := by
    obtain ⟨H, q, q1, q2, _⟩ := hh_ok a ha 0 (by omega)
    rw [(q2 s).2.2.2]; exact q1
  have e1 : (st (Ieee.double.word s a) (0 + 1)).1 = hh (Ieee.double.word s a) 0 := by
    have e := mul_one_ok hq
    have k3' : Ieee.double.mul one (hh (Ieee.double.word s a) 0) = some (st (Ieee.double.word s a) (0 + 1)).1 := k3
    rw [e] at k3'
    exact (Option.some.inj k3').symm
  rw [e1] at k4
  have hd := reach_head s a ha n (by omega) hR
  have hd1 := reach_head s a ha 1 (by omega) h0
  have hm := sum_mono s a ha 1 n (by omega) hn hR
  exact ⟨k1, k2, k4, geq_true hm hd.s hd1.s, geq_true hd.lo hd.s (Nat.le_of_lt one_fin)⟩

/-- At a zero of either sign: 1. -/
theorem lower_zero (s : Bool) (n : Nat) (hR : Fl.Reach (Ieee.double.word s 0) n) (hE : testB (st (Ieee.double.word s 0) n) = false) : (st (Ieee.double.word s 0) n).2 = one := by
  have h1 : testB (st (Ieee.double.word s 0) 1) = false := by cases s <;> decide +kernel
  have hn := leave_pos hE
  have : n = 1 := by
    by_cases c : 1 < n
    · have := hR 1 c; rw [h1] at this; cases this
    · omega
  subst this
  cases s <;> decide +kernel

theorem not_zero (s : Bool) (a : Nat) (ha : a ≤ Ieee.double.infRung) (h0 : a ≠ 0) : (FloatKind.f64.format.order (Ieee.double.word s a) 0 == some .eq) = false := by
  show (Ieee.double.order _ _ == some .eq) = false
  unfold Ieee.Format.order
  have hz : Ieee.double.read 0 = .number false 0 Ieee.double.leastPlace := by decide +kernel
  rw [hz]
  by_cases c : a < Ieee.double.infRung
  · obtain ⟨m, p, h, _, hm⟩ := read_fin Ieee.double c
    have hm0 : m ≠ 0 := fun e => h0 (hm.1 e)
    rw [h s]
    have e1 : min (Ieee.double.leastPlace + (p : Int)) Ieee.double.leastPlace = Ieee.double.leastPlace := by omega
    simp only [Ieee.Datum.order, e1, Ieee.signed, Nat.shiftLeft_eq]
    have hp := Nat.mul_pos (Nat.pos_of_ne_zero hm0) (Nat.two_pow_pos (Ieee.double.leastPlace + (p : Int) - Ieee.double.leastPlace).toNat)
    generalize m * 2 ^ (Ieee.double.leastPlace + (p : Int) - Ieee.double.leastPlace).toNat = A at hp
    cases s
    · have g1 : ¬ ((A : Int) < 0) := by omega
      have g2 : ¬ ((A : Int) = 0) := by omega
      have g : compare (A : Int) 0 = Ordering.gt := by simp only [compare, compareOfLessAndEq]; rw [if_neg g1, if_neg g2]
      simp [g]
    · have g1 : (-(A : Int) < 0) := by omega
      have g : compare (-(A : Int)) 0 = Ordering.lt := by simp only [compare, compareOfLessAndEq]; rw [if_pos g1]
      simp [g]
  · have e : a = Ieee.double.infRung := by omega
    subst e
    rw [read_inf Ieee.double hf s]
    cases s <;> simp [Ieee.Datum.order]

theorem lower_nan (x : Nat) (hx : isN x) (w : World) :
    Calls Yba.prog 5 #[.float .f64 x] w fun e w' => e = .returned (.bool true) ∧ Grown w w' := by
  have hx' : Hid (isN x) := hx
  clear hx
  go_enter Yba.func5, Yba.ntmps5
  go_wp2_with fail
  refine (bessel_nan x hx'.out _).mono ?_
  rintro e w' ⟨⟨r, rfl, hr⟩, rfl⟩
  have hr' : Hid (isN r) := hr
  clear hr
  go_wp2_with fail
  refine (isNaN_yes x hx'.out _).mono ?_
  rintro e w' ⟨rfl, rfl⟩
  go_wp2_with fail
  refine (isNaN_yes r hr'.out _).mono ?_
  rintro e w' ⟨rfl, rfl⟩
  go_wp2_with fail
  go_ret
  exact ⟨rfl, by repeat (first | exact Grown.refl _ | apply Grown.drew | apply Grown.alloc)⟩

theorem lower_num (s : Bool) (a : Nat) (ha : a ≤ Ieee.double.infRung) (x : Nat) (hx : x = Ieee.double.word s a) (w : World) :
    Calls Yba.prog 5 #[.float .f64 x] w fun e w' => e = .returned (.bool true) ∧ Grown w w' := by
  have HX : Hid (x = Ieee.double.word s a) := hx
  clear hx
  go_enter Yba.func5, Yba.ntmps5
  go_wp2_with fail
  refine (bessel_num s a ha x HX.out _).mono ?_
  rintro e w' ⟨⟨n, rfl, hR, hE⟩, rfl⟩
  obtain ⟨p1, p2, p3, p4, p5⟩ := lower_plain s a ha x HX.out n hR hE
  have f1 : ∀ t w, (binOp .quo t (.float .f64 x) (.float .f64 4611686018427387904)).run Yba.prog w = .ok (.float .f64 (hOf x 0)) w :=
    fun t w => run_float_arith w .quo t .f64 _ _ _ p1
  have f2 : ∀ t w, (binOp .mul t (.float .f64 (hOf x 0)) (.float .f64 (hOf x 0))).run Yba.prog w = .ok (.float .f64 (hh x 0)) w :=
    fun t w => run_float_arith w .mul t .f64 _ _ _ p2
  have f3 : ∀ t w, (binOp .add t (.float .f64 4607182418800017408) (.float .f64 (hh x 0))).run Yba.prog w = .ok (.float .f64 (st x 1).2) w :=
    fun t w => run_float_arith w .add t .f64 _ _ _ p3
  by_cases h0 : a = 0
  · have e1 : (st x n).2 = 4607182418800017408 := by
      have := HX.out
      subst h0
      rw [this] at hR hE ⊢
      exact lower_zero s n hR hE
    have g1 : (FloatKind.f64.format.order (st x n).2 4607182418800017408 != some .eq) = false := by
      rw [e1]; decide +kernel
    have g2 : (FloatKind.f64.format.order x 0 == some .eq) = true := by
      rw [HX.out, h0]; cases s <;> decide +kernel
    clear p1 p2 p3 hR hE e1 h0
    go_wp2_with fail
    refine (isNaN_no s a ha x HX.out _).mono ?_
    rintro e w' ⟨rfl, rfl⟩
    go_wp2_with fail
    go_ret
    exact ⟨rfl, Grown.refl _⟩
  · have g2 : (FloatKind.f64.format.order x 0 == some .eq) = false := by
      rw [HX.out]; exact not_zero s a ha h0
    clear p1 p2 p3 hR hE h0
    go_wp2_with fail
    refine (isNaN_no s a ha x HX.out _).mono ?_
    rintro e w' ⟨rfl, rfl⟩
    go_wp2_with fail
    go_ret
    exact ⟨rfl, Grown.refl _⟩

theorem lower_walk (x : Nat) (hx : (Lit.float .f64 x).wf = true) (w : World) :
    Calls Yba.prog 5 #[.float .f64 x] w fun e w' => e = .returned (.bool true) ∧ Grown w w' := by
  obtain ⟨s, a, e, ha⟩ := word_of x (by simpa [Lit.wf] using hx)
  by_cases c : a ≤ Ieee.double.infRung
  · exact lower_num s a c x e w
  · refine lower_nan x ?_ w
    rw [e]; exact isN_of s a (by omega) ha
end Go.Proofs.Ybulkargg
