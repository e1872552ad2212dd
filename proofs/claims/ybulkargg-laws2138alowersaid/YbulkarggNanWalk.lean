/-
  'board.besselI0' at a NaN: one round, then it is left; a NaN comes back. 'math.IsNaN'.
-/
import Derived.Test.YbulkarggBesselWalk
import Derived.LoopN
namespace Go.Proofs.Ybulkargg
open Go.ChangeShapes Go.WideShapes Go.ChangeAt Go.RowKit
open Fl

def isN (b : Nat) : Prop := (Ieee.double.read b).isNaN = true

/-- The NaN that the tape gives. -/
def nn (w : World) (x y : Nat) : Nat := (Question.nanBits .f64 x y).cut (w.tape w.drawn (.nanBits .f64 x y))

theorem isN_of (s : Bool) (r : Nat) (h1 : Ieee.double.infRung < r) (h2 : r < Ieee.double.signWeight) : isN (Ieee.double.word s r) := by
  unfold isN
  rw [read_nan Ieee.double hf s h2 h1]; rfl

theorem nn_isN (w : World) (x y : Nat) : isN (nn w x y) := by
  unfold nn
  generalize w.tape w.drawn (.nanBits .f64 x y) = t
  show isN ((t % 2) * 2 ^ 63 + 0x7ff0000000000000 + 1 + (t / 2) % (2 ^ 52 - 1))
  have h0 := Nat.mod_lt (t / 2) (show 0 < 2 ^ 52 - 1 by decide)
  have e52 : (2 : Nat) ^ 52 - 1 = 4503599627370495 := rfl
  rw [e52] at *
  generalize (t / 2) % 4503599627370495 = r at *
  have h1 : Ieee.double.infRung < 0x7ff0000000000000 + 1 + r := by rw [hinf]; omega
  have h2 : 0x7ff0000000000000 + 1 + r < Ieee.double.signWeight := by rw [hsw]; omega
  rcases (show t % 2 = 0 ∨ t % 2 = 1 by omega) with h | h
  · have e : (t % 2) * 2 ^ 63 + 0x7ff0000000000000 + 1 + r = Ieee.double.word false (0x7ff0000000000000 + 1 + r) := by rw [h, word_false]
    rw [e]; exact isN_of _ _ h1 h2
  · have e : (t % 2) * 2 ^ 63 + 0x7ff0000000000000 + 1 + r = Ieee.double.word true (0x7ff0000000000000 + 1 + r) := by
      show _ = Ieee.double.signWeight + _
      rw [h, hsw]; omega
    rw [e]; exact isN_of _ _ h1 h2

theorem nan_read {b : Nat} (h : isN b) : ∃ s t, Ieee.double.read b = .nan s t := by
  unfold isN at h
  cases hr : Ieee.double.read b <;> simp [hr, Ieee.Datum.isNaN] at h
  exact ⟨_, _, rfl⟩

theorem bits_nan_left (op : BinOp) {x y : Nat} (h : isN x) : floatBits op .f64 x y = none := by
  obtain ⟨s, t, e⟩ := nan_read h
  cases op <;> first | rfl | skip
  all_goals
    simp only [floatBits, FloatKind.format, Ieee.Format.add, Ieee.Format.sub, Ieee.Format.mul, Ieee.Format.div, e]
    first | rfl | (cases Ieee.double.read y <;> rfl)

theorem bits_nan_right (op : BinOp) {x y : Nat} (h : isN y) : floatBits op .f64 x y = none := by
  obtain ⟨s, t, e⟩ := nan_read h
  cases op <;> first | rfl | skip
  all_goals
    simp only [floatBits, FloatKind.format, Ieee.Format.add, Ieee.Format.sub, Ieee.Format.mul, Ieee.Format.div, e]
    first | rfl | (cases Ieee.double.read x <;> rfl)

theorem run_float_nan {P : Program} (w : World) (op : BinOp) (hop : op = .add ∨ op = .sub ∨ op = .mul ∨ op = .quo) (t : TypeId) (x y : Nat) (h : floatBits op .f64 x y = none) : (binOp op t (.float .f64 x) (.float .f64 y)).run P w = .ok (.float .f64 (nn w x y)) w.drew := by
  rcases hop with rfl | rfl | rfl | rfl <;> simp only [floatBits] at h <;> simp [binOp, Op.floatArith, h, nn, Question.forced]

theorem order_nan_l {b y : Nat} (h : isN b) : FloatKind.f64.format.order b y = none := order_nan_left Ieee.double h

theorem isNaN_yes (b : Nat) (h : isN b) (w : World) : Calls Yba.prog 11 #[.float .f64 b] w fun e w' => e = .returned (.bool true) ∧ w' = w := by
  have ho := order_nan_l (y := b) h
  go_enter Yba.func11, Yba.ntmps11
  go_wp2
  go_ret
  exact ⟨rfl, rfl⟩

theorem order_self (s : Bool) (a : Nat) (ha : a ≤ Ieee.double.infRung) : FloatKind.f64.format.order (Ieee.double.word s a) (Ieee.double.word s a) = some .eq := by
  show Ieee.double.order _ _ = _
  unfold Ieee.Format.order
  by_cases c : a < Ieee.double.infRung
  · obtain ⟨m, p, h, _⟩ := read_fin Ieee.double c
    rw [h s]
    simp [Ieee.Datum.order, compare, compareOfLessAndEq]
  · have e : a = Ieee.double.infRung := by omega
    subst e
    rw [read_inf Ieee.double hf s]
    simp [Ieee.Datum.order, compare, compareOfLessAndEq]

theorem isNaN_no (s : Bool) (a : Nat) (ha : a ≤ Ieee.double.infRung) (x : Nat) (hx : x = Ieee.double.word s a) (w : World) : Calls Yba.prog 11 #[.float .f64 x] w fun e w' => e = .returned (.bool false) ∧ w' = w := by
  have ho : FloatKind.f64.format.order x x = some .eq := by rw [hx]; exact order_self s a ha
  clear hx
  go_enter Yba.func11, Yba.ntmps11
  go_wp2
  go_ret
  exact ⟨rfl, rfl⟩

set_option maxHeartbeats 1000000 in
theorem bessel_nan (x : Nat) (hx : isN x) (w : World) :
    Calls Yba.prog 9 #[.float .f64 x] w fun e w' => (∃ r, e = .returned (.float .f64 r) ∧ isN r) ∧ w' = w.drew.drew.drew.drew.drew := by
  have f1 : ∀ t w, (binOp .mul t (.float .f64 4607182418800017408) (.float .f64 4352464011485697175)).run Yba.prog w = .ok (.float .f64 (thr one)) w :=
    fun t w => run_float_arith w .mul t .f64 _ _ _ (thr_ok (head0 x)).1
  have ht : (FloatKind.f64.format.order 4607182418800017408 (thr one) == some .gt) = true := by
    show testB (one, one) = true
    decide +kernel
  have f2 : ∀ t w y, (binOp .quo t (.float .f64 x) (.float .f64 y)).run Yba.prog w = .ok (.float .f64 (nn w x y)) w.drew :=
    fun t w y => run_float_nan w .quo (by simp) t _ _ (bits_nan_left _ hx)
  have f3 : ∀ t w v a b y, (binOp .mul t (.float .f64 (nn v a b)) (.float .f64 y)).run Yba.prog w = .ok (.float .f64 (nn w (nn v a b) y)) w.drew :=
    fun t w v a b y => run_float_nan w .mul (by simp) t _ _ (bits_nan_left _ (nn_isN _ _ _))
  have f4 : ∀ t w v a b y, (binOp .mul t (.float .f64 y) (.float .f64 (nn v a b))).run Yba.prog w = .ok (.float .f64 (nn w y (nn v a b))) w.drew :=
    fun t w v a b y => run_float_nan w .mul (by simp) t _ _ (bits_nan_right _ (nn_isN _ _ _))
  have f5 : ∀ t w v a b y, (binOp .add t (.float .f64 y) (.float .f64 (nn v a b))).run Yba.prog w = .ok (.float .f64 (nn w y (nn v a b))) w.drew :=
    fun t w v a b y => run_float_nan w .add (by simp) t _ _ (bits_nan_right _ (nn_isN _ _ _))
  have f6 : ∀ v a b y, FloatKind.f64.format.order (nn v a b) y = none := fun v a b y => order_nan_l (nn_isN _ _ _)
  have hx : Hid (isN x) := hx
  go_enter Yba.func9, Yba.ntmps9
  go_wp2
  refine wp_loop_rounds 2 ?_
  repeat any_goals (rw [rounds_succ]; go_wp2)
  go_ret
  exact ⟨⟨_, rfl, nn_isN _ _ _⟩, rfl⟩
end Go.Proofs.Ybulkargg
