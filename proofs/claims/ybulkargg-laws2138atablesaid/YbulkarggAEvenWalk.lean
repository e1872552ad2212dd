/-
  'board.LawS2138AEven' walked: true.
-/
import Derived.Test.YbulkarggALowerWalk
import Derived.Laws.Externs
namespace Go.Proofs.Ybulkargg
open Go.ChangeShapes Go.WideShapes Go.ChangeAt Go.RowKit
open Fl
set_option exponentiation.threshold 4000

theorem xor_top (a : Nat) (h : a < 2 ^ 63) : a ^^^ 2 ^ 63 = 2 ^ 63 + a := by
  apply Nat.eq_of_testBit_eq
  intro i
  rw [Nat.testBit_xor, Nat.testBit_two_pow]
  rcases Nat.lt_trichotomy i 63 with c | c | c
  · have e : decide (63 = i) = false := by simp; omega
    rw [Nat.testBit_two_pow_add_gt c, e]; simp
  · subst c
    have e := Nat.testBit_lt_two_pow h
    rw [Nat.testBit_two_pow_add_eq, e]; rfl
  · have e1 : a < 2 ^ i := Nat.lt_of_lt_of_le h (Nat.pow_le_pow_right (by omega) (by omega))
    have e2 : 2 ^ 63 + a < 2 ^ i := by
      have : 2 ^ 64 ≤ 2 ^ i := Nat.pow_le_pow_right (by omega) (by omega)
      have e : (2 : Nat) ^ 64 = 2 ^ 63 + 2 ^ 63 := rfl
      omega
    have e : decide (63 = i) = false := by simp; omega
    rw [Nat.testBit_lt_two_pow e1, Nat.testBit_lt_two_pow e2, e]; rfl

theorem neg_word (s : Bool) (a : Nat) (h : a < Ieee.double.signWeight) : Op.negFloat .f64 (Ieee.double.word s a) = Ieee.double.word (!s) a := by
  have hs : Ieee.double.signWeight = 2 ^ 63 := rfl
  rw [hs] at h
  show Ieee.double.word s a ^^^ 2 ^ 63 = _
  cases s
  · show a ^^^ 2 ^ 63 = 2 ^ 63 + a
    exact xor_top a h
  · show (2 ^ 63 + a) ^^^ 2 ^ 63 = a
    rw [← xor_top a h, Nat.xor_assoc, Nat.xor_self, Nat.xor_zero]

theorem f64bits (b : Nat) (w : World) : (callFunc 12 #[.float .f64 b]).run Yba.prog w = .ok (.value (.int .u64 (b : Int))) w := by
  rw [run_callFunc_extern (e := Extern.MathFloatBits.float64bits) Yba.func12 (by kernel_rfl) (by kernel_rfl) (by kernel_rfl) (by kernel_rfl)]
  rfl

theorem even_nan (x : Nat) (hx : isN x) (y : Nat) (hy : isN y) (hneg : Op.negFloat .f64 x = y) (w : World) :
    Calls Yba.prog 4 #[.float .f64 x] w fun e w' => e = .returned (.bool true) ∧ Grown w w' := by
  have hx' : Hid (isN x) := hx
  have hy' : Hid (isN y) := hy
  have fn : ∀ w, (Op.unary .neg (.float .f64 x)).run Yba.prog w = .ok (.float .f64 y) w := fun w => by subst hneg; rfl
  clear hx hy hneg
  go_enter Yba.func4, Yba.ntmps4
  go_wp2_with fail
  refine (bessel_nan x hx'.out _).mono ?_
  rintro e w' ⟨⟨r, rfl, hr⟩, rfl⟩
  have hr' : Hid (isN r) := hr
  clear hr
  go_wp2_with fail
  refine (bessel_nan y hy'.out _).mono ?_
  rintro e w' ⟨⟨q, rfl, hq⟩, rfl⟩
  have hq' : Hid (isN q) := hq
  clear hq
  go_wp2_with fail
  refine (isNaN_yes x hx'.out _).mono ?_
  rintro e w' ⟨rfl, rfl⟩
  go_wp2_with fail
  refine (isNaN_yes r hr'.out _).mono ?_
  rintro e w' ⟨rfl, rfl⟩
  go_wp2_with fail
  refine (isNaN_yes q hq'.out _).mono ?_
  rintro e w' ⟨rfl, rfl⟩
  go_wp2_with fail
  go_ret
  refine ⟨rfl, ?_⟩
  iterate 10 apply Grown.drew
  exact Grown.refl _

/-- Both runs are left at one round, with one sum. -/
theorem even_plain (s t : Bool) (a : Nat) (ha : a ≤ Ieee.double.infRung) (m n : Nat) (h1 : Fl.Reach (Ieee.double.word s a) m) (h2 : testB (st (Ieee.double.word s a) m) = false)
    (h3 : Fl.Reach (Ieee.double.word t a) n) (h4 : testB (st (Ieee.double.word t a) n) = false) : (st (Ieee.double.word s a) m).2 = (st (Ieee.double.word t a) n).2 := by
  have hm := ends s a ha m h1
  have e : m = n := leave_unique (f := fun k => testB (st (Ieee.double.word s a) k)) (g := fun k => testB (st (Ieee.double.word t a) k))
    (fun k hk _ => by show testB _ = testB _; rw [st_sign s t a ha k (by omega)]) h1 h2 h3 h4
  subst e
  rw [st_sign s t a ha m (by omega)]

theorem even_num (s : Bool) (a : Nat) (ha : a ≤ Ieee.double.infRung) (x y : Nat) (hx : x = Ieee.double.word s a) (hy : y = Ieee.double.word (!s) a) (hneg : Op.negFloat .f64 x = y) (w : World) :
    Calls Yba.prog 4 #[.float .f64 x] w fun e w' => e = .returned (.bool true) ∧ Grown w w' := by
  have HX : Hid (x = Ieee.double.word s a) := hx
  have HY : Hid (y = Ieee.double.word (!s) a) := hy
  have fn : ∀ w, (Op.unary .neg (.float .f64 x)).run Yba.prog w = .ok (.float .f64 y) w := fun w => by rw [← hneg]; rfl
  clear hx hy hneg
  go_enter Yba.func4, Yba.ntmps4
  go_wp2_with fail
  refine (bessel_num s a ha x HX.out _).mono ?_
  rintro e w' ⟨⟨n, rfl, hR, hE⟩, rfl⟩
  have HR : Hid (Fl.Reach x n ∧ testB (st x n) = false) := ⟨hR, hE⟩
  clear hR hE
  go_wp2_with fail
  refine (bessel_num (!s) a ha y HY.out _).mono ?_
  rintro e w' ⟨⟨m, rfl, hR, hE⟩, rfl⟩
  have HQ : Hid (Fl.Reach y m ∧ testB (st y m) = false) := ⟨hR, hE⟩
  clear hR hE
  have heq : (st x n).2 = (st y m).2 := by
    have h1 := HR.out
    have h2 := HQ.out
    rw [HX.out] at h1 ⊢
    rw [HY.out] at h2 ⊢
    exact even_plain s (!s) a ha n m h1.1 h1.2 h2.1 h2.2
  rw [heq]
  clear heq
  have fb := f64bits
  go_wp2_with fail
  refine (isNaN_no s a ha x HX.out _).mono ?_
  rintro e w' ⟨rfl, rfl⟩
  go_wp2
  go_ret
  exact ⟨rfl, Grown.refl _⟩

theorem even_walk (x : Nat) (hx : (Lit.float .f64 x).wf = true) (w : World) :
    Calls Yba.prog 4 #[.float .f64 x] w fun e w' => e = .returned (.bool true) ∧ Grown w w' := by
  obtain ⟨s, a, e, ha⟩ := word_of x (by simpa [Lit.wf] using hx)
  by_cases c : a ≤ Ieee.double.infRung
  · exact even_num s a c x (Ieee.double.word (!s) a) e rfl (by rw [e]; exact neg_word s a ha) w
  · refine even_nan x ?_ (Ieee.double.word (!s) a) (isN_of (!s) a (by omega) ha) (by rw [e]; exact neg_word s a ha) w
    rw [e]; exact isN_of s a (by omega) ha
end Go.Proofs.Ybulkargg
