/-
  'board.LawS2138ATable' walked: true. Four points, either sign: the kernel reckons the sums.
-/
import Derived.Test.YbulkarggAEvenWalk
import Derived.Laws.BitsAllLaws
namespace Go.Proofs.Ybulkargg
open Go.ChangeShapes Go.WideShapes Go.ChangeAt Go.RowKit
open Fl
set_option exponentiation.threshold 4000

theorem aref (i : Int) (x v : Nat) (h : (i = 0 ∧ x = 4607182418800017408 ∧ v = 4608380672987917357) ∨ (i = 1 ∧ x = 4611686018427387904 ∧ v = 4612315588559097394) ∨ (i = 2 ∧ x = 4617315517961601024 ∧ v = 4628360559969279211) ∨ (i = 3 ∧ x = 4621819117588971520 ∧ v = 4658410241420764131)) (w : World) :
    Calls Yba.prog 8 #[.int .i64 i] w fun e w' => e = .returned (.tuple #[.float .f64 x, .float .f64 v]) ∧ w' = w := by
  rcases h with ⟨rfl, rfl, rfl⟩ | ⟨rfl, rfl, rfl⟩ | ⟨rfl, rfl, rfl⟩ | ⟨rfl, rfl, rfl⟩
  all_goals
    go_enter Yba.func8, Yba.ntmps8
    go_wp2
    go_ret2
    exact ⟨rfl, rfl⟩

theorem f64from (n : Nat) (w : World) : (callFunc 15 #[.int .u64 (n : Int)]).run Yba.prog w = .ok (.value (.float .f64 n)) w := by
  rw [run_callFunc_extern (e := Extern.MathFloatBits.float64frombits) Yba.func15 (by kernel_rfl) (by kernel_rfl) (by kernel_rfl) (by kernel_rfl)]
  rfl

theorem abs_bits (b : Nat) (h : b < 18446744073709551616) : bits .andNot .u64 (b : Int) 9223372036854775808 = ((b % 9223372036854775808 : Nat) : Int) := by
  have e := u64_andNot_nat b 9223372036854775808 h (by omega)
  rw [show ((9223372036854775808 : Nat) : Int) = 9223372036854775808 from rfl] at e
  rw [e]
  have e2 : 18446744073709551615 - 9223372036854775808 = 2 ^ 63 - 1 := rfl
  rw [e2, Nat.and_two_pow_sub_one_eq_mod]

theorem abs_any (b : Nat) (h : b < 18446744073709551616) (w : World) :
    Calls Yba.prog 10 #[.float .f64 b] w fun e w' => e = .returned (.float .f64 (b % 9223372036854775808)) ∧ w' = w := by
  have fb := f64bits
  have e : bits .andNot .u64 (b : Int) 9223372036854775808 = (b : Int) % 9223372036854775808 := (abs_bits b h).trans (by omega)
  have ff : ∀ w, (callFunc 15 #[.int .u64 ((b : Int) % 9223372036854775808)]).run Yba.prog w = .ok (.value (.float .f64 (b % 9223372036854775808))) w := fun w => by
    have h := f64from (b % 9223372036854775808) w
    rw [show ((b % 9223372036854775808 : Nat) : Int) = (b : Int) % 9223372036854775808 by omega] at h
    exact h
  go_enter Yba.func10, Yba.ntmps10
  go_wp2
  go_ret
  exact ⟨rfl, rfl⟩

/-- What besselI0 gives at a point, found by the kernel: left at round n, with the sum g. -/
theorem at_point (s : Bool) (a : Nat) (ha : a ≤ Ieee.double.infRung) (n g : Nat) (hR : Fl.Reach (Ieee.double.word s a) n) (hE : testB (st (Ieee.double.word s a) n) = false) (hg : (st (Ieee.double.word s a) n).2 = g) (x : Nat) (hx : x = Ieee.double.word s a) (w : World) :
    Calls Yba.prog 9 #[.float .f64 x] w fun e w' => e = .returned (.float .f64 g) ∧ w' = w := by
  refine (bessel_num s a ha x hx w).mono ?_
  rintro e w' ⟨⟨m, rfl, h1, h2⟩, rfl⟩
  refine ⟨?_, rfl⟩
  subst hx
  have e : m = n := leave_unique (f := fun k => testB (st (Ieee.double.word s a) k)) (g := fun k => testB (st (Ieee.double.word s a) k)) (fun _ _ _ => rfl) h1 h2 hR hE
  subst e
  rw [hg]

def reachB (x n : Nat) : Bool := (List.range n).all fun m => testB (st x m)
theorem reach_of {x n : Nat} (h : reachB x n = true) : Fl.Reach x n := by
  intro m hm
  unfold reachB at h
  rw [List.all_eq_true] at h
  exact h m (List.mem_range.2 hm)

theorem p0 (s : Bool) (x : Nat) (hx : x = Ieee.double.word s 4607182418800017408) (w : World) : Calls Yba.prog 9 #[.float .f64 x] w fun e w' => e = .returned (.float .f64 4608380672987917356) ∧ w' = w :=
  at_point s 4607182418800017408 (by decide +kernel) 10 _ (reach_of (by cases s <;> decide +kernel)) (by cases s <;> decide +kernel) (by cases s <;> decide +kernel) x hx w
theorem p1 (s : Bool) (x : Nat) (hx : x = Ieee.double.word s 4611686018427387904) (w : World) : Calls Yba.prog 9 #[.float .f64 x] w fun e w' => e = .returned (.float .f64 4612315588559097393) ∧ w' = w :=
  at_point s 4611686018427387904 (by decide +kernel) 12 _ (reach_of (by cases s <;> decide +kernel)) (by cases s <;> decide +kernel) (by cases s <;> decide +kernel) x hx w
theorem p2 (s : Bool) (x : Nat) (hx : x = Ieee.double.word s 4617315517961601024) (w : World) : Calls Yba.prog 9 #[.float .f64 x] w fun e w' => e = .returned (.float .f64 4628360559969279213) ∧ w' = w :=
  at_point s 4617315517961601024 (by decide +kernel) 17 _ (reach_of (by cases s <;> decide +kernel)) (by cases s <;> decide +kernel) (by cases s <;> decide +kernel) x hx w
theorem p3 (s : Bool) (x : Nat) (hx : x = Ieee.double.word s 4621819117588971520) (w : World) : Calls Yba.prog 9 #[.float .f64 x] w fun e w' => e = .returned (.float .f64 4658410241420764133) ∧ w' = w :=
  at_point s 4621819117588971520 (by decide +kernel) 24 _ (reach_of (by cases s <;> decide +kernel)) (by cases s <;> decide +kernel) (by cases s <;> decide +kernel) x hx w

/-- The law at one point: x, the table's v, the sum g, their difference d, the bound m. -/
theorem table_at (a0 : Int) (h0 : 0 ≤ a0) (h1 : a0 ≤ 255) (neg : Bool) (i : Int) (hi : a0 % 4 = i) (x v g d m : Nat)
    (href : ∀ w, Calls Yba.prog 8 #[.int .i64 i] w fun e w' => e = .returned (.tuple #[.float .f64 x, .float .f64 v]) ∧ w' = w)
    (hneg : Op.negFloat .f64 x = Ieee.double.word true x)
    (hp : ∀ s y, y = Ieee.double.word s x → ∀ w, Calls Yba.prog 9 #[.float .f64 y] w fun e w' => e = .returned (.float .f64 g) ∧ w' = w)
    (hd : Ieee.double.sub g v = some d) (hd2 : d < 18446744073709551616) (hm : Ieee.double.mul 4427486594234968593 v = some m)
    (hle : (FloatKind.f64.format.order (d % 9223372036854775808) m == some .lt || FloatKind.f64.format.order (d % 9223372036854775808) m == some .eq) = true) (w : World) :
    Calls Yba.prog 3 #[.int .u8 a0, .bool neg] w fun e w' => e = .returned (.bool true) ∧ Grown w w' := by
  have f1 : ∀ t w, (binOp .sub t (.float .f64 g) (.float .f64 v)).run Yba.prog w = .ok (.float .f64 d) w := fun t w => run_float_arith w .sub t .f64 _ _ _ hd
  have f2 : ∀ t w, (binOp .mul t (.float .f64 4427486594234968593) (.float .f64 v)).run Yba.prog w = .ok (.float .f64 m) w := fun t w => run_float_arith w .mul t .f64 _ _ _ hm
  have fn : ∀ w, (Op.unary .neg (.float .f64 x)).run Yba.prog w = .ok (.float .f64 (Ieee.double.word true x)) w := fun w => by rw [← hneg]; rfl
  have Hi : Hid (a0 % 4 = i) := hi
  have Href : Hid (∀ w, Calls Yba.prog 8 #[.int .i64 i] w fun e w' => e = .returned (.tuple #[.float .f64 x, .float .f64 v]) ∧ w' = w) := href
  have Hp : Hid (∀ s y, y = Ieee.double.word s x → ∀ w, Calls Yba.prog 9 #[.float .f64 y] w fun e w' => e = .returned (.float .f64 g) ∧ w' = w) := hp
  clear hi href hp hd hm hneg
  cases neg
  · go_enter Yba.func3, Yba.ntmps3
    go_wp2_with fail
    rw [Hi.out]
    refine (Href.out _).mono ?_
    rintro e w' ⟨rfl, rfl⟩
    go_wp2_with fail
    refine (Hp.out false x rfl _).mono ?_
    rintro e w' ⟨rfl, rfl⟩
    go_wp2_with fail
    refine (abs_any d hd2 _).mono ?_
    rintro e w' ⟨rfl, rfl⟩
    go_wp2_with fail
    go_ret
    exact ⟨rfl, Grown.refl _⟩
  · go_enter Yba.func3, Yba.ntmps3
    go_wp2_with fail
    rw [Hi.out]
    refine (Href.out _).mono ?_
    rintro e w' ⟨rfl, rfl⟩
    go_wp2_with fail
    refine (Hp.out true _ rfl _).mono ?_
    rintro e w' ⟨rfl, rfl⟩
    go_wp2_with fail
    refine (abs_any d hd2 _).mono ?_
    rintro e w' ⟨rfl, rfl⟩
    go_wp2_with fail
    go_ret
    exact ⟨rfl, Grown.refl _⟩

theorem lawS2138ATable.walk (a0 : Int) (a1 : Bool) (w0 : (Lit.int .u8 a0).wf = true) (w : World) :
    Calls Yba.prog 3 #[.int .u8 a0, .bool a1] w fun e w' => e = .returned (.bool true) ∧ Grown w w' := by
  have hb : 0 ≤ a0 ∧ a0 ≤ 255 := by simpa [Lit.wf, IntKind.min, IntKind.max, IntKind.bits, IntKind.signed] using w0
  obtain ⟨hb0, hb1⟩ := hb
  rcases (show a0 % 4 = 0 ∨ a0 % 4 = 1 ∨ a0 % 4 = 2 ∨ a0 % 4 = 3 by omega) with h | h | h | h
  · exact table_at a0 hb0 hb1 a1 0 h 4607182418800017408 4608380672987917357 4608380672987917356 13596367275031527424 4428804088647595875 (aref 0 _ _ (by simp)) (by decide +kernel) (fun s y hy => p0 s y hy) (by decide +kernel) (by decide) (by decide +kernel) (by decide +kernel) w
  · exact table_at a0 hb0 hb1 a1 1 h 4611686018427387904 4612315588559097394 4612315588559097393 13600870874658897920 4432682413542654141 (aref 1 _ _ (by simp)) (by decide +kernel) (fun s y hy => p1 s y hy) (by decide +kernel) (by decide) (by decide +kernel) (by decide +kernel) w
  · exact table_at a0 hb0 hb1 a1 2 h 4617315517961601024 4628360559969279211 4628360559969279213 4395513236313604096 4448979564586169457 (aref 2 _ _ (by simp)) (by decide +kernel) (fun s y hy => p2 s y hy) (by decide +kernel) (by decide) (by decide +kernel) (by decide +kernel) w
  · exact table_at a0 hb0 hb1 a1 3 h 4621819117588971520 4658410241420764131 4658410241420764133 4427038433705197568 4478882415044644741 (aref 3 _ _ (by simp)) (by decide +kernel) (fun s y hy => p3 s y hy) (by decide +kernel) (by decide) (by decide +kernel) (by decide +kernel) w
end Go.Proofs.Ybulkargg
