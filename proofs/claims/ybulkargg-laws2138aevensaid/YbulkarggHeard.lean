/-
  '(*slot).heard' walked once: the level, or its mirror about 512 kept to ten bits.
-/
import Derived.Test.YbulkarggRows
import Derived.WalkKit
import Derived.WalkLawsBesides
import Derived.ProofKit
import Derived.Laws.BitsAllLaws
namespace Go.Proofs.Ybulkargg
open Go.ChangeShapes Go.WideShapes Go.ChangeAt Go.RowKit

theorem and1023 (x : Int) (h0 : 0 ≤ x) (h1 : x < 65536) : bits .and .u16 x 1023 = x % 1024 := by
  rw [u16_and x 1023 h0 h1 (by omega) (by omega)]
  have : (1023 : Int).toNat = 2 ^ 10 - 1 := rfl
  rw [this, Nat.and_two_pow_sub_one_eq_mod]
  omega

theorem u16_wrap (n : Int) : IntKind.u16.wrap n = n % 65536 := by
  simp [IntKind.wrap, IntKind.bits, IntKind.signed]

theorem turned (l : Int) : bits .and .u16 (IntKind.u16.wrap (512 - l)) 1023 = (512 - l) % 1024 := by
  rw [u16_wrap, and1023 _ (by omega) (by omega)]
  omega

theorem ret_int {k : IntKind} {a b : Int} (h : a = b) : Ending.returned (.int k a) = .returned (.int k b) := by rw [h]
theorem ret_bool {a b : Bool} (h : a = b) : Ending.returned (.bool a) = .returned (.bool b) := by rw [h]

theorem heard_yes (b : Nat) (l : Int) (w : World) (h1 : w.cell? ⟨b, 29, none⟩ = some (.bool true)) (h2 : w.cell? ⟨b, 14, none⟩ = some (.int .u16 l)) :
    Calls Yba.prog 13 #[.pointer (some ⟨b, 0, none⟩)] w fun e w' => e = .returned (.int .u16 ((512 - l) % 1024)) ∧ w' = w := by
  go_enter Yba.func13, Yba.ntmps13
  go_wp2
  go_ret
  exact ⟨ret_int (turned l), rfl⟩

theorem heard_no (b : Nat) (l : Int) (w : World) (h1 : w.cell? ⟨b, 29, none⟩ = some (.bool false)) (h2 : w.cell? ⟨b, 14, none⟩ = some (.int .u16 l)) :
    Calls Yba.prog 13 #[.pointer (some ⟨b, 0, none⟩)] w fun e w' => e = .returned (.int .u16 l) ∧ w' = w := by
  go_enter Yba.func13, Yba.ntmps13
  go_wp2
  go_ret
  exact ⟨rfl, rfl⟩
end Go.Proofs.Ybulkargg
