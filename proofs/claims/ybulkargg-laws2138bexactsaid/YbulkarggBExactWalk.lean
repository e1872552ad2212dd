/-
  'ym2612.LawS2138BExact' walked: true.
-/
import Derived.Test.YbulkarggHeard
import Derived.Below
import Derived.RowKit3
namespace Go.Proofs.Ybulkargg.lawS2138BExact
open Go.ChangeShapes Go.WideShapes Go.ChangeAt Go.RowKit

theorem model_no (l : Int) (w : World) :
    Calls Yba.prog 14 #[.int .u16 l, .bool false] w fun e w' => e = .returned (.int .u16 l) ∧ w' = w := by
  go_enter Yba.func14, Yba.ntmps14
  go_wp2
  go_ret
  exact ⟨rfl, rfl⟩

theorem tmod_cases (x : Int) : (x.tmod 1024 < 0 → x.tmod 1024 + 1024 = x % 1024) ∧ (0 ≤ x.tmod 1024 → x.tmod 1024 = x % 1024) ∧ -1024 < x.tmod 1024 := by
  rw [Int.tmod_eq_emod]
  by_cases h : 0 ≤ x ∨ (1024 : Int) ∣ x
  · rw [if_pos h]; omega
  · rw [if_neg h]
    have : ((1024 : Int).natAbs : Int) = 1024 := rfl
    rw [this]
    omega

theorem model_low (x : Int) (h : x.tmod 1024 < 0) : IntKind.u16.wrap (wrap64 (x.tmod 1024 + 1024)) = x % 1024 := by
  obtain ⟨h1, _, h3⟩ := tmod_cases x
  have h1 := h1 h
  rw [h1, u16_wrap]
  have : wrap64 (x % 1024) = x % 1024 := by unfold wrap64; omega
  rw [this]; omega

theorem model_high (x : Int) (h : 0 ≤ x.tmod 1024) : IntKind.u16.wrap (x.tmod 1024) = x % 1024 := by
  obtain ⟨_, h2, h3⟩ := tmod_cases x
  have h2 := h2 h
  rw [h2, u16_wrap]; omega

theorem model_yes (l : Int) (h0 : 0 ≤ l) (h1 : l ≤ 65535) (w : World) :
    Calls Yba.prog 14 #[.int .u16 l, .bool true] w fun e w' => e = .returned (.int .u16 ((512 - l) % 1024)) ∧ w' = w := by
  go_enter Yba.func14, Yba.ntmps14
  go_wp2
  all_goals go_ret
  · exact ⟨ret_int (model_low _ ‹_›), rfl⟩
  · exact ⟨ret_int (model_high _ ‹_›), rfl⟩

set_option maxHeartbeats 1000000 in
theorem walk (a0 : Int) (a1 : Bool) (w0 : (Lit.int .u16 a0).wf = true) (w : World) :
    Calls Yba.prog 6 #[.int .u16 a0, .bool a1] w fun e w' => e = .returned (.bool true) ∧ Grown w w' := by
  have hb : 0 ≤ a0 ∧ a0 ≤ 65535 := by simpa [Lit.wf, IntKind.min, IntKind.max, IntKind.bits, IntKind.signed] using w0
  obtain ⟨hb0, hb1⟩ := hb
  cases a1
  · go_enter Yba.func6, Yba.ntmps6
    go_wp2_with fail
    refine (heard_no _ a0 _ (by go_simp) (by go_simp)).mono ?_
    rintro e w' ⟨rfl, rfl⟩
    go_wp2_with fail
    refine (model_no a0 _).mono ?_
    rintro e w' ⟨rfl, rfl⟩
    go_wp2_with fail
    go_ret
    refine ⟨by simp, ?_⟩
    repeat (first | exact Grown.refl _ | apply Grown.drew | apply Grown.alloc)
  · go_enter Yba.func6, Yba.ntmps6
    go_wp2_with fail
    refine (heard_yes _ a0 _ (by go_simp) (by go_simp)).mono ?_
    rintro e w' ⟨rfl, rfl⟩
    go_wp2_with fail
    refine (model_yes a0 hb0 hb1 _).mono ?_
    rintro e w' ⟨rfl, rfl⟩
    go_wp2_with fail
    go_ret
    refine ⟨by simp, ?_⟩
    repeat (first | exact Grown.refl _ | apply Grown.drew | apply Grown.alloc)
end Go.Proofs.Ybulkargg.lawS2138BExact
