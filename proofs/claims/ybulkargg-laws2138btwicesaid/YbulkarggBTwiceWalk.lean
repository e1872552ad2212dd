/-
  'ym2612.LawS2138BTwice' walked: true.
-/
import Derived.Test.YbulkarggHeard
import Derived.Below
import Derived.RowKit3
namespace Go.Proofs.Ybulkargg.lawS2138BTwice
open Go.ChangeShapes Go.WideShapes Go.ChangeAt Go.RowKit

set_option maxHeartbeats 1000000 in
theorem walk (a0 : Int) (w0 : (Lit.int .u16 a0).wf = true) (w : World) :
    Calls Yba.prog 7 #[.int .u16 a0] w fun e w' => e = .returned (.bool true) ∧ Grown w w' := by
  have hb : 0 ≤ a0 ∧ a0 ≤ 65535 := by simpa [Lit.wf, IntKind.min, IntKind.max, IntKind.bits, IntKind.signed] using w0
  obtain ⟨hb0, hb1⟩ := hb
  have hh : ¬ 1023 < (512 - a0) % 1024 := by omega
  have hfin : ((512 - (512 - a0)) % 1024 == bits BinOp.and IntKind.u16 a0 1023) = true := by
    rw [and1023 a0 hb0 (by omega)]; simp; omega
  have Hfin : Hid (((512 - (512 - a0)) % 1024 == bits BinOp.and IntKind.u16 a0 1023) = true) := hfin
  clear hfin
  go_enter Yba.func7, Yba.ntmps7
  go_wp2_with fail
  refine (heard_yes _ a0 _ (by go_simp) (by go_simp)).mono ?_
  rintro e w' ⟨rfl, rfl⟩
  go_wp2_with fail
  refine (heard_yes _ ((512 - a0) % 1024) _ (by go_simp) (by go_simp)).mono ?_
  rintro e w' ⟨rfl, rfl⟩
  go_wp2_with fail
  go_ret
  refine ⟨ret_bool Hfin.out, ?_⟩
  repeat (first | exact Grown.refl _ | apply Grown.drew | apply Grown.alloc)
end Go.Proofs.Ybulkargg.lawS2138BTwice
