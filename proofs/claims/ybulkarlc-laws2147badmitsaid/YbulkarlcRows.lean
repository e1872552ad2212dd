/-
  No cell of these rows narrows 'for every input' (looked for: loops, veiled, ifaces, maps, wideKeys, modest, calm, conditions, laid).
  DERIVED. THE GIVEN ROWS OF THIS SEAT. 3 by the template 'for every input the law returns true; each argument reads behind the call as it read before'; 0 by the template 'total and deterministic' (their statements: YbulkarlcTotals.lean).
  GIVEN WITH THE SEED: the statements are not yours to turn. If you find one false, say at which input.
  Laid BY PROGRAM, IN A SANDBOX (cutbox-rows.mjs): the forced cells as the released guide's own fill.sh prints them over the translation c43405b5ef568577… (all of the seat's roots in one cut). By AI agents, Wed Nov 11 2026. No macro, syntax, notation, axiom, sorry.
-/
import Derived.Test.YbulkarlcChecked
import GoSem.Claim
import GoSem.ClaimJoined
import GoSem.ClaimMapViews
import Derived.JoinedTies
import Derived.KernelRfl
namespace Go.Proofs.Ybulkarlc
/- THE CELL 'sum', in the pinned program and in every row, IS THE sha256 OF THE DUMP (.gsa) THAT YbulkarlcProg.lean LOADS. Nothing in Lean hashes anything: it is a label: what it is worth is what the hold of that sum in a sandbox is worth. -/
noncomputable def Yba.pinned : Pinned := { name := "ybulkarlc", sum := "c43405b5ef568577a592022e3a5e99e99e15147b3da424073e3bf55ab295be48", checked := Yba.checked }
namespace Rows
def none {H : Type} : Left H := { results := [], args := [] }

/-- 'libgate.LawS2147BAdmit': WHATEVER THE INPUT: true; the input reads as it did. -/
def lawS2147BAdmitSpec : ChangeSpec := { name := "lawS2147BAdmit", fn := fun _ => fun
  | [d1, d2, d3] => { results := [.lit (.bool true)], args := [d1, d2, d3] }
  | _ => none }
def lawS2147BAdmitRow : OpenClaim := { program := "ybulkarlc", sum := "c43405b5ef568577a592022e3a5e99e99e15147b3da424073e3bf55ab295be48", func := "example.com/libgate/libgate.LawS2147BAdmit", spec := "lawS2147BAdmit", inPlace := ["sync/atomic.AddUint64", "(*sync.Cond).Signal", "(*sync.copyChecker).check", "sync.runtime_notifyListNotifyOne"], apart := false }
def LawS2147BAdmitSaid : Prop := lawS2147BAdmitRow.holds Yba.pinned (OpenSpec.ofChange lawS2147BAdmitSpec)

/-- ITS FALSE NEIGHBOUR: 'it returns false'. Refute it at one input. -/
def lawS2147BAdmitWrong : ChangeSpec := { name := "lawS2147BAdmit", fn := fun _ => fun
  | [d1, d2, d3] => { results := [.lit (.bool false)], args := [d1, d2, d3] }
  | _ => none }
def LawS2147BAdmitWrongFalsely : Prop := lawS2147BAdmitRow.holds Yba.pinned (OpenSpec.ofChange lawS2147BAdmitWrong)

/-- 'libgate.LawS2147CClosesReady': WHATEVER THE INPUT: true; the input reads as it did. -/
def lawS2147CClosesReadySpec : ChangeSpec := { name := "lawS2147CClosesReady", fn := fun _ => fun
  | [d1, d2] => { results := [.lit (.bool true)], args := [d1, d2] }
  | _ => none }
def lawS2147CClosesReadyRow : OpenClaim := { program := "ybulkarlc", sum := "c43405b5ef568577a592022e3a5e99e99e15147b3da424073e3bf55ab295be48", func := "example.com/libgate/libgate.LawS2147CClosesReady", spec := "lawS2147CClosesReady", inPlace := ["sync/atomic.AddUint64", "(*sync.Cond).Signal", "(*sync.copyChecker).check", "sync.runtime_notifyListNotifyOne", "sync/atomic.LoadUint64"], apart := false }
def LawS2147CClosesReadySaid : Prop := lawS2147CClosesReadyRow.holds Yba.pinned (OpenSpec.ofChange lawS2147CClosesReadySpec)

/-- ITS FALSE NEIGHBOUR: 'it returns false'. Refute it at one input. -/
def lawS2147CClosesReadyWrong : ChangeSpec := { name := "lawS2147CClosesReady", fn := fun _ => fun
  | [d1, d2] => { results := [.lit (.bool false)], args := [d1, d2] }
  | _ => none }
def LawS2147CClosesReadyWrongFalsely : Prop := lawS2147CClosesReadyRow.holds Yba.pinned (OpenSpec.ofChange lawS2147CClosesReadyWrong)

/-- 'libgate.LawS2147CSignalsCond': WHATEVER THE INPUT: true; the input reads as it did. -/
def lawS2147CSignalsCondSpec : ChangeSpec := { name := "lawS2147CSignalsCond", fn := fun _ => fun
  | [d1, d2, d3] => { results := [.lit (.bool true)], args := [d1, d2, d3] }
  | _ => none }
def lawS2147CSignalsCondRow : OpenClaim := { program := "ybulkarlc", sum := "c43405b5ef568577a592022e3a5e99e99e15147b3da424073e3bf55ab295be48", func := "example.com/libgate/libgate.LawS2147CSignalsCond", spec := "lawS2147CSignalsCond", inPlace := ["sync/atomic.AddUint64", "(*sync.Cond).Signal", "(*sync.copyChecker).check", "sync.runtime_notifyListNotifyOne", "sync/atomic.LoadUint64"], apart := false }
def LawS2147CSignalsCondSaid : Prop := lawS2147CSignalsCondRow.holds Yba.pinned (OpenSpec.ofChange lawS2147CSignalsCondSpec)

/-- ITS FALSE NEIGHBOUR: 'it returns false'. Refute it at one input. -/
def lawS2147CSignalsCondWrong : ChangeSpec := { name := "lawS2147CSignalsCond", fn := fun _ => fun
  | [d1, d2, d3] => { results := [.lit (.bool false)], args := [d1, d2, d3] }
  | _ => none }
def LawS2147CSignalsCondWrongFalsely : Prop := lawS2147CSignalsCondRow.holds Yba.pinned (OpenSpec.ofChange lawS2147CSignalsCondWrong)

end Rows
end Go.Proofs.Ybulkarlc
