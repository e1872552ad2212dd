/-
  No cell of these rows narrows 'for every input' (looked for: loops, veiled, ifaces, maps, wideKeys, modest, calm, conditions, laid).
  DERIVED. THE GIVEN ROWS OF THIS SEAT. 5 by the template 'for every input the law returns true; each argument reads behind the call as it read before'; 0 by the template 'total and deterministic' (their statements: YbulkarggTotals.lean).
  GIVEN WITH THE SEED: the statements are not yours to turn. If you find one false, say at which input.
  Laid BY PROGRAM, IN A SANDBOX (cutbox-rows.mjs): the forced cells as the released guide's own fill.sh prints them over the translation 0cc25c6ad3476efd… (all of the seat's roots in one cut). By AI agents, Wed Nov 11 2026. No macro, syntax, notation, axiom, sorry.
-/
import Derived.Test.YbulkarggChecked
import GoSem.Claim
import GoSem.ClaimJoined
import GoSem.ClaimMapViews
import Derived.JoinedTies
import Derived.KernelRfl
namespace Go.Proofs.Ybulkargg
/- THE CELL 'sum', in the pinned program and in every row, IS THE sha256 OF THE DUMP (.gsa) THAT YbulkarggProg.lean LOADS. Nothing in Lean hashes anything: it is a label: what it is worth is what the hold of that sum in a sandbox is worth. -/
noncomputable def Yba.pinned : Pinned := { name := "ybulkargg", sum := "0cc25c6ad3476efdcb61dc61e5e47386288023ee53b16d1aa16fa8a4a5c2d67a", checked := Yba.checked }
namespace Rows
def none {H : Type} : Left H := { results := [], args := [] }

/-- 'board.LawS2138ATable': WHATEVER THE INPUT: true; the input reads as it did. -/
def lawS2138ATableSpec : ChangeSpec := { name := "lawS2138ATable", fn := fun _ => fun
  | [d1, d2] => { results := [.lit (.bool true)], args := [d1, d2] }
  | _ => none }
def lawS2138ATableRow : OpenClaim := { program := "ybulkargg", sum := "0cc25c6ad3476efdcb61dc61e5e47386288023ee53b16d1aa16fa8a4a5c2d67a", func := "example.com/ladderline/ladderline/board.LawS2138ATable", spec := "lawS2138ATable", inPlace := ["math.Float64bits", "math.Float64frombits"], apart := false }
def LawS2138ATableSaid : Prop := lawS2138ATableRow.holds Yba.pinned (OpenSpec.ofChange lawS2138ATableSpec)

/-- ITS FALSE NEIGHBOUR: 'it returns false'. Refute it at one input. -/
def lawS2138ATableWrong : ChangeSpec := { name := "lawS2138ATable", fn := fun _ => fun
  | [d1, d2] => { results := [.lit (.bool false)], args := [d1, d2] }
  | _ => none }
def LawS2138ATableWrongFalsely : Prop := lawS2138ATableRow.holds Yba.pinned (OpenSpec.ofChange lawS2138ATableWrong)

/-- 'board.LawS2138AEven': WHATEVER THE INPUT: true; the input reads as it did. -/
def lawS2138AEvenSpec : ChangeSpec := { name := "lawS2138AEven", fn := fun _ => fun
  | [d] => { results := [.lit (.bool true)], args := [d] }
  | _ => none }
def lawS2138AEvenRow : OpenClaim := { program := "ybulkargg", sum := "0cc25c6ad3476efdcb61dc61e5e47386288023ee53b16d1aa16fa8a4a5c2d67a", func := "example.com/ladderline/ladderline/board.LawS2138AEven", spec := "lawS2138AEven", inPlace := ["math.Float64bits"], apart := false }
def LawS2138AEvenSaid : Prop := lawS2138AEvenRow.holds Yba.pinned (OpenSpec.ofChange lawS2138AEvenSpec)

/-- ITS FALSE NEIGHBOUR: 'it returns false'. Refute it at one input. -/
def lawS2138AEvenWrong : ChangeSpec := { name := "lawS2138AEven", fn := fun _ => fun
  | [d] => { results := [.lit (.bool false)], args := [d] }
  | _ => none }
def LawS2138AEvenWrongFalsely : Prop := lawS2138AEvenRow.holds Yba.pinned (OpenSpec.ofChange lawS2138AEvenWrong)

/-- 'board.LawS2138ALower': WHATEVER THE INPUT: true; the input reads as it did. -/
def lawS2138ALowerSpec : ChangeSpec := { name := "lawS2138ALower", fn := fun _ => fun
  | [d] => { results := [.lit (.bool true)], args := [d] }
  | _ => none }
def lawS2138ALowerRow : OpenClaim := { program := "ybulkargg", sum := "0cc25c6ad3476efdcb61dc61e5e47386288023ee53b16d1aa16fa8a4a5c2d67a", func := "example.com/ladderline/ladderline/board.LawS2138ALower", spec := "lawS2138ALower", apart := false }
def LawS2138ALowerSaid : Prop := lawS2138ALowerRow.holds Yba.pinned (OpenSpec.ofChange lawS2138ALowerSpec)

/-- ITS FALSE NEIGHBOUR: 'it returns false'. Refute it at one input. -/
def lawS2138ALowerWrong : ChangeSpec := { name := "lawS2138ALower", fn := fun _ => fun
  | [d] => { results := [.lit (.bool false)], args := [d] }
  | _ => none }
def LawS2138ALowerWrongFalsely : Prop := lawS2138ALowerRow.holds Yba.pinned (OpenSpec.ofChange lawS2138ALowerWrong)

/-- 'ym2612.LawS2138BExact': WHATEVER THE INPUT: true; the input reads as it did. -/
def lawS2138BExactSpec : ChangeSpec := { name := "lawS2138BExact", fn := fun _ => fun
  | [d1, d2] => { results := [.lit (.bool true)], args := [d1, d2] }
  | _ => none }
def lawS2138BExactRow : OpenClaim := { program := "ybulkargg", sum := "0cc25c6ad3476efdcb61dc61e5e47386288023ee53b16d1aa16fa8a4a5c2d67a", func := "example.com/ladderline/ladderline/ym2612.LawS2138BExact", spec := "lawS2138BExact", apart := false }
def LawS2138BExactSaid : Prop := lawS2138BExactRow.holds Yba.pinned (OpenSpec.ofChange lawS2138BExactSpec)

/-- ITS FALSE NEIGHBOUR: 'it returns false'. Refute it at one input. -/
def lawS2138BExactWrong : ChangeSpec := { name := "lawS2138BExact", fn := fun _ => fun
  | [d1, d2] => { results := [.lit (.bool false)], args := [d1, d2] }
  | _ => none }
def LawS2138BExactWrongFalsely : Prop := lawS2138BExactRow.holds Yba.pinned (OpenSpec.ofChange lawS2138BExactWrong)

/-- 'ym2612.LawS2138BTwice': WHATEVER THE INPUT: true; the input reads as it did. -/
def lawS2138BTwiceSpec : ChangeSpec := { name := "lawS2138BTwice", fn := fun _ => fun
  | [d] => { results := [.lit (.bool true)], args := [d] }
  | _ => none }
def lawS2138BTwiceRow : OpenClaim := { program := "ybulkargg", sum := "0cc25c6ad3476efdcb61dc61e5e47386288023ee53b16d1aa16fa8a4a5c2d67a", func := "example.com/ladderline/ladderline/ym2612.LawS2138BTwice", spec := "lawS2138BTwice", apart := false }
def LawS2138BTwiceSaid : Prop := lawS2138BTwiceRow.holds Yba.pinned (OpenSpec.ofChange lawS2138BTwiceSpec)

/-- ITS FALSE NEIGHBOUR: 'it returns false'. Refute it at one input. -/
def lawS2138BTwiceWrong : ChangeSpec := { name := "lawS2138BTwice", fn := fun _ => fun
  | [d] => { results := [.lit (.bool false)], args := [d] }
  | _ => none }
def LawS2138BTwiceWrongFalsely : Prop := lawS2138BTwiceRow.holds Yba.pinned (OpenSpec.ofChange lawS2138BTwiceWrong)

end Rows
end Go.Proofs.Ybulkargg
