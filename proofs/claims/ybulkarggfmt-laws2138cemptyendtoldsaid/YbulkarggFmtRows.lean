/-
  NARROWER THAN 'FOR EVERY INPUT', by the rows' own cells (each row's printed sentence says how): LawS2138CEmptyEnd: ifaces, laid.
  DERIVED. THE GIVEN ROWS OF THIS SEAT. 1 by the template 'for every input the law returns true; each argument reads behind the call as it read before'; 0 by the template 'total and deterministic' (their statements: YbulkarggFmtTotals.lean).
  GIVEN WITH THE SEED: the statements are not yours to turn. If you find one false, say at which input.
  Laid BY PROGRAM, IN A SANDBOX (cutbox-rows.mjs): the forced cells as the released guide's own fill.sh prints them over the translation 3b356c7aab73019a… (all of the seat's roots in one cut). By AI agents, Wed Nov 11 2026. No macro, syntax, notation, axiom, sorry.
-/
import Derived.Test.YbulkarggFmtChecked
import GoSem.Claim
import GoSem.ClaimJoined
import GoSem.ClaimMapViews
import Derived.JoinedTies
import Derived.KernelRfl
namespace Go.Proofs.YbulkarggFmt
/- THE CELL 'sum', in the pinned program and in every row, IS THE sha256 OF THE DUMP (.gsa) THAT YbulkarggFmtProg.lean LOADS. Nothing in Lean hashes anything: it is a label: what it is worth is what the hold of that sum in a sandbox is worth. -/
noncomputable def Ybaf.pinned : Pinned := { name := "ybulkarggfmt", sum := "3b356c7aab73019a65f5551915c84f6b50d58e2368aea98c2175ebb41605c355", checked := Ybaf.checked }
namespace Rows
def none {H : Type} : Left H := { results := [], args := [] }

/- WHAT THE LISTED PACKAGE-LEVEL VARIABLES READ AS WHEN THE CALL BEGINS. Each datum BY PROGRAM (the guide's laid-datum.mjs) off the statement by which the dump's own 'gosem.cut.vars' lays the variable. In a bare row this is a premise. The card (YbulkarggFmtCards.lean) ties it to the program's text. -/
def laid_io_EOF {H : Type} : DataW H := .iface "*errors.errorString" (.ptr (.agg [.lit (.string [69, 79, 70])]))
def laid_example_com_ladderline_ladderline_vgm_errUndefined {H : Type} : DataW H := .iface "*errors.errorString" (.ptr (.agg [.lit (.string [117, 110, 100, 101, 102, 105, 110, 101, 100, 32, 86, 71, 77, 32, 99, 111, 109, 109, 97, 110, 100])]))

/-- 'play.LawS2138CEmptyEnd': WHATEVER THE INPUT: true; the input reads as it did. -/
def lawS2138CEmptyEndSpec : ChangeSpec := { name := "lawS2138CEmptyEnd", vars := ["example.com/ladderline/ladderline/vgm.errUndefined"], fn := fun _ => fun
  | [d1, d2, d3, d4, d5, d6, d7, g1] => { results := [.lit (.bool true)], args := [d1, d2, d3, d4, d5, d6, d7], vars := [g1] }
  | _ => none }
def lawS2138CEmptyEndRow : OpenClaim := { program := "ybulkarggfmt", sum := "3b356c7aab73019a65f5551915c84f6b50d58e2368aea98c2175ebb41605c355", func := "example.com/ladderline/ladderline/play.LawS2138CEmptyEnd", spec := "lawS2138CEmptyEnd", stops := ["fmt.errorf"], inPlace := ["fmt.errorf"], named := ["io.EOF", "example.com/ladderline/ladderline/vgm.errUndefined", "encoding/binary.LittleEndian"], ifaces := true, apart := false, laid := [("io.EOF", laid_io_EOF), ("example.com/ladderline/ladderline/vgm.errUndefined", laid_example_com_ladderline_ladderline_vgm_errUndefined)] }
/-- NO THEOREM (fmt's text is open here; it may be false): for the released tool's asking of the row's closed facts alone. THE STATEMENT IS 'LawS2138CEmptyEndToldSaid' (YbulkarggFmtCards.lean). -/
def LawS2138CEmptyEndFormAsk : Prop := lawS2138CEmptyEndRow.holds Ybaf.pinned (OpenSpec.ofChange lawS2138CEmptyEndSpec)

/-- ITS FALSE NEIGHBOUR: 'it returns false'. Refute it at one input. -/
def lawS2138CEmptyEndWrong : ChangeSpec := { name := "lawS2138CEmptyEnd", vars := ["example.com/ladderline/ladderline/vgm.errUndefined"], fn := fun _ => fun
  | [d1, d2, d3, d4, d5, d6, d7, g1] => { results := [.lit (.bool false)], args := [d1, d2, d3, d4, d5, d6, d7], vars := [g1] }
  | _ => none }
def LawS2138CEmptyEndWrongFormAsk : Prop := lawS2138CEmptyEndRow.holds Ybaf.pinned (OpenSpec.ofChange lawS2138CEmptyEndWrong)

end Rows
end Go.Proofs.YbulkarggFmt
