/-
  The scheduler as the law lays it: 4,642 cells, known by their places.
-/
import Derived.Test.YbulkarggFmtSched
namespace Go.Proofs.YbulkarggFmt
open Go.ChangeShapes Go.WideShapes Go.RowKit
set_option maxRecDepth 100000

/-- What the law needs of the literal's cells. -/
structure Laid (clock bankPos free latch : Int) (bc : Nat) (c : Array Value) : Prop where
  built : Ybaf.prog.built 49 [(0, .int .u32 clock), (1, .agg #[.pointer (some ⟨bc, 0, none⟩)]), (3, .int .u64 bankPos), (9, .int .u64 free), (10, .int .i64 latch)] = some c
  size : c.size = 4642
  c0 : c[0]? = some (.int .u32 clock)
  c1 : c[1]? = some (.pointer (some ⟨bc, 0, none⟩))
  c2 : c[2]? = some (.pointer none)
  c3 : c[3]? = some (.int .u64 bankPos)
  run : c[4637]? = some (.slice none 0 0)
  free : c[4638]? = some (.int .u64 free)
  latch : c[4639]? = some (.int .i64 latch)
  out : c[4640]? = some (.slice none 0 0)
  took : c[4641]? = some (.int .i64 0)

theorem laid_ex (clock bankPos free latch : Int) (bc : Nat) : ∃ c, Laid clock bankPos free latch bc c :=
  ⟨(Ybaf.prog.built 49 [(0, .int .u32 clock), (1, .agg #[.pointer (some ⟨bc, 0, none⟩)]), (3, .int .u64 bankPos), (9, .int .u64 free), (10, .int .i64 latch)]).getD #[],
    ⟨by kernel_rfl, by kernel_rfl, by kernel_rfl, by kernel_rfl, by kernel_rfl, by kernel_rfl, by kernel_rfl, by kernel_rfl, by kernel_rfl, by kernel_rfl, by kernel_rfl⟩⟩
end Go.Proofs.YbulkarggFmt
