/-
  The world of the witness where six variables are listed.
-/
import Derived.Test.YtlpdhpfjcfihoaaGreatDoorCKit
namespace Go.Proofs.YtlpdhpfjcfihoaaGreatDoor
open Go.ChangeShapes Go.WideShapes Go.ChangeAt Go.RowKit Go

/-- The value of a variable of one cell. -/
def putVar (v : Value) : Obj → Obj
  | .cells _ t frozen => .cells #[v] t frozen
  | o => o
/-- A world for the witnesses: the settled one, the two errors' structs in blocks of their own, the four numbers. -/
noncomputable def laidWorld2 (os : Os) : World :=
  let N := (World.settled Tryz.prog os).heap.size
  let w0 := World.holding Tryz.prog os ⟨#[.cells #[.string ⟨#[105, 110, 116, 101, 103, 101, 114, 32, 111, 118, 101, 114, 102, 108, 111, 119]⟩] 183, .cells #[.string ⟨#[100, 105, 118, 105, 100, 101, 32, 98, 121, 32, 122, 101, 114, 111]⟩] 183], #[], []⟩
  { w0 with heap := (((((w0.heap.modify 0 (putVar (.iface 181 (.pointer (some ⟨N, 0, none⟩))))).modify 1 (putVar (.iface 181 (.pointer (some ⟨N + 1, 0, none⟩))))).modify 2 (putVar (.int .i64 40))).modify 5 (putVar (.int .i64 40))).modify 3 (putVar (.int .i64 12))).modify 4 (putVar (.int .i64 80)) }
end Go.Proofs.YtlpdhpfjcfihoaaGreatDoor
