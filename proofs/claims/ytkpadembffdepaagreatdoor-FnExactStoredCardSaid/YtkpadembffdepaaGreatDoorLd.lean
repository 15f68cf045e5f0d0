/- A start that fits every row. -/
import Derived.Test.YtkpadembffdepaaGreatDoorLc
namespace Go.Proofs.YtkpadembffdepaaGreatDoor
open Go Go.ChangeShapes Go.WideShapes Go.ChangeAt Go.RowKit Go.Eng
set_option maxRecDepth 100000

/-- The settled world, the listed variables' cells laid. -/
noncomputable def laidWorld (os : Os) : World :=
  let w0 := World.holding Tryz.prog os ⟨#[], #[], []⟩
  { w0 with heap := (((((((w0.heap.modify 0 fun
      | .cells _ t frozen => .cells #[.iface 187 (.pointer (some ⟨12, 0, none⟩))] t frozen
      | o => o).modify 1 fun
      | .cells _ t frozen => .cells #[.iface 187 (.pointer (some ⟨13, 0, none⟩))] t frozen
      | o => o).modify 2 fun
      | .cells _ t frozen => .cells #[.iface 170 (.agg #[.pointer (some ⟨7, 82, none⟩)])] t frozen
      | o => o).modify 3 fun
      | .cells _ t frozen => .cells #[.int .i64 16, .int .i64 17, .int .i64 18, .int .i64 0, .int .i64 8, .int .i64 7, .int .i64 9, .int .i64 6, .int .i64 10, .int .i64 5, .int .i64 11, .int .i64 4, .int .i64 12, .int .i64 3, .int .i64 13, .int .i64 2, .int .i64 14, .int .i64 1, .int .i64 15] t frozen
      | o => o).modify 4 fun
      | .cells _ t frozen => .cells #[.iface 187 (.pointer (some ⟨14, 0, none⟩))] t frozen
      | o => o).push (.cells #[.string ⟨#[69, 79, 70]⟩] 207 (0, 0))).push (.cells #[.string ⟨#[117, 110, 101, 120, 112, 101, 99, 116, 101, 100, 32, 69, 79, 70]⟩] 207 (0, 0))).push (.cells #[.string ⟨#[115, 104, 111, 114, 116, 32, 98, 117, 102, 102, 101, 114]⟩] 207 (0, 0)) }
theorem laid_met (os : Os) : laidMetH Tryz.prog Rows.fnExactStoredRow.laid ((laidWorld os).forCall (fun _ _ => 0) ⟨#[], #[.slice none 0 0], []⟩).memory :=
  laidMetH_of_parts (laidMet_of_run' 8 (by kernel_rfl) (by kernel_rfl)) (by kernel_rfl)
theorem wit_vars (os : Os) : ((laidWorld os).forCall (fun _ _ => 0) ⟨#[], #[.slice none 0 0], []⟩).variablesB Tryz.checked.prog = true := by kernel_rfl
theorem wit_rest (os : Os) : (((laidWorld os).forCall (fun _ _ => 0) ⟨#[], #[.slice none 0 0], []⟩).heap.toList.drop Tryz.checked.prog.globals.size).take ((begin Tryz.checked.prog (fun _ _ => 0) default).world.heap.size - Tryz.checked.prog.globals.size) =
      (begin Tryz.checked.prog (fun _ _ => 0) default).world.heap.toList.drop Tryz.checked.prog.globals.size := by kernel_rfl
theorem reads (os : Os) {H : Type} (enc : TypeId × Value → H) : DataW.whole enc Tryz.prog ((laidWorld os).forCall (fun _ _ => 0) ⟨#[], #[.slice none 0 0], []⟩).memory [22] ["loop.example/pub-inflation/pub/inflate.codeOrder"] false #[Value.slice none 0 0].toList 8 =
    some ([.nil], [Rows.laid_loop_example_pub_inflation_pub_inflate_codeOrder], MemPlace.row ⟨3, 0, none⟩ 19) := by kernel_rfl
end Go.Proofs.YtkpadembffdepaaGreatDoor
