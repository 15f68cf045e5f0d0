/- New memory of Go's decompressor; a type assertion. -/
import Derived.Test.YtkpadembffdepaaGreatDoorGn
namespace Go.Eng
open Go Go.Proofs Go.Infl
set_option maxRecDepth 100000
def Hz (j : Nat) : Value := if j % 515 = 0 then .int .i64 0 else if j % 515 = 513 then .slice none 0 0 else .int .u32 0
def DZ : DS := ⟨.nilIface, .pointer none, 0, 0, 0, Hz, .pointer none, .pointer none, .slice none 0 0, 0, 0, false, 0, 0, 0, 0, .nilFunc, 0, false, .nilIface, .slice none 0 0, .pointer none, .pointer none, 0, 0⟩
theorem cells_of_list {cs : Array Value} {m : Nat} {F : Nat → Value} (h : cs.toList = (List.range m).map F) : cs.size = m ∧ ∀ i, i < m → cs[i]? = some (F i) := by
  have hs : cs.size = m := by rw [← Array.length_toList, h]; simp
  refine ⟨hs, fun i hi => ?_⟩
  rw [← Array.getElem?_toList, h, List.getElem?_map, List.getElem?_range hi]
  rfl
theorem z103 : Tryz.zeroCells103.toList = (List.range 1054).map (D DZ) := by kernel_rfl
theorem z105 : Tryz.zeroCells105.toList = (List.range 316).map (fun _ => .int .i64 0) := by kernel_rfl
theorem z106 : (Value.agg #[.int .i64 0, .int .i64 0, .int .i64 0, .int .i64 0, .int .i64 0, .int .i64 0, .int .i64 0, .int .i64 0, .int .i64 0, .int .i64 0, .int .i64 0, .int .i64 0, .int .i64 0, .int .i64 0, .int .i64 0, .int .i64 0, .int .i64 0, .int .i64 0, .int .i64 0]).cells.toList = (List.range 19).map (fun _ => .int .i64 0) := by kernel_rfl
section
variable {P : Program} {G w : World} {ρ : Env} {n : Nat} {L R : List HProp} {v : Value} {d : Option Tmp} {ty : TypeId} {pos : String} {af : Array Edge} {g : Option (Nat × Bool)}
theorem r_allocz {t m : Nat} {cs : Array Value} {F : Nat → Value} (hz : ∀ w, (zeroValue t).run P w = .ok (.agg cs) w) (h : cs.toList = (List.range m).map F) :
    RunW P G ρ n L ⟨d, .alloc t, ty, pos, af, g⟩ (NewAt G L m F (fun b => .pointer (some ⟨b, 0, none⟩))) := r_alloc hz rfl (cells_of_list h).1 (cells_of_list h).2
theorem r_ta {s t : TypeId} {x : Operand} (hx : OV ρ x v) {u : Value} (h : ∀ w, (Instr.typeAssert v s t true).run P w = .ok u w) : Run P G ρ n L ⟨d, .typeAssert x s t true, ty, pos, af, g⟩ u := fun w a _ ha => by
  simp [execOp, hx.eval ha, h]
end
theorem ta_87 (r : Nat) (w : World) : (Instr.typeAssert (.iface 49 (.pointer (some ⟨r, 0, none⟩))) 80 87 true).run Tryz.prog w = .ok (.tuple #[.iface 49 (.pointer (some ⟨r, 0, none⟩)), .bool true]) w := by kernel_rfl
end Go.Eng
