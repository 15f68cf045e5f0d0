/- Calls of methods in this program. -/
import Derived.Test.YtkpadembffdepaaGreatDoorGb
namespace Go.Eng
open Go Go.Proofs Go.Infl
section
variable {P : Program} {G w : World} {ρ : Env} {n : Nat} {L R : List HProp} {v : Value} {d : Option Tmp} {ty : TypeId} {pos : String} {af : Array Edge} {g : Option (Nat × Bool)}
theorem r_mkm {x : Operand} {name : String} (h : OV ρ x v) : Run P G ρ n L ⟨d, .makeFunc (.method name) #[x] #[], ty, pos, af, g⟩ (.func (.method name) #[v] #[]) := fun w a _ ha => by
  simp [execOp, Instr.makeFunc, h.eval ha, Sem.run]
theorem r_nilm {x : Operand} {name : String} {t : TypeId} {u : Value} (h : OV ρ x (.func (.method name) #[.iface t u] #[])) (hn : ∀ w, (nilAhead (P.types.size + Made.depth) t u name).run P w = .ok (some false) w) :
    Run P G ρ n L ⟨d, .nilCheck x, ty, pos, af, g⟩ (.func (.method name) #[.iface t u] #[]) := fun w a _ ha => by
  have hp : program.run P w = .ok P w := rfl
  simp [execOp, h.eval ha, hp, hn]
end
theorem mt_49_Read (p : Nat) (w : World) : (method (Tryz.prog.types.size + Made.depth) 49 (.pointer (some ⟨p, 0, none⟩)) "Read").run Tryz.prog w = .ok (146, .pointer (some ⟨p, 0, none⟩)) w := by kernel_rfl
theorem mt_49_ReadByte (p : Nat) (w : World) : (method (Tryz.prog.types.size + Made.depth) 49 (.pointer (some ⟨p, 0, none⟩)) "ReadByte").run Tryz.prog w = .ok (147, .pointer (some ⟨p, 0, none⟩)) w := by kernel_rfl
theorem mt_107_Read (p : Nat) (w : World) : (method (Tryz.prog.types.size + Made.depth) 107 (.pointer (some ⟨p, 0, none⟩)) "Read").run Tryz.prog w = .ok (154, .pointer (some ⟨p, 0, none⟩)) w := by kernel_rfl
theorem na_49_Read (p : Nat) (w : World) : (nilAhead (Tryz.prog.types.size + Made.depth) 49 (.pointer (some ⟨p, 0, none⟩)) "Read").run Tryz.prog w = .ok (some false) w := by kernel_rfl
end Go.Eng
