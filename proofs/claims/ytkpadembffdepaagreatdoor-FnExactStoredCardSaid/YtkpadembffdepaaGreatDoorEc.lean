/- The operations of this seat's walks: what each yields, over the judgements of Eb. -/
import Derived.Test.YtkpadembffdepaaGreatDoorEb
namespace Go.Eng
open Go

section
variable {P : Program} {G : World} {ρ : Env} {n : Nat} {L L' : List HProp} {d : Option Tmp} {ty : TypeId} {pos : String} {af : Array Edge} {g : Option (Nat × Bool)} {v : Value}

theorem r_move {x : Operand} (h : OV ρ x v) : Run P G ρ n L ⟨d, .move x, ty, pos, af, g⟩ v := fun w a _ ha => by
  simp only [execOp, h.eval ha, Sem.run_pure]
theorem r_asg {x : Operand} (h : OV ρ x v) : Run P G ρ n L ⟨d, .assign x, ty, pos, af, g⟩ v := fun w a _ ha => by
  simp only [execOp, h.eval ha, Sem.run_pure]
theorem r_pickt {c x y : Operand} (hc : OV ρ c (.bool true)) (h : OV ρ x v) : Run P G ρ n L ⟨d, .pick c x y, ty, pos, af, g⟩ v := fun w a _ ha => by
  simp [execOp, h.eval ha, hc.eval ha, asBool]
theorem r_pickf {c x y : Operand} (hc : OV ρ c (.bool false)) (h : OV ρ y v) : Run P G ρ n L ⟨d, .pick c x y, ty, pos, af, g⟩ v := fun w a _ ha => by
  simp [execOp, h.eval ha, hc.eval ha, asBool]
theorem r_nil {x : Operand} {p : Addr} (h : OV ρ x (.pointer (some p))) : Run P G ρ n L ⟨d, .nilCheck x, ty, pos, af, g⟩ (.pointer (some p)) := fun w a _ ha => by
  simp [execOp, h.eval ha]
theorem r_nili {x : Operand} {t : TypeId} {u : Value} (h : OV ρ x (.iface t u)) : Run P G ρ n L ⟨d, .nilCheck x, ty, pos, af, g⟩ (.iface t u) := fun w a _ ha => by
  simp [execOp, h.eval ha]

/-- Field f of the struct type s lies k cells behind its begin. -/
def FO (P : Program) (s f k : Nat) : Prop := ∃ fields fld sz, P.underlying s = some (.struct fields) ∧ fields[f]? = some fld ∧ fld.offset = k ∧ (∀ w, (sizeOf fld.type).run P w = .ok sz w) ∧ sz ≠ 0
theorem run_underlying {t : TypeId} {x : TypeDesc} (h : P.underlying t = some x) (w : World) : (underlying t).run P w = .ok x w := by
  simp [underlying, program, Sem.run, h]
theorem add_at (b off k : Nat) : Addr.add ⟨b, off, none⟩ k = ⟨b, off + k, none⟩ := by
  unfold Addr.add
  split
  · rename_i h; subst h; rfl
  · rfl
theorem r_fa {s f k b off off' : Nat} {x : Operand} (hF : FO P s f k) (h : OV ρ x (.pointer (some ⟨b, off, none⟩))) (e : off + k = off' := by rfl) :
    Run P G ρ n L ⟨d, .fieldAddr s x f, ty, pos, af, g⟩ (.pointer (some ⟨b, off', none⟩)) := fun w a _ ha => by
  obtain ⟨fields, fld, sz, h1, h2, h3, h4, h5⟩ := hF
  subst e h3
  simp [execOp, h.eval ha, Instr.fieldAt, run_underlying h1, h2, Instr.sureAddr, fieldPlace, h4, h5, add_at]

theorem r_ldc {t b off : Nat} {x : Operand} (hA : ∀ w, (isAgg t).run P w = .ok false w) (h : OV ρ x (.pointer (some ⟨b, off, none⟩))) (hc : ∀ w, Sat G w L → w.cell? ⟨b, off, none⟩ = some v) :
    Run P G ρ n L ⟨d, .load t x, ty, pos, af, g⟩ v := fun w a hS ha => by
  simp [execOp, h.eval ha, Instr.loadAt, Instr.sureAddr, loadVar, hA, hc w hS]
theorem r_ld {t b off m : Nat} {F : Nat → Value} {x : Operand} (hA : ∀ w, (isAgg t).run P w = .ok false w) (hm : blk b m F ∈ L) (h : OV ρ x (.pointer (some ⟨b, off, none⟩))) (hi : off < m) (hv : F off = v) :
    Run P G ρ n L ⟨d, .load t x, ty, pos, af, g⟩ v := r_ldc hA h fun _ hS => hv ▸ hS.cell hm hi
/-- A struct of three cells. -/
theorem r_ld3 {t b off : Nat} {x : Operand} {c0 c1 c2 : Value} (hA : ∀ w, (isAgg t).run P w = .ok true w) (hs : ∀ w, (sizeOf t).run P w = .ok 3 w) (h : OV ρ x (.pointer (some ⟨b, off, none⟩)))
    (h0 : ∀ w, Sat G w L → w.cell? ⟨b, off, none⟩ = some c0) (h1 : ∀ w, Sat G w L → w.cell? ⟨b, off + 1, none⟩ = some c1) (h2 : ∀ w, Sat G w L → w.cell? ⟨b, off + 2, none⟩ = some c2) :
    Run P G ρ n L ⟨d, .load t x, ty, pos, af, g⟩ (.agg #[c0, c1, c2]) := fun w a hS ha => by
  simp [execOp, h.eval ha, Instr.loadAt, Instr.sureAddr, loadVar, hA, hs, loadCells, loadCellsFrom, add_at, h0 w hS, h1 w hS, h2 w hS]

def one : Value → Bool
  | .agg _ => false
  | .tuple _ => false
  | _ => true
theorem r_stc {t b off m : Nat} {F : Nat → Value} {x y : Operand} (hs : ∀ w, (sizeOf t).run P w = .ok 1 w) (hz : At (blk b m F) (blk b m (upd F off v)) L L') (h : OV ρ x (.pointer (some ⟨b, off, none⟩))) (hy : OV ρ y v) (hi : off < m)
    (hv : one v = true := by rfl) : RunS P G ρ n L ⟨d, .store t x y, ty, pos, af, g⟩ L' := fun w a hS ha => by
  have hc := hS.cell hz.mem hi
  have hf := hS.frozen hz.mem off
  refine ⟨w.setCell ⟨b, off, none⟩ v, ?_, hS.setCell hi hz⟩
  have hcs : v.cells = #[v] := by cases v <;> first | rfl | cases hv
  have e : (storeVar t ⟨b, off, none⟩ v).run P w = .ok () (w.setCell ⟨b, off, none⟩ v) := by
    simp only [storeVar, hcs, Sem.run_bind, hs, Result.andThen_ok]
    simp only [List.size_toArray, List.length_cons, List.length_nil, ne_eq, not_true_eq_false, if_false, storeCells, Nat.zero_add, add_at, Nat.add_zero, store]
    cases v <;> first | (simp [Sem.run, Sem.bind, bind, Pure.pure, hc, hf]; done) | cases hv
  simp only [execOp, h.eval ha, hy.eval ha, Instr.storeAt, Instr.sureAddr, Sem.run_bind, Sem.run_pure, Result.andThen_ok, e]

/-! Integers. -/
theorem r_add {t u : TypeId} {k : IntKind} {x y : Operand} {i j z : Int} (hx : OV ρ x (.int k i)) (hy : OV ρ y (.int k j)) (h : k.wrap (i + j) = z) : Run P G ρ n L ⟨d, .binOp .add t x y u, ty, pos, af, g⟩ (.int k z) := fun w a _ ha => by
  simp [execOp, hx.eval ha, hy.eval ha, eqGuard, binOp, Op.intArith, h]
theorem r_sub {t u : TypeId} {k : IntKind} {x y : Operand} {i j z : Int} (hx : OV ρ x (.int k i)) (hy : OV ρ y (.int k j)) (h : k.wrap (i - j) = z) : Run P G ρ n L ⟨d, .binOp .sub t x y u, ty, pos, af, g⟩ (.int k z) := fun w a _ ha => by
  simp [execOp, hx.eval ha, hy.eval ha, eqGuard, binOp, Op.intArith, h]
theorem r_mul {t u : TypeId} {k : IntKind} {x y : Operand} {i j z : Int} (hx : OV ρ x (.int k i)) (hy : OV ρ y (.int k j)) (h : k.wrap (i * j) = z) : Run P G ρ n L ⟨d, .binOp .mul t x y u, ty, pos, af, g⟩ (.int k z) := fun w a _ ha => by
  simp [execOp, hx.eval ha, hy.eval ha, eqGuard, binOp, Op.intArith, h]
theorem r_quo {t u : TypeId} {k : IntKind} {x y : Operand} {i j z : Int} (hx : OV ρ x (.int k i)) (hy : OV ρ y (.int k j)) (h0 : j ≠ 0) (h : k.wrap (i.tdiv j) = z) : Run P G ρ n L ⟨d, .binOp .quo t x y u, ty, pos, af, g⟩ (.int k z) := fun w a _ ha => by
  simp [execOp, hx.eval ha, hy.eval ha, eqGuard, binOp, Op.intDiv, h, h0]
theorem r_rem {t u : TypeId} {k : IntKind} {x y : Operand} {i j z : Int} (hx : OV ρ x (.int k i)) (hy : OV ρ y (.int k j)) (h0 : j ≠ 0) (h : i.tmod j = z) : Run P G ρ n L ⟨d, .binOp .rem t x y u, ty, pos, af, g⟩ (.int k z) := fun w a _ ha => by
  simp [execOp, hx.eval ha, hy.eval ha, eqGuard, binOp, Op.intDiv, h, h0]
theorem r_shl {t u : TypeId} {k kk : IntKind} {x y : Operand} {i j z : Int} (hx : OV ρ x (.int k i)) (hy : OV ρ y (.int kk j)) (h0 : 0 ≤ j) (h : k.wrap (i * 2 ^ min j.toNat k.bits) = z) : Run P G ρ n L ⟨d, .binOp .shl t x y u, ty, pos, af, g⟩ (.int k z) := fun w a _ ha => by
  simp [execOp, hx.eval ha, hy.eval ha, eqGuard, binOp, Op.shift, h, Int.not_lt.2 h0]
theorem r_shr {t u : TypeId} {k kk : IntKind} {x y : Operand} {i j z : Int} (hx : OV ρ x (.int k i)) (hy : OV ρ y (.int kk j)) (h0 : 0 ≤ j) (h : i.fdiv (2 ^ min j.toNat k.bits) = z) : Run P G ρ n L ⟨d, .binOp .shr t x y u, ty, pos, af, g⟩ (.int k z) := fun w a _ ha => by
  simp [execOp, hx.eval ha, hy.eval ha, eqGuard, binOp, Op.shift, h, Int.not_lt.2 h0]
theorem r_and {t u : TypeId} {k : IntKind} {x y : Operand} {i j z : Int} (hx : OV ρ x (.int k i)) (hy : OV ρ y (.int k j)) (h : k.wrap (BitVec.ofInt k.bits i &&& BitVec.ofInt k.bits j).toNat = z) : Run P G ρ n L ⟨d, .binOp .and t x y u, ty, pos, af, g⟩ (.int k z) := fun w a _ ha => by
  simp [execOp, hx.eval ha, hy.eval ha, eqGuard, binOp, Op.intBits, ← h]
theorem r_or {t u : TypeId} {k : IntKind} {x y : Operand} {i j z : Int} (hx : OV ρ x (.int k i)) (hy : OV ρ y (.int k j)) (h : k.wrap (BitVec.ofInt k.bits i ||| BitVec.ofInt k.bits j).toNat = z) : Run P G ρ n L ⟨d, .binOp .or t x y u, ty, pos, af, g⟩ (.int k z) := fun w a _ ha => by
  simp [execOp, hx.eval ha, hy.eval ha, eqGuard, binOp, Op.intBits, ← h]
theorem r_xor {t u : TypeId} {k : IntKind} {x y : Operand} {i j z : Int} (hx : OV ρ x (.int k i)) (hy : OV ρ y (.int k j)) (h : k.wrap (BitVec.ofInt k.bits i ^^^ BitVec.ofInt k.bits j).toNat = z) : Run P G ρ n L ⟨d, .binOp .xor t x y u, ty, pos, af, g⟩ (.int k z) := fun w a _ ha => by
  simp [execOp, hx.eval ha, hy.eval ha, eqGuard, binOp, Op.intBits, ← h]
theorem r_lss {t u : TypeId} {k : IntKind} {x y : Operand} {i j : Int} (hx : OV ρ x (.int k i)) (hy : OV ρ y (.int k j)) : Run P G ρ n L ⟨d, .binOp .lss t x y u, ty, pos, af, g⟩ (.bool (decide (i < j))) := fun w a _ ha => by
  simp [execOp, hx.eval ha, hy.eval ha, eqGuard, binOp, Op.intCmp]
theorem r_leq {t u : TypeId} {k : IntKind} {x y : Operand} {i j : Int} (hx : OV ρ x (.int k i)) (hy : OV ρ y (.int k j)) : Run P G ρ n L ⟨d, .binOp .leq t x y u, ty, pos, af, g⟩ (.bool (decide (i ≤ j))) := fun w a _ ha => by
  simp [execOp, hx.eval ha, hy.eval ha, eqGuard, binOp, Op.intCmp]
theorem r_gtr {t u : TypeId} {k : IntKind} {x y : Operand} {i j : Int} (hx : OV ρ x (.int k i)) (hy : OV ρ y (.int k j)) : Run P G ρ n L ⟨d, .binOp .gtr t x y u, ty, pos, af, g⟩ (.bool (decide (j < i))) := fun w a _ ha => by
  simp [execOp, hx.eval ha, hy.eval ha, eqGuard, binOp, Op.intCmp]
theorem r_geq {t u : TypeId} {k : IntKind} {x y : Operand} {i j : Int} (hx : OV ρ x (.int k i)) (hy : OV ρ y (.int k j)) : Run P G ρ n L ⟨d, .binOp .geq t x y u, ty, pos, af, g⟩ (.bool (decide (j ≤ i))) := fun w a _ ha => by
  simp [execOp, hx.eval ha, hy.eval ha, eqGuard, binOp, Op.intCmp]
theorem r_eql {t u : TypeId} {k : IntKind} {x y : Operand} {i j : Int} (hx : OV ρ x (.int k i)) (hy : OV ρ y (.int k j)) : Run P G ρ n L ⟨d, .binOp .eql t x y u, ty, pos, af, g⟩ (.bool (decide (i = j))) := fun w a _ ha => by
  simp [execOp, hx.eval ha, hy.eval ha, eqGuard, binOp, Op.intCmp, BEq.beq]
theorem r_neq {t u : TypeId} {k : IntKind} {x y : Operand} {i j : Int} (hx : OV ρ x (.int k i)) (hy : OV ρ y (.int k j)) : Run P G ρ n L ⟨d, .binOp .neq t x y u, ty, pos, af, g⟩ (.bool (decide (¬ i = j))) := fun w a _ ha => by
  simp [execOp, hx.eval ha, hy.eval ha, eqGuard, binOp, Op.intCmp, bne, BEq.beq]
theorem r_not {t : TypeId} {x : Operand} {b : Bool} (hx : OV ρ x (.bool b)) : Run P G ρ n L ⟨d, .unOp .not t x, ty, pos, af, g⟩ (.bool (!b)) := fun w a _ ha => by
  simp [execOp, hx.eval ha, Op.unary]
theorem r_conv {s t : TypeId} {k k' : IntKind} {x : Operand} {i z : Int} (hs : ∃ y, P.underlying s = some y) (ht : P.underlying t = some (.int k)) (hx : OV ρ x (.int k' i)) (h : k.wrap i = z) : Run P G ρ n L ⟨d, .convert s t x, ty, pos, af, g⟩ (.int k z) := fun w a _ ha => by
  obtain ⟨y, hs⟩ := hs
  simp [execOp, hx.eval ha, convert, run_underlying hs, run_underlying ht, Conv.intToInt, h]
/-! Tuples, interfaces. -/
theorem r_ext {x : Operand} {vs : Array Value} {i : Nat} (hx : OV ρ x (.tuple vs)) (h : vs[i]? = some v := by rfl) : Run P G ρ n L ⟨d, .extract x i, ty, pos, af, g⟩ v := fun w a _ ha => by
  simp [execOp, hx.eval ha, Instr.extract, h]
theorem r_mki {t : TypeId} {x : Operand} {y : TypeDesc} (ht : P.underlying t = some y) (hx : OV ρ x v) (hy : (match y with | .interface _ => false | _ => true) = true := by rfl) : Run P G ρ n L ⟨d, .makeInterface t x, ty, pos, af, g⟩ (.iface t v) := fun w a _ ha => by
  cases y <;> first | (simp [execOp, hx.eval ha, Instr.makeInterface, run_underlying ht]; done) | cases hy

/-! Slices. -/
theorem r_len {t : TypeId} {e : TypeId} {af2 : Array TypeId} {x : Operand} {p : Option Addr} {l c : Nat} (ht : P.underlying t = some (.slice e)) (hx : OV ρ x (.slice p l c)) (h : af2 = #[t] := by rfl) :
    Run P G ρ n L ⟨d, .call ⟨.builtin .len, #[x], af2⟩, ty, pos, af, g⟩ (.int .i64 (l : Int)) := fun w a _ ha => by
  subst h
  simp [execOp, hx.eval ha, resolve, invoke, builtin, Builtin.len_, run_underlying ht, goInt]
theorem r_cap {t : TypeId} {e : TypeId} {af2 : Array TypeId} {x : Operand} {p : Option Addr} {l c : Nat} (ht : P.underlying t = some (.slice e)) (hx : OV ρ x (.slice p l c)) (h : af2 = #[t] := by rfl) :
    Run P G ρ n L ⟨d, .call ⟨.builtin .cap, #[x], af2⟩, ty, pos, af, g⟩ (.int .i64 (c : Int)) := fun w a _ ha => by
  subst h
  simp [execOp, hx.eval ha, resolve, invoke, builtin, Builtin.cap_, run_underlying ht, goInt]
theorem r_min {t : Array TypeId} {k : IntKind} {x y : Operand} {i j : Int} (hx : OV ρ x (.int k i)) (hy : OV ρ y (.int k j)) :
    Run P G ρ n L ⟨d, .call ⟨.builtin .min, #[x, y], t⟩, ty, pos, af, g⟩ (.int k (if j < i then j else i)) := fun w a _ ha => by
  simp [execOp, hx.eval ha, hy.eval ha, resolve, invoke, builtin, Builtin.min_, Builtin.min2]
theorem r_max {t : Array TypeId} {k : IntKind} {x y : Operand} {i j : Int} (hx : OV ρ x (.int k i)) (hy : OV ρ y (.int k j)) :
    Run P G ρ n L ⟨d, .call ⟨.builtin .max, #[x, y], t⟩, ty, pos, af, g⟩ (.int k (if i < j then j else i)) := fun w a _ ha => by
  simp [execOp, hx.eval ha, hy.eval ha, resolve, invoke, builtin, Builtin.max_, Builtin.max2]
/-- &x[i] of a slice. 's': an element's cells. -/
theorem r_ia {t e : TypeId} {x y : Operand} {k : IntKind} {b off len c s i off' : Nat} {j : Int} (ht : P.underlying t = some (.slice e)) (hs : ∀ w, (sizeOf e).run P w = .ok s w) (hx : OV ρ x (.slice (some ⟨b, off, none⟩) len c)) (hy : OV ρ y (.int k j))
    (hj : j = (i : Int)) (hi : i < len) (ho : off + i * s = off') : Run P G ρ n L ⟨d, .indexAddr t x y, ty, pos, af, g⟩ (.pointer (some ⟨b, off', none⟩)) := fun w a _ ha => by
  subst hj ho
  have h1 : (0 : Int) ≤ i ∧ (i : Int) < (len : Int) := ⟨by omega, by omega⟩
  simp [execOp, hx.eval ha, hy.eval ha, Instr.indexAt, asIntOf, run_underlying ht, h1, hs, add_at]
  exact fun h => absurd hi (by omega)
/-- &x[i] of an array behind a pointer. -/
theorem r_iaa {t e : TypeId} {x y : Operand} {k : IntKind} {b off len s i off' : Nat} {j : Int} (ht : P.underlying t = some (.array len e)) (hs : ∀ w, (sizeOf e).run P w = .ok s w) (hx : OV ρ x (.pointer (some ⟨b, off, none⟩))) (hy : OV ρ y (.int k j))
    (hj : j = (i : Int)) (hi : i < len) (ho : off + i * s = off') : Run P G ρ n L ⟨d, .indexAddr t x y, ty, pos, af, g⟩ (.pointer (some ⟨b, off', none⟩)) := fun w a _ ha => by
  subst hj ho
  have h1 : (0 : Int) ≤ i ∧ (i : Int) < (len : Int) := ⟨by omega, by omega⟩
  simp [execOp, hx.eval ha, hy.eval ha, Instr.indexAt, asIntOf, run_underlying ht, h1, hs, add_at, Instr.sureAddr]
  exact fun h => absurd hi (by omega)
theorem r_idx {t : TypeId} {x y : Operand} {k : IntKind} {s : ByteArray} {i : Nat} {j : Int} {c : UInt8} (ht : P.underlying t = some .string) (hx : OV ρ x (.string s)) (hy : OV ρ y (.int k j)) (hj : j = (i : Int)) (hc : s[i]? = some c) :
    Run P G ρ n L ⟨d, .index t x y, ty, pos, af, g⟩ (.int .u8 (c.toNat : Int)) := fun w a _ ha => by
  subst hj
  simp [execOp, hx.eval ha, hy.eval ha, Instr.index, asIntOf, run_underlying ht, hc]
end
end Go.Eng
