/- More operations of this seat's walks: slices, new memory, calls. -/
import Derived.Test.YtkpadembffdepaaGreatDoorEc
namespace Go.Eng
open Go

section
variable {P : Program} {G : World} {ρ : Env} {n : Nat} {L L' : List HProp} {d : Option Tmp} {ty : TypeId} {pos : String} {af : Array Edge} {g : Option (Nat × Bool)} {v : Value}

/-- A bound of a slice expression: none, or a number. -/
inductive OB (ρ : Env) : Option Operand → Option Nat → Prop
  | no : OB ρ none none
  | so {x : Operand} {k : IntKind} {i : Int} {j : Nat} (h : OV ρ x (.int k i)) (e : i = (j : Int)) : OB ρ (some x) (some j)
theorem sb_some {k : IntKind} {j y : Nat} {code : BoundsCode} (h : j ≤ y) (w : World) : (Instr.sliceBound (.int k (j : Int)) y code).run P w = .ok j w := by
  simp [Instr.sliceBound, asIntOf]
  exact fun h' => absurd h (by omega)
/-- x[lo:hi]. Where lo is the capacity the model keeps the address. -/
theorem r_slice {t e : TypeId} {x : Operand} {lo hi : Option Operand} {l h : Option Nat} {b off len c s off' m c' : Nat} (ht : P.underlying t = some (.slice e)) (hs : ∀ w, (sizeOf e).run P w = .ok s w)
    (hx : OV ρ x (.slice (some ⟨b, off, none⟩) len c)) (hl : OB ρ lo l) (hh : OB ρ hi h) (h1 : l.getD 0 ≤ h.getD len) (h2 : h.getD len ≤ c) (ho : (if c = l.getD 0 then off else off + l.getD 0 * s) = off') (hm : h.getD len - l.getD 0 = m) (hc : c - l.getD 0 = c') :
    Run P G ρ n L ⟨d, .slice t x lo hi none, ty, pos, af, g⟩ (.slice (some ⟨b, off', none⟩) m c') := fun w a _ ha => by
  have e1 : ∀ code w, (match hi.map a.eval with | some v => Instr.sliceBound v c code | none => (Pure.pure len : Sem Nat)).run P w = .ok (h.getD len) w := by
    intro code w
    cases hh with
    | no => rfl
    | so hv e => subst e; simp only [Option.map_some, hv.eval ha]; exact sb_some (by simpa using h2) w
  have e2 : ∀ code w, (match lo.map a.eval with | some v => Instr.sliceBound v (h.getD len) code | none => (Pure.pure 0 : Sem Nat)).run P w = .ok (l.getD 0) w := by
    intro code w
    cases hl with
    | no => rfl
    | so hv e => subst e; simp only [Option.map_some, hv.eval ha]; exact sb_some (by simpa using h1) w
  have key : (Instr.sliceBounds true len c (lo.map a.eval) (hi.map a.eval) none).run P w = .ok (l.getD 0, h.getD len, c) w := by
    unfold Instr.sliceBounds
    simp only [Sem.run_bind, Sem.run_pure, Result.andThen_ok]
    cases hh with
    | no =>
      simp only [Option.map_none]
      have := e2 .sliceB w
      cases hl <;> simp_all
    | so hv e =>
      have e1' := e1 .sliceAcap w
      have e2' := e2 .sliceB w
      simp only [Option.map_some] at *
      simp only [if_true]
      cases hl <;> simp_all
  subst ho hm hc
  simp only [execOp, hx.eval ha, Instr.sliceAt, Sem.run_bind, run_underlying ht, Result.andThen_ok, Option.map_none, Instr.slice, key, hs, Sem.run_pure, Option.map_some, add_at]
  split <;> simp
/-- p[lo:hi] of an array behind a pointer. -/
theorem r_slicea {t e : TypeId} {x : Operand} {lo hi : Option Operand} {l h : Option Nat} {b off c s off' m c' : Nat} (ht : P.underlying t = some (.array c e)) (hs : ∀ w, (sizeOf e).run P w = .ok s w)
    (hx : OV ρ x (.pointer (some ⟨b, off, none⟩))) (hl : OB ρ lo l) (hh : OB ρ hi h) (h1 : l.getD 0 ≤ h.getD c) (h2 : h.getD c ≤ c) (ho : (if c = l.getD 0 then off else off + l.getD 0 * s) = off') (hm : h.getD c - l.getD 0 = m) (hc : c - l.getD 0 = c') :
    Run P G ρ n L ⟨d, .slice t x lo hi none, ty, pos, af, g⟩ (.slice (some ⟨b, off', none⟩) m c') := fun w a _ ha => by
  have e1 : ∀ code w, (match hi.map a.eval with | some v => Instr.sliceBound v c code | none => (Pure.pure c : Sem Nat)).run P w = .ok (h.getD c) w := by
    intro code w
    cases hh with
    | no => rfl
    | so hv e => subst e; simp only [Option.map_some, hv.eval ha]; exact sb_some (by simpa using h2) w
  have e2 : ∀ code w, (match lo.map a.eval with | some v => Instr.sliceBound v (h.getD c) code | none => (Pure.pure 0 : Sem Nat)).run P w = .ok (l.getD 0) w := by
    intro code w
    cases hl with
    | no => rfl
    | so hv e => subst e; simp only [Option.map_some, hv.eval ha]; exact sb_some (by simpa using h1) w
  have key : (Instr.sliceBounds false c c (lo.map a.eval) (hi.map a.eval) none).run P w = .ok (l.getD 0, h.getD c, c) w := by
    unfold Instr.sliceBounds
    simp only [Sem.run_bind, Sem.run_pure, Result.andThen_ok]
    cases hh with
    | no =>
      simp only [Option.map_none]
      have := e2 .sliceB w
      cases hl <;> simp_all
    | so hv e =>
      have e1' := e1 .sliceAlen w
      have e2' := e2 .sliceB w
      simp only [Option.map_some] at *
      simp only [Bool.false_eq_true, if_false]
      cases hl <;> simp_all
  subst ho hm hc
  simp only [execOp, hx.eval ha, Instr.sliceAt, Sem.run_bind, run_underlying ht, Result.andThen_ok, Option.map_none, Instr.sureAddr, key, hs, Sem.run_pure, add_at]
  split <;> simp

/-! New memory. -/
def NewAt (G : World) (L : List HProp) (m : Nat) (F : Nat → Value) (mk : Nat → Value) (v : Value) (w : World) : Prop := ∃ b, v = mk b ∧ Sat G w (blk b m F :: L)
theorem cells_get (cs : Array Value) (F : Nat → Value) (h : ∀ i, i < cs.size → cs[i]? = some (F i)) : ∀ i, i < cs.size → cs[i]? = some (F i) := h
theorem r_alloc {t m : Nat} {cs : Array Value} {z : Value} {F : Nat → Value} (hz : ∀ w, (zeroValue t).run P w = .ok z w) (hc : z.cells = cs) (hm : cs.size = m) (hF : ∀ i, i < m → cs[i]? = some (F i)) :
    RunW P G ρ n L ⟨d, .alloc t, ty, pos, af, g⟩ (NewAt G L m F (fun b => .pointer (some ⟨b, 0, none⟩))) := fun w a hS _ => by
  refine ⟨.pointer (some ⟨w.heap.size, 0, none⟩), { w with heap := w.heap.push (.cells cs t) }, ?_, w.heap.size, rfl, hS.alloc hm hF⟩
  subst hc
  simp [execOp, Instr.alloc, hz, newVar, newRow, newObj, Sem.run]
theorem r_box {t m : Nat} {cs : Array Value} {x : Operand} {F : Nat → Value} (hx : OV ρ x v) (hc : v.cells = cs) (hm : cs.size = m) (hF : ∀ i, i < m → cs[i]? = some (F i)) :
    RunW P G ρ n L ⟨d, .box t x, ty, pos, af, g⟩ (NewAt G L m F (fun b => .pointer (some ⟨b, 0, none⟩))) := fun w a hS ha => by
  refine ⟨.pointer (some ⟨w.heap.size, 0, none⟩), { w with heap := w.heap.push (.cells cs t) }, ?_, w.heap.size, rfl, hS.alloc hm hF⟩
  subst hc
  simp [execOp, hx.eval ha, Instr.box, newVar, newRow, newObj, Sem.run]
inductive OPs (ρ : Env) : List (Nat × Operand) → List (Nat × Value) → Prop
  | nil : OPs ρ [] []
  | cons {i x v xs vs} (h : OV ρ x v) (hs : OPs ρ xs vs) : OPs ρ ((i, x) :: xs) ((i, v) :: vs)
theorem OPs.map {a : Act} {xs : List (Nat × Operand)} {vs : List (Nat × Value)} (h : OPs ρ xs vs) (ha : Ok ρ n a) : xs.map (fun (i, x) => (i, a.eval x)) = vs := by
  induction h with
  | nil => rfl
  | cons h _ ih => simp only [List.map_cons, ih, h.eval ha]
theorem r_build {t : TypeId} {xs : List (Nat × Operand)} {vs : List (Nat × Value)} (hx : OPs ρ xs vs) (h : ∀ w, (Instr.build t vs.toArray).run P w = .ok v w) :
    Run P G ρ n L ⟨d, .build t xs.toArray, ty, pos, af, g⟩ v := fun w a _ ha => by
  have e := hx.map ha
  simp only [execOp, Sem.run_bind, List.map_toArray, e, h, Result.andThen_ok, Sem.run_pure]
theorem r_buildSlice {t e : TypeId} {k m : Nat} {xs : List (Nat × Operand)} {vs : List (Nat × Value)} {cs : Array Value} {F : Nat → Value} (hx : OPs ρ xs vs)
    (h : ∀ w, (Instr.buildSlice t k vs.toArray).run P w = .ok (.slice (some ⟨w.heap.size, 0, none⟩) k k) { w with heap := w.heap.push (.cells cs e) }) (hm : cs.size = m) (hF : ∀ i, i < m → cs[i]? = some (F i)) :
    RunW P G ρ n L ⟨d, .buildSlice t k xs.toArray, ty, pos, af, g⟩ (NewAt G L m F (fun b => .slice (some ⟨b, 0, none⟩) k k)) := fun w a hS ha => by
  refine ⟨.slice (some ⟨w.heap.size, 0, none⟩) k k, { w with heap := w.heap.push (.cells cs e) }, ?_, w.heap.size, rfl, hS.alloc (T := e) hm hF⟩
  have e' := hx.map ha
  simp only [execOp, Sem.run_bind, List.map_toArray, e', h, Result.andThen_ok, Sem.run_pure]
theorem range_zero (z : Value) (k : Nat) (i : Nat) (hi : i < k) : (((Array.range k).map fun j => #[z][j % 1]!))[i]? = some z := by
  rw [Array.getElem?_map, Array.getElem?_range]
  simp [hi, Nat.mod_one]

/-! Calls. -/
def Callee (P : Program) (f : FuncId) : Prop := ∃ fn, P.funcs[f]? = some fn ∧ (fn.name == "runtime.NumGoroutine") = false ∧ fn.body.isNone = false
theorem run_callFunc {f : FuncId} {vs : Array Value} (hf : Callee P f) (w : World) : (callFunc f vs).run P w = .ok (.enter f vs) w := by
  obtain ⟨fn, h1, h2, h3⟩ := hf
  have hp : program.run P w = .ok P w := rfl
  simp only [callFunc, Sem.run_bind, hp, Result.andThen_ok, h1, h2, h3, Bool.false_eq_true, if_false, Sem.run_pure]
theorem r_call {f : FuncId} {xs : List Operand} {vs : List Value} {ts : Array TypeId} (hf : Callee P f) (hx : OVs ρ xs vs) :
    RunC P G ρ n L ⟨d, .call ⟨.value (.func f), xs.toArray, ts⟩, ty, pos, af, g⟩ f vs.toArray := fun w a _ ha => by
  have e := hx.map ha
  simp [execOp, resolve, Act.eval, Deferred.ofValue, invoke, e, run_callFunc hf]
/-- A call of a function value. -/
theorem r_callv {f : FuncId} {t : Nat} {xs : List Operand} {vs : List Value} {ts : Array TypeId} (hf : Callee P f) (ht : (t, .func (.func f) #[] #[]) ∈ ρ) (hx : OVs ρ xs vs) :
    RunC P G ρ n L ⟨d, .call ⟨.value (.tmp t), xs.toArray, ts⟩, ty, pos, af, g⟩ f vs.toArray := fun w a _ ha => by
  have e := hx.map ha
  have e2 : a.eval (.tmp t) = _ := ha.vals _ _ ht
  simp [execOp, resolve, e2, Deferred.ofValue, invoke, e, run_callFunc hf]
/-- A call of a method of an interface value. -/
theorem r_inv {f : FuncId} {r : Operand} {t : TypeId} {u u' : Value} {name : String} {xs : List Operand} {vs : List Value} {ts : Array TypeId} (hf : Callee P f) (hr : OV ρ r (.iface t u))
    (hm : ∀ w, (method (P.types.size + Made.depth) t u name).run P w = .ok (f, u') w) (hx : OVs ρ xs vs) :
    RunC P G ρ n L ⟨d, .call ⟨.invoke r name, xs.toArray, ts⟩, ty, pos, af, g⟩ f (u' :: vs).toArray := fun w a _ ha => by
  have e := hx.map ha
  simp [execOp, resolve, hr.eval ha, invoke, callMethod, e, program, Sem.run, hm, run_callFunc hf]

/-! Many cells. -/
def updl (F : Nat → Value) (off : Nat) : List Value → Nat → Value
  | [] => F
  | v :: vs => updl (upd F off v) (off + 1) vs
theorem updl_lt {F : Nat → Value} : ∀ {vs : List Value} {off i : Nat}, i < off → updl F off vs i = F i := by
  intro vs
  induction vs generalizing F with
  | nil => intro _ _ _; rfl
  | cons v vs ih =>
    intro off i h
    show updl (upd F off v) (off + 1) vs i = F i
    rw [ih (by omega), upd_ne _ _ (by omega)]
theorem updl_ge {F : Nat → Value} : ∀ {vs : List Value} {off i : Nat}, off + vs.length ≤ i → updl F off vs i = F i := by
  intro vs
  induction vs generalizing F with
  | nil => intro _ _ _; rfl
  | cons v vs ih =>
    intro off i h
    simp only [List.length_cons] at h
    show updl (upd F off v) (off + 1) vs i = F i
    rw [ih (by omega), upd_ne _ _ (by omega)]
theorem updl_get {F : Nat → Value} : ∀ {vs : List Value} {off j : Nat} {v : Value}, vs[j]? = some v → updl F off vs (off + j) = v := by
  intro vs
  induction vs generalizing F with
  | nil => intro _ _ _ h; simp at h
  | cons u vs ih =>
    intro off j v h
    show updl (upd F off u) (off + 1) vs (off + j) = v
    cases j with
    | zero =>
      rw [updl_lt (by omega), Nat.add_zero, upd_same]
      simpa using h
    | succ j =>
      rw [show off + (j + 1) = off + 1 + j by omega]
      exact ih (by simpa using h)
theorem updl_at {F : Nat → Value} {vs : List Value} {off i : Nat} : updl F off vs i = if off ≤ i ∧ i < off + vs.length then vs.getD (i - off) undef else F i := by
  split
  · rename_i h
    have h2 : i - off < vs.length := by omega
    have := updl_get (F := F) (off := off) (List.getElem?_eq_getElem h2)
    rw [show off + (i - off) = i by omega] at this
    rw [this]
    simp [List.getD, h2]
  · rename_i h
    by_cases h1 : i < off
    · exact updl_lt h1
    · exact updl_ge (by omega)

theorem run_store1 {b i m : Nat} {F : Nat → Value} {w : World} (hS : Sat G w (blk b m F :: L)) (hi : i < m) (hv : one v = true) :
    (store ⟨b, i, none⟩ v).run P w = .ok () (w.setCell ⟨b, i, none⟩ v) := by
  have hc := hS.cell (.head _) hi
  have hf := hS.frozen (.head _) i
  unfold store
  cases v <;> first | (simp [Sem.run, hc, hf]; done) | cases hv
theorem run_storeCells {b off m : Nat} : ∀ {vs : List Value} {i : Nat} {F : Nat → Value} {w : World}, Sat G w (blk b m F :: L) → (∀ x ∈ vs, one x = true) → off + i + vs.length ≤ m →
    ∃ w', (storeCells ⟨b, off, none⟩ vs i).run P w = .ok () w' ∧ Sat G w' (blk b m (updl F (off + i) vs) :: L) := by
  intro vs
  induction vs with
  | nil => intro i F w hS _ _; exact ⟨w, rfl, hS⟩
  | cons v vs ih =>
    intro i F w hS hv hl
    simp only [List.length_cons] at hl
    have h1 := run_store1 (P := P) hS (i := off + i) (by omega) (hv v (.head _))
    obtain ⟨w', e, hS'⟩ := ih (i := i + 1) (hS.setCell (i := off + i) (v := v) (by omega) .here) (fun x hx => hv x (.tail _ hx)) (by omega)
    refine ⟨w', ?_, hS'⟩
    simp only [storeCells, Sem.run_bind, add_at, h1, Result.andThen_ok, e]
theorem run_loadCellsFrom' {b off : Nat} {w : World} : ∀ {vs : List Value} {i : Nat} {acc : Array Value}, (∀ j v, vs[j]? = some v → w.cell? ⟨b, off + i + j, none⟩ = some v) →
    (loadCellsFrom ⟨b, off, none⟩ i vs.length acc).run P w = .ok (acc ++ vs.toArray) w := by
  intro vs
  induction vs with
  | nil => intro i acc _; simp [loadCellsFrom]
  | cons v vs ih =>
    intro i acc h
    have h0 := h 0 v rfl
    simp only [List.length_cons, loadCellsFrom, Sem.run_bind, add_at]
    rw [run_load, Nat.add_zero] at *
    rw [h0]
    simp only [Result.andThen_ok]
    rw [ih (i := i + 1) (fun j u hj => by rw [show off + (i + 1) + j = off + i + (j + 1) by omega]; exact h (j + 1) u (by simpa using hj))]
    simp
theorem run_loadCells' {b off : Nat} {w : World} {vs : List Value} (h : ∀ j v, vs[j]? = some v → w.cell? ⟨b, off + j, none⟩ = some v) :
    (loadCells ⟨b, off, none⟩ vs.length).run P w = .ok vs.toArray w := by
  have := run_loadCellsFrom' (P := P) (b := b) (off := off) (w := w) (vs := vs) (i := 0) (acc := #[]) (by simpa using h)
  simpa [loadCells] using this

/-- The value x is a slice of k elements of s cells each; L tells its cells. -/
def Rds (P : Program) (G : World) (L : List HProp) (x : Value) (s k : Nat) (cs : List Value) : Prop :=
  cs.length = k * s ∧ ∀ w, Sat G w L → (Builtin.firstCells s k x).run P w = .ok cs.toArray w
theorem Rds.nil {s : Nat} : Rds P G L (.slice none 0 0) s 0 [] := ⟨by simp, fun w _ => by simp [Builtin.firstCells]⟩
theorem Rds.cells {b off k l c s : Nat} {cs : List Value} (hl : cs.length = k * s) (h : ∀ w, Sat G w L → ∀ j v, cs[j]? = some v → w.cell? ⟨b, off + j, none⟩ = some v) : Rds P G L (.slice (some ⟨b, off, none⟩) l c) s k cs :=
  ⟨hl, fun w hS => by simp only [Builtin.firstCells]; rw [← hl]; exact run_loadCells' (h w hS)⟩
theorem Rds.blk {b off m k l c s : Nat} {F : Nat → Value} {cs : List Value} (hm : blk b m F ∈ L) (hl : cs.length = k * s) (hk : off + k * s ≤ m) (h : ∀ j v, cs[j]? = some v → F (off + j) = v) : Rds P G L (.slice (some ⟨b, off, none⟩) l c) s k cs :=
  Rds.cells hl fun w hS j v hj => by
    have hlt : j < cs.length := (List.getElem?_eq_some_iff.1 hj).1
    rw [hS.cell hm (by omega), h j v hj]
theorem Rds.mono {x : Value} {s k : Nat} {cs : List Value} (h : Rds P G L x s k cs) (e : ∀ w, Sat G w L' → Sat G w L) : Rds P G L' x s k cs := ⟨h.1, fun w hS => h.2 w (e w hS)⟩

/-- A slice of k elements of s cells each, at the begin of a block of its own; or nil. -/
def slc (s : Nat) (v : Value) (k : Nat) (cs : List Value) : HProp := fun m => cs.length = k * s ∧
  ((v = .slice none 0 0 ∧ k = 0) ∨ ∃ b c F, v = .slice (some ⟨b, 0, none⟩) k c ∧ k ≤ c ∧ blk b (c * s) F m ∧ ∀ j x, cs[j]? = some x → F j = x)
theorem Sat.slc {w : World} {s k : Nat} {cs : List Value} (h : Sat G w (Eng.slc s v k cs :: L)) : cs.length = k * s ∧
    ((v = .slice none 0 0 ∧ k = 0 ∧ cs = []) ∨ ∃ b c F, v = .slice (some ⟨b, 0, none⟩) k c ∧ k ≤ c ∧ Sat G w (Eng.blk b (c * s) F :: L) ∧ ∀ j x, cs[j]? = some x → F j = x) := by
  obtain ⟨m, ⟨hl, hA⟩, hm, hL⟩ := h.sat
  refine ⟨hl, ?_⟩
  rcases hA with ⟨h1, h2⟩ | ⟨b, c, F, h1, h2, h3, h4⟩
  · subst h2; exact .inl ⟨h1, rfl, by simpa using hl⟩
  · exact .inr ⟨b, c, F, h1, h2, { h with sat := ⟨m, h3, hm, hL⟩ }, h4⟩
theorem Sat.toSlc {w : World} {b s k c : Nat} {F : Nat → Value} {cs : List Value} (h : Sat G w (Eng.blk b (c * s) F :: L)) (hl : cs.length = k * s) (hk : k ≤ c) (hF : ∀ j x, cs[j]? = some x → F j = x) :
    Sat G w (Eng.slc s (.slice (some ⟨b, 0, none⟩) k c) k cs :: L) := h.imp fun _ hm => ⟨hl, .inr ⟨b, c, F, rfl, hk, hm, hF⟩⟩
theorem Sat.slcNil {w : World} {s : Nat} (h : Sat G w L) : Sat G w (Eng.slc s (.slice none 0 0) 0 [] :: L) := h.emp ⟨by simp, .inl ⟨rfl, rfl⟩⟩
theorem Rds.slc {x : Value} {s k : Nat} {cs : List Value} (hm : Eng.slc s x k cs ∈ L) {w0 : World} (hS0 : Sat G w0 L) : Rds P G L x s k cs := by
  obtain ⟨m, ⟨hl, hA⟩, _⟩ := hS0.obj hm
  rcases hA with ⟨h1, h2⟩ | ⟨b, c, F, h1, h2, h3, h4⟩
  · subst h2; subst h1
    obtain rfl : cs = [] := by simpa using hl
    exact Rds.nil
  · subst h1
    refine Rds.cells hl fun w hS j v hj => ?_
    obtain ⟨m', ⟨_, hA'⟩, hm'⟩ := hS.obj hm
    rcases hA' with ⟨h1', _⟩ | ⟨b', c', F', h1', h2', h3', h4'⟩
    · cases h1'
    · cases h1'
      obtain ⟨cs', T, e1, e2, e3⟩ := h3'
      have hlt : j < cs.length := (List.getElem?_eq_some_iff.1 hj).1
      have : j < c * s := Nat.lt_of_lt_of_le (hl ▸ hlt) (Nat.mul_le_mul_right _ h2')
      have h5 := (hm' _ _ e1).2
      simp [World.cell?, h5, e3 j this, h4' j v hj]
end
end Go.Eng
