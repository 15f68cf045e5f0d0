/- Operations of this seat's walks: make, stores of many cells, maps, comparisons of pointers and errors. -/
import Derived.Test.YtkpadembffdepaaGreatDoorEf
namespace Go.Eng
open Go

section
variable {P : Program} {G : World} {ρ : Env} {n : Nat} {L L' R : List HProp} {d : Option Tmp} {ty : TypeId} {pos : String} {af : Array Edge} {g : Option (Nat × Bool)} {v : Value}

/-- make([]T, l, c), T of one cell. -/
theorem r_make {t e bt l c : Nat} {x y : Operand} {k k' : IntKind} {i i' : Int} {z : Value} (ht : P.underlying t = some (.slice e)) (hs : ∀ w, (sizeOf e).run P w = .ok 1 w) (hti : ∃ info : TypeInfo, (∀ w, (typeInfo e).run P w = .ok info w) ∧ info.bytes = bt)
    (hz : ∀ w, (zeroValue e).run P w = .ok z w) (hone : one z = true) (hx : OV ρ x (.int k i)) (hy : OV ρ y (.int k' i')) (hi : i = (l : Int)) (hi' : i' = (c : Int)) (hlc : l ≤ c) (hb : c * bt ≤ 2 ^ 48) (hc : c < 2 ^ 62) :
    RunW P G ρ n L ⟨d, .makeSlice t x y, ty, pos, af, g⟩ (NewAt G L c (fun _ => z) (fun b => .slice (some ⟨b, 0, none⟩) l c)) := fun w a hS ha => by
  obtain ⟨info, h1, h2⟩ := hti
  subst hi hi' h2
  have hcs : z.cells = #[z] := by cases z <;> first | rfl | cases hone
  have w1 : IntKind.i64.wrap (l : Int) = l := by simp [IntKind.wrap, IntKind.signed, IntKind.bits]; omega
  have w2 : IntKind.i64.wrap (c : Int) = c := by simp [IntKind.wrap, IntKind.signed, IntKind.bits]; omega
  have hb1 : ¬ ((2 : Int) ^ 48 < info.bytes * c) := by
    have h3 : (info.bytes : Int) * c = ((c * info.bytes : Nat) : Int) := by rw [Int.natCast_mul, Int.mul_comm]
    rw [h3]
    omega
  refine ⟨_, { w with heap := w.heap.push (.cells ((Array.range c).map (fun _ => z)) e) }, ?_, w.heap.size, rfl, hS.alloc (by simp) (fun i hi => by simp [hi])⟩
  simp only [execOp, hx.eval ha, hy.eval ha, Instr.makeSlice, Sem.run_bind, run_underlying ht, Result.andThen_ok, asInt, asIntOf, Sem.run_pure, h1, w1, w2, Sem.run_ite]
  rw [if_neg (by simp; omega)]
  simp only [Result.andThen_ok, run_askRoom, hs, Nat.mul_one, Int.toNat_natCast, hz, hcs]
  by_cases h0 : c = 0
  · subst h0
    have h0 : Array.range 0 = #[] := rfl
    simp [newRow, newObj, Sem.run, h0]
  · rw [if_neg h0]
    simp [newRow, newObj, Sem.run, Nat.mod_one]

/-- A store of a struct or array into a block at the head of the list. -/
theorem r_stagg {t b off m s : Nat} {F : Nat → Value} {x y : Operand} {cs : List Value} (hs : ∀ w, (sizeOf t).run P w = .ok s w) (h : OV ρ x (.pointer (some ⟨b, off, none⟩))) (hy : OV ρ y (.agg cs.toArray)) (hl : cs.length = s) (hi : off + s ≤ m)
    (hone : ∀ x ∈ cs, one x = true) : RunS P G ρ n (blk b m F :: R) ⟨none, .store t x y, ty, pos, af, g⟩ (blk b m (updl F off cs) :: R) := fun w a hS ha => by
  obtain ⟨w', e1, hS'⟩ := run_storeCells (P := P) (off := off) (i := 0) hS hone (by omega)
  refine ⟨w', ?_, by simpa using hS'⟩
  simp [execOp, h.eval ha, hy.eval ha, Instr.storeAt, Instr.sureAddr, storeVar, Value.cells, hs, hl, e1]

/-! Maps from int to int. -/
def pairs (ps : List (Int × Int)) : List (Value × Value) := ps.map fun p => (.int .i64 p.1, .int .i64 p.2)
def imap (b : Nat) (f : Int → Option Int) (sz : Nat) : HProp := mapb b fun es _ => ∃ ps : List (Int × Int), es.toList.map (fun e => (e.key, e.val)) = pairs ps ∧ ps.length = sz ∧ ∀ x, ps.lookup x = f x

theorem findNow_int {k : IntKind} {x : Int} : ∀ {es : List MapEntry} {ps : List (Int × Int)} (i : Nat), es.map (fun e => (e.key, e.val)) = pairs ps →
    ∃ j, Instr.findNow (.int k) (.int .i64 x) es i = some ((ps.lookup x).map fun y => (i + j, .int .i64 y)) ∧ (∀ y, ps.lookup x = some y → (es[j]?).map (·.key) = some (.int .i64 x) ∧ ps[j]? = some (x, y) ∧ ∀ l, l < j → ∀ p, ps[l]? = some p → p.1 ≠ x) := by
  intro es
  induction es with
  | nil =>
    intro ps i h
    cases ps with
    | nil => exact ⟨0, rfl, fun y hy => by cases hy⟩
    | cons p ps => simp [pairs] at h
  | cons e es ih =>
    intro ps i h
    cases ps with
    | nil => simp [pairs] at h
    | cons p ps =>
      obtain ⟨a, b⟩ := p
      simp only [pairs, List.map_cons, List.cons.injEq, Prod.mk.injEq] at h
      obtain ⟨⟨h1, h2⟩, h3⟩ := h
      by_cases hx : x = a
      · subst hx
        refine ⟨0, ?_, fun y hy => ?_⟩
        · simp [Instr.findNow, h1, Instr.sameNow, h2]
        · simp at hy; subst hy; exact ⟨by simp [h1], rfl, fun l hl => by omega⟩
      · obtain ⟨j, h4, h5⟩ := ih (i + 1) h3
        have hne : (x == a) = false := by simpa using hx
        refine ⟨j + 1, ?_, fun y hy => ?_⟩
        · simp only [Instr.findNow, h1, Instr.sameNow, if_true, hne, h4, List.lookup]
          simp [Nat.add_comm, Nat.add_left_comm]
        · simp only [List.lookup, hne] at hy
          obtain ⟨h6, h7, h8⟩ := h5 y hy
          refine ⟨by simpa using h6, by simpa using h7, fun l hl p hp => ?_⟩
          cases l with
          | zero => simp at hp; subst hp; exact fun e => hx e.symm
          | succ l => exact h8 l (by omega) p (by simpa using hp)
theorem run_checkKey {k : IntKind} {t m : Nat} {b : Bool} (ht : P.underlying t = some (.int k)) (x : Int) (w : World) : (Instr.checkKey b (m + 1) t (.int .i64 x)).run P w = .ok () w := by
  simp [Instr.checkKey, run_underlying ht]

theorem Sat.map {w : World} {b : Nat} {M : Array MapEntry → Nat → Prop} (hA : mapb b M ∈ L) (h : Sat G w L) : ∃ es c, w.heap[b]? = some (.map es c) ∧ M es c := by
  obtain ⟨m, ⟨es, c, h1, h2⟩, h4⟩ := h.obj hA
  exact ⟨es, c, (h4 _ _ h1).2, h2⟩
theorem run_getObj_map {w : World} {b : Nat} {es : Array MapEntry} {c : Nat} (h : w.heap[b]? = some (.map es c)) : (getObj b).run P w = .ok (.map es c) w := by
  simp [getObj, Sem.run, h]
theorem run_setObj_map {w : World} {b : Nat} {es : Array MapEntry} {c : Nat} {o : Obj} (h : w.heap[b]? = some (.map es c)) : (setObj b o).run P w = .ok () { w with heap := w.heap.setIfInBounds b o } := by
  simp [setObj, Sem.run, h]
theorem Sat.setMap {w : World} {b : Nat} {M M' : Array MapEntry → Nat → Prop} {es' : Array MapEntry} {c' : Nat} (h : Sat G w (mapb b M :: R)) (hM : M' es' c') :
    Sat G { w with heap := w.heap.setIfInBounds b (.map es' c') } (mapb b M' :: R) := by
  obtain ⟨m, ⟨es, c, h1, h2⟩, h4⟩ := h.obj (.head _)
  have h5 := (h4 _ _ h1).2
  have hlt : b < w.heap.size := (Array.getElem?_eq_some_iff.1 h5).1
  refine h.setObj (b := b) (o' := .map es' c') .here ?_ (fun c t f e => by cases e) (fun x => ?_) (by simp) rfl rfl
  · rintro m' ⟨es1, c1, h6, h7⟩
    exact ⟨⟨_, h6⟩, es', c', by simp [PH.set], hM⟩
  · by_cases hx : x = b
    · subst hx; simp [hlt]
    · simp only [if_neg hx]; rw [Array.getElem?_setIfInBounds_ne (fun e => hx e.symm)]

theorem r_makeMap {t : TypeId} : RunW P G ρ n L ⟨d, .makeMap t none, ty, pos, af, g⟩ (fun v w => ∃ b, v = .map (some b) ∧ Sat G w (imap b (fun _ => none) 0 :: L)) := fun w a hS ha => by
  refine ⟨.map (some w.heap.size), _, ?_, w.heap.size, rfl, hS.allocMap ⟨[], rfl, rfl, fun _ => rfl⟩⟩
  simp [execOp, Instr.makeMap, newObj, Sem.run]
theorem r_lookup {t kt et b sz : Nat} {k : IntKind} {f : Int → Option Int} {x y : Operand} {i : Int} (ht : P.underlying t = some (.map kt et)) (hk : P.underlying kt = some (.int k)) (hz : ∀ w, (zeroValue et).run P w = .ok (.int .i64 0) w) (hm : imap b f sz ∈ L)
    (hx : OV ρ x (.map (some b))) (hy : OV ρ y (.int .i64 i)) : Run P G ρ n L ⟨d, .lookup t x y true, ty, pos, af, g⟩ (.tuple #[.int .i64 ((f i).getD 0), .bool (f i).isSome]) := fun w a hS ha => by
  obtain ⟨es, c, h1, ps, h2, h3, h4⟩ := hS.map hm
  obtain ⟨j, h5, _⟩ := findNow_int (k := k) (x := i) 0 h2
  rw [h4] at h5
  simp only [execOp, hx.eval ha, hy.eval ha, Instr.lookup, Sem.run_bind, run_underlying ht, Result.andThen_ok, run_getObj_map h1, Sem.run_pure, run_checkKey hk, Instr.findKey, run_underlying hk, h5]
  cases f i <;> simp [hz]
theorem r_lenMap {t kt et b sz : Nat} {f : Int → Option Int} {x : Operand} {af2 : Array TypeId} (ht : P.underlying t = some (.map kt et)) (hm : imap b f sz ∈ L) (hx : OV ρ x (.map (some b))) (h : af2 = #[t] := by rfl) :
    Run P G ρ n L ⟨d, .call ⟨.builtin .len, #[x], af2⟩, ty, pos, af, g⟩ (.int .i64 (sz : Int)) := fun w a hS ha => by
  subst h
  obtain ⟨es, c, h1, ps, h2, h3, h4⟩ := hS.map hm
  have : es.size = sz := by rw [← h3, ← Array.length_toList, ← List.length_map (f := fun e : MapEntry => (e.key, e.val)), h2]; simp [pairs]
  simp [execOp, hx.eval ha, resolve, invoke, builtin, Builtin.len_, run_underlying ht, goInt, run_getObj_map h1, this]
theorem lookup_append_single {ps : List (Int × Int)} {x i y : Int} (h : ps.lookup i = none) : (ps ++ [(i, y)]).lookup x = if x = i then some y else ps.lookup x := by
  induction ps with
  | nil =>
    by_cases hx : x = i
    · subst hx; simp
    · have : (x == i) = false := by simpa using hx
      simp [List.lookup, this, hx]
  | cons p ps ih =>
    obtain ⟨a, b⟩ := p
    simp only [List.lookup] at h
    have hia : (i == a) = false := by
      cases e : i == a with
      | false => rfl
      | true => rw [e] at h; cases h
    rw [hia] at h
    simp only [List.cons_append, List.lookup]
    cases e : x == a with
    | true =>
      have : x ≠ i := by rintro rfl; rw [e] at hia; cases hia
      simp [this]
    | false => simpa using ih h
theorem lookup_set {x i y y0 : Int} : ∀ {ps : List (Int × Int)} {j : Nat}, ps[j]? = some (i, y0) → (∀ l, l < j → ∀ p, ps[l]? = some p → p.1 ≠ i) → (ps.set j (i, y)).lookup x = if x = i then some y else ps.lookup x := by
  intro ps
  induction ps with
  | nil => intro j h; simp at h
  | cons p ps ih =>
    intro j h hlt
    obtain ⟨a, b⟩ := p
    cases j with
    | zero =>
      simp at h
      obtain ⟨rfl, rfl⟩ := h
      simp only [List.set_cons_zero, List.lookup]
      by_cases hx : x = a
      · subst hx; simp
      · have : (x == a) = false := by simpa using hx
        simp [this, hx]
    | succ j =>
      have h1 := hlt 0 (by omega) (a, b) rfl
      simp only [List.set_cons_succ, List.lookup]
      have h2 := ih (j := j) (by simpa using h) (fun l hl p hp => hlt (l + 1) (by omega) p (by simpa using hp))
      cases e : x == a with
      | true =>
        have : x ≠ i := by rintro rfl; simp at e; exact h1 e.symm
        simp [this]
      | false => simpa using h2
theorem r_mapUpdate {t kt et b sz : Nat} {k : IntKind} {f : Int → Option Int} {x y z : Operand} {i j : Int} (ht : P.underlying t = some (.map kt et)) (hk : P.underlying kt = some (.int k))
    (hx : OV ρ x (.map (some b))) (hy : OV ρ y (.int .i64 i)) (hz : OV ρ z (.int .i64 j)) :
    RunS P G ρ n (imap b f sz :: R) ⟨none, .mapUpdate t x y z, ty, pos, af, g⟩ (imap b (fun q => if q = i then some j else f q) (if (f i).isSome then sz else sz + 1) :: R) := fun w a hS ha => by
  obtain ⟨es, c, h1, ps, h2, h3, h4⟩ := hS.map (.head _)
  obtain ⟨l, h5, h6⟩ := findNow_int (k := k) (x := i) 0 h2
  cases e : ps.lookup i with
  | none =>
    rw [e] at h5
    refine ⟨_, ?_, hS.setMap (es' := es.push { key := .int .i64 i, val := .int .i64 j, born := c }) (c' := c + 1) ⟨ps ++ [(i, j)], by simp [pairs, h2] , by rw [← h4, e]; simp [h3], fun q => by rw [lookup_append_single e, h4]⟩⟩
    simp [execOp, hx.eval ha, hy.eval ha, hz.eval ha, Instr.mapUpdate, run_underlying ht, run_getObj_map h1, run_checkKey hk, Instr.findKey, run_underlying hk, h5, run_setObj_map h1]
  | some y0 =>
    rw [e] at h5
    obtain ⟨h7, h8, h9⟩ := h6 y0 e
    have hkey : ((es[l]?).map (·.key)) = some (.int .i64 i) := by simpa using h7
    have hlt : l < es.size := by
      rcases Nat.lt_or_ge l es.size with h | h
      · exact h
      · rw [Array.getElem?_eq_none h] at hkey; cases hkey
    refine ⟨_, ?_, hS.setMap (es' := es.modify l fun e => { e with key := .int .i64 i, val := .int .i64 j }) (c' := c) ⟨ps.set l (i, j), ?_, by rw [← h4, e]; simp [h3], fun q => by rw [lookup_set h8 h9, h4]⟩⟩
    · have hk2 : ∀ w, (Instr.keyThatStays (.int .i64 i) (.int .i64 i)).run P w = .ok (.int .i64 i) w := fun w => by simp [Instr.keyThatStays, Instr.sameBits]
      simp [execOp, hx.eval ha, hy.eval ha, hz.eval ha, Instr.mapUpdate, run_underlying ht, run_getObj_map h1, run_checkKey hk, Instr.findKey, run_underlying hk, h5, hkey, hk2, run_setObj_map h1]
    · apply List.ext_getElem?
      intro q
      have h10 : (es.toList.map (fun e => (e.key, e.val)))[q]? = (pairs ps)[q]? := by rw [h2]
      by_cases hq : q = l
      · subst hq
        have hl2 : q < ps.length := (List.getElem?_eq_some_iff.1 h8).1
        simp [pairs, Array.getElem?_modify, hlt, hl2]
      · simp only [pairs, List.getElem?_map, Array.getElem?_toList, Array.getElem?_modify] at h10 ⊢
        rw [if_neg (fun e => hq e.symm), List.getElem?_set_ne (fun e => hq e.symm)]
        exact h10
end
end Go.Eng
