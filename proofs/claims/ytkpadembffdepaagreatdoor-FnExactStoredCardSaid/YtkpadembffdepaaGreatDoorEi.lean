/- What this seat's walks take besides: blocks told by lists, folding, nil. -/
import Derived.Test.YtkpadembffdepaaGreatDoorEh
namespace Go.Eng
open Go

/-- The cells of a list. -/
def lst (l : List Value) (i : Nat) : Value := l.getD i undef
theorem lst_ok {l : List Value} : ∀ i, i < l.length → l.toArray[i]? = some (lst l i) := fun i hi => by simp [lst, List.getD, hi]
theorem lst_set {l : List Value} {i : Nat} {v : Value} (hi : Nat.blt i l.length = true) : upd (lst l) i v = lst (l.set i v) := by
  have hi : i < l.length := by simpa [Nat.blt_eq] using hi
  funext j
  unfold upd lst
  by_cases h : j = i
  · subst h; simp [List.getD, hi]
  · rw [if_neg h]; simp [List.getD, List.getElem?_set_ne (fun e => h e.symm)]
theorem lst_get {l : List Value} {i : Nat} {v : Value} (h : l[i]? = some v) : lst l i = v := by simp [lst, List.getD, h]
theorem lst_map {α : Type} {f : α → Value} {l : List α} {i : Nat} (h : i < l.length) : lst (l.map f) i = f l[i] := by simp [lst, List.getD, h]
theorem blk_congr {b m : Nat} {F F' : Nat → Value} (h : ∀ i, i < m → F i = F' i) : ∀ p, blk b m F p → blk b m F' p := fun _ ⟨cs, T, h1, h2, h3⟩ => ⟨cs, T, h1, h2, fun i hi => (h3 i hi).trans (congrArg some (h i hi))⟩

theorem SatL.at {A A' : HProp} {L L' : List HProp} (hz : At A A' L L') (e : ∀ m, A m → A' m) : ∀ {h : PH}, SatL h L → SatL h L' := by
  induction hz with
  | here => exact SatL.imp e
  | there _ ih => exact fun ⟨m, h1, h2, h3⟩ => ⟨m, h1, h2, ih h3⟩
theorem Sat.at {G w : World} {A A' : HProp} {L L' : List HProp} (hz : At A A' L L') (e : ∀ m, A m → A' m) (h : Sat G w L) : Sat G w L' := { h with sat := SatL.at hz e h.sat }

section
variable {P : Program} {G : World} {ρ ρ' : Env} {n : Nat} {L L' R : List HProp} {d : Option Tmp} {ty : TypeId} {pos : String} {af : Array Edge} {g : Option (Nat × Bool)} {v : Value} {Q : Exit → Act → World → Prop} {ops : Array Oper} {rest tl : List Oper}
/-- A store; F': what the block holds then. -/
theorem r_st {t b off m : Nat} {F F' : Nat → Value} {x y : Operand} (hs : ∀ w, (sizeOf t).run P w = .ok 1 w) (he : upd F off v = F') (hz : At (blk b m F) (blk b m F') L L') (h : OV ρ x (.pointer (some ⟨b, off, none⟩))) (hy : OV ρ y v) (hi : off < m)
    (hv : one v = true := by rfl) : RunS P G ρ n L ⟨none, .store t x y, ty, pos, af, g⟩ L' := by subst he; exact r_stc hs hz h hy hi hv
/-- A store into a block that is told by a list. -/
theorem r_stl {t b off m : Nat} {l l' : List Value} {x y : Operand} (hs : ∀ w, (sizeOf t).run P w = .ok 1 w) (hz : At (blk b m (lst l)) (blk b m (lst l')) L L') (h : OV ρ x (.pointer (some ⟨b, off, none⟩))) (hy : OV ρ y v) (hi : off < m)
    (hl : Nat.blt off l.length = true := by rfl) (he : l.set off v = l' := by rfl) (hv : one v = true := by rfl) : RunS P G ρ n L ⟨none, .store t x y, ty, pos, af, g⟩ L' :=
  r_st hs (by rw [lst_set hl, he]) hz h hy hi hv
theorem CT.fold {c : Code} {A A' : HProp} (hz : At A A' L L') (e : ∀ m, A m → A' m) (k : CT P c Q ρ n G L') : CT P c Q ρ n G L := fun w a hS ha => k w a (hS.at hz e) ha
theorem TL.fold {A A' : HProp} (hz : At A A' L L') (e : ∀ m, A m → A' m) (k : TL P Q ops rest ρ n G L') : TL P Q ops rest ρ n G L := fun w a hS ha => k w a (hS.at hz e) ha
theorem EX.fold {x : Exit} {A A' : HProp} (hz : At A A' L L') (e : ∀ m, A m → A' m) (k : EX Q x ρ n G L') : EX Q x ρ n G L := fun w a hS ha => k w a (hS.at hz e) ha
theorem CT.conv {c : Code} (e : ∀ w, Sat G w L → Sat G w L') (k : CT P c Q ρ n G L') : CT P c Q ρ n G L := fun w a hS ha => k w a (e w hS) ha
theorem TL.conv (e : ∀ w, Sat G w L → Sat G w L') (k : TL P Q ops rest ρ n G L') : TL P Q ops rest ρ n G L := fun w a hS ha => k w a (e w hS) ha
theorem EX.conv {x : Exit} (e : ∀ w, Sat G w L → Sat G w L') (k : EX Q x ρ n G L') : EX Q x ρ n G L := fun w a hS ha => k w a (e w hS) ha
theorem CT.expose {c : Code} {p : Prop} (e : ∀ w, Sat G w L → p) (k : p → CT P c Q ρ n G L) : CT P c Q ρ n G L := fun w a hS ha => k (e w hS) w a hS ha
theorem TL.expose {p : Prop} (e : ∀ w, Sat G w L → p) (k : p → TL P Q ops rest ρ n G L) : TL P Q ops rest ρ n G L := fun w a hS ha => k (e w hS) w a hS ha
theorem TL.ex {α : Type} {A : α → List HProp} (e : ∀ w, Sat G w L → ∃ x, Sat G w (A x)) (k : ∀ x, TL P Q ops rest ρ n G (A x)) : TL P Q ops rest ρ n G L := fun w a hS ha => let ⟨x, hx⟩ := e w hS; k x w a hx ha
theorem CT.exx {α : Type} {c : Code} {A : α → List HProp} (e : ∀ w, Sat G w L → ∃ x, Sat G w (A x)) (k : ∀ x, CT P c Q ρ n G (A x)) : CT P c Q ρ n G L := fun w a hS ha => let ⟨x, hx⟩ := e w hS; k x w a hx ha
theorem TS.sub (s : Sub ρ' ρ) (k : TS P Q ops tl rest ρ' n G L) : TS P Q ops tl rest ρ n G L := fun w a hS ha => k w a hS (ha.sub s)
theorem TS.rm {d : Nat} (s : Rm d ρ ρ') (k : TS P Q ops tl rest ρ' n G L) : TS P Q ops tl rest ρ n G L := TS.sub s.sub k
/-- Two ways, by a truth value. -/
theorem TL.bool {b : Bool} (k1 : b = true → TL P Q ops rest ρ n G L) (k2 : b = false → TL P Q ops rest ρ n G L) : TL P Q ops rest ρ n G L := by
  cases b
  · exact k2 rfl
  · exact k1 rfl
theorem TS.by {p : Prop} (h : Decidable p) (k1 : p → TS P Q ops tl rest ρ n G L) (k2 : ¬ p → TS P Q ops tl rest ρ n G L) : TS P Q ops tl rest ρ n G L := by
  by_cases hp : p
  · exact k1 hp
  · exact k2 hp
theorem r_nott {t : TypeId} {x : Operand} (hx : OV ρ x (.bool true)) : Run P G ρ n L ⟨d, .unOp .not t x, ty, pos, af, g⟩ (.bool false) := r_not hx
theorem r_notf {t : TypeId} {x : Operand} (hx : OV ρ x (.bool false)) : Run P G ρ n L ⟨d, .unOp .not t x, ty, pos, af, g⟩ (.bool true) := r_not hx

/-! Comparison with nil. -/
theorem ev_const (a : Act) (v : Value) : a.eval (.const v) = v := rfl
theorem equal_nil_iface {t : TypeId} {ms : Array (String × TypeId)} (ht : P.underlying t = some (.interface ms)) (w : World) : (Op.equal t .nilIface .nilIface).run P w = .ok true w := by
  have (d : Nat) : (Op.equalIn (d + 1) t .nilIface .nilIface).run P w = .ok true w := by simp [Op.equalIn, run_underlying ht]
  exact this 9999
theorem equal_iface_nil {t s : TypeId} {u : Value} {ms : Array (String × TypeId)} (ht : P.underlying t = some (.interface ms)) (w : World) : (Op.equal t (.iface s u) .nilIface).run P w = .ok false w := by
  have (d : Nat) : (Op.equalIn (d + 1) t (.iface s u) .nilIface).run P w = .ok false w := by simp [Op.equalIn, run_underlying ht]
  exact this 9999
theorem equal_ptr_nil {t e : TypeId} {p : Option Addr} (ht : P.underlying t = some (.pointer e)) (w : World) : (Op.equal t (.pointer p) (.pointer none)).run P w = .ok p.isNone w := by
  have (d : Nat) : (Op.equalIn (d + 1) t (.pointer p) (.pointer none)).run P w = .ok p.isNone w := by cases p <;> simp [Op.equalIn, run_underlying ht]
  exact this 9999
theorem r_nei {t s u : TypeId} {x : Operand} {y : Value} {ms : Array (String × TypeId)} (ht : P.underlying t = some (.interface ms)) (hx : OV ρ x (.iface s y)) : Run P G ρ n L ⟨d, .binOp .neq t x (.const .nilIface) u, ty, pos, af, g⟩ (.bool true) := fun w a _ ha => by
  simp [execOp, hx.eval ha, ev_const, eqGuard, binOp, equal_iface_nil ht]
theorem r_nen {t u : TypeId} {x : Operand} {ms : Array (String × TypeId)} (ht : P.underlying t = some (.interface ms)) (hx : OV ρ x .nilIface) : Run P G ρ n L ⟨d, .binOp .neq t x (.const .nilIface) u, ty, pos, af, g⟩ (.bool false) := fun w a _ ha => by
  simp [execOp, hx.eval ha, ev_const, eqGuard, binOp, equal_nil_iface ht]
theorem r_eqi {t s u : TypeId} {x : Operand} {y : Value} {ms : Array (String × TypeId)} (ht : P.underlying t = some (.interface ms)) (hx : OV ρ x (.iface s y)) : Run P G ρ n L ⟨d, .binOp .eql t x (.const .nilIface) u, ty, pos, af, g⟩ (.bool false) := fun w a _ ha => by
  simp [execOp, hx.eval ha, ev_const, eqGuard, binOp, equal_iface_nil ht]
theorem r_eqn {t u : TypeId} {x : Operand} {ms : Array (String × TypeId)} (ht : P.underlying t = some (.interface ms)) (hx : OV ρ x .nilIface) : Run P G ρ n L ⟨d, .binOp .eql t x (.const .nilIface) u, ty, pos, af, g⟩ (.bool true) := fun w a _ ha => by
  simp [execOp, hx.eval ha, ev_const, eqGuard, binOp, equal_nil_iface ht]
theorem r_eqpn {t u e : TypeId} {x : Operand} (ht : P.underlying t = some (.pointer e)) (hx : OV ρ x (.pointer none)) : Run P G ρ n L ⟨d, .binOp .eql t x (.const (.pointer none)) u, ty, pos, af, g⟩ (.bool true) := fun w a _ ha => by
  simp [execOp, hx.eval ha, ev_const, eqGuard, binOp, equal_ptr_nil ht]
theorem r_eqps {t u e : TypeId} {x : Operand} {p : Addr} (ht : P.underlying t = some (.pointer e)) (hx : OV ρ x (.pointer (some p))) : Run P G ρ n L ⟨d, .binOp .eql t x (.const (.pointer none)) u, ty, pos, af, g⟩ (.bool false) := fun w a _ ha => by
  simp [execOp, hx.eval ha, ev_const, eqGuard, binOp, equal_ptr_nil ht]
theorem r_nepn {t u e : TypeId} {x : Operand} (ht : P.underlying t = some (.pointer e)) (hx : OV ρ x (.pointer none)) : Run P G ρ n L ⟨d, .binOp .neq t x (.const (.pointer none)) u, ty, pos, af, g⟩ (.bool false) := fun w a _ ha => by
  simp [execOp, hx.eval ha, ev_const, eqGuard, binOp, equal_ptr_nil ht]

theorem r_nilf {x : Operand} {f : FuncId} (h : OV ρ x (.func (.func f) #[] #[])) : Run P G ρ n L ⟨d, .nilCheck x, ty, pos, af, g⟩ (.func (.func f) #[] #[]) := fun w a _ ha => by
  simp [execOp, h.eval ha]
/-- A struct of two cells. -/
theorem r_ld2 {t b off : Nat} {x : Operand} {c0 c1 : Value} (hA : ∀ w, (isAgg t).run P w = .ok true w) (hs : ∀ w, (sizeOf t).run P w = .ok 2 w) (h : OV ρ x (.pointer (some ⟨b, off, none⟩)))
    (h0 : ∀ w, Sat G w L → w.cell? ⟨b, off, none⟩ = some c0) (h1 : ∀ w, Sat G w L → w.cell? ⟨b, off + 1, none⟩ = some c1) :
    Run P G ρ n L ⟨d, .load t x, ty, pos, af, g⟩ (.agg #[c0, c1]) := fun w a hS ha => by
  simp [execOp, h.eval ha, Instr.loadAt, Instr.sureAddr, loadVar, hA, hs, loadCells, loadCellsFrom, add_at, h0 w hS, h1 w hS]
theorem ones1 {a : Value} (ha : one a = true := by rfl) : ∀ x ∈ [a], one x = true := fun x hx => by
  rcases List.mem_cons.1 hx with rfl | h
  · exact ha
  · cases h
theorem ones2 {a b : Value} (ha : one a = true := by rfl) (hb : one b = true := by rfl) : ∀ x ∈ [a, b], one x = true := fun x hx => by
  rcases List.mem_cons.1 hx with rfl | h
  · exact ha
  · exact ones1 hb x h
theorem ones3 {a b c : Value} (ha : one a = true := by rfl) (hb : one b = true := by rfl) (hc : one c = true := by rfl) : ∀ x ∈ [a, b, c], one x = true := fun x hx => by
  rcases List.mem_cons.1 hx with rfl | h
  · exact ha
  · exact ones2 hb hc x h
theorem ones_map {α : Type} {f : α → Value} {l : List α} (h : ∀ a, one (f a) = true) : ∀ x ∈ l.map f, one x = true := fun x hx => by
  obtain ⟨a, _, rfl⟩ := List.mem_map.1 hx
  exact h a
def setl (l : List Value) (off : Nat) : List Value → List Value
  | [] => l
  | v :: vs => setl (l.set off v) (off + 1) vs
theorem updl_lst : ∀ {vs l : List Value} {off : Nat}, off + vs.length ≤ l.length → updl (lst l) off vs = lst (setl l off vs) := by
  intro vs
  induction vs with
  | nil => intro l off _; rfl
  | cons v vs ih =>
    intro l off h
    simp only [List.length_cons] at h
    show updl (upd (lst l) off v) (off + 1) vs = lst (setl (l.set off v) (off + 1) vs)
    rw [lst_set (by rw [Nat.blt_eq]; omega), ih (by simp; omega)]
theorem r_stagl {t b off m s : Nat} {l l' : List Value} {x y : Operand} {cs : List Value} (hs : ∀ w, (sizeOf t).run P w = .ok s w) (h : OV ρ x (.pointer (some ⟨b, off, none⟩))) (hy : OV ρ y (.agg cs.toArray)) (hl : cs.length = s) (hi : off + s ≤ m)
    (hone : ∀ x ∈ cs, one x = true) (hb : Nat.ble (off + cs.length) l.length = true := by rfl) (he : setl l off cs = l' := by rfl) : RunS P G ρ n (blk b m (lst l) :: R) ⟨none, .store t x y, ty, pos, af, g⟩ (blk b m (lst l') :: R) := by
  rw [← he, ← updl_lst (Nat.le_of_ble_eq_true hb)]
  exact r_stagg hs h hy hl hi hone
theorem Sat.slc_one {w : World} {s k : Nat} {cs : List Value} (h : Sat G w (Eng.slc s v k cs :: L)) : one v = true := by
  obtain ⟨_, ⟨rfl, _⟩ | ⟨b, c, F, rfl, _⟩⟩ := h.slc <;> rfl
theorem EX.noGoto_ret (k : EX Q .ret ρ n G L) : EX (Exit.noGoto Q) .ret ρ n G L := fun w a hS ha => k w a hS ha
theorem EX.noGoto_normal (k : EX Q .normal ρ n G L) : EX (Exit.noGoto Q) .normal ρ n G L := fun w a hS ha => k w a hS ha
theorem EX.scope_ret {J : Nat → Act → World → Prop} (k : EX Q .ret ρ n G L) : EX (Jumps J Q) .ret ρ n G L := fun w a hS ha => k w a hS ha
theorem EX.scope_normal {J : Nat → Act → World → Prop} (k : EX Q .normal ρ n G L) : EX (Jumps J Q) .normal ρ n G L := fun w a hS ha => k w a hS ha
end
end Go.Eng
