/- More words for the walks: slices that begin as nil, append of slices, lists in blocks. -/
import Derived.Test.YtkpadembffdepaaGreatDoorWd
import Derived.Test.YtkpadembffdepaaGreatDoorBb
namespace Go.Eng
open Go Go.Proofs Go.Infl
section
variable {P : Program} {G w : World} {ρ : Env} {n : Nat} {L R : List HProp} {Q : Exit → Act → World → Prop} {ops : Array Oper} {rest : List Oper} {v : Value}
theorem nil_slc (s : Nat) (h : Sat G w L) : Sat G w (slc s (.slice none 0 0) 0 [] :: L) :=
  h.emp (A := slc s (.slice none 0 0) 0 []) ⟨by simp, .inl ⟨rfl, rfl⟩⟩
theorem CT.nilslc {c : Code} (s : Nat) (k : CT P c Q ρ n G (slc s (.slice none 0 0) 0 [] :: L)) : CT P c Q ρ n G L := fun w a hS ha => k w a (nil_slc s hS) ha
theorem TL.nilslc (s : Nat) (k : TL P Q ops rest ρ n G (slc s (.slice none 0 0) 0 [] :: L)) : TL P Q ops rest ρ n G L := fun w a hS ha => k w a (nil_slc s hS) ha
theorem EX.nilslc {x : Exit} (s : Nat) (k : EX Q x ρ n G (slc s (.slice none 0 0) 0 [] :: L)) : EX Q x ρ n G L := fun w a hS ha => k w a (nil_slc s hS) ha
/-- append of a slice of its own. -/
theorem r_appends {t t2 e2 e s bt k j : Nat} {x y : Operand} {xv : Value} {cs ds : List Value} {d : Option Tmp} {ty : TypeId} {pos : String} {af : Array Edge} {g : Option (Nat × Bool)} (hE : EL P t e s bt) (h2 : P.underlying t2 = some (.slice e2)) (hv : OV ρ x v) (hy : OV ρ y xv)
    (hm : slc s xv j ds ∈ slc s v k cs :: R) (hone : ∀ x ∈ ds, one x = true) (hb : (2 * (k + j) + 192) * bt ≤ 2 ^ 48) (hk : k + j < 2 ^ 62) :
    RunW P G ρ n (slc s v k cs :: R) ⟨d, .call ⟨.builtin .append, #[x, y], #[t, t2]⟩, ty, pos, af, g⟩ (fun v' w' => Sat G w' (slc s v' (k + j) (cs ++ ds) :: R)) := fun w a hS ha =>
  r_append hE h2 hv hy (by
    obtain ⟨_, ⟨h, h0⟩ | ⟨b, c, h, _⟩⟩ := hS.slc_shape hm
    · exact ⟨none, 0, by rw [h, h0]⟩
    · exact ⟨_, c, h⟩) (Rds.slc hm hS) hone hb hk w a hS ha
/-- nil[lo:hi]. -/
theorem r_slicen {t e : TypeId} {x : Operand} {lo hi : Option Operand} {l h : Option Nat} {s : Nat} {d : Option Tmp} {ty : TypeId} {pos : String} {af : Array Edge} {g : Option (Nat × Bool)} (ht : P.underlying t = some (.slice e)) (hs : ∀ w, (sizeOf e).run P w = .ok s w)
    (hx : OV ρ x (.slice none 0 0)) (hl : OB ρ lo l) (hh : OB ρ hi h) (h1 : l.getD 0 = 0) (h2 : h.getD 0 = 0) :
    Run P G ρ n L ⟨d, .slice t x lo hi none, ty, pos, af, g⟩ (.slice none 0 0) := fun w a _ ha => by
  have e1 : ∀ code w, (match hi.map a.eval with | some v => Instr.sliceBound v 0 code | none => (Pure.pure 0 : Sem Nat)).run P w = .ok (h.getD 0) w := by
    intro code w
    cases hh with
    | no => rfl
    | so hv e => subst e; simp only [Option.map_some, hv.eval ha]; exact sb_some (by simpa using Nat.le_of_eq h2) w
  have e2 : ∀ code w, (match lo.map a.eval with | some v => Instr.sliceBound v (h.getD 0) code | none => (Pure.pure 0 : Sem Nat)).run P w = .ok (l.getD 0) w := by
    intro code w
    cases hl with
    | no => rfl
    | so hv e => subst e; simp only [Option.map_some, hv.eval ha]; exact sb_some (by simp at h1; omega) w
  have key : (Instr.sliceBounds true 0 0 (lo.map a.eval) (hi.map a.eval) none).run P w = .ok (l.getD 0, h.getD 0, 0) w := by
    unfold Instr.sliceBounds
    simp only [Sem.run_bind, Sem.run_pure, Result.andThen_ok]
    cases hh with
    | no =>
      simp only [Option.map_none]
      have := e2 .sliceB w
      cases hl <;> simp_all
    | so hv e =>
      have e1' := e1 .sliceAcap w
      have e2' := e2 .sliceB w
      simp only [Option.map_some] at *
      simp only [if_true]
      cases hl <;> simp_all
  rw [h1, h2] at key
  simp only [execOp, hx.eval ha, Instr.sliceAt, Sem.run_bind, run_underlying ht, Result.andThen_ok, Option.map_none, Instr.slice, key, hs, Sem.run_pure, Option.map_some, add_at]
  simp
theorem map_snoc {α β : Type} {f : α → β} {l : List α} {a : α} : l.map f ++ [f a] = (l ++ [a]).map f := by simp
end
end Go.Eng
