/- What the objects of this program hold: words for the walks. -/
import Derived.Test.YtkpadembffdepaaGreatDoorEk
import Derived.Test.YtkpadembffdepaaGreatDoorEj
import Derived.Test.YtkpadembffdepaaGreatDoorBa
namespace Go.Eng
open Go Go.Infl

abbrev u8 (x : Nat) : Value := .int .u8 (x : Int)
abbrev i64 (x : Nat) : Value := .int .i64 (x : Int)
theorem one_u8 : ∀ x, one (u8 x) = true := fun _ => rfl
theorem one_i64 : ∀ x, one (i64 x) = true := fun _ => rfl

/-- A writer behind the pointer to block p: its bits. -/
def Wr (p : Nat) (bs : List Bool) : HProp := hex fun v => sep [blk p 2 (lst [v, i64 bs.length]), slc 1 v (pack bs).length ((pack bs).map u8)]

section
variable {G w : World} {R : List HProp} {v : Value}
theorem Sat.wr {p : Nat} {bs : List Bool} (h : Sat G w (Wr p bs :: R)) : ∃ v, Sat G w (Eng.blk p 2 (lst [v, i64 bs.length]) :: Eng.slc 1 v (pack bs).length ((pack bs).map u8) :: R) :=
  let ⟨v, hv⟩ := h.ex; ⟨v, hv.unsep⟩
theorem Sat.toWr {p : Nat} {bs : List Bool} (h : Sat G w (Eng.blk p 2 (lst [v, i64 bs.length]) :: Eng.slc 1 v (pack bs).length ((pack bs).map u8) :: R)) : Sat G w (Wr p bs :: R) :=
  (Sat.resep (Ls := [Eng.blk p 2 (lst [v, i64 bs.length]), Eng.slc 1 v (pack bs).length ((pack bs).map u8)]) h).imp fun _ hm => ⟨v, hm⟩
/-- A slice with elements, opened. -/
theorem Sat.slc1 {k : Nat} {cs : List Value} (h : Sat G w (Eng.slc 1 v k cs :: R)) (hk : 0 < k) :
    ∃ b c F, v = .slice (some ⟨b, 0, none⟩) k c ∧ k ≤ c ∧ cs.length = k ∧ (∀ j x, cs[j]? = some x → F j = x) ∧ Sat G w (Eng.blk b c F :: R) := by
  obtain ⟨hl, ⟨_, rfl, _⟩ | ⟨b, c, F, h1, h2, h3, h4⟩⟩ := h.slc
  · omega
  · rw [Nat.mul_one] at h3 hl
    exact ⟨b, c, F, h1, h2, hl, h4, h3⟩
theorem Sat.toSlc1 {k b c : Nat} {F : Nat → Value} {cs : List Value} (h : Sat G w (Eng.blk b c F :: R)) (hl : cs.length = k) (hk : k ≤ c) (hF : ∀ j x, cs[j]? = some x → F j = x) : Sat G w (Eng.slc 1 (.slice (some ⟨b, 0, none⟩) k c) k cs :: R) :=
  Sat.toSlc (c := c) (by rw [Nat.mul_one]; exact h) (by rw [Nat.mul_one]; exact hl) hk hF

theorem mk_slc1 {k b c : Nat} {F : Nat → Value} {cs : List Value} (hl : cs.length = k) (hk : k ≤ c) (hF : ∀ j x, cs[j]? = some x → F j = x) : ∀ m, Eng.blk b c F m → Eng.slc 1 (.slice (some ⟨b, 0, none⟩) k c) k cs m :=
  fun m h => ⟨by rw [Nat.mul_one]; exact hl, .inr ⟨b, c, F, rfl, hk, by rw [Nat.mul_one]; exact h, hF⟩⟩
theorem slc_eq {s k k' : Nat} {cs cs' : List Value} (hk : k = k') (hc : cs = cs') : ∀ m, Eng.slc s v k cs m → Eng.slc s v k' cs' m := by subst hk hc; exact fun _ h => h
theorem blk_eq {b k k' : Nat} {F F' : Nat → Value} (hk : k = k') (hc : F = F') : ∀ m, Eng.blk b k F m → Eng.blk b k' F' m := by subst hk hc; exact fun _ h => h
theorem rdsl {P : Program} {L : List HProp} {b m k c l0 s : Nat} {l : List Value} (h : Eng.blk b m (lst l) ∈ L) (hk : l.length = k * s) (hm : m = l.length) : Rds P G L (.slice (some ⟨b, 0, none⟩) l0 c) s k l :=
  Rds.blk h hk (by omega) (fun j v hj => by rw [Nat.zero_add]; exact lst_get hj)
theorem upd_list {F : Nat → Value} {cs : List Value} {i : Nat} {v : Value} (h : ∀ j x, cs[j]? = some x → F j = x) : ∀ j x, (cs.set i v)[j]? = some x → upd F i v j = x := fun j x hj => by
  by_cases e : j = i
  · subst e
    rw [upd_same]
    rw [List.getElem?_set] at hj
    split at hj
    · split at hj
      · exact Option.some.inj hj
      · cases hj
    · rename_i hn; exact absurd rfl hn
  · rw [upd_ne _ _ e]
    rw [List.getElem?_set_ne (fun e' => e e'.symm)] at hj
    exact h j x hj

variable {P : Program} {ρ : Env} {n : Nat} {Q : Exit → Act → World → Prop} {ops : Array Oper} {rest : List Oper}
theorem CT.open1 {c : Code} {k : Nat} {cs : List Value} (hk : 0 < k) (h : ∀ b cp F, v = .slice (some ⟨b, 0, none⟩) k cp → k ≤ cp → cs.length = k → (∀ j x, cs[j]? = some x → F j = x) → CT P c Q ρ n G (blk b cp F :: R)) : CT P c Q ρ n G (slc 1 v k cs :: R) := fun w a hS ha => by
  obtain ⟨b, cp, F, h1, h2, h3, h4, h5⟩ := hS.slc1 hk
  exact h b cp F h1 h2 h3 h4 w a h5 ha
theorem TL.open1 {k : Nat} {cs : List Value} (hk : 0 < k) (h : ∀ b cp F, v = .slice (some ⟨b, 0, none⟩) k cp → k ≤ cp → cs.length = k → (∀ j x, cs[j]? = some x → F j = x) → TL P Q ops rest ρ n G (blk b cp F :: R)) : TL P Q ops rest ρ n G (slc 1 v k cs :: R) := fun w a hS ha => by
  obtain ⟨b, cp, F, h1, h2, h3, h4, h5⟩ := hS.slc1 hk
  exact h b cp F h1 h2 h3 h4 w a h5 ha

/-! A slice of its own that is only read. -/
theorem OV.te {t : Nat} {u : Value} (h : (t, u) ∈ ρ) (e : u = v) : OV ρ (.tmp t) v := e ▸ .t h
variable {L : List HProp} {d : Option Tmp} {ty : TypeId} {pos : String} {af : Array Edge} {g : Option (Nat × Bool)}
theorem Sat.slc_shape {s k : Nat} {cs : List Value} (hm : Eng.slc s v k cs ∈ L) (h : Sat G w L) : cs.length = k * s ∧ ((v = .slice none 0 0 ∧ k = 0) ∨ ∃ b c, v = .slice (some ⟨b, 0, none⟩) k c ∧ k ≤ c) := by
  obtain ⟨m, ⟨hl, hA⟩, _⟩ := h.obj hm
  refine ⟨hl, ?_⟩
  rcases hA with h1 | ⟨b, c, F, h1, h2, _⟩
  · exact .inl h1
  · exact .inr ⟨b, c, h1, h2⟩
theorem Sat.slc_cell {s k c j b : Nat} {x : Value} {cs : List Value} (hm : Eng.slc s v k cs ∈ L) (h : Sat G w L) (hv : v = .slice (some ⟨b, 0, none⟩) k c) (hx : cs[j]? = some x) : w.cell? ⟨b, j, none⟩ = some x := by
  obtain ⟨m, ⟨hl, hA⟩, hmo⟩ := h.obj hm
  rcases hA with ⟨h1, _⟩ | ⟨b', c', F, h1, h2, ⟨cs', T, e1, e2, e3⟩, h4⟩
  · rw [h1] at hv; cases hv
  · rw [h1] at hv
    cases hv
    have hlt : j < cs.length := (List.getElem?_eq_some_iff.1 hx).1
    have h5 := (hmo _ _ e1).2
    simp [World.cell?, h5, e3 j (Nat.lt_of_lt_of_le (hl ▸ hlt) (Nat.mul_le_mul_right _ h2)), h4 j x hx]
theorem CT.peek {c : Code} {s k : Nat} {cs : List Value} (hm : slc s v k cs ∈ L) (hk : 0 < k) (h : ∀ b cp, v = .slice (some ⟨b, 0, none⟩) k cp → k ≤ cp → cs.length = k * s → CT P c Q ρ n G L) : CT P c Q ρ n G L := fun w a hS ha => by
  obtain ⟨hl, ⟨_, h0⟩ | ⟨b, cp, h1, h2⟩⟩ := hS.slc_shape hm
  · omega
  · exact h b cp h1 h2 hl w a hS ha
theorem TL.peek {s k : Nat} {cs : List Value} (hm : slc s v k cs ∈ L) (hk : 0 < k) (h : ∀ b cp, v = .slice (some ⟨b, 0, none⟩) k cp → k ≤ cp → cs.length = k * s → TL P Q ops rest ρ n G L) : TL P Q ops rest ρ n G L := fun w a hS ha => by
  obtain ⟨hl, ⟨_, h0⟩ | ⟨b, cp, h1, h2⟩⟩ := hS.slc_shape hm
  · omega
  · exact h b cp h1 h2 hl w a hS ha
theorem r_lens {t : TypeId} {e : TypeId} {af2 : Array TypeId} {x : Operand} {s k : Nat} {cs : List Value} (ht : P.underlying t = some (.slice e)) (hx : OV ρ x v) (hm : slc s v k cs ∈ L) (h : af2 = #[t] := by rfl) :
    Run P G ρ n L ⟨d, .call ⟨.builtin .len, #[x], af2⟩, ty, pos, af, g⟩ (.int .i64 (k : Int)) := fun w a hS ha => by
  obtain ⟨_, ⟨rfl, rfl⟩ | ⟨b, c, rfl, _⟩⟩ := hS.slc_shape hm
  · exact r_len (G := G) (L := L) ht hx h w a hS ha
  · exact r_len (G := G) (L := L) ht hx h w a hS ha
theorem r_lds {t b j s k c : Nat} {x : Operand} {u : Value} {cs : List Value} (hA : ∀ w, (isAgg t).run P w = .ok false w) (hm : slc s v k cs ∈ L) (hv : v = .slice (some ⟨b, 0, none⟩) k c) (h : OV ρ x (.pointer (some ⟨b, j, none⟩))) (hx : cs[j]? = some u) :
    Run P G ρ n L ⟨d, .load t x, ty, pos, af, g⟩ u := r_ldc hA h fun _ hS => hS.slc_cell hm hv hx
end
end Go.Eng
