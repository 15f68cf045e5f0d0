/- A step's end as one assertion; the complement of a number; bytes of sixteen bits. -/
import Derived.Test.YtkpadembffdepaaGreatDoorGh
namespace Go.Eng
open Go Go.Proofs Go.Infl
set_option maxRecDepth 20000
section
variable {P : Program} {G w : World} {ρ : Env} {n : Nat} {L R : List HProp} {d : Option Tmp} {ty : TypeId} {pos : String} {af : Array Edge} {g : Option (Nat × Bool)}
theorem compl16 {x : Nat} (h : x < 65536) : IntKind.i64.wrap ((BitVec.ofInt 64 (-1) ^^^ BitVec.ofInt 64 (x : Int)).toNat : Int) = -(x : Int) - 1 := by
  have e : (BitVec.ofInt 64 (-1) ^^^ BitVec.ofInt 64 (x : Int)) = ~~~ (BitVec.ofNat 64 x) := by
    rw [show BitVec.ofInt 64 (-1) = BitVec.allOnes 64 by decide, BitVec.allOnes_xor, BitVec.ofInt_natCast]
  rw [e, BitVec.toNat_not, BitVec.toNat_ofNat, Nat.mod_eq_of_lt (by omega)]
  simp [IntKind.wrap, IntKind.signed, IntKind.bits]
  omega
theorem compl16' {x : Nat} (h : x < 65536) : IntKind.i64.wrap ((18446744073709551615#64 ^^^ BitVec.ofNat 64 x).toNat : Int) = -(x : Int) - 1 := by
  have := compl16 h
  rw [show BitVec.ofInt 64 (-1) = 18446744073709551615#64 by decide, BitVec.ofInt_natCast] at this
  exact this
theorem r_compl {t : TypeId} {x : Operand} {a : Nat} (hx : OV ρ x (.int .i64 (a : Int))) (h : a < 65536) : Run P G ρ n L ⟨d, .unOp .xor t x, ty, pos, af, g⟩ (.int .i64 (-(a : Int) - 1)) := fun w a' _ ha => by
  simp [execOp, hx.eval ha, Op.unary, Op.intBits, IntKind.signed, IntKind.bits]
  exact compl16' h
end
theorem conv16 {a : Nat} (h : a < 65536) : IntKind.u16.wrap (-(a : Int) - 1) = ((65535 - a : Nat) : Int) := by
  simp [IntKind.wrap, IntKind.signed, IntKind.bits]
  omega
theorem or16 {a : Nat} : (a % 256 ||| a / 256 * 2 ^ 8) = a := by
  rw [show a % 256 = a % 2 ^ 8 from rfl, or_add (Nat.mod_lt _ (by decide))]
  show a % 256 + a / 256 * 256 = a
  omega
theorem nbits16 (a : Nat) : nbits 16 a = nbits 8 (a % 256) ++ nbits 8 (a / 256) := by
  apply List.ext_getElem?
  intro j
  unfold nbits
  rw [List.getElem?_append]
  simp only [List.length_map, List.length_range, List.getElem?_map]
  by_cases h1 : j < 8
  · rw [if_pos h1, List.getElem?_range (by omega), List.getElem?_range h1]
    simp only [Option.map_some]
    rw [show a % 256 = a % 2 ^ 8 from rfl, Nat.testBit_mod_two_pow]
    simp [h1]
  · rw [if_neg h1]
    by_cases h2 : j < 16
    · rw [List.getElem?_range h2, List.getElem?_range (by omega)]
      simp only [Option.map_some]
      rw [show a / 256 = a / 2 ^ 8 from rfl, Nat.testBit_div_two_pow]
      congr 2
      omega
    · rw [List.getElem?_eq_none (by simp; omega), List.getElem?_eq_none (by simp; omega)]
      rfl
theorem buf4 {s : DS} {a b c d : Nat} : updl (D s) 1041 [u8 a, u8 b, u8 c, u8 d] = D { s with b0 := a, b1 := b, b2 := c, b3 := d } := by
  show upd (upd (upd (upd (D s) 1041 _) 1042 _) 1043 _) 1044 _ = _
  rw [Dset_b0, Dset_b1, Dset_b2, Dset_b3]
/-- What is still to be done, or the end. -/
def Qt (B : List Bool) (hF : List Nat) (eof : Value) (s : DS) (i : Nat) (h un : List Nat) (ok : Nat → Prop) : HProp := hex fun o : Option Nat => match o with
  | some mu => sep [hpure (s.err = .nilIface ∧ ok mu), Pl B hF s i h mu]
  | none => hpure (s.err = eof ∧ h = hF ∧ un = [])
/-- A decompressor between two steps, as one assertion. -/
def RSA (f r hb : Nat) (B : List Bool) (hF : List Nat) (eof : Value) (del : List Nat) (ok : Nat → Prop) : HProp :=
  hex fun x : DS × Nat × (Nat → Nat) × List Nat × List Nat × List Nat => sep [hpure (Base r hb B x.1 x.2.1 x.2.2.1 x.2.2.2.1 ∧ x.2.2.2.1 = del ++ (x.2.2.2.2.1 ++ x.2.2.2.2.2) ∧ x.2.2.2.2.2.length = x.1.wr - x.1.rd ∧ TR hb x.2.2.1 x.1.toRead x.2.2.2.2.1),
    blk f 1054 (D x.1), Br r B x.2.1, blk hb 32768 (fun j => u8 (x.2.2.1 j)), Qt B hF eof x.1 x.2.1 x.2.2.2.1 x.2.2.2.2.2 ok]
theorem RS.toA {G w : World} {R : List HProp} {f r hb : Nat} {B : List Bool} {hF del : List Nat} {eof : Value} {ok : Nat → Prop} (h : RS G R f r hb B hF eof del ok w) : Sat G w (RSA f r hb B hF eof del ok :: R) := by
  obtain ⟨s, i, hist, h, c, un, h1, h2, h3, h4, ⟨h5, mu, h6, hS⟩ | ⟨h5, h6, h7, hS⟩⟩ := h
  · have a1 : Sat G w (sep [hpure (s.err = .nilIface ∧ ok mu), Pl B hF s i h mu] :: blk f 1054 (D s) :: Br r B i :: blk hb 32768 (fun j => u8 (hist j)) :: R) :=
      Sat.resep (Ls := [hpure (s.err = .nilIface ∧ ok mu), Pl B hF s i h mu]) (Sat.emp ⟨h5, h6⟩ (hS.perm p3))
    have a2 : Sat G w (Qt B hF eof s i h un ok :: blk f 1054 (D s) :: Br r B i :: blk hb 32768 (fun j => u8 (hist j)) :: R) := a1.imp fun m hm => ⟨some mu, hm⟩
    exact (Sat.resep (Ls := [hpure (Base r hb B s i hist h ∧ h = del ++ (c ++ un) ∧ un.length = s.wr - s.rd ∧ TR hb hist s.toRead c), blk f 1054 (D s), Br r B i, blk hb 32768 (fun j => u8 (hist j)), _]) (Sat.emp (A := hpure (Base r hb B s i hist h ∧ h = del ++ (c ++ un) ∧ un.length = s.wr - s.rd ∧ TR hb hist s.toRead c)) ⟨h1, h2, h3, h4⟩ (a2.perm (List.perm_middle (l₁ := [blk f 1054 (D s), Br r B i, blk hb 32768 (fun j => u8 (hist j))])).symm))).imp fun m hm => ⟨(s, i, hist, h, c, un), hm⟩
  · have a2 : Sat G w (Qt B hF eof s i h un ok :: blk f 1054 (D s) :: Br r B i :: blk hb 32768 (fun j => u8 (hist j)) :: R) := (hS.emp (A := hpure (s.err = eof ∧ h = hF ∧ un = [])) ⟨h5, h6, h7⟩).imp fun m hm => ⟨none, hm⟩
    exact (Sat.resep (Ls := [hpure (Base r hb B s i hist h ∧ h = del ++ (c ++ un) ∧ un.length = s.wr - s.rd ∧ TR hb hist s.toRead c), blk f 1054 (D s), Br r B i, blk hb 32768 (fun j => u8 (hist j)), _]) (Sat.emp (A := hpure (Base r hb B s i hist h ∧ h = del ++ (c ++ un) ∧ un.length = s.wr - s.rd ∧ TR hb hist s.toRead c)) ⟨h1, h2, h3, h4⟩ (a2.perm (List.perm_middle (l₁ := [blk f 1054 (D s), Br r B i, blk hb 32768 (fun j => u8 (hist j))])).symm))).imp fun m hm => ⟨(s, i, hist, h, c, un), hm⟩
theorem Sat.rsa {G w : World} {R : List HProp} {f r hb : Nat} {B : List Bool} {hF del : List Nat} {eof : Value} {ok : Nat → Prop} (h : Sat G w (RSA f r hb B hF eof del ok :: R)) : RS G R f r hb B hF eof del ok w := by
  obtain ⟨⟨s, i, hist, h, c, un⟩, hS⟩ := h.ex
  obtain ⟨⟨h1, h2, h3, h4⟩, hS⟩ := (Sat.unsep hS).pure
  obtain ⟨o, hS⟩ := (hS.perm p3).ex
  refine ⟨s, i, hist, h, c, un, h1, h2, h3, h4, ?_⟩
  cases o with
  | some mu =>
    obtain ⟨⟨h5, h6⟩, hS⟩ := (Sat.unsep hS).pure
    exact .inl ⟨h5, mu, h6, hS.perm (List.perm_middle (l₁ := [Eng.blk f 1054 (Eng.D s), Br r B i, Eng.blk hb 32768 (fun j => u8 (hist j))])).symm⟩
  | none =>
    obtain ⟨⟨h5, h6, h7⟩, hS⟩ := hS.pure
    exact .inr ⟨h5, h6, h7, hS⟩
end Go.Eng
