/- Arithmetic of this seat's walks on numbers that are not negative. -/
import Derived.Test.YtkpadembffdepaaGreatDoorEg
namespace Go.Eng
open Go

def lim : IntKind → Nat
  | .i8 => 128 | .i16 => 32768 | .i32 => 2147483648 | .i64 => 9223372036854775808
  | .u8 => 256 | .u16 => 65536 | .u32 => 4294967296 | .u64 => 18446744073709551616
theorem wrap_nat {k : IntKind} {a B : Nat} (hB : lim k = B) (h : a < B) : k.wrap (a : Int) = a := by
  subst hB
  cases k <;> simp [lim, IntKind.wrap, IntKind.signed, IntKind.bits] at * <;> omega
theorem wi {x z : Int} (h : x = z ∧ -9223372036854775808 ≤ z ∧ z ≤ 9223372036854775807) : IntKind.i64.wrap x = z := by
  obtain ⟨rfl, h1, h2⟩ := h
  simp [IntKind.wrap, IntKind.signed, IntKind.bits]
  omega
theorem lim_bits {k : IntKind} {a : Nat} (h : a < lim k) : a < 2 ^ k.bits := by
  cases k <;> simp [lim, IntKind.bits] at * <;> omega

section
variable {P : Program} {G : World} {ρ : Env} {n : Nat} {L : List HProp} {d : Option Tmp} {ty : TypeId} {pos : String} {af : Array Edge} {g : Option (Nat × Bool)} {t u : TypeId} {k kk : IntKind} {x y : Operand} {i j : Int} {B : Nat}

theorem n_add (a b : Nat) (B : Nat) (hx : OV ρ x (.int k i)) (hy : OV ρ y (.int k j)) (ei : i = (a : Int)) (ej : j = (b : Int)) (h : a + b < B) (hB : lim k = B := by rfl) : Run P G ρ n L ⟨d, .binOp .add t x y u, ty, pos, af, g⟩ (.int k ((a + b : Nat) : Int)) := by
  subst ei ej
  exact r_add hx hy (by rw [← Int.natCast_add]; exact wrap_nat hB h)
theorem n_sub (a b : Nat) (B : Nat) (hx : OV ρ x (.int k i)) (hy : OV ρ y (.int k j)) (ei : i = (a : Int)) (ej : j = (b : Int)) (hle : b ≤ a) (h : a < B) (hB : lim k = B := by rfl) : Run P G ρ n L ⟨d, .binOp .sub t x y u, ty, pos, af, g⟩ (.int k ((a - b : Nat) : Int)) := by
  subst ei ej
  exact r_sub hx hy (by rw [← Int.natCast_sub hle]; exact wrap_nat hB (by omega))
theorem n_mul (a b : Nat) (B : Nat) (hx : OV ρ x (.int k i)) (hy : OV ρ y (.int k j)) (ei : i = (a : Int)) (ej : j = (b : Int)) (h : a * b < B) (hB : lim k = B := by rfl) : Run P G ρ n L ⟨d, .binOp .mul t x y u, ty, pos, af, g⟩ (.int k ((a * b : Nat) : Int)) := by
  subst ei ej
  exact r_mul hx hy (by rw [← Int.natCast_mul]; exact wrap_nat hB h)
theorem n_quo (a b : Nat) (B : Nat) (hx : OV ρ x (.int k i)) (hy : OV ρ y (.int k j)) (ei : i = (a : Int)) (ej : j = (b : Int)) (h0 : b ≠ 0) (h : a < B) (hB : lim k = B := by rfl) : Run P G ρ n L ⟨d, .binOp .quo t x y u, ty, pos, af, g⟩ (.int k ((a / b : Nat) : Int)) := by
  subst ei ej
  exact r_quo hx hy (by omega) (by
    rw [← Int.ofNat_tdiv]
    exact wrap_nat hB (Nat.lt_of_le_of_lt (Nat.div_le_self _ _) h))
theorem n_rem (a b : Nat) (hx : OV ρ x (.int k i)) (hy : OV ρ y (.int k j)) (ei : i = (a : Int)) (ej : j = (b : Int)) (h0 : b ≠ 0) : Run P G ρ n L ⟨d, .binOp .rem t x y u, ty, pos, af, g⟩ (.int k ((a % b : Nat) : Int)) := by
  subst ei ej
  exact r_rem hx hy (by omega) (Int.ofNat_tmod _ _).symm
theorem n_shl (a b : Nat) (B : Nat) (hx : OV ρ x (.int k i)) (hy : OV ρ y (.int kk j)) (ei : i = (a : Int)) (ej : j = (b : Int)) (hb : b ≤ k.bits) (h : a * 2 ^ b < B) (hB : lim k = B := by rfl) : Run P G ρ n L ⟨d, .binOp .shl t x y u, ty, pos, af, g⟩ (.int k ((a * 2 ^ b : Nat) : Int)) := by
  subst ei ej
  exact r_shl hx hy (by omega) (by
    rw [Int.toNat_natCast, Nat.min_eq_left hb]
    have : (a : Int) * 2 ^ b = ((a * 2 ^ b : Nat) : Int) := by push_cast; rfl
    rw [this]
    exact wrap_nat hB h)
theorem n_shr (a b : Nat) (hx : OV ρ x (.int k i)) (hy : OV ρ y (.int kk j)) (ei : i = (a : Int)) (ej : j = (b : Int)) (hb : b ≤ k.bits) : Run P G ρ n L ⟨d, .binOp .shr t x y u, ty, pos, af, g⟩ (.int k ((a / 2 ^ b : Nat) : Int)) := by
  subst ei ej
  exact r_shr hx hy (by omega) (by
    rw [Int.toNat_natCast, Nat.min_eq_left hb]
    have : (2 : Int) ^ b = ((2 ^ b : Nat) : Int) := by push_cast; rfl
    rw [this, Int.ofNat_fdiv])
theorem bv_nat {k : IntKind} {a B : Nat} (hB : lim k = B) (h : a < B) : (BitVec.ofInt k.bits (a : Int)).toNat = a := by
  subst hB
  rw [BitVec.ofInt_natCast, BitVec.toNat_ofNat, Nat.mod_eq_of_lt (lim_bits h)]
theorem lim_pow (k : IntKind) : ∃ m, lim k = 2 ^ m := by cases k <;> first | exact ⟨7, rfl⟩ | exact ⟨15, rfl⟩ | exact ⟨31, rfl⟩ | exact ⟨63, rfl⟩ | exact ⟨8, rfl⟩ | exact ⟨16, rfl⟩ | exact ⟨32, rfl⟩ | exact ⟨64, rfl⟩
theorem n_and (a b : Nat) (B : Nat) (hx : OV ρ x (.int k i)) (hy : OV ρ y (.int k j)) (ei : i = (a : Int)) (ej : j = (b : Int)) (h : a < B) (h' : b < B) (hB : lim k = B := by rfl) : Run P G ρ n L ⟨d, .binOp .and t x y u, ty, pos, af, g⟩ (.int k ((a &&& b : Nat) : Int)) := by
  subst ei ej
  exact r_and hx hy (by
    rw [BitVec.toNat_and, bv_nat hB h, bv_nat hB h']
    exact wrap_nat hB (Nat.lt_of_le_of_lt Nat.and_le_left h))
theorem n_or (a b : Nat) (B : Nat) (hx : OV ρ x (.int k i)) (hy : OV ρ y (.int k j)) (ei : i = (a : Int)) (ej : j = (b : Int)) (h : a < B) (h' : b < B) (hB : lim k = B := by rfl) : Run P G ρ n L ⟨d, .binOp .or t x y u, ty, pos, af, g⟩ (.int k ((a ||| b : Nat) : Int)) := by
  subst ei ej
  exact r_or hx hy (by
    rw [BitVec.toNat_or, bv_nat hB h, bv_nat hB h']
    obtain ⟨m, hm⟩ := lim_pow k
    rw [hm] at hB; subst hB; exact wrap_nat hm (Nat.or_lt_two_pow h h'))
theorem n_xor (a b : Nat) (B : Nat) (hx : OV ρ x (.int k i)) (hy : OV ρ y (.int k j)) (ei : i = (a : Int)) (ej : j = (b : Int)) (h : a < B) (h' : b < B) (hB : lim k = B := by rfl) : Run P G ρ n L ⟨d, .binOp .xor t x y u, ty, pos, af, g⟩ (.int k ((a ^^^ b : Nat) : Int)) := by
  subst ei ej
  exact r_xor hx hy (by
    rw [BitVec.toNat_xor, bv_nat hB h, bv_nat hB h']
    obtain ⟨m, hm⟩ := lim_pow k
    rw [hm] at hB; subst hB; exact wrap_nat hm (Nat.xor_lt_two_pow h h'))
theorem n_conv (a : Nat) (B : Nat) (hs : ∃ y, P.underlying t = some y) (ht : P.underlying u = some (.int k)) (hx : OV ρ x (.int kk i)) (ei : i = (a : Int)) (h : a < B) (hB : lim k = B := by rfl) : Run P G ρ n L ⟨d, .convert t u x, ty, pos, af, g⟩ (.int k (a : Int)) := by
  subst ei
  exact r_conv hs ht hx (wrap_nat hB h)
theorem n_convm (a : Nat) (B : Nat) (hs : ∃ y, P.underlying t = some y) (ht : P.underlying u = some (.int k)) (hx : OV ρ x (.int kk i)) (ei : i = (a : Int)) (hk : k.signed = false := by rfl) (hB : lim k = B := by rfl) : Run P G ρ n L ⟨d, .convert t u x, ty, pos, af, g⟩ (.int k ((a % B : Nat) : Int)) := by
  subst ei hB
  refine r_conv hs ht hx ?_
  cases k <;> first | (simp [IntKind.wrap, IntKind.signed, IntKind.bits, lim]; done) | cases hk
theorem n_lss (a b : Nat) (hx : OV ρ x (.int k i)) (hy : OV ρ y (.int k j)) (ei : i = (a : Int)) (ej : j = (b : Int)) : Run P G ρ n L ⟨d, .binOp .lss t x y u, ty, pos, af, g⟩ (.bool (decide (a < b))) := by
  subst ei ej; have := r_lss (P := P) (G := G) (n := n) (L := L) (d := d) (ty := ty) (pos := pos) (af := af) (g := g) (t := t) (u := u) hx hy; simpa using this
theorem n_leq (a b : Nat) (hx : OV ρ x (.int k i)) (hy : OV ρ y (.int k j)) (ei : i = (a : Int)) (ej : j = (b : Int)) : Run P G ρ n L ⟨d, .binOp .leq t x y u, ty, pos, af, g⟩ (.bool (decide (a ≤ b))) := by
  subst ei ej; have := r_leq (P := P) (G := G) (n := n) (L := L) (d := d) (ty := ty) (pos := pos) (af := af) (g := g) (t := t) (u := u) hx hy; simpa using this
theorem n_gtr (a b : Nat) (hx : OV ρ x (.int k i)) (hy : OV ρ y (.int k j)) (ei : i = (a : Int)) (ej : j = (b : Int)) : Run P G ρ n L ⟨d, .binOp .gtr t x y u, ty, pos, af, g⟩ (.bool (decide (b < a))) := by
  subst ei ej; have := r_gtr (P := P) (G := G) (n := n) (L := L) (d := d) (ty := ty) (pos := pos) (af := af) (g := g) (t := t) (u := u) hx hy; simpa using this
theorem n_geq (a b : Nat) (hx : OV ρ x (.int k i)) (hy : OV ρ y (.int k j)) (ei : i = (a : Int)) (ej : j = (b : Int)) : Run P G ρ n L ⟨d, .binOp .geq t x y u, ty, pos, af, g⟩ (.bool (decide (b ≤ a))) := by
  subst ei ej; have := r_geq (P := P) (G := G) (n := n) (L := L) (d := d) (ty := ty) (pos := pos) (af := af) (g := g) (t := t) (u := u) hx hy; simpa using this
theorem n_eql (a b : Nat) (hx : OV ρ x (.int k i)) (hy : OV ρ y (.int k j)) (ei : i = (a : Int)) (ej : j = (b : Int)) : Run P G ρ n L ⟨d, .binOp .eql t x y u, ty, pos, af, g⟩ (.bool (decide (a = b))) := by
  subst ei ej; have := r_eql (P := P) (G := G) (n := n) (L := L) (d := d) (ty := ty) (pos := pos) (af := af) (g := g) (t := t) (u := u) hx hy
  rw [show decide (a = b) = decide ((a : Int) = (b : Int)) from decide_eq_decide.2 (by omega)]; exact this
theorem n_neq (a b : Nat) (hx : OV ρ x (.int k i)) (hy : OV ρ y (.int k j)) (ei : i = (a : Int)) (ej : j = (b : Int)) : Run P G ρ n L ⟨d, .binOp .neq t x y u, ty, pos, af, g⟩ (.bool (decide (¬ a = b))) := by
  subst ei ej; have := r_neq (P := P) (G := G) (n := n) (L := L) (d := d) (ty := ty) (pos := pos) (af := af) (g := g) (t := t) (u := u) hx hy
  rw [show decide (¬ a = b) = decide (¬ (a : Int) = (b : Int)) from decide_eq_decide.2 (by omega)]; exact this
theorem n_min (a b : Nat) {tt : Array TypeId} (hx : OV ρ x (.int k i)) (hy : OV ρ y (.int k j)) (ei : i = (a : Int)) (ej : j = (b : Int)) : Run P G ρ n L ⟨d, .call ⟨.builtin .min, #[x, y], tt⟩, ty, pos, af, g⟩ (.int k ((min a b : Nat) : Int)) := by
  subst ei ej
  have := r_min (P := P) (G := G) (n := n) (L := L) (d := d) (ty := ty) (pos := pos) (af := af) (g := g) (t := tt) hx hy
  rw [show (((min a b : Nat)) : Int) = if (b : Int) < (a : Int) then (b : Int) else (a : Int) by split <;> omega]; exact this
theorem r_notp {p : Prop} [Decidable p] (hx : OV ρ x (.bool (decide p))) : Run P G ρ n L ⟨d, .unOp .not t x, ty, pos, af, g⟩ (.bool (decide (¬ p))) := by
  have := r_not (P := P) (G := G) (n := n) (L := L) (d := d) (ty := ty) (pos := pos) (af := af) (g := g) (t := t) hx
  rw [show decide (¬ p) = !decide p by simp]; exact this
end
end Go.Eng
