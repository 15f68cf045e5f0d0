/- Plain facts on bits, and on the bytes that they are packed into. -/
namespace Go.Infl

def packByte : List Bool → Nat
  | [] => 0
  | b :: l => b.toNat + 2 * packByte l
def byteAt (bs : List Bool) (i : Nat) : Nat := packByte ((bs.drop (8 * i)).take 8)
def pack (bs : List Bool) : List Nat := (List.range ((bs.length + 7) / 8)).map (byteAt bs)
def padded (bs : List Bool) : List Nat := if bs.length % 8 = 0 then pack bs ++ [0] else pack bs

theorem packByte_lt : ∀ {l : List Bool} {k : Nat}, l.length ≤ k → packByte l < 2 ^ k := by
  intro l
  induction l with
  | nil => intro k _; exact Nat.two_pow_pos k
  | cons b l ih =>
    intro k h
    cases k with
    | zero => simp at h
    | succ k =>
      have := ih (k := k) (by simpa using h)
      have hb : b.toNat ≤ 1 := by cases b <;> simp
      simp only [packByte, Nat.pow_succ]
      omega
theorem packByte_append : ∀ (l : List Bool) (b : Bool), packByte (l ++ [b]) = packByte l + b.toNat * 2 ^ l.length := by
  intro l
  induction l with
  | nil => intro b; simp [packByte]
  | cons c l ih =>
    intro b
    simp only [List.cons_append, packByte, ih, List.length_cons, Nat.pow_succ]
    rw [Nat.mul_add, ← Nat.mul_assoc, Nat.mul_comm 2 b.toNat, Nat.mul_assoc, Nat.mul_comm 2 (2 ^ l.length)]
    omega
theorem byteAt_lt (bs : List Bool) (i : Nat) : byteAt bs i < 256 := packByte_lt (k := 8) (by simp [List.length_take]; omega)
theorem or_add {a k c : Nat} (h : a < 2 ^ k) : a ||| c * 2 ^ k = a + c * 2 ^ k := by
  rw [Nat.or_comm, Nat.mul_comm, ← Nat.two_pow_add_eq_or_of_lt h]
  omega
theorem byteAt_last (bs : List Bool) (b : Bool) : byteAt (bs ++ [b]) (bs.length / 8) = byteAt bs (bs.length / 8) ||| b.toNat * 2 ^ (bs.length % 8) := by
  unfold byteAt
  have h1 : (bs ++ [b]).drop (8 * (bs.length / 8)) = bs.drop (8 * (bs.length / 8)) ++ [b] := List.drop_append_of_le_length (by omega)
  have h2 : (bs.drop (8 * (bs.length / 8))).length = bs.length % 8 := by simp; omega
  rw [h1, List.take_of_length_le (by simp; omega), List.take_of_length_le (by omega), packByte_append, h2]
  rw [or_add]
  exact packByte_lt (by omega)
theorem byteAt_lt_same (bs : List Bool) (b : Bool) {i : Nat} (h : i < bs.length / 8) : byteAt (bs ++ [b]) i = byteAt bs i := by
  unfold byteAt
  rw [List.drop_append_of_le_length (by omega), List.take_append_of_le_length (by simp; omega)]
theorem pack_length (bs : List Bool) : (pack bs).length = (bs.length + 7) / 8 := by simp [pack]
theorem padded_length (bs : List Bool) : (padded bs).length = bs.length / 8 + 1 := by
  unfold padded
  split
  · simp [pack_length]; omega
  · rw [pack_length]; omega
theorem padded_last (bs : List Bool) : (padded bs)[bs.length / 8]? = some (byteAt bs (bs.length / 8)) := by
  unfold padded
  split
  · rename_i h
    rw [List.getElem?_append_right (by rw [pack_length]; omega), pack_length]
    have : bs.length / 8 - (bs.length + 7) / 8 = 0 := by omega
    rw [this]
    have h2 : bs.drop (8 * (bs.length / 8)) = [] := List.drop_eq_nil_of_le (by omega)
    simp [byteAt, h2, packByte]
  · rename_i h
    unfold pack
    rw [List.getElem?_map, List.getElem?_range (by omega)]
    rfl
theorem pack_append (bs : List Bool) (b : Bool) : pack (bs ++ [b]) = (padded bs).set (bs.length / 8) (byteAt bs (bs.length / 8) ||| b.toNat * 2 ^ (bs.length % 8)) := by
  apply List.ext_getElem?
  intro i
  by_cases hi : i = bs.length / 8
  · subst hi
    rw [List.getElem?_set_self (by rw [padded_length]; omega)]
    unfold pack
    rw [List.getElem?_map, List.getElem?_range (by simp; omega)]
    simp [byteAt_last]
  · rw [List.getElem?_set_ne (fun e => hi e.symm)]
    by_cases hlt : i < bs.length / 8
    · have h1 : (pack (bs ++ [b]))[i]? = some (byteAt bs i) := by
        unfold pack
        rw [List.getElem?_map, List.getElem?_range (by simp; omega)]
        simp [byteAt_lt_same bs b hlt]
      have h2 : (pack bs)[i]? = some (byteAt bs i) := by
        unfold pack
        rw [List.getElem?_map, List.getElem?_range (by omega)]
        rfl
      rw [h1]
      unfold padded
      split
      · rw [List.getElem?_append_left (by rw [pack_length]; omega), h2]
      · rw [h2]
    · rw [List.getElem?_eq_none (by rw [pack_length]; simp; omega), List.getElem?_eq_none (by rw [padded_length]; omega)]

/-- The n low bits of v, the lowest first. -/
def nbits (n v : Nat) : List Bool := (List.range n).map v.testBit
/-- The n low bits of v, the highest first. -/
def cbits (n v : Nat) : List Bool := (nbits n v).reverse
theorem nbits_length (n v : Nat) : (nbits n v).length = n := by simp [nbits]
theorem cbits_length (n v : Nat) : (cbits n v).length = n := by simp [cbits, nbits_length]
theorem nbits_succ (n v : Nat) : nbits (n + 1) v = nbits n v ++ [v.testBit n] := by simp [nbits, List.range_succ]
theorem odd_testBit (v i : Nat) : decide ((v / 2 ^ i) % 2 = 1) = v.testBit i := by rw [Nat.testBit_eq_decide_div_mod_eq]

theorem bits8_length (xs : List Nat) : (xs.flatMap (nbits 8)).length = 8 * xs.length := by
  induction xs with
  | nil => rfl
  | cons x xs ih => rw [List.flatMap_cons, List.length_append, ih, nbits_length, List.length_cons]; omega
theorem flag_lt (f : Bool) : Bool.toNat f < 2 := by cases f <;> decide
/-- The bits of a stored block: its head with padding, the bytes. -/
def storedBits (f : Bool) (ps : List Bool) (xs : List Nat) : List Bool := nbits 3 (Bool.toNat f) ++ ps ++ nbits 16 xs.length ++ nbits 16 (65535 - xs.length) ++ xs.flatMap (nbits 8)
theorem storedBits_length (f : Bool) (ps : List Bool) (xs : List Nat) : (storedBits f ps xs).length = 35 + ps.length + 8 * xs.length := by
  unfold storedBits
  simp only [List.length_append, nbits_length, bits8_length]
  omega
end Go.Infl
