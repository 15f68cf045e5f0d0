/- Plain facts on the window of what was given, and on bits that are taken from bytes. -/
import Derived.Test.YtkpadembffdepaaGreatDoorBc
namespace Go.Infl

/-- Some numbers, with others written at a place. -/
def updh (hist : Nat → Nat) (off : Nat) (xs : List Nat) (j : Nat) : Nat := if off ≤ j ∧ j < off + xs.length then xs.getD (j - off) 0 else hist j
/-- A window holds the last bytes of what was given. -/
def Win (hist : Nat → Nat) (wr : Nat) (full : Bool) (h : List Nat) : Prop :=
  wr ≤ 32768 ∧ (full = false → h.length = wr) ∧ (full = true → 32768 ≤ h.length) ∧ ∀ j, j < h.length → j < 32768 → hist ((wr + 32767 - j) % 32768) = h.getD (h.length - 1 - j) 0
theorem Win.write {hist : Nat → Nat} {wr : Nat} {full : Bool} {h xs : List Nat} (H : Win hist wr full h) (hx : wr + xs.length ≤ 32768) : Win (updh hist wr xs) (wr + xs.length) full (h ++ xs) := by
  obtain ⟨h1, h2, h3, h4⟩ := H
  refine ⟨hx, fun hf => by rw [List.length_append, h2 hf], fun hf => by rw [List.length_append]; have := h3 hf; omega, ?_⟩
  intro j hj1 hj2
  rw [List.length_append] at hj1
  unfold updh
  by_cases hj : j < xs.length
  · have e : (wr + xs.length + 32767 - j) % 32768 = wr + (xs.length - 1 - j) := by omega
    rw [e, if_pos (by omega), show wr + (xs.length - 1 - j) - wr = xs.length - 1 - j by omega]
    simp only [List.getD_eq_getElem?_getD]
    rw [List.length_append, List.getElem?_append_right (by omega)]
    congr 2
    omega
  · have hlen : h.length ≤ 32768 → full = false → h.length ≤ wr := fun _ hf => by rw [h2 hf]; exact Nat.le_refl _
    have e : (wr + xs.length + 32767 - j) % 32768 = (wr + 32767 - (j - xs.length)) % 32768 := by congr 1; omega
    rw [e]
    have hn : ¬ (wr ≤ (wr + 32767 - (j - xs.length)) % 32768 ∧ (wr + 32767 - (j - xs.length)) % 32768 < wr + xs.length) := by omega
    rw [if_neg hn, h4 (j - xs.length) (by omega) (by omega)]
    simp only [List.getD_eq_getElem?_getD]
    rw [List.length_append, List.getElem?_append_left (by omega)]
    congr 2
    omega
theorem Win.flush {hist : Nat → Nat} {wr : Nat} {full : Bool} {h : List Nat} (H : Win hist wr full h) : Win hist (wr % 32768) (full || decide (wr = 32768)) h := by
  obtain ⟨h1, h2, h3, h4⟩ := H
  refine ⟨by omega, ?_, ?_, ?_⟩
  · intro hf
    rw [Bool.or_eq_false_iff] at hf
    have := of_decide_eq_false hf.2
    rw [h2 hf.1]; omega
  · intro hf
    cases hb : full with
    | true => exact h3 hb
    | false =>
      rw [hb, Bool.false_or] at hf
      have := of_decide_eq_true hf
      rw [h2 hb]; omega
  · intro j hj1 hj2
    rw [← h4 j hj1 hj2]
    congr 1
    omega
/-- What is not yet handed over stands in the window, in one piece. -/
theorem Win.tail {hist : Nat → Nat} {wr rd : Nat} {full : Bool} {del un : List Nat} (H : Win hist wr full (del ++ un)) (hr : rd ≤ wr) (hu : un.length = wr - rd) : ∀ j x, un[j]? = some x → hist (rd + j) = x := by
  obtain ⟨h1, h2, h3, h4⟩ := H
  intro j x hj
  have hlt : j < un.length := (List.getElem?_eq_some_iff.1 hj).1
  have := h4 (un.length - 1 - j) (by rw [List.length_append]; omega) (by omega)
  rw [show (wr + 32767 - (un.length - 1 - j)) % 32768 = rd + j by omega] at this
  rw [this]
  simp only [List.getD_eq_getElem?_getD]
  rw [List.length_append, List.getElem?_append_right (by omega), show del.length + un.length - 1 - (un.length - 1 - j) - del.length = j by omega, hj]
  rfl
theorem Win.zero : Win (fun _ => 0) 0 false [] := ⟨by decide, fun _ => rfl, fun h => (by cases h), fun j hj => absurd hj (Nat.not_lt_zero j)⟩

/-- The bits that a reader of bytes holds: it stands at bit k, has read i bytes, nb bits of them are not yet taken. -/
def Held (B : List Bool) (k i b nb : Nat) : Prop := k + nb = 8 * i ∧ b = packByte ((B.drop k).take nb)
theorem packByte_app : ∀ (l l' : List Bool), packByte (l ++ l') = packByte l + packByte l' * 2 ^ l.length := by
  intro l
  induction l with
  | nil => intro l'; simp [packByte]
  | cons c l ih =>
    intro l'
    simp only [List.cons_append, packByte, ih, List.length_cons, Nat.pow_succ]
    rw [Nat.mul_add, ← Nat.mul_assoc, Nat.mul_comm 2 (packByte l'), Nat.mul_assoc, Nat.mul_comm 2 (2 ^ l.length)]
    omega
theorem Held.lt {B : List Bool} {k i b nb : Nat} (H : Held B k i b nb) : b < 2 ^ nb := by
  rw [H.2]; exact packByte_lt (by rw [List.length_take]; omega)
theorem Held.more {B : List Bool} {k i b nb : Nat} (H : Held B k i b nb) (hi : 8 * i < B.length) : Held B k (i + 1) (b ||| byteAt B i * 2 ^ nb) (nb + 8) := by
  refine ⟨by have := H.1; omega, ?_⟩
  rw [or_add H.lt, List.take_add, packByte_app, H.2]
  congr 1
  have hk : k + nb = 8 * i := H.1
  rw [List.drop_drop, hk]
  unfold byteAt
  congr 1
  rw [List.length_take, List.length_drop, Nat.min_eq_left (by omega)]
theorem Held.take {B : List Bool} {k i b nb m : Nat} (H : Held B k i b nb) (hm : m ≤ nb) : Held B (k + m) i (b / 2 ^ m) (nb - m) := by
  refine ⟨by have := H.1; omega, ?_⟩
  rw [H.2]
  have e : (B.drop k).take nb = ((B.drop k).take nb).take m ++ ((B.drop (k + m)).take (nb - m)) := by
    conv => lhs; rw [← List.take_append_drop m ((B.drop k).take nb)]
    congr 1
    rw [List.drop_take, List.drop_drop]
  rcases Nat.lt_or_ge ((B.drop k).take nb).length m with hl | hl
  · rw [Nat.div_eq_of_lt (packByte_lt (Nat.le_of_lt hl))]
    rw [show (B.drop (k + m)) = [] by rw [List.length_take, List.length_drop] at hl; exact List.drop_eq_nil_of_le (by omega)]
    simp [packByte]
  · conv => lhs; rw [e]
    rw [packByte_app, List.length_take, Nat.min_eq_left hl, Nat.add_mul_div_right _ _ (Nat.two_pow_pos m), Nat.div_eq_of_lt (packByte_lt (by rw [List.length_take]; omega)), Nat.zero_add]
/-- The lowest bits held are the next ones. -/
theorem Held.low {B : List Bool} {k i b nb m x : Nat} {rest : List Bool} (H : Held B k i b nb) (hm : m ≤ nb) (hx : x < 2 ^ m) (hd : B.drop k = nbits m x ++ rest) : b % 2 ^ m = x := by
  apply Nat.eq_of_testBit_eq
  intro j
  rw [Nat.testBit_mod_two_pow, H.2]
  by_cases hj : j < m
  · simp only [hj, decide_true, Bool.true_and]
    rw [Nat.testBit_eq_decide_div_mod_eq, packByte_get, hd, List.getElem?_take, if_pos (by omega), List.getElem?_append_left (by rw [nbits_length]; exact hj)]
    unfold nbits
    rw [List.getElem?_map, List.getElem?_range hj]
    cases h : x.testBit j <;> simp [h]
  · simp only [hj, decide_false, Bool.false_and]
    exact (Nat.testBit_lt_two_pow (Nat.lt_of_lt_of_le hx (Nat.pow_le_pow_right (by decide) (by omega)))).symm
theorem Held.zero {B : List Bool} {i : Nat} : Held B (8 * i) i 0 0 := ⟨rfl, by simp [packByte]⟩
theorem packByte_nbits {n x : Nat} (h : x < 2 ^ n) : packByte (nbits n x) = x := by
  apply Nat.eq_of_testBit_eq
  intro j
  rw [Nat.testBit_eq_decide_div_mod_eq, packByte_get]
  by_cases hj : j < n
  · unfold nbits
    rw [List.getElem?_map, List.getElem?_range hj]
    cases h : x.testBit j <;> simp [h]
  · rw [List.getElem?_eq_none (by rw [nbits_length]; omega)]
    exact (Nat.testBit_lt_two_pow (Nat.lt_of_lt_of_le h (Nat.pow_le_pow_right (by decide) (by omega)))).symm
theorem bits8_at {xs : List Nat} {rest : List Bool} {j x : Nat} (hj : xs[j]? = some x) : ((xs.flatMap (nbits 8) ++ rest).drop (8 * j)).take 8 = nbits 8 x := by
  obtain ⟨hlt, hx⟩ := List.getElem?_eq_some_iff.1 hj
  have e : xs.flatMap (nbits 8) = (xs.take j).flatMap (nbits 8) ++ (nbits 8 x ++ (xs.drop (j + 1)).flatMap (nbits 8)) := by
    conv => lhs; rw [← List.take_append_drop j xs, List.drop_eq_getElem_cons hlt, hx]
    rw [List.flatMap_append, List.flatMap_cons]
  have hl : ((xs.take j).flatMap (nbits 8)).length = 8 * j := by rw [bits8_length, List.length_take]; omega
  rw [e, List.append_assoc, List.append_assoc, List.drop_append, hl, Nat.sub_self, List.drop_of_length_le (by omega)]
  simp only [List.nil_append, List.drop_zero]
  rw [List.take_append_of_le_length (by rw [nbits_length]; exact Nat.le_refl _), List.take_of_length_le (by rw [nbits_length]; exact Nat.le_refl _)]
/-- Bytes that stand in the bits at a whole byte. -/
theorem bytes_at {B rest : List Bool} {xs : List Nat} {i m : Nat} (hd : B.drop (8 * i) = xs.flatMap (nbits 8) ++ rest) (hb : ∀ x ∈ xs, x < 256) (hm : m ≤ xs.length) : ((pack B).drop i).take m = xs.take m := by
  apply List.ext_getElem?
  intro j
  rw [List.getElem?_take, List.getElem?_take]
  split
  · rename_i hj
    obtain ⟨x, hx⟩ : ∃ x, xs[j]? = some x := ⟨_, List.getElem?_eq_getElem (by omega)⟩
    have hl := congrArg List.length hd
    rw [List.length_drop, List.length_append, bits8_length] at hl
    rw [List.getElem?_drop, pack_get (by rw [pack_length]; omega), hx]
    unfold byteAt
    rw [Nat.mul_add, ← List.drop_drop, hd, bits8_at hx, packByte_nbits (hb x (List.mem_of_getElem? hx))]
  · rfl
theorem bits8_drop {xs : List Nat} {B rest : List Bool} {i m : Nat} (hd : B.drop (8 * i) = xs.flatMap (nbits 8) ++ rest) (hm : m ≤ xs.length) : B.drop (8 * (i + m)) = (xs.drop m).flatMap (nbits 8) ++ rest := by
  have e : xs.flatMap (nbits 8) = (xs.take m).flatMap (nbits 8) ++ (xs.drop m).flatMap (nbits 8) := by rw [← List.flatMap_append, List.take_append_drop]
  rw [e, List.append_assoc] at hd
  have := drop_app hd
  rw [bits8_length, List.length_take, Nat.min_eq_left hm] at this
  rwa [Nat.mul_add]
/-- What is behind a block: the end, or more blocks. -/
def After (fin : Bool) (pos : Nat) (rest : List Bool) (h hF : List Nat) : Prop := (fin = true → h = hF) ∧ (fin = false → ∃ st tail, rest = st ++ tail ∧ Strm pos st h hF)
end Go.Infl
