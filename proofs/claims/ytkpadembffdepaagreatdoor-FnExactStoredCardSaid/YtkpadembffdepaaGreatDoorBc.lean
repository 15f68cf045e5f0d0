/- Plain facts on bits that are read. -/
import Derived.Test.YtkpadembffdepaaGreatDoorBb
namespace Go.Infl

theorem packByte_get : ∀ (l : List Bool) (i : Nat), packByte l / 2 ^ i % 2 = (l[i]?.getD false).toNat := by
  intro l
  induction l with
  | nil => intro i; simp [packByte]
  | cons b l ih =>
    intro i
    cases i with
    | zero => cases b <;> simp [packByte] <;> omega
    | succ i =>
      rw [packByte, Nat.pow_succ, Nat.mul_comm (2 ^ i) 2, ← Nat.div_div_eq_div_mul]
      have : (b.toNat + 2 * packByte l) / 2 = packByte l := by cases b <;> simp <;> omega
      rw [this, ih]
      simp
theorem drop_cons {α : Type} {l rest : List α} {b : α} {i : Nat} (h : l.drop i = b :: rest) : l[i]? = some b ∧ i < l.length ∧ l.drop (i + 1) = rest := by
  have h1 : i < l.length := by
    rcases Nat.lt_or_ge i l.length with h' | h'
    · exact h'
    · rw [List.drop_eq_nil_of_le h'] at h; cases h
  rw [List.drop_eq_getElem_cons h1] at h
  injection h with h2 h3
  exact ⟨by rw [List.getElem?_eq_getElem h1, h2], h1, h3⟩
theorem drop_app {α : Type} {l a rest : List α} {i : Nat} (h : l.drop i = a ++ rest) : l.drop (i + a.length) = rest := by
  rw [← List.drop_drop, h, List.drop_left]
theorem byte_bit {B : List Bool} {i : Nat} {b : Bool} (h : B[i]? = some b) : byteAt B (i / 8) / 2 ^ (i % 8) % 2 = b.toNat := by
  unfold byteAt
  rw [packByte_get, List.getElem?_take, if_pos (Nat.mod_lt _ (by decide)), List.getElem?_drop, Nat.div_add_mod, h]
  rfl
theorem pack_get {B : List Bool} {i : Nat} (h : i < (pack B).length) : (pack B)[i]? = some (byteAt B i) := by
  unfold pack
  rw [List.getElem?_map, List.getElem?_range (by rwa [pack_length] at h)]
  rfl
theorem pack_lt {B : List Bool} : ∀ x ∈ pack B, x < 256 := by
  intro x hx
  obtain ⟨i, _, rfl⟩ := List.mem_map.1 hx
  exact byteAt_lt _ _
theorem nbits_drop {n x k : Nat} (h : k < n) : (nbits n x).drop k = x.testBit k :: (nbits n x).drop (k + 1) := by
  rw [List.drop_eq_getElem_cons (by rw [nbits_length]; exact h)]
  congr 1
  simp [nbits]
theorem mod_step {x k : Nat} : x % 2 ^ k ||| (x.testBit k).toNat * 2 ^ k = x % 2 ^ (k + 1) := by
  rw [or_add (Nat.mod_lt _ (Nat.two_pow_pos k)), Nat.mod_pow_succ, Nat.testBit_eq_decide_div_mod_eq]
  have : x / 2 ^ k % 2 < 2 := Nat.mod_lt _ (by decide)
  have e : (decide (x / 2 ^ k % 2 = 1)).toNat = x / 2 ^ k % 2 := by
    rcases Nat.lt_or_ge (x / 2 ^ k % 2) 1 with h | h
    · rw [show x / 2 ^ k % 2 = 0 by omega]; rfl
    · rw [show x / 2 ^ k % 2 = 1 by omega]; rfl
  rw [e, Nat.mul_comm]
end Go.Infl
