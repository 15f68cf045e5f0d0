/- Streams as lists of bits: blocks, and what they give behind what was there. -/
import Derived.Test.YtkpadembffdepaaGreatDoorBa
namespace Go.Infl

/-- At a position, a block, final or not, behind some bytes: its bits, and the bytes then. -/
inductive IsBlk : Nat → Bool → List Nat → List Bool → List Nat → Prop
  | stored {pos : Nat} {fin : Bool} {h : List Nat} {ps : List Bool} {xs : List Nat} : ps.length < 8 → (pos + 3 + ps.length) % 8 = 0 → xs.length ≤ 65535 → (∀ x ∈ xs, x < 256) → IsBlk pos fin h (storedBits fin ps xs) (h ++ xs)
theorem IsBlk.bytes {pos : Nat} {fin : Bool} {h h' : List Nat} {b : List Bool} (H : IsBlk pos fin h b h') (hh : ∀ x ∈ h, x < 256) : ∀ x ∈ h', x < 256 := by
  cases H with
  | stored _ _ _ h4 => intro x hx; rcases List.mem_append.1 hx with h | h; exact hh x h; exact h4 x h
/-- Blocks that are not final. -/
inductive Blks : Nat → List Bool → List Nat → List Nat → Prop
  | nil {pos : Nat} {h : List Nat} : Blks pos [] h h
  | cons {pos : Nat} {h h1 h2 : List Nat} {b bs : List Bool} : IsBlk pos false h b h1 → Blks (pos + b.length) bs h1 h2 → Blks pos (b ++ bs) h h2
theorem Blks.snoc {pos : Nat} {h h1 h2 : List Nat} {b bs : List Bool} (H : Blks pos bs h h1) (hb : IsBlk (pos + bs.length) false h1 b h2) : Blks pos (bs ++ b) h h2 := by
  induction H with
  | nil => simpa using Blks.cons hb .nil
  | cons H1 _ ih =>
    rw [List.append_assoc]
    refine .cons H1 (ih ?_)
    rw [List.length_append, ← Nat.add_assoc] at hb
    exact hb
theorem Blks.bytes {pos : Nat} {h h' : List Nat} {b : List Bool} (H : Blks pos b h h') (hh : ∀ x ∈ h, x < 256) : ∀ x ∈ h', x < 256 := by
  induction H with
  | nil => exact hh
  | cons H1 _ ih => exact ih (H1.bytes hh)
/-- A whole stream. -/
def Strm (pos : Nat) (bits : List Bool) (h h' : List Nat) : Prop := ∃ b1 b2 h1, bits = b1 ++ b2 ∧ Blks pos b1 h h1 ∧ IsBlk (pos + b1.length) true h1 b2 h'
theorem IsBlk.len {pos : Nat} {fin : Bool} {h h' : List Nat} {b : List Bool} (H : IsBlk pos fin h b h') : h.length ≤ h'.length ∧ 3 ≤ b.length := by
  cases H with
  | stored => rw [List.length_append, storedBits_length]; omega
theorem Blks.len {pos : Nat} {h h' : List Nat} {b : List Bool} (H : Blks pos b h h') : h.length ≤ h'.length := by
  induction H with
  | nil => exact Nat.le_refl _
  | cons H1 _ ih => exact Nat.le_trans H1.len.1 ih
theorem Strm.len {pos : Nat} {h h' : List Nat} {b : List Bool} (H : Strm pos b h h') : h.length ≤ h'.length := by
  obtain ⟨_, _, _, _, h1, h2⟩ := H
  exact Nat.le_trans h1.len h2.len.1
theorem Strm.bytes {pos : Nat} {h h' : List Nat} {b : List Bool} (H : Strm pos b h h') (hh : ∀ x ∈ h, x < 256) : ∀ x ∈ h', x < 256 := by
  obtain ⟨_, _, _, _, h1, h2⟩ := H
  exact h2.bytes (h1.bytes hh)
/-- The first block of a stream, and what is behind it. -/
theorem Strm.head {pos : Nat} {h h' : List Nat} {bits : List Bool} (H : Strm pos bits h h') : ∃ fin b rest h1, bits = b ++ rest ∧ IsBlk pos fin h b h1 ∧ h1.length ≤ h'.length ∧ (fin = true → rest = [] ∧ h1 = h') ∧ (fin = false → Strm (pos + b.length) rest h1 h') := by
  obtain ⟨b1, b2, h1, rfl, H1, H2⟩ := H
  cases H1 with
  | nil => exact ⟨true, b2, [], h', by simp, by simpa using H2, Nat.le_refl _, (fun _ => ⟨rfl, rfl⟩), (fun h => by cases h)⟩
  | @cons _ _ h2 _ b bs H3 H4 =>
    refine ⟨false, b, bs ++ b2, h2, by rw [List.append_assoc], H3, Nat.le_trans H4.len H2.len.1, (fun h => by cases h), fun _ => ⟨bs, b2, h1, rfl, H4, ?_⟩⟩
    · rw [List.length_append, ← Nat.add_assoc] at H2; exact H2
end Go.Infl
