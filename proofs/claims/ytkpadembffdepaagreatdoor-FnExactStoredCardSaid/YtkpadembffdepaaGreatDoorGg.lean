/- What Go's decompressor has still to do, and how a step leaves it. -/
import Derived.Test.YtkpadembffdepaaGreatDoorGf
namespace Go.Eng
open Go Go.Proofs Go.Infl
set_option maxRecDepth 20000

/-- What stands between two steps: the reader, the window, how far things are. -/
structure Base (r hb : Nat) (B : List Bool) (s : DS) (i : Nat) (hist : Nat → Nat) (h : List Nat) : Prop where
  r_ : s.r = .iface 49 (.pointer (some ⟨r, 0, none⟩))
  hi : s.hist = .slice (some ⟨hb, 0, none⟩) 32768 32768
  win : Win hist s.wr s.full h
  rw_ : s.rd ≤ s.wr
  wl : s.wr < 32768
  ro : s.roff = i
  il : i ≤ (pack B).length
/-- A list of bytes that is to be handed over, in the window. -/
def TR (hb : Nat) (hist : Nat → Nat) (v : Value) (c : List Nat) : Prop := (v = .slice none 0 0 ∧ c = []) ∨ ∃ a cp, v = .slice (some ⟨hb, a, none⟩) c.length cp ∧ c.length ≤ cp ∧ a + c.length ≤ 32768 ∧ ∀ j x, c[j]? = some x → hist (a + j) = x
theorem TR.nil {hb : Nat} {hist hist' : Nat → Nat} {v : Value} (h : TR hb hist v []) : TR hb hist' v [] := by
  rcases h with h | ⟨a, cp, h1, h2, h3, _⟩
  · exact .inl h
  · exact .inr ⟨a, cp, h1, h2, h3, fun j x hj => by cases hj⟩
/-- What is still to be done: at the begin of a block; within stored bytes. -/
inductive Pl (B : List Bool) (hF : List Nat) (s : DS) (i : Nat) (h : List Nat) : Nat → PH → Prop
  | blk {k mu : Nat} {st tail : List Bool} {m : PH} : s.step = .func (.func 68) #[] #[] → s.nb ≤ 7 → Held B k i s.b s.nb → B.drop k = st ++ tail → Strm k st h hF → mu = 1000 * (B.length - k) → Pl B hF s i h mu m
  | copy {xs : List Nat} {rest : List Bool} {mu : Nat} {m : PH} : s.step = .func (.func 110) #[] #[] → s.nb = 0 → s.b = 0 → s.cl = xs.length → (∀ x ∈ xs, x < 256) → B.drop (8 * i) = xs.flatMap (nbits 8) ++ rest → After s.final (8 * i + 8 * xs.length) rest (h ++ xs) hF →
      mu = 1000 * (B.length - 8 * i) + 1 → Pl B hF s i h mu m
/-- A decompressor between two steps. -/
def RS (G : World) (R : List HProp) (f r hb : Nat) (B : List Bool) (hF : List Nat) (eof : Value) (del : List Nat) (ok : Nat → Prop) (w : World) : Prop :=
  ∃ s i hist h c un, Base r hb B s i hist h ∧ h = del ++ (c ++ un) ∧ un.length = s.wr - s.rd ∧ TR hb hist s.toRead c ∧
    ((s.err = .nilIface ∧ ∃ mu, ok mu ∧ Sat G w (blk f 1054 (D s) :: Br r B i :: blk hb 32768 (fun j => u8 (hist j)) :: Pl B hF s i h mu :: R)) ∨
     (s.err = eof ∧ h = hF ∧ un = [] ∧ Sat G w (blk f 1054 (D s) :: Br r B i :: blk hb 32768 (fun j => u8 (hist j)) :: R)))
theorem plEmp {G w : World} {X Y Z A : HProp} {R : List HProp} (hA : ∀ m, A m) (h : Sat G w (X :: Y :: Z :: R)) : Sat G w (X :: Y :: Z :: A :: R) :=
  (h.emp (hA _)).perm (List.perm_middle (l₁ := [X, Y, Z])).symm
section
variable {G w : World} {R : List HProp} {f r hb i : Nat} {B : List Bool} {hF del un xs : List Nat} {eof : Value} {s : DS} {hist : Nat → Nat} {rest : List Bool} {m mu0 : Nat}
/-- Stored bytes, the window being full behind some of them. -/
theorem copy_full (H : Base r hb B s i hist (del ++ un)) (hu : un.length = s.wr - s.rd) (herr : s.err = .nilIface) (hcl : s.cl = xs.length) (hnb : s.nb = 0) (hb0 : s.b = 0) (hx : ∀ x ∈ xs, x < 256)
    (hd : B.drop (8 * i) = xs.flatMap (nbits 8) ++ rest) (ha : After s.final (8 * i + 8 * xs.length) rest (del ++ un ++ xs) hF) (hm : m ≤ xs.length) (hf : s.wr + m = 32768) (hmu : 1000 * (B.length - 8 * i) + 1 ≤ mu0)
    (hS : Sat G w (blk f 1054 (D { s with roff := s.roff + m, cl := s.cl - m, wr := (s.wr + m) % 32768, rd := (s.wr + m) % 32768, full := s.full || decide (s.wr + m = 32768), toRead := .slice (some ⟨hb, s.rd, none⟩) (s.wr + m - s.rd) (32768 - s.rd), step := .func (.func 110) #[] #[] }) ::
      Br r B (i + m) :: blk hb 32768 (fun j => u8 (updh hist s.wr (xs.take m) j)) :: R)) : RS G R f r hb B hF eof del (· < mu0) w := by
  have hl := congrArg List.length hd
  rw [List.length_drop, List.length_append, bits8_length] at hl
  have htl : (xs.take m).length = m := by rw [List.length_take]; omega
  have hw := H.win.write (xs := xs.take m) (by rw [htl]; omega)
  rw [htl, List.append_assoc] at hw
  have h1 := H.rw_; have h2 := H.wl; have h3 := H.ro; have h4 := H.il
  have hp := pack_length B
  refine ⟨{ s with roff := s.roff + m, cl := s.cl - m, wr := (s.wr + m) % 32768, rd := (s.wr + m) % 32768, full := s.full || decide (s.wr + m = 32768), toRead := .slice (some ⟨hb, s.rd, none⟩) (s.wr + m - s.rd) (32768 - s.rd), step := .func (.func 110) #[] #[] }, i + m, updh hist s.wr (xs.take m), del ++ (un ++ xs.take m), un ++ xs.take m, [], ⟨H.r_, H.hi, hw.flush, Nat.le_refl _, Nat.mod_lt _ (by decide), by show s.roff + m = i + m; rw [h3], by omega⟩, by rw [List.append_nil], ?_, ?_, .inl ⟨herr, 1000 * (B.length - 8 * (i + m)) + 1, by show _ < _; omega, plEmp ?_ hS⟩⟩
  · exact (Nat.sub_self _).symm
  · refine .inr ⟨s.rd, 32768 - s.rd, ?_, ?_, ?_, ?_⟩
    · show Value.slice _ _ _ = _
      congr 1
      rw [List.length_append, htl, hu]; omega
    · rw [List.length_append, htl, hu]; omega
    · rw [List.length_append, htl, hu]; omega
    · exact hw.tail (by omega) (by rw [List.length_append, htl, hu]; omega)
  · intro m'
    refine .copy (xs := xs.drop m) (rest := rest) rfl hnb hb0 ?_ (fun x hx' => hx x (List.mem_of_mem_drop hx')) (bits8_drop hd hm) ?_ rfl
    · show s.cl - m = _; rw [List.length_drop, hcl]
    · rw [List.length_drop, show 8 * (i + m) + 8 * (xs.length - m) = 8 * i + 8 * xs.length by omega, ← List.append_assoc del, List.append_assoc (del ++ un), List.take_append_drop]
      exact ha
/-- Stored bytes, all of them. -/
theorem copy_fin {ea : Addr} (H : Base r hb B s i hist (del ++ un)) (hu : un.length = s.wr - s.rd) (htr : TR hb hist s.toRead []) (herr : s.err = .nilIface) (hnb : s.nb = 0) (hb0 : s.b = 0)
    (hd : B.drop (8 * i) = xs.flatMap (nbits 8) ++ rest) (ha : After s.final (8 * i + 8 * xs.length) rest (del ++ un ++ xs) hF) (hm : m = xs.length) (hf : s.wr + m < 32768) (hmu : 1000 * (B.length - 8 * i) + 1 ≤ mu0)
    (hS : Sat G w (blk f 1054 (D (finS { s with roff := s.roff + m, cl := s.cl - m, wr := s.wr + m } hb (.iface 187 (.pointer (some ea))))) ::
      Br r B (i + m) :: blk hb 32768 (fun j => u8 (updh hist s.wr (xs.take m) j)) :: R)) : RS G R f r hb B hF (.iface 187 (.pointer (some ea))) del (· < mu0) w := by
  subst hm
  have hl := congrArg List.length hd
  rw [List.length_drop, List.length_append, bits8_length] at hl
  rw [List.take_length] at hS
  have hw := H.win.write (xs := xs) (by omega)
  rw [List.append_assoc] at hw
  have h1 := H.rw_; have h2 := H.wl; have h3 := H.ro; have h4 := H.il
  have hp := pack_length B
  have hil : i + xs.length ≤ (pack B).length := by omega
  cases hfin : s.final with
  | false =>
    rw [show finS _ hb _ = _ from if_neg (by simp [hfin])] at hS
    obtain ⟨st, tail, e1, e2⟩ := ha.2 hfin
    refine ⟨{ s with roff := s.roff + xs.length, cl := s.cl - xs.length, wr := s.wr + xs.length, step := .func (.func 68) #[] #[] }, i + xs.length, updh hist s.wr xs, del ++ (un ++ xs), [], un ++ xs, ⟨H.r_, H.hi, hw, ?_, hf, by show s.roff + _ = i + _; rw [h3], hil⟩, rfl, ?_, htr.nil, .inl ⟨herr, 1000 * (B.length - 8 * (i + xs.length)), by show _ < _; omega, plEmp ?_ hS⟩⟩
    · show s.rd ≤ s.wr + _; omega
    · show _ = s.wr + xs.length - s.rd; rw [List.length_append, hu]; omega
    · intro m'
      refine .blk (k := 8 * (i + xs.length)) (st := st) (tail := tail) rfl ?_ ?_ ?_ ?_ rfl
      · show s.nb ≤ 7; omega
      · show Held _ _ _ s.b s.nb; rw [hnb, hb0]; exact Held.zero
      · rw [bits8_drop hd (Nat.le_refl _), List.drop_length]; exact e1
      · rw [← List.append_assoc, Nat.mul_add]; exact e2
  | true =>
    rw [show finS _ hb _ = _ from if_pos (by simp [hfin])] at hS
    have e := ha.1 hfin
    rw [List.append_assoc] at e
    by_cases hlt : s.rd < s.wr + xs.length
    · rw [if_pos (show _ < _ from hlt)] at hS
      have hmod : (s.wr + xs.length) % 32768 = s.wr + xs.length := Nat.mod_eq_of_lt hf
      refine ⟨{ s with roff := s.roff + xs.length, cl := s.cl - xs.length, toRead := .slice (some ⟨hb, s.rd, none⟩) (s.wr + xs.length - s.rd) (32768 - s.rd), wr := (s.wr + xs.length) % 32768, rd := (s.wr + xs.length) % 32768, full := s.full || decide (s.wr + xs.length = 32768), err := .iface 187 (.pointer (some ea)), step := .func (.func 68) #[] #[] }, i + xs.length, updh hist s.wr xs, del ++ (un ++ xs), un ++ xs, [], ⟨H.r_, H.hi, hw.flush, Nat.le_refl _, Nat.mod_lt _ (by decide), by show s.roff + _ = i + _; rw [h3], hil⟩, by rw [List.append_nil], ?_, ?_, .inr ⟨rfl, e, rfl, hS⟩⟩
      · exact (Nat.sub_self _).symm
      · refine .inr ⟨s.rd, 32768 - s.rd, ?_, ?_, ?_, ?_⟩
        · show Value.slice _ _ _ = _
          congr 1
          rw [List.length_append, hu]; show s.wr + xs.length - s.rd = _; omega
        · rw [List.length_append, hu]; omega
        · rw [List.length_append, hu]; omega
        · exact hw.tail (by omega) (by rw [List.length_append, hu]; omega)
    · rw [if_neg (show ¬ _ < _ from hlt)] at hS
      have e0 : un ++ xs = [] := List.length_eq_zero_iff.1 (by rw [List.length_append, hu]; omega)
      refine ⟨{ s with roff := s.roff + xs.length, cl := s.cl - xs.length, wr := s.wr + xs.length, err := .iface 187 (.pointer (some ea)), step := .func (.func 68) #[] #[] }, i + xs.length, updh hist s.wr xs, del ++ (un ++ xs), [], un ++ xs, ⟨H.r_, H.hi, hw, ?_, hf, by show s.roff + _ = i + _; rw [h3], hil⟩, rfl, ?_, htr.nil, .inr ⟨rfl, e, e0, hS⟩⟩
      · show s.rd ≤ s.wr + _; omega
      · show _ = s.wr + xs.length - s.rd; rw [List.length_append, hu]; omega
end
end Go.Eng
