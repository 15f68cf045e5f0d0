/- What Go's decompressor holds: words for the walks. -/
import Derived.Test.YtkpadembffdepaaGreatDoorSc
namespace Go.Eng
open Go Go.Proofs Go.Infl

abbrev u32 (x : Nat) : Value := .int .u32 (x : Int)
abbrev u64 (x : Nat) : Value := .int .u64 (x : Int)
/-- A decompressor's fields; H: the cells of its two Huffman tables. -/
structure DS where
  r : Value
  rBuf : Value
  roff : Nat
  b : Nat
  nb : Nat
  H : Nat → Value
  bits : Value
  cbits : Value
  hist : Value
  wr : Nat
  rd : Nat
  full : Bool
  b0 : Nat
  b1 : Nat
  b2 : Nat
  b3 : Nat
  step : Value
  ss : Nat
  final : Bool
  err : Value
  toRead : Value
  hl : Value
  hd : Value
  cl : Nat
  cd : Nat
def dfun (hd : List Value) (H : Nat → Value) (tl : List Value) (i : Nat) : Value := if i < 5 then lst hd i else if i < 1035 then H (i - 5) else lst tl (i - 1035)
theorem dfun_tl {hd tl : List Value} {H : Nat → Value} {v : Value} {j : Nat} (hj : Nat.blt j tl.length = true) : upd (dfun hd H tl) (1035 + j) v = dfun hd H (tl.set j v) := by
  funext i
  have e := congrFun (lst_set (v := v) hj) (i - 1035)
  unfold upd at e ⊢
  unfold dfun
  by_cases h1 : i < 5
  · rw [if_neg (by omega), if_pos h1, if_pos h1]
  · by_cases h2 : i < 1035
    · rw [if_neg (by omega), if_neg h1, if_pos h2, if_neg h1, if_pos h2]
    · rw [if_neg h1, if_neg h2, if_neg h1, if_neg h2, ← e]
      by_cases h3 : i = 1035 + j
      · rw [if_pos h3, if_pos (by omega)]
      · rw [if_neg h3, if_neg (by omega)]
theorem dfun_hd {hd tl : List Value} {H : Nat → Value} {v : Value} {j : Nat} (hj : Nat.blt j hd.length = true) (hl : hd.length = 5) : upd (dfun hd H tl) j v = dfun (hd.set j v) H tl := by
  funext i
  have e := congrFun (lst_set (v := v) hj) i
  have hj' : j < 5 := by rw [← hl]; simpa [Nat.blt_eq] using hj
  unfold upd at e ⊢
  unfold dfun
  by_cases h1 : i < 5
  · rw [if_pos h1, if_pos h1, ← e]
  · rw [if_neg (by omega), if_neg h1, if_neg h1]
/-- The cells of a decompressor. -/
def D (s : DS) : Nat → Value := dfun [s.r, s.rBuf, i64 s.roff, u32 s.b, u64 s.nb] s.H
  [s.bits, s.cbits, s.hist, i64 s.wr, i64 s.rd, .bool s.full, u8 s.b0, u8 s.b1, u8 s.b2, u8 s.b3, s.step, i64 s.ss, .bool s.final, s.err, s.toRead, s.hl, s.hd, i64 s.cl, i64 s.cd]
theorem Dset_r (s : DS) (x : Value) : upd (D s) 0 x = D { s with r := x } := dfun_hd (j := 0) rfl rfl
theorem Dget_r (s : DS) : D s 0 = s.r := rfl
theorem Dset_rBuf (s : DS) (x : Value) : upd (D s) 1 x = D { s with rBuf := x } := dfun_hd (j := 1) rfl rfl
theorem Dget_rBuf (s : DS) : D s 1 = s.rBuf := rfl
theorem Dset_roff (s : DS) (x : Nat) : upd (D s) 2 (i64 x) = D { s with roff := x } := dfun_hd (j := 2) rfl rfl
theorem Dget_roff (s : DS) : D s 2 = i64 s.roff := rfl
theorem Dset_b (s : DS) (x : Nat) : upd (D s) 3 (u32 x) = D { s with b := x } := dfun_hd (j := 3) rfl rfl
theorem Dget_b (s : DS) : D s 3 = u32 s.b := rfl
theorem Dset_nb (s : DS) (x : Nat) : upd (D s) 4 (u64 x) = D { s with nb := x } := dfun_hd (j := 4) rfl rfl
theorem Dget_nb (s : DS) : D s 4 = u64 s.nb := rfl
theorem Dset_bits (s : DS) (x : Value) : upd (D s) 1035 x = D { s with bits := x } := dfun_tl (j := 0) rfl
theorem Dget_bits (s : DS) : D s 1035 = s.bits := rfl
theorem Dset_cbits (s : DS) (x : Value) : upd (D s) 1036 x = D { s with cbits := x } := dfun_tl (j := 1) rfl
theorem Dget_cbits (s : DS) : D s 1036 = s.cbits := rfl
theorem Dset_hist (s : DS) (x : Value) : upd (D s) 1037 x = D { s with hist := x } := dfun_tl (j := 2) rfl
theorem Dget_hist (s : DS) : D s 1037 = s.hist := rfl
theorem Dset_wr (s : DS) (x : Nat) : upd (D s) 1038 (i64 x) = D { s with wr := x } := dfun_tl (j := 3) rfl
theorem Dget_wr (s : DS) : D s 1038 = i64 s.wr := rfl
theorem Dset_rd (s : DS) (x : Nat) : upd (D s) 1039 (i64 x) = D { s with rd := x } := dfun_tl (j := 4) rfl
theorem Dget_rd (s : DS) : D s 1039 = i64 s.rd := rfl
theorem Dset_full (s : DS) (x : Bool) : upd (D s) 1040 (.bool x) = D { s with full := x } := dfun_tl (j := 5) rfl
theorem Dget_full (s : DS) : D s 1040 = .bool s.full := rfl
theorem Dset_b0 (s : DS) (x : Nat) : upd (D s) 1041 (u8 x) = D { s with b0 := x } := dfun_tl (j := 6) rfl
theorem Dget_b0 (s : DS) : D s 1041 = u8 s.b0 := rfl
theorem Dset_b1 (s : DS) (x : Nat) : upd (D s) 1042 (u8 x) = D { s with b1 := x } := dfun_tl (j := 7) rfl
theorem Dget_b1 (s : DS) : D s 1042 = u8 s.b1 := rfl
theorem Dset_b2 (s : DS) (x : Nat) : upd (D s) 1043 (u8 x) = D { s with b2 := x } := dfun_tl (j := 8) rfl
theorem Dget_b2 (s : DS) : D s 1043 = u8 s.b2 := rfl
theorem Dset_b3 (s : DS) (x : Nat) : upd (D s) 1044 (u8 x) = D { s with b3 := x } := dfun_tl (j := 9) rfl
theorem Dget_b3 (s : DS) : D s 1044 = u8 s.b3 := rfl
theorem Dset_step (s : DS) (x : Value) : upd (D s) 1045 x = D { s with step := x } := dfun_tl (j := 10) rfl
theorem Dget_step (s : DS) : D s 1045 = s.step := rfl
theorem Dset_ss (s : DS) (x : Nat) : upd (D s) 1046 (i64 x) = D { s with ss := x } := dfun_tl (j := 11) rfl
theorem Dget_ss (s : DS) : D s 1046 = i64 s.ss := rfl
theorem Dset_final (s : DS) (x : Bool) : upd (D s) 1047 (.bool x) = D { s with final := x } := dfun_tl (j := 12) rfl
theorem Dget_final (s : DS) : D s 1047 = .bool s.final := rfl
theorem Dset_err (s : DS) (x : Value) : upd (D s) 1048 x = D { s with err := x } := dfun_tl (j := 13) rfl
theorem Dget_err (s : DS) : D s 1048 = s.err := rfl
theorem Dset_toRead (s : DS) (x : Value) : upd (D s) 1049 x = D { s with toRead := x } := dfun_tl (j := 14) rfl
theorem Dget_toRead (s : DS) : D s 1049 = s.toRead := rfl
theorem Dset_hl (s : DS) (x : Value) : upd (D s) 1050 x = D { s with hl := x } := dfun_tl (j := 15) rfl
theorem Dget_hl (s : DS) : D s 1050 = s.hl := rfl
theorem Dset_hd (s : DS) (x : Value) : upd (D s) 1051 x = D { s with hd := x } := dfun_tl (j := 16) rfl
theorem Dget_hd (s : DS) : D s 1051 = s.hd := rfl
theorem Dset_cl (s : DS) (x : Nat) : upd (D s) 1052 (i64 x) = D { s with cl := x } := dfun_tl (j := 17) rfl
theorem Dget_cl (s : DS) : D s 1052 = i64 s.cl := rfl
theorem Dset_cd (s : DS) (x : Nat) : upd (D s) 1053 (i64 x) = D { s with cd := x } := dfun_tl (j := 18) rfl
theorem Dget_cd (s : DS) : D s 1053 = i64 s.cd := rfl
theorem D_eq {f : Nat} {s s' : DS} (h : s = s') : ∀ m, blk f 1054 (D s) m → blk f 1054 (D s') m := by subst h; exact fun _ h => h
theorem Sat.D {G w : World} {R : List HProp} {f : Nat} {s s' : DS} (h : Sat G w (Eng.blk f 1054 (D s) :: R)) (e : s = s') : Sat G w (Eng.blk f 1054 (Eng.D s') :: R) := by subst e; exact h
/-- A reader of bytes behind the pointer to block r: the bytes of bits, and where it stands. -/
def Br (r : Nat) (B : List Bool) (i : Nat) : HProp := hex fun x : Value × Int => sep [blk r 3 (lst [x.1, i64 i, .int .i64 x.2]), slc 1 x.1 (pack B).length ((pack B).map u8)]
section
variable {P : Program} {G w : World} {ρ : Env} {n : Nat} {R : List HProp} {Q : Exit → Act → World → Prop} {ops : Array Oper} {rest : List Oper} {r i : Nat} {v : Value} {B : List Bool} {e : Int}
theorem Sat.br (h : Sat G w (Br r B i :: R)) : ∃ v e, Sat G w (Eng.blk r 3 (lst [v, i64 i, .int .i64 e]) :: Eng.slc 1 v (pack B).length ((pack B).map u8) :: R) :=
  let ⟨⟨v, e⟩, hv⟩ := h.ex; ⟨v, e, hv.unsep⟩
theorem Sat.unbr (h : Sat G w (Eng.blk r 3 (lst [v, i64 i, .int .i64 e]) :: Eng.slc 1 v (pack B).length ((pack B).map u8) :: R)) : Sat G w (Br r B i :: R) :=
  (Sat.resep (Ls := [Eng.blk r 3 (lst [v, i64 i, .int .i64 e]), Eng.slc 1 v (pack B).length ((pack B).map u8)]) h).imp fun _ hm => ⟨(v, e), hm⟩
theorem CT.br {c : Code} (k : ∀ v e, CT P c Q ρ n G (blk r 3 (lst [v, i64 i, .int .i64 e]) :: slc 1 v (pack B).length ((pack B).map u8) :: R)) : CT P c Q ρ n G (Br r B i :: R) := fun w a hS ha => let ⟨v, e, hv⟩ := hS.br; k v e w a hv ha
end
end Go.Eng
