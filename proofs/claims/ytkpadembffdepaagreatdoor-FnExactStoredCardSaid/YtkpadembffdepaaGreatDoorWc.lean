/- The walks of a writer: bits, codes, padding. -/
import Derived.Test.YtkpadembffdepaaGreatDoorWb
namespace Go.Eng
open Go Go.Proofs Go.Infl
set_option maxRecDepth 20000
set_option linter.unusedSimpArgs false
set_option linter.unusedVariables false


theorem Wr_eq {p : Nat} {bs bs' : List Bool} (h : bs = bs') : ∀ m, Wr p bs m → Wr p bs' m := by subst h; exact fun _ h => h
theorem div_lt {x k : Nat} (h : x < 9223372036854775808) : x / 2 ^ k < 9223372036854775808 := Nat.lt_of_le_of_lt (Nat.div_le_self _ _) h
theorem shr_int {x k : Nat} (h : 1 ≤ k) (hk : k ≤ 63) : ((x : Nat) : Int).fdiv (2 ^ min ((((k : Nat) : Int) - 1)).toNat IntKind.i64.bits) = ((x / 2 ^ (k - 1) : Nat) : Int) := by
  have e : (((k : Nat) : Int) - 1).toNat = k - 1 := by omega
  rw [e, show min (k - 1) IntKind.i64.bits = k - 1 by simp [IntKind.bits]; omega]
  have : (2 : Int) ^ (k - 1) = ((2 ^ (k - 1) : Nat) : Int) := by push_cast; rfl
  rw [this, Int.ofNat_fdiv]
theorem cbits_get {n x j : Nat} (h : j < n) : (cbits n x)[j]? = some (x.testBit (n - 1 - j)) := by
  unfold cbits
  rw [List.getElem?_reverse (by rw [nbits_length]; exact h), nbits_length]
  unfold nbits
  rw [List.getElem?_map, List.getElem?_range (by omega)]
  rfl
theorem code_step {bs : List Bool} {n x k : Nat} (h : 1 ≤ k ∧ k ≤ n) : (bs ++ (cbits n x).take (n - k)) ++ [decide ((x / 2 ^ (k - 1)) % 2 = 1)] = bs ++ (cbits n x).take (n - (k - 1)) := by
  rw [odd_testBit, List.append_assoc, show n - (k - 1) = (n - k) + 1 by omega, List.take_add_one, cbits_get (by omega), show n - 1 - (n - k) = k - 1 by omega]
  rfl
section
variable {P : Program} {G : World} {ρ : Env} {n : Nat} {R : List HProp} {Q : Exit → Act → World → Prop} {ops : Array Oper} {rest : List Oper} {v : Value} {p : Nat} {bs : List Bool}
theorem TL.wr (k : ∀ v, TL P Q ops rest ρ n G (blk p 2 (lst [v, i64 bs.length]) :: slc 1 v (pack bs).length ((pack bs).map u8) :: R)) : TL P Q ops rest ρ n G (Wr p bs :: R) := fun w a hS ha => let ⟨v, hv⟩ := hS.wr; k v w a hv ha
theorem TL.unwr (k : TL P Q ops rest ρ n G (Wr p bs :: R)) : TL P Q ops rest ρ n G (blk p 2 (lst [v, i64 bs.length]) :: slc 1 v (pack bs).length ((pack bs).map u8) :: R) := fun w a hS ha => k w a hS.toWr ha
theorem CT.wr {c : Code} (k : ∀ v, CT P c Q ρ n G (blk p 2 (lst [v, i64 bs.length]) :: slc 1 v (pack bs).length ((pack bs).map u8) :: R)) : CT P c Q ρ n G (Wr p bs :: R) := fun w a hS ha => let ⟨v, hv⟩ := hS.wr; k v w a hv ha
theorem CT.unwr {c : Code} (k : CT P c Q ρ n G (Wr p bs :: R)) : CT P c Q ρ n G (blk p 2 (lst [v, i64 bs.length]) :: slc 1 v (pack bs).length ((pack bs).map u8) :: R) := fun w a hS ha => k w a hS.toWr ha
end
theorem t77 (b : Bool) {G : World} {R : List HProp} {w : World} (hS : Sat G w (R)) :
    CallsR Tryz.prog 77 #[(.bool b)] w (fun r w' => r = i64 b.toNat ∧ Sat G w' R) := by
  refine calls_in (n := 4) [(0, (.bool b))] Tryz.func77 rfl rfl hS args1 ?_
  refine CT.seq ?_
  refine CT.region ?_
  refine TL.val (r_asg .c) ?_
  refine TL.nil ?_
  refine EX.seq ?_
  refine CT.seq ?_
  refine CT.seq ?_
  refine CT.region ?_
  refine TL.val (r_move (.t m1)) ?_
  refine TL.sub (.hd (.hd (.tl .refl))) ?_
  refine TL.nil ?_
  refine EX.seq ?_
  refine CT.iff m0 (fun c3 => ?_) (fun c3 => ?_)
  ·
    refine CT.sub (.tl .refl) ?_
    refine CT.seq ?_
    refine CT.region ?_
    refine TL.rm .here ?_
    refine TL.val (r_asg .c) ?_
    refine TL.nil ?_
    refine EX.seq ?_
    refine CT.ret ?_
    refine EX.then_ret ?_
    exact EX.end_ (.inl rfl) (res1 Tryz.results77 m0) (fun _ hS => ⟨by first | rfl | simp_all, hS⟩)
  ·
    refine CT.sub (.tl .refl) ?_
    refine CT.skip ?_
    refine EX.seq ?_
    refine CT.seq ?_
    refine CT.region ?_
    refine TL.rm .here ?_
    refine TL.val (r_asg .c) ?_
    refine TL.nil ?_
    refine EX.seq ?_
    refine CT.ret ?_
    exact EX.end_ (.inl rfl) (res1 Tryz.results77 m0) (fun _ hS => ⟨by first | rfl | simp_all, hS⟩)
theorem t37 (p x n : Nat) (bs : List Bool) (hb : bs.length + n < 1099511627776) (hx : x < 9223372036854775808) (hn : n ≤ 63) {G : World} {R : List HProp} {w : World} (hS : Sat G w ((Wr p (bs)) :: R)) :
    CallsR Tryz.prog 37 #[(.pointer (some ⟨p, 0, none⟩)), (.int .i64 ((x : Nat) : Int)), (.int .i64 ((n : Nat) : Int))] w (fun r w' => r = .tuple #[] ∧ Sat G w' (Wr p (bs ++ nbits n x) :: R)) := by
  refine calls_in (n := 17) [(0, (.pointer (some ⟨p, 0, none⟩))), (1, (.int .i64 ((x : Nat) : Int))), (2, (.int .i64 ((n : Nat) : Int)))] Tryz.func37 rfl rfl hS args3 ?_
  refine CT.seq ?_
  refine CT.region ?_
  refine TL.val (r_move (.t m2)) ?_
  refine TL.val (r_move .c) ?_
  refine TL.sub (.hd (.hd (.hd (.hd (.tl .refl))))) ?_
  refine TL.nil ?_
  refine EX.seq ?_
  refine CT.block ?_
  refine CT.fold (A' := (Wr p (bs ++ nbits (0) x))) a0 (Wr_eq (by simp [nbits])) ?_
  refine CT.loop (X := Nat) (fun gx => [(8, (.int .i64 ((gx : Nat) : Int))), (7, (.int .i64 ((n : Nat) : Int))), (0, (.pointer (some ⟨p, 0, none⟩))), (1, (.int .i64 ((x : Nat) : Int)))]) (fun gx => (Wr p (bs ++ nbits (gx) x)) :: R) (fun gx => gx ≤ n) (fun gx => n - gx) (0) (by omega) (.refl _) (.cons m0 (.cons m1 (.cons m2 (.cons m3 .nil)))) ?_
  rintro k hI
  show CT _ _ _ [(8, (.int .i64 ((k : Nat) : Int))), (7, (.int .i64 ((n : Nat) : Int))), (0, (.pointer (some ⟨p, 0, none⟩))), (1, (.int .i64 ((x : Nat) : Int)))] _ _ ((Wr p (bs ++ nbits (k) x)) :: R)
  refine CT.seq ?_
  refine CT.region ?_
  refine TL.val (n_lss (k) (n) (.t m0) (.t m1) rfl rfl) ?_
  refine TL.nil ?_
  refine EX.seq ?_
  refine CT.seq ?_
  refine CT.ifd m0 (fun c9 => ?_) (fun c9 => ?_)
  ·
    refine CT.sub (.tl .refl) ?_
    refine CT.skip ?_
    refine EX.seq ?_
    refine CT.seq ?_
    refine CT.block ?_
    refine CT.seq ?_
    refine CT.region ?_
    refine TL.val (r_move (.t m0)) ?_
    refine TL.val (r_asg (.t m0)) ?_
    refine TL.sub (.hd (.tl .refl)) ?_
    refine TL.nil ?_
    refine EX.seq ?_
    refine CT.region ?_
    refine TL.val (r_move (.t m3)) ?_
    refine TL.val (r_move (.t m5)) ?_
    refine TL.val (r_move (.t m2)) ?_
    refine TL.val (n_shr (x) (k) (.t m1) (.t m0) rfl rfl (show _ ≤ 64 by omega)) ?_
    refine TL.call (r_call ce_65 (.cons (.t m3) (.cons (.t m0) .nil))) (fun w hS => t65 p ((x / 2 ^ k)) (bs ++ nbits (k) x) (by simp [nbits_length]; omega) (div_lt hx) hS) ?_
    rintro _ w15 ⟨rfl, hS⟩
    refine TW.at hS ?_
    refine TL.sub (.tl (.tl (.tl (.tl (.tl .refl))))) ?_
    refine TL.nil ?_
    refine EX.bnormal ?_
    refine EX.seq ?_
    refine CT.region ?_
    refine TL.val (n_add (k) (1) 9223372036854775808 (.t m1) .c rfl rfl (by omega)) ?_
    refine TL.rm (.there (.there .here)) ?_
    refine TL.val (r_move (.t m0)) ?_
    refine TL.sub (.hd (.tl .refl)) ?_
    refine TL.nil ?_
    refine EX.fold (A' := (Wr p (bs ++ nbits (k + 1) x))) a0 (Wr_eq (by rw [nbits_succ, ← odd_testBit, List.append_assoc])) ?_
    exact EX.again (k + 1) (by omega) (by omega) (.refl _) (.eq m0 (by first | rfl | (congr 1; omega)) (.cons m2 (.cons m3 (.cons m4 .nil))))
  ·
    refine CT.sub (.tl .refl) ?_
    refine CT.exit ?_
    refine EX.then_exit ?_
    refine EX.then_exit ?_
    refine EX.out ?_
    exact EX.end_ (.inr rfl) (res0 Tryz.results37) (fun _ hS => ⟨rfl, by obtain rfl : k = n := (by omega); exact hS⟩)
theorem t40 (p x n : Nat) (bs : List Bool) (hb : bs.length + n < 1099511627776) (hx : x < 9223372036854775808) (hn : n ≤ 63) {G : World} {R : List HProp} {w : World} (hS : Sat G w ((Wr p (bs)) :: R)) :
    CallsR Tryz.prog 40 #[(.pointer (some ⟨p, 0, none⟩)), (.int .i64 ((x : Nat) : Int)), (.int .i64 ((n : Nat) : Int))] w (fun r w' => r = .tuple #[] ∧ Sat G w' (Wr p (bs ++ cbits n x) :: R)) := by
  refine calls_in (n := 18) [(0, (.pointer (some ⟨p, 0, none⟩))), (1, (.int .i64 ((x : Nat) : Int))), (2, (.int .i64 ((n : Nat) : Int)))] Tryz.func40 rfl rfl hS args3 ?_
  refine CT.seq ?_
  refine CT.region ?_
  refine TL.val (r_move (.t m2)) ?_
  refine TL.val (r_sub (z := (((n : Int) - 1))) (.t m0) .c (wi (by omega))) ?_
  refine TL.val (r_asg (.t m0)) ?_
  refine TL.sub (.hd (.tl (.tl (.hd (.hd (.tl .refl)))))) ?_
  refine TL.nil ?_
  refine EX.seq ?_
  refine CT.block ?_
  refine CT.fold (A' := (Wr p (bs ++ (cbits n x).take (n - (n))))) a0 (Wr_eq (by simp)) ?_
  refine CT.loop (X := Nat) (fun gx => [(6, (.int .i64 (((gx : Nat) : Int) - 1))), (0, (.pointer (some ⟨p, 0, none⟩))), (1, (.int .i64 ((x : Nat) : Int)))]) (fun gx => (Wr p (bs ++ (cbits n x).take (n - (gx)))) :: R) (fun gx => gx ≤ n) (fun gx => gx) (n) (by omega) (.refl _) (.eq m0 (by first | rfl | (congr 1; omega)) (.cons m1 (.cons m2 .nil))) ?_
  rintro k hI
  show CT _ _ _ [(6, (.int .i64 (((k : Nat) : Int) - 1))), (0, (.pointer (some ⟨p, 0, none⟩))), (1, (.int .i64 ((x : Nat) : Int)))] _ _ ((Wr p (bs ++ (cbits n x).take (n - (k)))) :: R)
  refine CT.seq ?_
  refine CT.seq ?_
  refine CT.region ?_
  refine TL.val (r_move (.t m0)) ?_
  refine TL.val (r_geq (.t m0) .c) ?_
  refine TL.sub (.hd (.tl .refl)) ?_
  refine TL.nil ?_
  refine EX.seq ?_
  refine CT.ifd m0 (fun c10 => ?_) (fun c10 => ?_)
  ·
    refine CT.sub (.tl .refl) ?_
    refine CT.skip ?_
    refine EX.seq ?_
    refine CT.seq ?_
    refine CT.block ?_
    refine CT.region ?_
    refine TL.val (r_move (.t m1)) ?_
    refine TL.val (r_move (.t m3)) ?_
    refine TL.val (r_move (.t m2)) ?_
    refine TL.val (r_shr (z := ((x / 2 ^ (k - 1) : Nat) : Int)) (.t m1) (.t m0) (by omega) (shr_int (by omega) (by omega))) ?_
    refine TL.call (r_call ce_65 (.cons (.t m3) (.cons (.t m0) .nil))) (fun w hS => t65 p ((x / 2 ^ (k - 1))) (bs ++ (cbits n x).take (n - (k))) (by simp [cbits_length]; omega) (div_lt hx) hS) ?_
    rintro _ w17 ⟨rfl, hS⟩
    refine TW.at hS ?_
    refine TL.sub (.tl (.tl (.tl (.tl (.tl .refl))))) ?_
    refine TL.nil ?_
    refine EX.bnormal ?_
    refine EX.seq ?_
    refine CT.region ?_
    refine TL.val (r_move (.t m0)) ?_
    refine TL.val (r_sub (z := (((k - 1 : Nat) : Int) - 1)) (.t m0) .c (wi (by omega))) ?_
    refine TL.rm (.there (.there .here)) ?_
    refine TL.val (r_asg (.t m0)) ?_
    refine TL.sub (.hd (.tl (.tl .refl))) ?_
    refine TL.nil ?_
    refine EX.fold (A' := (Wr p (bs ++ (cbits n x).take (n - (k - 1))))) a0 (Wr_eq (code_step (by omega))) ?_
    exact EX.again (k - 1) (by omega) (by omega) (.refl _) (.cons m0 (.cons m1 (.cons m2 .nil)))
  ·
    refine CT.sub (.tl .refl) ?_
    refine CT.exit ?_
    refine EX.then_exit ?_
    refine EX.then_exit ?_
    refine EX.out ?_
    exact EX.end_ (.inr rfl) (res0 Tryz.results40) (fun _ hS => ⟨rfl, by obtain rfl : k = 0 := (by omega); rwa [Nat.sub_zero, List.take_of_length_le (by rw [cbits_length]; omega)] at hS⟩)
theorem t57 (p x : Nat) (bs : List Bool) (hb : bs.length + 8 < 1099511627776) (hx : x < 9223372036854775808) {G : World} {R : List HProp} {w : World} (hS : Sat G w ((Wr p (bs)) :: R)) :
    CallsR Tryz.prog 57 #[(.pointer (some ⟨p, 0, none⟩)), (.int .i64 ((x : Nat) : Int))] w (fun r w' => r = .tuple #[] ∧ ∃ ps : List Bool, ps.length < 8 ∧ (bs.length + ps.length) % 8 = 0 ∧ Sat G w' (Wr p (bs ++ ps) :: R)) := by
  refine calls_in (n := 15) [(0, (.pointer (some ⟨p, 0, none⟩))), (1, (.int .i64 ((x : Nat) : Int)))] Tryz.func57 rfl rfl hS args2 ?_
  refine CT.block ?_
  refine CT.fold (A' := (Wr p (bs ++ []))) a0 (Wr_eq (by simp)) ?_
  refine CT.loop (X := Nat × List Bool) (fun gx => [(1, (.int .i64 ((gx.1 : Nat) : Int))), (0, (.pointer (some ⟨p, 0, none⟩)))]) (fun gx => (Wr p (bs ++ gx.2)) :: R) (fun gx => gx.1 < 9223372036854775808 ∧ (gx.2).length ≤ (8 - bs.length % 8) % 8) (fun gx => (8 - bs.length % 8) % 8 - (gx.2).length) ((x, [])) (⟨hx, by simp⟩) (.refl _) (.cons m1 (.cons m0 .nil)) ?_
  rintro ⟨y, ps⟩ ⟨hI1, hI2⟩
  show CT _ _ _ [(1, (.int .i64 ((y : Nat) : Int))), (0, (.pointer (some ⟨p, 0, none⟩)))] _ _ ((Wr p (bs ++ ps)) :: R)
  replace hI1 : y < 9223372036854775808 := hI1
  replace hI2 : ps.length ≤ (8 - bs.length % 8) % 8 := hI2
  refine CT.seq ?_
  refine CT.seq ?_
  refine CT.region ?_
  refine TL.val (r_move (.t m1)) ?_
  refine TL.val (r_nil (.t m0)) ?_
  refine TL.val (r_fa (off' := 1) fo_39_1 (.t m0)) ?_
  refine TL.wr ?_
  intro v
  refine TL.val (r_ld (v := (.int .i64 (((bs ++ ps).length : Nat) : Int))) Tryz.isAgg3 m0 (.t m0) (by decide) rfl) ?_
  refine TL.unwr ?_
  refine TL.val (n_rem ((bs ++ ps).length) (8) (.t m0) .c rfl rfl (by omega)) ?_
  refine TL.val (n_neq (((bs ++ ps).length % 8)) (0) (.t m0) .c rfl rfl) ?_
  refine TL.sub (.hd (.tl (.tl (.tl (.tl (.tl .refl)))))) ?_
  refine TL.nil ?_
  refine EX.seq ?_
  refine CT.ifd m0 (fun c9 => ?_) (fun c9 => ?_)
  ·
    refine CT.sub (.tl .refl) ?_
    refine CT.skip ?_
    refine EX.seq ?_
    refine CT.block ?_
    refine CT.seq ?_
    refine CT.region ?_
    refine TL.val (r_move (.t m1)) ?_
    refine TL.val (r_move (.t m1)) ?_
    refine TL.call (r_call ce_65 (.cons (.t m1) (.cons (.t m0) .nil))) (fun w hS => t65 p (y) (bs ++ ps) (by rw [List.length_append] at *; omega) (by omega) hS) ?_
    rintro _ w12 ⟨rfl, hS⟩
    refine TW.at hS ?_
    refine TL.sub (.tl (.tl (.tl .refl))) ?_
    refine TL.nil ?_
    refine EX.seq ?_
    refine CT.region ?_
    refine TL.val (r_move (.t m0)) ?_
    refine TL.val (n_shr (y) (1) (.t m0) .c rfl rfl (by decide)) ?_
    refine TL.rm (.there (.there .here)) ?_
    refine TL.val (r_asg (.t m0)) ?_
    refine TL.sub (.hd (.tl (.tl .refl))) ?_
    refine TL.nil ?_
    refine EX.bnormal ?_
    refine EX.fold (A' := (Wr p (bs ++ (ps ++ [decide (y % 2 = 1)])))) a0 (Wr_eq (by rw [List.append_assoc])) ?_
    exact EX.again ((y / 2 ^ 1, ps ++ [decide (y % 2 = 1)])) (⟨by show y / 2 ^ 1 < _; omega, by show (ps ++ [_]).length ≤ _; simp only [List.length_append, List.length_singleton] at *; omega⟩) (by show _ - (ps ++ [_]).length < _ - ps.length; simp only [List.length_append, List.length_singleton] at *; omega) (.refl _) (.eq m0 (by first | rfl | (congr 1; omega)) (.cons m1 .nil))
  ·
    refine CT.sub (.tl .refl) ?_
    refine CT.exit ?_
    refine EX.then_exit ?_
    refine EX.then_exit ?_
    refine EX.out ?_
    exact EX.end_ (.inr rfl) (res0 Tryz.results57) (fun _ hS => ⟨rfl, ps, by omega, by rw [List.length_append] at c9; omega, hS⟩)
end Go.Eng
