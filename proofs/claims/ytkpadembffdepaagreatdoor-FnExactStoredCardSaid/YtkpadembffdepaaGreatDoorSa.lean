/- The walks of the reading bit by bit: its bits. -/
import Derived.Test.YtkpadembffdepaaGreatDoorRd
import Derived.Test.YtkpadembffdepaaGreatDoorBc
namespace Go.Eng
open Go Go.Proofs Go.Infl
set_option maxRecDepth 20000
set_option linter.unusedSimpArgs false
set_option linter.unusedVariables false


/-- A stream that is read bit by bit, behind the pointer to block p: its bits, where it stands, its dictionary, what it gave, its end. -/
def Sp (p : Nat) (sv : Value) (B : List Bool) (at_ : Nat) (dv : Value) (out : List Nat) (e : Int) : HProp := hex fun ov => sep [blk p 5 (lst [sv, i64 at_, dv, ov, .int .i64 e]), slc 1 sv (pack B).length ((pack B).map u8), slc 1 ov out.length (out.map u8)]
theorem Sp_eq {p at_ at' : Nat} {sv dv : Value} {B : List Bool} {out out' : List Nat} {e : Int} (h : at_ = at') (h2 : out = out') : ∀ m, Sp p sv B at_ dv out e m → Sp p sv B at' dv out' e m := by subst h h2; exact fun _ h => h
theorem two_pow_le {k n : Nat} (h : k < n) (hn : n ≤ 32) : 2 ^ k ≤ 2147483648 := Nat.pow_le_pow_right (by decide) (show k ≤ 31 by omega)
theorem Sat.keep1 {G w : World} {R : List HProp} {A B : HProp} (h : Sat G w (A :: B :: R)) : Sat G w (A :: R) := (h.perm p1).tail
section
variable {P : Program} {G w : World} {ρ : Env} {n : Nat} {R : List HProp} {Q : Exit → Act → World → Prop} {ops : Array Oper} {rest : List Oper} {p at_ : Nat} {sv dv ov : Value} {B : List Bool} {out : List Nat} {e : Int}
theorem Sat.sp (h : Sat G w (Sp p sv B at_ dv out e :: R)) : ∃ ov, Sat G w (Eng.blk p 5 (lst [sv, i64 at_, dv, ov, .int .i64 e]) :: Eng.slc 1 sv (pack B).length ((pack B).map u8) :: Eng.slc 1 ov out.length (out.map u8) :: R) :=
  let ⟨v, hv⟩ := h.ex; ⟨v, hv.unsep⟩
theorem Sat.unsp (h : Sat G w (Eng.blk p 5 (lst [sv, i64 at_, dv, ov, .int .i64 e]) :: Eng.slc 1 sv (pack B).length ((pack B).map u8) :: Eng.slc 1 ov out.length (out.map u8) :: R)) : Sat G w (Sp p sv B at_ dv out e :: R) :=
  (Sat.resep (Ls := [Eng.blk p 5 (lst [sv, i64 at_, dv, ov, .int .i64 e]), Eng.slc 1 sv (pack B).length ((pack B).map u8), Eng.slc 1 ov out.length (out.map u8)]) h).imp fun _ hm => ⟨ov, hm⟩
theorem CT.sp {c : Code} (k : ∀ ov, CT P c Q ρ n G (blk p 5 (lst [sv, i64 at_, dv, ov, .int .i64 e]) :: slc 1 sv (pack B).length ((pack B).map u8) :: slc 1 ov out.length (out.map u8) :: R)) : CT P c Q ρ n G (Sp p sv B at_ dv out e :: R) := fun w a hS ha => let ⟨v, hv⟩ := hS.sp; k v w a hv ha
theorem TL.sp (k : ∀ ov, TL P Q ops rest ρ n G (blk p 5 (lst [sv, i64 at_, dv, ov, .int .i64 e]) :: slc 1 sv (pack B).length ((pack B).map u8) :: slc 1 ov out.length (out.map u8) :: R)) : TL P Q ops rest ρ n G (Sp p sv B at_ dv out e :: R) := fun w a hS ha => let ⟨v, hv⟩ := hS.sp; k v w a hv ha
theorem CT.unsp {c : Code} (k : CT P c Q ρ n G (Sp p sv B at_ dv out e :: R)) : CT P c Q ρ n G (blk p 5 (lst [sv, i64 at_, dv, ov, .int .i64 e]) :: slc 1 sv (pack B).length ((pack B).map u8) :: slc 1 ov out.length (out.map u8) :: R) := fun w a hS ha => k w a hS.unsp ha
theorem TL.unsp (k : TL P Q ops rest ρ n G (Sp p sv B at_ dv out e :: R)) : TL P Q ops rest ρ n G (blk p 5 (lst [sv, i64 at_, dv, ov, .int .i64 e]) :: slc 1 sv (pack B).length ((pack B).map u8) :: slc 1 ov out.length (out.map u8) :: R) := fun w a hS ha => k w a hS.unsp ha
theorem EX.unsp {x : Exit} (k : EX Q x ρ n G (Sp p sv B at_ dv out e :: R)) : EX Q x ρ n G (blk p 5 (lst [sv, i64 at_, dv, ov, .int .i64 e]) :: slc 1 sv (pack B).length ((pack B).map u8) :: slc 1 ov out.length (out.map u8) :: R) := fun w a hS ha => k w a hS.unsp ha
end
theorem t47 {p at_ : Nat} {sv dv : Value} {B : List Bool} {out : List Nat} {e : Int} {r : Bool} (hr : decide (e < 0) = r) {G : World} {R : List HProp} {w : World} (hS : Sat G w ((Sp p sv (B) (at_) dv (out) (e)) :: R)) :
    CallsR Tryz.prog 47 #[(.pointer (some ⟨p, 0, none⟩))] w (fun v w' => v = .bool r ∧ Sat G w' (Sp p sv B at_ dv out e :: R)) := by
  refine calls_in (n := 8) [(0, (.pointer (some ⟨p, 0, none⟩)))] Tryz.func47 rfl rfl hS args1 ?_
  refine CT.seq ?_
  refine CT.region ?_
  refine TL.val (r_asg .c) ?_
  refine TL.nil ?_
  refine EX.seq ?_
  refine CT.seq ?_
  refine CT.sp ?_
  intro ov1
  refine CT.region ?_
  refine TL.val (r_move (.t m1)) ?_
  refine TL.val (r_nil (.t m0)) ?_
  refine TL.val (r_fa (off' := 4) fo_56_4 (.t m0)) ?_
  refine TL.val (r_ld (v := (.int .i64 (e))) Tryz.isAgg3 m0 (.t m0) (by decide) rfl) ?_
  refine TL.val (r_lss (.t m0) .c) ?_
  refine TL.rm (.there (.there (.there (.there (.there .here))))) ?_
  refine TL.val (r_asg (.t m0)) ?_
  refine TL.sub (.hd (.tl (.tl (.tl (.tl (.tl (.tl .refl))))))) ?_
  refine TL.nil ?_
  refine EX.seq ?_
  refine CT.ret ?_
  exact EX.end_ (.inl rfl) (res1 Tryz.results47 m0) (fun _ hS => ⟨by rw [hr], hS.unsp⟩)
theorem t49_1 {p at_ : Nat} {sv dv : Value} {B : List Bool} {out : List Nat} {x : Int} {G : World} {R : List HProp} {w : World} (hS : Sat G w ((Sp p sv (B) (at_) dv (out) ((-1))) :: R)) :
    CallsR Tryz.prog 49 #[(.pointer (some ⟨p, 0, none⟩)), (.int .i64 (x))] w (fun v w' => v = .tuple #[] ∧ Sat G w' (Sp p sv B at_ dv out x :: R)) := by
  refine calls_in (n := 13) [(0, (.pointer (some ⟨p, 0, none⟩))), (1, (.int .i64 (x)))] Tryz.func49 rfl rfl hS args2 ?_
  refine CT.seq ?_
  refine CT.sp ?_
  intro ov1
  refine CT.region ?_
  refine TL.val (r_move (.t m0)) ?_
  refine TL.val (r_nil (.t m0)) ?_
  refine TL.val (r_fa (off' := 4) fo_56_4 (.t m0)) ?_
  refine TL.val (r_ld (v := (.int .i64 ((-1)))) Tryz.isAgg3 m0 (.t m0) (by decide) rfl) ?_
  refine TL.val (r_lss (.t m0) .c) ?_
  refine TL.sub (.hd (.tl (.tl (.tl (.tl .refl))))) ?_
  refine TL.nil ?_
  refine EX.seq ?_
  refine CT.ifd m0 (fun c8 => ?_) (fun c8 => ?_)
  ·
    refine CT.sub (.tl .refl) ?_
    refine CT.region ?_
    refine TL.val (r_move (.t m0)) ?_
    refine TL.val (r_move (.t m2)) ?_
    refine TL.val (r_nil (.t m1)) ?_
    refine TL.val (r_fa (off' := 4) fo_56_4 (.t m0)) ?_
    refine TL.s (r_stl (l' := [sv, (.int .i64 ((at_ : Nat) : Int)), dv, ov1, (.int .i64 (x))]) Tryz.sizeOf3 a0 (.t m0) (.t m2) (by decide)) ?_
    refine TL.sub (.tl (.tl (.tl (.tl (.hd (.tl .refl)))))) ?_
    refine TL.nil ?_
    exact EX.end_ (.inr rfl) (res0 Tryz.results49) (fun _ hS => ⟨rfl, hS.unsp⟩)
  ·
    exfalso; omega
theorem t49_2 {p at_ : Nat} {sv dv : Value} {B : List Bool} {out : List Nat} {e x : Int} (he : ¬ e < 0) {G : World} {R : List HProp} {w : World} (hS : Sat G w ((Sp p sv (B) (at_) dv (out) (e)) :: R)) :
    CallsR Tryz.prog 49 #[(.pointer (some ⟨p, 0, none⟩)), (.int .i64 (x))] w (fun v w' => v = .tuple #[] ∧ Sat G w' (Sp p sv B at_ dv out e :: R)) := by
  refine calls_in (n := 13) [(0, (.pointer (some ⟨p, 0, none⟩))), (1, (.int .i64 (x)))] Tryz.func49 rfl rfl hS args2 ?_
  refine CT.seq ?_
  refine CT.sp ?_
  intro ov1
  refine CT.region ?_
  refine TL.val (r_move (.t m0)) ?_
  refine TL.val (r_nil (.t m0)) ?_
  refine TL.val (r_fa (off' := 4) fo_56_4 (.t m0)) ?_
  refine TL.val (r_ld (v := (.int .i64 (e))) Tryz.isAgg3 m0 (.t m0) (by decide) rfl) ?_
  refine TL.val (r_lss (.t m0) .c) ?_
  refine TL.sub (.hd (.tl (.tl (.tl (.tl .refl))))) ?_
  refine TL.nil ?_
  refine EX.seq ?_
  refine CT.ifd m0 (fun c8 => ?_) (fun c8 => ?_)
  ·
    exfalso; omega
  ·
    refine CT.sub (.tl .refl) ?_
    refine CT.skip ?_
    exact EX.end_ (.inr rfl) (res0 Tryz.results49) (fun _ hS => ⟨rfl, hS.unsp⟩)
theorem t71 {p at_ : Nat} {sv dv : Value} {B : List Bool} {out : List Nat} {b : Bool} {rest : List Bool} (hA : B.length < 9223372036854775808) (hd : B.drop at_ = b :: rest) {G : World} {R : List HProp} {w : World} (hS : Sat G w ((Sp p sv (B) (at_) dv (out) ((-1))) :: R)) :
    CallsR Tryz.prog 71 #[(.pointer (some ⟨p, 0, none⟩))] w (fun v w' => v = i64 b.toNat ∧ Sat G w' (Sp p sv B (at_ + 1) dv out (-1) :: R)) := by
  obtain ⟨hb, hlt, hr⟩ := drop_cons hd
  have hpl := pack_length B
  have hat : at_ < 9223372036854775807 := by omega
  refine calls_in (n := 47) [(0, (.pointer (some ⟨p, 0, none⟩)))] Tryz.func71 rfl rfl hS args1 ?_
  refine CT.seq ?_
  refine CT.region ?_
  refine TL.val (r_asg .c) ?_
  refine TL.nil ?_
  refine EX.seq ?_
  refine CT.seq ?_
  refine CT.seq ?_
  refine CT.region ?_
  refine TL.val (r_move (.t m1)) ?_
  refine TL.call (r_call ce_47 (.cons (.t m0) .nil)) (fun w hS => t47 (r := true) (by decide) hS) ?_
  rintro _ w5 ⟨rfl, hS⟩
  refine TW.at hS ?_
  refine TL.val (r_nott (.t m0)) ?_
  refine TL.sub (.hd (.tl (.tl .refl))) ?_
  refine TL.nil ?_
  refine EX.seq ?_
  refine CT.iff_ m0 ?_
  refine CT.sub (.tl .refl) ?_
  refine CT.skip ?_
  refine EX.seq ?_
  refine CT.seq ?_
  refine CT.seq ?_
  refine CT.sp ?_
  intro ov1
  refine CT.still fm (by kernel_rfl) ?_
  refine TS.val (r_move (.t m1)) ?_
  refine TS.val (r_nil (.t m0)) ?_
  refine TS.val (r_fa (off' := 1) fo_56_1 (.t m0)) ?_
  refine TS.val (r_ld (v := (.int .i64 ((at_ : Nat) : Int))) Tryz.isAgg3 m0 (.t m0) (by decide) rfl) ?_
  refine TS.val (n_quo (at_) (8) 9223372036854775808 (.t m0) .c rfl rfl (by omega) (by omega)) ?_
  refine TS.val (r_move (.t m6)) ?_
  refine TS.val (r_nil (.t m0)) ?_
  refine TS.val (r_fa (off' := 0) fo_56_0 (.t m0)) ?_
  refine TS.val (r_ld (v := sv) Tryz.isAgg22 m0 (.t m0) (by decide) rfl) ?_
  refine TS.val (r_lens Tryz.underlying22 (.t m0) m1) ?_
  refine TS.val (n_geq ((at_ / 8)) ((pack B).length) (.t m5) (.t m0) rfl rfl) ?_
  refine TS.nil ?_
  refine TL.sub (.hd (.tl (.tl (.tl (.tl (.tl (.tl (.tl (.tl (.tl (.tl .refl))))))))))) ?_
  refine TL.nil ?_
  refine EX.seq ?_
  refine CT.ifd m0 (fun c17 => ?_) (fun c17 => ?_)
  ·
    exfalso; omega
  ·
    refine CT.sub (.tl .refl) ?_
    refine CT.skip ?_
    refine EX.seq ?_
    refine CT.seq ?_
    refine CT.peek m1 (by rw [pack_length]; omega) ?_
    intro d d_c d_v d_k d_l
    refine CT.still fm (by kernel_rfl) ?_
    refine TS.val (r_move (.t m1)) ?_
    refine TS.val (r_nil (.t m0)) ?_
    refine TS.val (r_fa (off' := 0) fo_56_0 (.t m0)) ?_
    refine TS.val (r_ld (v := sv) Tryz.isAgg22 m0 (.t m0) (by decide) rfl) ?_
    refine TS.val (r_move (.t m5)) ?_
    refine TS.val (r_nil (.t m0)) ?_
    refine TS.val (r_fa (off' := 1) fo_56_1 (.t m0)) ?_
    refine TS.val (r_ld (v := (.int .i64 ((at_ : Nat) : Int))) Tryz.isAgg3 m0 (.t m0) (by decide) rfl) ?_
    refine TS.val (n_quo (at_) (8) 9223372036854775808 (.t m0) .c rfl rfl (by omega) (by omega)) ?_
    refine TS.val (r_ia (i := (at_ / 8)) (off' := (at_ / 8)) Tryz.underlying22 Tryz.sizeOf5 (.te m5 d_v) (.t m0) (rfl) (by rw [pack_length]; omega) (by omega)) ?_
    refine TS.val (r_lds (u := (.int .u8 ((byteAt B (at_ / 8) : Nat) : Int))) Tryz.isAgg5 m1 d_v (.t m0) (by rw [List.getElem?_map, pack_get (by rw [pack_length]; omega)]; rfl)) ?_
    refine TS.val (n_conv (byteAt B (at_ / 8)) 9223372036854775808 ⟨_, Tryz.underlying5⟩ Tryz.underlying3 (.t m0) rfl (by have := byteAt_lt B (at_ / 8); omega)) ?_
    refine TS.val (r_move (.t m13)) ?_
    refine TS.val (r_nil (.t m0)) ?_
    refine TS.val (r_fa (off' := 1) fo_56_1 (.t m0)) ?_
    refine TS.val (r_ld (v := (.int .i64 ((at_ : Nat) : Int))) Tryz.isAgg3 m0 (.t m0) (by decide) rfl) ?_
    refine TS.val (n_rem (at_) (8) (.t m0) .c rfl rfl (by omega)) ?_
    refine TS.val (n_shr (byteAt B (at_ / 8)) ((at_ % 8)) (.t m5) (.t m0) rfl rfl (show _ ≤ 64 by omega)) ?_
    refine TS.val (n_and ((byteAt B (at_ / 8) / 2 ^ (at_ % 8))) (1) 9223372036854775808 (.t m0) .c rfl rfl (by first | decide | (have := Nat.div_le_self (byteAt B (at_ / 8)) (2 ^ (at_ % 8)); have := byteAt_lt B (at_ / 8); omega)) (by first | decide | (have := Nat.div_le_self (byteAt B (at_ / 8)) (2 ^ (at_ % 8)); have := byteAt_lt B (at_ / 8); omega))) ?_
    refine TS.val (r_asg (.t m0)) ?_
    refine TS.nil ?_
    refine TL.sub (.hd (.tl (.tl (.tl (.tl (.tl (.tl (.tl (.tl (.tl (.tl (.tl (.tl (.tl (.tl (.tl (.tl (.tl (.tl (.tl .refl)))))))))))))))))))) ?_
    refine TL.nil ?_
    refine EX.seq ?_
    refine CT.seq ?_
    refine CT.region ?_
    refine TL.val (r_move (.t m2)) ?_
    refine TL.val (r_nil (.t m0)) ?_
    refine TL.val (r_fa (off' := 1) fo_56_1 (.t m0)) ?_
    refine TL.val (r_ld (v := (.int .i64 ((at_ : Nat) : Int))) Tryz.isAgg3 m0 (.t m0) (by decide) rfl) ?_
    refine TL.val (n_add (at_) (1) 9223372036854775808 (.t m0) .c rfl rfl (by omega)) ?_
    refine TL.val (r_nil (.t m4)) ?_
    refine TL.val (r_fa (off' := 1) fo_56_1 (.t m0)) ?_
    refine TL.s (r_stl (l' := [sv, (.int .i64 (((at_ + 1) : Nat) : Int)), dv, ov1, (.int .i64 ((-1)))]) Tryz.sizeOf3 a0 (.t m0) (.t m2) (by decide)) ?_
    refine TL.sub (.tl (.tl (.tl (.tl (.tl (.tl (.tl .refl))))))) ?_
    refine TL.nil ?_
    refine EX.seq ?_
    refine CT.seq ?_
    refine CT.region ?_
    refine TL.val (r_move (.t m0)) ?_
    refine TL.rm (.there (.there .here)) ?_
    refine TL.val (r_asg (.t m0)) ?_
    refine TL.sub (.hd (.tl (.tl .refl))) ?_
    refine TL.nil ?_
    refine EX.seq ?_
    refine CT.ret ?_
    exact EX.end_ (.inl rfl) (res1 Tryz.results71 m0) (fun _ hS => ⟨congrArg (fun z : Nat => Value.int .i64 (z : Int)) (by rw [Nat.and_one_is_mod]; exact byte_bit hb), hS.unsp⟩)
theorem t72 {p at_ : Nat} {sv dv : Value} {B : List Bool} {out : List Nat} (x n : Nat) {rest : List Bool} (hA : B.length < 9223372036854775808) (hn : n ≤ 32) (hx : x < 2 ^ n) (hd : B.drop at_ = nbits n x ++ rest) {G : World} {R : List HProp} {w : World} (hS : Sat G w ((Sp p sv (B) (at_) dv (out) ((-1))) :: R)) :
    CallsR Tryz.prog 72 #[(.pointer (some ⟨p, 0, none⟩)), (.int .i64 ((n : Nat) : Int))] w (fun v w' => v = i64 x ∧ Sat G w' (Sp p sv B (at_ + n) dv out (-1) :: R)) := by
  refine calls_in (n := 19) [(0, (.pointer (some ⟨p, 0, none⟩))), (1, (.int .i64 ((n : Nat) : Int)))] Tryz.func72 rfl rfl hS args2 ?_
  refine CT.seq ?_
  refine CT.region ?_
  refine TL.val (r_asg .c) ?_
  refine TL.nil ?_
  refine EX.seq ?_
  refine CT.seq ?_
  refine CT.region ?_
  refine TL.val (r_asg .c) ?_
  refine TL.nil ?_
  refine EX.seq ?_
  refine CT.seq ?_
  refine CT.seq ?_
  refine CT.region ?_
  refine TL.val (r_move (.t m3)) ?_
  refine TL.val (r_move .c) ?_
  refine TL.sub (.hd (.hd (.hd (.hd (.hd (.tl .refl)))))) ?_
  refine TL.nil ?_
  refine EX.seq ?_
  refine CT.block ?_
  refine CT.fold (A' := (Sp p sv (B) (at_ + (0)) dv (out) ((-1)))) a0 (Sp_eq (by omega) (rfl)) ?_
  refine CT.loop (X := Nat) (fun gx => [(8, (.int .i64 ((gx : Nat) : Int))), (5, (.int .i64 (((x % 2 ^ (gx)) : Nat) : Int))), (7, (.int .i64 ((n : Nat) : Int))), (4, (.int .i64 0)), (0, (.pointer (some ⟨p, 0, none⟩)))]) (fun gx => (Sp p sv (B) (at_ + (gx)) dv (out) ((-1))) :: R) (fun gx => gx ≤ n ∧ B.drop (at_ + (gx)) = (nbits n x).drop (gx) ++ rest) (fun gx => n - (gx)) (0) (⟨Nat.zero_le _, hd⟩) (.refl _) (.cons m0 (.eq m2 (by first | rfl | (congr 1; omega) | exact congrArg (fun z : Nat => Value.int .i64 (z : Int)) mod_step | (rw [Nat.pow_zero, Nat.mod_one]; rfl)) (.cons m1 (.cons m3 (.cons m4 .nil))))) ?_
  rintro k ⟨hI1, hI2⟩
  show CT _ _ _ [(8, (.int .i64 ((k : Nat) : Int))), (5, (.int .i64 (((x % 2 ^ (k)) : Nat) : Int))), (7, (.int .i64 ((n : Nat) : Int))), (4, (.int .i64 0)), (0, (.pointer (some ⟨p, 0, none⟩)))] _ _ ((Sp p sv (B) (at_ + (k)) dv (out) ((-1))) :: R)
  have hm := Nat.mod_lt x (Nat.two_pow_pos k)
  refine CT.seq ?_
  refine CT.region ?_
  refine TL.val (n_lss (k) (n) (.t m0) (.t m2) rfl rfl) ?_
  refine TL.nil ?_
  refine EX.seq ?_
  refine CT.seq ?_
  refine CT.ifd m0 (fun c9 => ?_) (fun c9 => ?_)
  ·
    refine CT.sub (.tl .refl) ?_
    refine CT.skip ?_
    refine EX.seq ?_
    refine CT.seq ?_
    refine CT.block ?_
    refine CT.seq ?_
    refine CT.region ?_
    refine TL.val (r_move (.t m0)) ?_
    refine TL.val (r_asg (.t m0)) ?_
    refine TL.sub (.hd (.tl .refl)) ?_
    refine TL.nil ?_
    refine EX.seq ?_
    refine CT.region ?_
    refine TL.val (r_move (.t m2)) ?_
    refine TL.val (r_move (.t m6)) ?_
    refine TL.call (r_call ce_71 (.cons (.t m0) .nil)) (fun w hS => t71 (b := (x.testBit k)) (rest := ((nbits n x).drop (k + 1) ++ rest)) (by omega) (by rw [hI2, nbits_drop c9]; rfl) hS) ?_
    rintro _ w13 ⟨rfl, hS⟩
    refine TW.at hS ?_
    refine TL.val (r_move (.t m3)) ?_
    refine TL.val (n_shl ((Bool.toNat (x.testBit k))) (k) 9223372036854775808 (.t m1) (.t m0) rfl rfl (show _ ≤ 64 by omega) (by have := two_pow_le (k := k) (n := n) c9 hn; cases x.testBit k <;> simp [Bool.toNat] <;> omega)) ?_
    refine TL.val (n_or ((x % 2 ^ (k))) (((Bool.toNat (x.testBit k)) * 2 ^ k)) 9223372036854775808 (.t m4) (.t m0) rfl rfl (by have := two_pow_le (k := k) (n := n) c9 hn; cases x.testBit k <;> simp [Bool.toNat] <;> omega) (by have := two_pow_le (k := k) (n := n) c9 hn; cases x.testBit k <;> simp [Bool.toNat] <;> omega)) ?_
    refine TL.rm (.there (.there (.there (.there (.there (.there (.there (.there .here)))))))) ?_
    refine TL.val (r_asg (.t m0)) ?_
    refine TL.sub (.hd (.tl (.tl (.tl (.tl (.tl (.tl .refl))))))) ?_
    refine TL.nil ?_
    refine EX.bnormal ?_
    refine EX.seq ?_
    refine CT.region ?_
    refine TL.val (n_add (k) (1) 9223372036854775808 (.t m2) .c rfl rfl (by omega)) ?_
    refine TL.rm (.there (.there (.there .here))) ?_
    refine TL.val (r_move (.t m0)) ?_
    refine TL.sub (.hd (.tl .refl)) ?_
    refine TL.nil ?_
    refine EX.fold (A' := (Sp p sv (B) (at_ + (k + 1)) dv (out) ((-1)))) a0 (Sp_eq (by omega) (rfl)) ?_
    exact EX.again (k + 1) (⟨by omega, (drop_cons (show B.drop (at_ + k) = x.testBit k :: ((nbits n x).drop (k + 1) ++ rest) by rw [hI2, nbits_drop c9]; rfl)).2.2⟩) (by omega) (.refl _) (.eq m0 (by first | rfl | (congr 1; omega) | exact congrArg (fun z : Nat => Value.int .i64 (z : Int)) mod_step | (rw [Nat.pow_zero, Nat.mod_one]; rfl)) (.eq m1 (by first | rfl | (congr 1; omega) | exact congrArg (fun z : Nat => Value.int .i64 (z : Int)) mod_step | (rw [Nat.pow_zero, Nat.mod_one]; rfl)) (.cons m3 (.cons m4 (.cons m5 .nil)))))
  ·
    refine CT.sub (.tl .refl) ?_
    refine CT.exit ?_
    refine EX.then_exit ?_
    refine EX.then_exit ?_
    refine EX.out ?_
    refine EX.seq ?_
    refine CT.seq ?_
    refine CT.region ?_
    refine TL.val (r_move (.t m1)) ?_
    refine TL.rm (.there (.there (.there (.there .here)))) ?_
    refine TL.val (r_asg (.t m0)) ?_
    refine TL.sub (.hd (.tl .refl)) ?_
    refine TL.nil ?_
    refine EX.seq ?_
    refine CT.ret ?_
    exact EX.end_ (.inl rfl) (res1 Tryz.results72 m0) (fun _ hS => ⟨by obtain rfl : k = n := (by omega); rw [Nat.mod_eq_of_lt hx], by obtain rfl : k = n := (by omega); exact hS⟩)
theorem t91 {p at_ : Nat} {sv dv : Value} {B : List Bool} {out : List Nat} (x : Nat) (ho : out.length < 131072) {G : World} {R : List HProp} {w : World} (hS : Sat G w ((Sp p sv (B) (at_) dv (out) ((-1))) :: R)) :
    CallsR Tryz.prog 91 #[(.pointer (some ⟨p, 0, none⟩)), (.int .u8 ((x : Nat) : Int))] w (fun v w' => v = .tuple #[] ∧ Sat G w' (Sp p sv B at_ dv (out ++ [x]) (-1) :: R)) := by
  refine calls_in (n := 25) [(0, (.pointer (some ⟨p, 0, none⟩))), (1, (.int .u8 ((x : Nat) : Int)))] Tryz.func91 rfl rfl hS args2 ?_
  refine CT.seq ?_
  refine CT.seq ?_
  refine CT.region ?_
  refine TL.val (r_move (.t m0)) ?_
  refine TL.call (r_call ce_47 (.cons (.t m0) .nil)) (fun w hS => t47 (r := true) (by decide) hS) ?_
  rintro _ w5 ⟨rfl, hS⟩
  refine TW.at hS ?_
  refine TL.val (r_nott (.t m0)) ?_
  refine TL.sub (.hd (.tl (.tl .refl))) ?_
  refine TL.nil ?_
  refine EX.seq ?_
  refine CT.iff_ m0 ?_
  refine CT.sub (.tl .refl) ?_
  refine CT.skip ?_
  refine EX.seq ?_
  refine CT.seq ?_
  refine CT.seq ?_
  refine CT.sp ?_
  intro ov1
  refine CT.region ?_
  refine TL.val (r_move (.t m0)) ?_
  refine TL.val (r_nil (.t m0)) ?_
  refine TL.val (r_fa (off' := 3) fo_56_3 (.t m0)) ?_
  refine TL.val (r_ld (v := ov1) Tryz.isAgg22 m0 (.t m0) (by decide) rfl) ?_
  refine TL.val (r_lens Tryz.underlying22 (.t m0) m2) ?_
  refine TL.val (n_geq ((out).length) (131072) (.t m0) .c rfl rfl) ?_
  refine TL.sub (.hd (.tl (.tl (.tl (.tl (.tl .refl)))))) ?_
  refine TL.nil ?_
  refine EX.seq ?_
  refine CT.ifd m0 (fun c12 => ?_) (fun c12 => ?_)
  ·
    exfalso; omega
  ·
    refine CT.sub (.tl .refl) ?_
    refine CT.skip ?_
    refine EX.seq ?_
    refine CT.region ?_
    refine TL.val (r_move (.t m0)) ?_
    refine TL.val (r_move (.t m1)) ?_
    refine TL.val (r_nil (.t m0)) ?_
    refine TL.val (r_fa (off' := 3) fo_56_3 (.t m0)) ?_
    refine TL.val (r_ld (v := ov1) Tryz.isAgg22 m0 (.t m0) (by decide) rfl) ?_
    refine TL.val (r_move (.t m6)) ?_
    refine TL.w (r_buildSlice (k := 1) (e := 5) (cs := #[(.int .u8 ((x : Nat) : Int))]) (F := lst [(.int .u8 ((x : Nat) : Int))]) (.cons (.t m0) .nil) (fun _ => by kernel_rfl) rfl lst_ok) ?_
    rintro _ w21 ⟨b21, rfl, hS⟩
    refine TW.at hS ?_
    refine TL.perm p3 ?_
    refine TL.w (r_append (j := 1) (k := (out).length) (ds := [(.int .u8 ((x : Nat) : Int))]) el_22 Tryz.underlying22 (.t m2) (.t m0) ⟨_, _, rfl⟩ (rdsl m1 rfl rfl) ones1 (by omega) (by omega)) ?_
    rintro v22 w22 hS
    have ho22 := hS.slc_one
    refine TW.at hS ?_
    refine TL.fold (A' := (slc 1 v22 ((out ++ [x]).length) ((out ++ [x]).map u8))) a0 (slc_eq (by rw [List.length_append, List.length_singleton]) (map_snoc)) ?_
    refine TL.val (r_nil (.t m7)) ?_
    refine TL.val (r_fa (off' := 3) fo_56_3 (.t m0)) ?_
    refine TL.s (r_stl (l' := [sv, (.int .i64 ((at_ : Nat) : Int)), dv, v22, (.int .i64 ((-1)))]) Tryz.sizeOf22 a2 (.t m0) (.t m2) (by decide) (hv := by assumption)) ?_
    refine TL.sub (.tl (.tl (.tl (.tl (.tl (.tl (.tl (.tl (.tl (.tl (.hd (.tl .refl)))))))))))) ?_
    refine TL.nil ?_
    refine EX.perm p3 ?_
    refine EX.perm p3 ?_
    refine EX.unsp ?_
    exact EX.end_ (.inr rfl) (res0 Tryz.results91) (fun _ hS => ⟨rfl, hS.perm (List.Perm.refl _) |>.keep1⟩)
end Go.Eng
