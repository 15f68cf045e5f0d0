/- The walks of the reading bit by bit: stored blocks. -/
import Derived.Test.YtkpadembffdepaaGreatDoorSa
namespace Go.Eng
open Go Go.Proofs Go.Infl
set_option maxRecDepth 20000
set_option linter.unusedSimpArgs false
set_option linter.unusedVariables false

theorem t73 {p at_ : Nat} {sv dv : Value} {B : List Bool} {out : List Nat} (ps : List Bool) (xs : List Nat) {rest : List Bool} (hA : B.length < 9223372036854775000) (hps : ps.length < 8) (hal : (at_ + ps.length) % 8 = 0) (hxl : xs.length ≤ 65535) (hxs : ∀ x ∈ xs, x < 256) (ho : out.length + xs.length ≤ 131072) (hd : B.drop at_ = ps ++ (nbits 16 xs.length ++ (nbits 16 (65535 - xs.length) ++ (xs.flatMap (nbits 8) ++ rest)))) {G : World} {R : List HProp} {w : World} (hS : Sat G w ((Sp p sv (B) (at_) dv (out) ((-1))) :: R)) :
    CallsR Tryz.prog 73 #[(.pointer (some ⟨p, 0, none⟩))] w (fun v w' => v = .tuple #[] ∧ Sat G w' (Sp p sv B (at_ + ps.length + 32 + 8 * xs.length) dv (out ++ xs) (-1) :: R)) := by
  have hlen := congrArg List.length hd
  simp only [List.length_drop, List.length_append, nbits_length] at hlen
  have hd1 := drop_app hd
  have hd2 := drop_app hd1
  rw [nbits_length] at hd2
  have hd3 := drop_app hd2
  rw [nbits_length] at hd3
  refine calls_in (n := 45) [(0, (.pointer (some ⟨p, 0, none⟩)))] Tryz.func73 rfl rfl hS args1 ?_
  refine CT.seq ?_
  refine CT.sp ?_
  intro ov1
  refine CT.region ?_
  refine TL.val (r_move (.t m0)) ?_
  refine TL.val (r_move (.t m1)) ?_
  refine TL.val (r_nil (.t m0)) ?_
  refine TL.val (r_fa (off' := 1) fo_56_1 (.t m0)) ?_
  refine TL.val (r_ld (v := (.int .i64 ((at_ : Nat) : Int))) Tryz.isAgg3 m0 (.t m0) (by decide) rfl) ?_
  refine TL.val (n_add (at_) (7) 9223372036854775808 (.t m0) .c rfl rfl (by omega)) ?_
  refine TL.val (n_quo ((at_ + 7)) (8) 9223372036854775808 (.t m0) .c rfl rfl (by omega) (by omega)) ?_
  refine TL.val (n_mul (((at_ + 7) / 8)) (8) 9223372036854775808 (.t m0) .c rfl rfl (by omega)) ?_
  refine TL.val (r_nil (.t m7)) ?_
  refine TL.val (r_fa (off' := 1) fo_56_1 (.t m0)) ?_
  refine TL.s (r_stl (l' := [sv, (.int .i64 (((((at_ + 7) / 8) * 8) : Nat) : Int)), dv, ov1, (.int .i64 ((-1)))]) Tryz.sizeOf3 a0 (.t m0) (.t m2) (by decide)) ?_
  refine TL.sub (.tl (.tl (.tl (.tl (.tl (.tl (.tl (.tl (.tl (.tl .refl)))))))))) ?_
  refine TL.perm p2 ?_
  refine TL.perm p2 ?_
  refine TL.perm p2 ?_
  refine TL.unsp ?_
  refine TL.fold (A' := (Sp p sv (B) (at_ + ps.length) dv (out) ((-1)))) a0 (Sp_eq (by omega) (rfl)) ?_
  refine TL.nil ?_
  refine EX.seq ?_
  refine CT.seq ?_
  refine CT.region ?_
  refine TL.val (r_move (.t m0)) ?_
  refine TL.call (r_call ce_72 (.cons (.t m0) (.cons .c .nil))) (fun w hS => t72 (xs.length) (16) (rest := (nbits 16 (65535 - xs.length) ++ (xs.flatMap (nbits 8) ++ rest))) (by omega) (by decide) (by omega) (hd1) hS) ?_
  rintro _ w17 ⟨rfl, hS⟩
  refine TW.at hS ?_
  refine TL.val (r_asg (.t m0)) ?_
  refine TL.sub (.hd (.tl (.tl .refl))) ?_
  refine TL.nil ?_
  refine EX.seq ?_
  refine CT.seq ?_
  refine CT.region ?_
  refine TL.val (r_move (.t m1)) ?_
  refine TL.call (r_call ce_72 (.cons (.t m0) (.cons .c .nil))) (fun w hS => t72 (65535 - xs.length) (16) (rest := (xs.flatMap (nbits 8) ++ rest)) (by omega) (by decide) (by omega) (hd2) hS) ?_
  rintro _ w19 ⟨rfl, hS⟩
  refine TW.at hS ?_
  refine TL.val (r_asg (.t m0)) ?_
  refine TL.sub (.hd (.tl (.tl .refl))) ?_
  refine TL.nil ?_
  refine EX.seq ?_
  refine CT.seq ?_
  refine CT.seq ?_
  refine CT.region ?_
  refine TL.val (r_move (.t m2)) ?_
  refine TL.call (r_call ce_47 (.cons (.t m0) .nil)) (fun w hS => t47 (r := true) (by decide) hS) ?_
  rintro _ w21 ⟨rfl, hS⟩
  refine TW.at hS ?_
  refine TL.val (r_move (.t m0)) ?_
  refine TL.gv m0 (r_move (.t m4)) ?_
  refine TL.gv m1 (r_move (.t m4)) ?_
  refine TL.gv m2 (n_add ((xs.length)) ((65535 - xs.length)) 9223372036854775808 (.t m1) (.t m0) rfl rfl (by omega)) ?_
  refine TL.gv m3 (n_neq (((xs.length) + (65535 - xs.length))) (65535) (.t m0) .c rfl rfl) ?_
  refine TL.val (r_pickt (.t m4) (.t m0)) ?_
  refine TL.sub (.hd (.tl (.tl (.tl (.tl (.tl (.tl (.tl (.tl .refl))))))))) ?_
  refine TL.nil ?_
  refine EX.seq ?_
  refine CT.ifd m0 (fun c27 => ?_) (fun c27 => ?_)
  ·
    exfalso; omega
  ·
    refine CT.sub (.tl .refl) ?_
    refine CT.skip ?_
    refine EX.seq ?_
    refine CT.seq ?_
    refine CT.region ?_
    refine TL.val (r_asg .c) ?_
    refine TL.nil ?_
    refine EX.seq ?_
    refine CT.block ?_
    refine CT.fold (A' := (Sp p sv (B) (at_ + ps.length + 32 + 8 * (0)) dv (out ++ xs.take (0)) ((-1)))) a0 (Sp_eq (by omega) (by simp)) ?_
    refine CT.loop (X := Nat) (fun gx => [(4, (.int .i64 ((gx : Nat) : Int))), (2, (.int .i64 (((xs.length) : Nat) : Int))), (0, (.pointer (some ⟨p, 0, none⟩)))]) (fun gx => (Sp p sv (B) (at_ + ps.length + 32 + 8 * (gx)) dv (out ++ xs.take (gx)) ((-1))) :: R) (fun gx => gx ≤ xs.length ∧ B.drop (at_ + ps.length + 32 + 8 * (gx)) = (xs.drop (gx)).flatMap (nbits 8) ++ rest) (fun gx => xs.length - (gx)) (0) (⟨Nat.zero_le _, hd3⟩) (.refl _) (.cons m0 (.cons m1 (.cons m2 .nil))) ?_
    rintro k ⟨hI1, hI2⟩
    show CT _ _ _ [(4, (.int .i64 ((k : Nat) : Int))), (2, (.int .i64 (((xs.length) : Nat) : Int))), (0, (.pointer (some ⟨p, 0, none⟩)))] _ _ ((Sp p sv (B) (at_ + ps.length + 32 + 8 * (k)) dv (out ++ xs.take (k)) ((-1))) :: R)
    refine CT.seq ?_
    refine CT.seq ?_
    refine CT.region ?_
    refine TL.val (r_move (.t m0)) ?_
    refine TL.val (r_move (.t m2)) ?_
    refine TL.val (n_lss (k) ((xs.length)) (.t m1) (.t m0) rfl rfl) ?_
    refine TL.val (r_move (.t m0)) ?_
    by_cases g33 : k < (xs.length)
    ·
      refine TL.sub (ρ' := [(33, (.bool true)), (32, (.bool true)), (31, (.int .i64 (((xs.length) : Nat) : Int))), (30, (.int .i64 ((k : Nat) : Int))), (4, (.int .i64 ((k : Nat) : Int))), (2, (.int .i64 (((xs.length) : Nat) : Int))), (0, (.pointer (some ⟨p, 0, none⟩)))]) (.eq m0 (congrArg Value.bool (decide_eq_true g33)) (.eq m1 (congrArg Value.bool (decide_eq_true g33)) (.cons m2 (.cons m3 (.cons m4 (.cons m5 (.cons m6 .nil))))))) ?_
      refine TL.gv m0 (r_move (.t m6)) ?_
      refine TL.gcall m1 (r_call ce_47 (.cons (.t m0) .nil)) (fun w hS => t47 (r := true) (by decide) hS) ?_
      rintro _ w35 ⟨rfl, hS⟩
      refine TW.at hS ?_
      refine TL.val (r_pickt (.t m2) (.t m0)) ?_
      refine TL.sub (.hd (.tl (.tl (.tl (.tl (.tl (.tl .refl))))))) ?_
      refine TL.nil ?_
      refine EX.seq ?_
      refine CT.ift m0 ?_
      refine CT.sub (.tl .refl) ?_
      refine CT.skip ?_
      refine EX.seq ?_
      refine CT.seq ?_
      refine CT.block ?_
      refine CT.seq ?_
      obtain ⟨x1, hx1, hl1⟩ := src_get hxs g33
      have hd4 : B.drop (at_ + ps.length + 32 + 8 * (k + 1)) = (xs.drop (k + 1)).flatMap (nbits 8) ++ rest := by
        have h5 : B.drop (at_ + ps.length + 32 + 8 * k) = nbits 8 x1 ++ ((xs.drop (k + 1)).flatMap (nbits 8) ++ rest) := by rw [hI2, List.drop_eq_getElem_cons g33, (List.getElem?_eq_some_iff.1 hx1).2, List.flatMap_cons, List.append_assoc]
        have := drop_app h5
        rw [nbits_length] at this
        exact this
      refine CT.region ?_
      refine TL.val (r_move (.t m2)) ?_
      refine TL.call (r_call ce_72 (.cons (.t m0) (.cons .c .nil))) (fun w hS => t72 (x1) (8) (rest := ((xs.drop (k + 1)).flatMap (nbits 8) ++ rest)) (by omega) (by decide) (by omega) (by rw [hI2, List.drop_eq_getElem_cons g33, (List.getElem?_eq_some_iff.1 hx1).2]; rw [List.flatMap_cons, List.append_assoc]) hS) ?_
      rintro _ w40 ⟨rfl, hS⟩
      refine TW.at hS ?_
      refine TL.val (r_asg (.t m0)) ?_
      refine TL.sub (.hd (.tl (.tl .refl))) ?_
      refine TL.nil ?_
      refine EX.seq ?_
      refine CT.region ?_
      refine TL.val (r_move (.t m3)) ?_
      refine TL.val (r_move (.t m1)) ?_
      refine TL.val (n_conv ((x1)) 256 ⟨_, Tryz.underlying3⟩ Tryz.underlying5 (.t m0) rfl (by omega)) ?_
      refine TL.call (r_call ce_91 (.cons (.t m2) (.cons (.t m0) .nil))) (fun w hS => t91 ((x1)) (by rw [List.length_append, List.length_take]; omega) hS) ?_
      rintro _ w44 ⟨rfl, hS⟩
      refine TW.at hS ?_
      refine TL.sub (.tl (.tl (.tl (.tl .refl)))) ?_
      refine TL.nil ?_
      refine EX.bnormal ?_
      refine EX.seq ?_
      refine CT.region ?_
      refine TL.val (r_move (.t m1)) ?_
      refine TL.val (n_add (k) (1) 9223372036854775808 (.t m0) .c rfl rfl (by omega)) ?_
      refine TL.rm (.there (.there (.there .here))) ?_
      refine TL.val (r_asg (.t m0)) ?_
      refine TL.sub (.hd (.tl (.tl .refl))) ?_
      refine TL.nil ?_
      refine EX.fold (A' := (Sp p sv (B) (at_ + ps.length + 32 + 8 * (k + 1)) dv (out ++ xs.take (k + 1)) ((-1)))) a0 (Sp_eq (by omega) (by rw [List.take_add_one, hx1, List.append_assoc]; rfl)) ?_
      exact EX.again (k + 1) (⟨by omega, hd4⟩) (by omega) (.refl _) (.eq m0 (by first | rfl | (congr 1; omega)) (.cons m2 (.cons m3 .nil)))
    ·
      refine TL.sub (ρ' := [(33, (.bool false)), (32, (.bool false)), (31, (.int .i64 (((xs.length) : Nat) : Int))), (30, (.int .i64 ((k : Nat) : Int))), (4, (.int .i64 ((k : Nat) : Int))), (2, (.int .i64 (((xs.length) : Nat) : Int))), (0, (.pointer (some ⟨p, 0, none⟩)))]) (.eq m0 (congrArg Value.bool (decide_eq_false g33)) (.eq m1 (congrArg Value.bool (decide_eq_false g33)) (.cons m2 (.cons m3 (.cons m4 (.cons m5 (.cons m6 .nil))))))) ?_
      refine TL.gn m0 ?_
      refine TL.gn m0 ?_
      refine TL.val (r_pickf (.t m0) .c) ?_
      refine TL.sub (.hd (.tl (.tl (.tl (.tl .refl))))) ?_
      refine TL.nil ?_
      refine EX.seq ?_
      refine CT.iff_ m0 ?_
      refine CT.sub (.tl .refl) ?_
      refine CT.exit ?_
      refine EX.then_exit ?_
      refine EX.then_exit ?_
      refine EX.out ?_
      exact EX.end_ (.inr rfl) (res0 Tryz.results73) (fun _ hS => ⟨rfl, by obtain rfl : k = xs.length := (by omega); rw [List.take_length] at hS; exact hS⟩)
theorem t48_s {p at_ : Nat} {sv dv : Value} {B : List Bool} {out : List Nat} (fin : Bool) (ps : List Bool) (xs : List Nat) {rest : List Bool} (hA : B.length < 9223372036854775000) (h1 : ps.length < 8) (h2 : (at_ + 3 + ps.length) % 8 = 0) (h3 : xs.length ≤ 65535) (h4 : ∀ x ∈ xs, x < 256) (ho : out.length + xs.length ≤ 131072) (hd : B.drop at_ = storedBits fin ps xs ++ rest) {G : World} {R : List HProp} {w : World} (hS : Sat G w ((Sp p sv (B) (at_) dv (out) ((-1))) :: R)) :
    CallsR Tryz.prog 48 #[(.pointer (some ⟨p, 0, none⟩))] w (fun v w' => v = .bool fin ∧ Sat G w' (Sp p sv B (at_ + (storedBits fin ps xs).length) dv (out ++ xs) (-1) :: R)) := by
  have hd1 : B.drop at_ = fin :: (nbits 2 0 ++ (ps ++ (nbits 16 xs.length ++ (nbits 16 (65535 - xs.length) ++ (xs.flatMap (nbits 8) ++ rest))))) := by
    rw [hd]; unfold storedBits; rw [show nbits 3 (Bool.toNat fin) = fin :: nbits 2 0 by cases fin <;> rfl]; simp only [List.cons_append, List.append_assoc]
  have hd2 := (drop_cons hd1).2.2
  have hd3 := drop_app hd2
  rw [nbits_length] at hd3
  have hlen := congrArg List.length hd1
  simp only [List.length_drop, List.length_append, List.length_cons, nbits_length] at hlen
  refine calls_in (n := 27) [(0, (.pointer (some ⟨p, 0, none⟩)))] Tryz.func48 rfl rfl hS args1 ?_
  refine CT.seq ?_
  refine CT.region ?_
  refine TL.val (r_asg .c) ?_
  refine TL.nil ?_
  refine EX.seq ?_
  refine CT.seq ?_
  refine CT.region ?_
  refine TL.val (r_move (.t m1)) ?_
  refine TL.call (r_call ce_71 (.cons (.t m0) .nil)) (fun w hS => t71 (b := fin) (rest := (nbits 2 0 ++ (ps ++ (nbits 16 xs.length ++ (nbits 16 (65535 - xs.length) ++ (xs.flatMap (nbits 8) ++ rest)))))) (by omega) (hd1) hS) ?_
  rintro _ w5 ⟨rfl, hS⟩
  refine TW.at hS ?_
  refine TL.val (r_asg (.t m0)) ?_
  refine TL.sub (.hd (.tl (.tl .refl))) ?_
  refine TL.nil ?_
  refine EX.seq ?_
  refine CT.seq ?_
  refine CT.seq ?_
  refine CT.region ?_
  refine TL.val (r_move (.t m2)) ?_
  refine TL.call (r_call ce_72 (.cons (.t m0) (.cons .c .nil))) (fun w hS => t72 (0) (2) (rest := (ps ++ (nbits 16 xs.length ++ (nbits 16 (65535 - xs.length) ++ (xs.flatMap (nbits 8) ++ rest))))) (by omega) (by decide) (by decide) (hd2) hS) ?_
  rintro _ w7 ⟨rfl, hS⟩
  refine TW.at hS ?_
  refine TL.sub (.hd (.tl .refl)) ?_
  refine TL.nil ?_
  refine EX.seq ?_
  refine CT.block ?_
  refine CT.seq ?_
  refine CT.region ?_
  refine TL.val (show Run _ _ _ _ _ _ (.bool true) from n_eql (0) (0) (.t m0) .c rfl rfl) ?_
  refine TL.val (r_asg (.t m0)) ?_
  refine TL.sub (.hd (.tl .refl)) ?_
  refine TL.nil ?_
  refine EX.seq ?_
  refine CT.ift m0 ?_
  refine CT.sub (.tl .refl) ?_
  refine CT.region ?_
  refine TL.val (r_move (.t m3)) ?_
  refine TL.call (r_call ce_73 (.cons (.t m0) .nil)) (fun w hS => t73 ps xs (by omega) h1 (by omega) h3 h4 ho hd3 hS) ?_
  rintro _ w13 ⟨rfl, hS⟩
  refine TW.at hS ?_
  refine TL.sub (.tl (.tl .refl)) ?_
  refine TL.nil ?_
  refine EX.bnormal ?_
  refine EX.seq ?_
  refine CT.seq ?_
  refine CT.region ?_
  refine TL.val (r_move (.t m1)) ?_
  refine TL.val (n_eql ((Bool.toNat fin)) (1) (.t m0) .c rfl rfl) ?_
  refine TL.rm (.there (.there (.there (.there .here)))) ?_
  refine TL.val (r_asg (.t m0)) ?_
  refine TL.sub (.hd (.tl (.tl (.hd (.tl .refl))))) ?_
  refine TL.nil ?_
  refine EX.seq ?_
  refine CT.ret ?_
  exact EX.end_ (.inl rfl) (res1 Tryz.results48 m0) (fun _ hS => ⟨congrArg Value.bool (by cases fin <;> rfl), hS.imp (Sp_eq (by rw [storedBits_length]; omega) rfl)⟩)
end Go.Eng
