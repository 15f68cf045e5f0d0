/- The walks of a reader: one of some, bytes. -/
import Derived.Test.YtkpadembffdepaaGreatDoorWe
namespace Go.Eng
open Go Go.Proofs Go.Infl
set_option maxRecDepth 20000
set_option linter.unusedSimpArgs false
set_option linter.unusedVariables false

theorem t45 (r b : Nat) (ys : List Nat) (N : Nat) (hy : 0 < ys.length) (hyl : ys.length < 1099511627776) (hN : N < 1099511627776) {G : World} {R : List HProp} {w : World} (hS : Sat G w ((blk b ys.length (lst (ys.map i64))) :: (Rdr G r (N)) :: R)) :
    CallsR Tryz.prog 45 #[(.pointer (some ⟨r, 0, none⟩)), (.slice (some ⟨b, 0, none⟩) (ys.length) (ys.length))] w (fun v w' => ∃ y : Nat, v = i64 y ∧ y ∈ ys ∧ Sat G w' (Rdr G r (N + 1) :: R)) := by
  refine calls_in (n := 12) [(0, (.pointer (some ⟨r, 0, none⟩))), (1, (.slice (some ⟨b, 0, none⟩) (ys.length) (ys.length)))] Tryz.func45 rfl rfl hS args2 ?_
  refine CT.seq ?_
  refine CT.region ?_
  refine TL.val (r_asg .c) ?_
  refine TL.nil ?_
  refine EX.seq ?_
  refine CT.seq ?_
  refine CT.region ?_
  refine TL.val (r_move (.t m2)) ?_
  refine TL.val (r_move (.t m2)) ?_
  refine TL.val (r_move (.t m4)) ?_
  refine TL.val (r_len Tryz.underlying42 (.t m0)) ?_
  refine TL.perm p1 ?_
  refine TL.call (r_call ce_39 (.cons (.t m2) (.cons (.t m0) .nil))) (fun w hS => t39 r (ys.length) (N) (hyl) (by omega) hS) ?_
  rintro _ w9 ⟨y9, rfl, y9_l, hS⟩
  refine TW.at hS ?_
  refine TL.val (r_ia (i := y9) (off' := y9) Tryz.underlying42 Tryz.sizeOf3 (.t m4) (.t m0) (rfl) (Nat.lt_of_lt_of_le y9_l (by omega)) (by omega)) ?_
  obtain ⟨y1, hy1⟩ : ∃ y1, ys[y9]? = some y1 := ⟨_, List.getElem?_eq_getElem (Nat.lt_of_lt_of_le y9_l (by omega))⟩
  refine TL.val (r_ld (v := (.int .i64 ((y1 : Nat) : Int))) Tryz.isAgg3 m1 (.t m0) (Nat.lt_of_lt_of_le y9_l (by omega)) (lst_get (by rw [List.getElem?_map, hy1]; rfl))) ?_
  refine TL.rm (.there (.there (.there (.there (.there (.there (.there .here))))))) ?_
  refine TL.val (r_asg (.t m0)) ?_
  refine TL.sub (.hd (.tl (.tl (.tl (.tl (.tl (.tl (.tl (.tl (.tl .refl)))))))))) ?_
  refine TL.nil ?_
  refine EX.seq ?_
  refine CT.ret ?_
  exact EX.end_ (.inl rfl) (res1 Tryz.results45 m0) (fun _ hS => ⟨y1, rfl, List.mem_of_getElem? hy1, hS.perm (List.Perm.swap _ _ _) |>.tail⟩)
theorem t44 (r n N : Nat) (hn : n < 1048576) (hN : N + 2 * n + 8 < 1099511627776) {G : World} {R : List HProp} {w : World} (hS : Sat G w ((Rdr G r (N)) :: R)) :
    CallsR Tryz.prog 44 #[(.pointer (some ⟨r, 0, none⟩)), (.int .i64 ((n : Nat) : Int))] w (fun v w' => ∃ (xs : List Nat), xs.length ≤ n ∧ (∀ x ∈ xs, x < 256) ∧ Sat G w' (slc 1 v xs.length (xs.map u8) :: Rdr G r (N + 1 + 2 * n) :: R)) := by
  refine calls_in (n := 25) [(0, (.pointer (some ⟨r, 0, none⟩))), (1, (.int .i64 ((n : Nat) : Int)))] Tryz.func44 rfl rfl hS args2 ?_
  refine CT.seq ?_
  refine CT.region ?_
  refine TL.val (r_asg .c) ?_
  refine TL.nil ?_
  refine EX.seq ?_
  refine CT.seq ?_
  refine CT.region ?_
  refine TL.val (r_asg .c) ?_
  refine TL.nil ?_
  refine EX.seq ?_
  refine CT.seq ?_
  refine CT.seq ?_
  refine CT.region ?_
  refine TL.val (r_move (.t m2)) ?_
  refine TL.val (r_move (.t m4)) ?_
  refine TL.val (n_add (n) (1) 9223372036854775808 (.t m0) .c rfl rfl (by omega)) ?_
  refine TL.call (r_call ce_39 (.cons (.t m2) (.cons (.t m0) .nil))) (fun w hS => t39 r ((n + 1)) (N) (by omega) (by omega) hS) ?_
  rintro _ w10 ⟨y10, rfl, y10_l, hS⟩
  refine TW.at hS ?_
  refine TL.val (r_asg (.t m0)) ?_
  refine TL.sub (.hd (.tl (.tl (.tl (.tl (.hd (.hd (.hd (.tl .refl))))))))) ?_
  refine TL.nil ?_
  refine EX.seq ?_
  refine CT.block ?_
  refine CT.nilslc 1 ?_
  refine CT.fold (A' := (Rdr G r (N + 1 + 2 * (([] : List Nat)).length))) a1 (Rdr_mono (by first | (show _ ≤ _; omega) | (rw [List.length_append, List.length_singleton]; omega) | (show _ ≤ N + 1 + 2 * 0; omega))) ?_
  refine CT.loop (X := Value × List Nat) (fun gx => [(6, (.int .i64 (((y10 - (gx.2).length) : Nat) : Int))), (5, gx.1), (4, (.slice none 0 0)), (0, (.pointer (some ⟨r, 0, none⟩)))]) (fun gx => (slc 1 gx.1 ((gx.2).length) ((gx.2).map u8)) :: (Rdr G r (N + 1 + 2 * (gx.2).length)) :: R) (fun gx => (∀ x ∈ gx.2, x < 256) ∧ (gx.2).length ≤ y10) (fun gx => y10 - (gx.2).length) (((.slice none 0 0), ([] : List Nat))) (⟨(by intro x hx; cases hx), Nat.zero_le _⟩) (.refl _) (.eq m0 (by first | rfl | (congr 1; omega) | (congr 2; rw [List.length_append, List.length_singleton]; omega)) (.cons m1 (.cons m2 (.cons m3 .nil)))) ?_
  rintro ⟨v, xs⟩ ⟨hI1, hI2⟩
  show CT _ _ _ [(6, (.int .i64 (((y10 - (xs).length) : Nat) : Int))), (5, v), (4, (.slice none 0 0)), (0, (.pointer (some ⟨r, 0, none⟩)))] _ _ ((slc 1 v ((xs).length) ((xs).map u8)) :: (Rdr G r (N + 1 + 2 * (xs).length)) :: R)
  replace hI1 : ∀ x ∈ xs, x < 256 := hI1
  replace hI2 : xs.length ≤ y10 := hI2
  refine CT.seq ?_
  refine CT.seq ?_
  refine CT.region ?_
  refine TL.val (r_move (.t m0)) ?_
  refine TL.val (n_gtr ((y10 - (xs).length)) (0) (.t m0) .c rfl rfl) ?_
  refine TL.sub (.hd (.tl .refl)) ?_
  refine TL.nil ?_
  refine EX.seq ?_
  refine CT.ifd m0 (fun c12 => ?_) (fun c12 => ?_)
  ·
    refine CT.sub (.tl .refl) ?_
    refine CT.skip ?_
    refine EX.seq ?_
    refine CT.seq ?_
    refine CT.block ?_
    refine CT.region ?_
    refine TL.val (r_move (.t m1)) ?_
    refine TL.val (r_move (.t m4)) ?_
    refine TL.val (r_move (.t m5)) ?_
    refine TL.perm p1 ?_
    refine TL.call (r_call ce_39 (.cons (.t m0) (.cons .c .nil))) (fun w hS => t39 r (256) (N + 1 + 2 * (xs).length) (by omega) (by omega) hS) ?_
    rintro _ w18 ⟨y18, rfl, y18_l, hS⟩
    refine TW.at hS ?_
    refine TL.w (r_buildSlice (k := 5) (e := 3) (cs := #[(.int .i64 97), (.int .i64 98), (.int .i64 0), (.int .i64 255), (.int .i64 ((y18 : Nat) : Int))]) (F := lst [(.int .i64 97), (.int .i64 98), (.int .i64 0), (.int .i64 255), (.int .i64 ((y18 : Nat) : Int))]) (.cons .c (.cons .c (.cons .c (.cons .c (.cons (.t m0) .nil))))) (fun _ => by kernel_rfl) rfl lst_ok) ?_
    rintro _ w19 ⟨b19, rfl, hS⟩
    refine TW.at hS ?_
    refine TL.perm p1 ?_
    refine TL.perm p1 ?_
    refine TL.call (r_call ce_45 (.cons (.t m3) (.cons (.t m0) .nil))) (fun w hS => t45 r b19 [97, 98, 0, 255, y18] (N + 1 + 2 * (xs).length + 1) (Nat.zero_lt_succ _) (by show _ < _; simp) (by omega) hS) ?_
    rintro _ w20 ⟨y20, rfl, y20_m, hS⟩
    refine TW.at hS ?_
    have hy20 : y20 < 256 := by simp only [List.mem_cons, List.not_mem_nil, or_false] at y20_m; omega
    refine TL.val (n_conv (y20) 256 ⟨_, Tryz.underlying3⟩ Tryz.underlying5 (.t m0) rfl (hy20)) ?_
    refine TL.w (r_buildSlice (k := 1) (e := 5) (cs := #[(.int .u8 ((y20 : Nat) : Int))]) (F := lst [(.int .u8 ((y20 : Nat) : Int))]) (.cons (.t m0) .nil) (fun _ => by kernel_rfl) rfl lst_ok) ?_
    rintro _ w22 ⟨b22, rfl, hS⟩
    refine TW.at hS ?_
    refine TL.perm p2 ?_
    refine TL.w (r_append (j := 1) (k := (xs).length) (ds := [(.int .u8 ((y20 : Nat) : Int))]) el_22 Tryz.underlying22 (.t m7) (.t m0) ⟨_, _, rfl⟩ (rdsl m1 rfl rfl) ones1 (by have : xs.length ≤ y10 := hI2; omega) (by have : xs.length ≤ y10 := hI2; omega)) ?_
    rintro v23 w23 hS
    refine TW.at hS ?_
    refine TL.fold (A' := (slc 1 v23 ((xs ++ [y20]).length) ((xs ++ [y20]).map u8))) a0 (slc_eq (by rw [List.length_append, List.length_singleton]) (map_snoc)) ?_
    refine TL.rm (.there (.there (.there (.there (.there (.there (.there (.there (.there (.there .here)))))))))) ?_
    refine TL.val (r_asg (.t m0)) ?_
    refine TL.sub (.hd (.tl (.tl (.tl (.tl (.tl (.tl (.tl (.tl (.tl .refl)))))))))) ?_
    refine TL.nil ?_
    refine EX.bnormal ?_
    refine EX.seq ?_
    refine CT.region ?_
    refine TL.val (r_move (.t m1)) ?_
    refine TL.val (n_sub ((y10 - (xs).length)) (1) 9223372036854775808 (.t m0) .c rfl rfl (by omega) (by omega)) ?_
    refine TL.rm (.there (.there (.there .here))) ?_
    refine TL.val (r_asg (.t m0)) ?_
    refine TL.sub (.hd (.tl (.tl .refl))) ?_
    refine TL.nil ?_
    refine EX.fold (A' := (Rdr G r (N + 1 + 2 * (xs ++ [y20]).length))) a2 (Rdr_mono (by first | (show _ ≤ _; omega) | (rw [List.length_append, List.length_singleton]; omega) | (show _ ≤ N + 1 + 2 * 0; omega))) ?_
    refine EX.perm p1 ?_
    refine EX.conv (fun _ h => h.tail) ?_
    exact EX.again ((v23, xs ++ [y20])) (⟨by intro x hx; rcases List.mem_append.1 hx with h | h; exact hI1 x h; rw [List.mem_singleton.1 h]; exact hy20, by show (xs ++ [y20]).length ≤ _; rw [List.length_append, List.length_singleton]; omega⟩) (by show _ - (xs ++ [_]).length < _ - xs.length; rw [List.length_append, List.length_singleton]; omega) (.refl _) (.eq m0 (by first | rfl | (congr 1; omega) | (congr 2; rw [List.length_append, List.length_singleton]; omega)) (.cons m1 (.cons m2 (.cons m3 .nil))))
  ·
    refine CT.sub (.tl .refl) ?_
    refine CT.exit ?_
    refine EX.then_exit ?_
    refine EX.then_exit ?_
    refine EX.out ?_
    refine EX.seq ?_
    refine CT.seq ?_
    refine CT.region ?_
    refine TL.val (r_move (.t m1)) ?_
    refine TL.rm (.there (.there (.there .here))) ?_
    refine TL.val (r_asg (.t m0)) ?_
    refine TL.sub (.hd (.tl .refl)) ?_
    refine TL.nil ?_
    refine EX.seq ?_
    refine CT.ret ?_
    exact EX.end_ (.inl rfl) (res1 Tryz.results44 m0) (fun _ hS => ⟨xs, by omega, hI1, (hS.perm (List.Perm.swap _ _ _)).imp (Rdr_mono (by omega)) |>.perm (List.Perm.swap _ _ _)⟩)
end Go.Eng
