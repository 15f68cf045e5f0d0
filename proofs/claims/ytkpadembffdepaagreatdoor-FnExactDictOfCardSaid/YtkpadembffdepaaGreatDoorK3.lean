/- Parts of the proof of the card: Ib Ic Id Ie If Ig Hg Bo En Hh Hi Hj Bp Hk -/
import Derived.Test.YtkpadembffdepaaGreatDoorK2
import Derived.Test.YtkpadembffdepaaGreatDoorK1
set_option maxRecDepth 100000
set_option maxHeartbeats 4000000
set_option linter.unusedVariables false
set_option linter.unusedSimpArgs false
namespace Go.Eng
open Go Go.Proofs Go.Infl
def itV : It → List Value
 | .lit b => [u8 b, i64 0, i64 0]
 | .mat n d => [u8 0, i64 n, i64 d]
def itC (l : List It) : List Value := l.flatMap itV
theorem itC_lit {l : List It} {b : Nat} : itC l ++ [u8 b, i64 0, i64 0] = itC (l ++ [.lit b]) := by unfold itC; rw [List.flatMap_append]; rfl
theorem itC_mat {l : List It} {n d : Nat} : itC l ++ [u8 0, i64 n, i64 d] = itC (l ++ [.mat n d]) := by unfold itC; rw [List.flatMap_append]; rfl
theorem t53 (r N : Nat) (hN : N < 1099511627000) {G : World} {R : List HProp} {w : World} (hS : Sat G w (Rdr G r (N) :: R)) :
 CallsR Tryz.prog 53 #[(pt r 0)] w (fun v w' => ∃ n : Nat, v = i64 n ∧ (3 ≤ n ∧ n ≤ 258) ∧ Sat G w' (Rdr G r (N + 1 + 1) :: R)) := by
 refine calls_in (n := 9) [(0, (pt r 0))] Tryz.func53 rfl rfl hS args1 ?_
 refine CT.q (TL.val (r_asg .c) (TL.q (TL.m m1 (TL.m m2 (TL.call (r_call ce_39 (.cons T0 (.cons .c .nil))) (fun w hS => t39 r 256 (N) (by omega) (by omega) hS) ?_)))))
 rintro _ w5 ⟨y5, rfl, y5_l, hS⟩
 refine TW.at hS (TL.val (n_add 3 y5 9223372036854775808 .c T0) (TL.w (r_buildSlice (k := 8) (e := 3) (cs := #[(.int .i64 3), (.int .i64 4), (.int .i64 10), (.int .i64 11), (.int .i64 18), (.int .i64 257), (.int .i64 258), (i64 (3 + y5))]) (F := lst [(.int .i64 3), (.int .i64 4), (.int .i64 10), (.int .i64 11), (.int .i64 18), (.int .i64 257), (.int .i64 258), (i64 (3 + y5))]) (.cons .c (.cons .c (.cons .c (.cons .c (.cons .c (.cons .c (.cons .c (.cons T0 .nil)))))))) (fun _ => by kernel_rfl) rfl lst_ok) ?_))
 rintro _ w7 ⟨b7, rfl, hS⟩
 refine TW.at hS (TL.perm p1 (TL.perm p1 (TL.call (r_call ce_45 (.cons T4 (.cons T0 .nil))) (fun w hS => t45 r b7 [3, 4, 10, 11, 18, 257, 258, (3 + y5)] (N + 1) (Nat.zero_lt_succ _) (by show _ < _; simp) (by omega) hS) ?_)))
 rintro _ w8 ⟨y8, rfl, y8_m, hS⟩
 refine TW.at hS ?_
 simp only [List.mem_cons, List.not_mem_nil, or_false] at y8_m
 have hy8 : 3 ≤ y8 ∧ y8 ≤ 258 := by omega
 exact TL.rm .h6 (TL.a m0 (TL.b (.hd .u7) (CT.ret (EX.end_ (.inl rfl) (res1 Tryz.results53 m0) (fun _ hS => ⟨y8, rfl, hy8, hS⟩)))))
theorem t59 (r beh n N : Nat) (hb : beh < 1099511627776) (hn : n < 1048576) (hN : N + 8 * n + 16 < 1099511627000) {G : World} {R : List HProp} {w : World} (hS : Sat G w (Rdr G r (N) :: R)) :
 CallsR Tryz.prog 59 #[(pt r 0), (i64 beh), (i64 n)] w (fun v w' => ∃ its : List It, its.length ≤ n ∧ ItOk beh its ∧ Sat G w' (slc 3 v its.length (itC its) :: Rdr G r (N + 1 + 8 * n) :: R)) := by
 refine calls_in (n := 65) [(0, (pt r 0)), (1, (i64 beh)), (2, (i64 n))] Tryz.func59 rfl rfl hS args3 ?_
 refine CT.q (TL.val (r_asg .c) (TL.q (TL.val (r_asg .c) (TL.e (CT.seq (CT.q (TL.m m2 (TL.m m5 (TL.val (n_add n 1 9223372036854775808 T0 .c) (TL.call (r_call ce_39 (.cons T2 (.cons T0 .nil))) (fun w hS => t39 r ((n + 1)) (N) (by omega) (by omega) hS) ?_))))))))))
 rintro _ w14 ⟨y14, rfl, y14_l, hS⟩
 refine TW.at hS (TL.a m0 (TL.b (.hd (.tl (.tl (.tl (.tl (.hd (.hd (.hd (.hd .u1))))))))) (CT.block (CT.nilslc 3 ?_))))
 refine CT.fold (A' := (Rdr G r (N + 1 + 8 * (([] : List It)).length))) a1 (Rdr_mono (by first | (show _ ≤ N + 1 + 8 * 0; omega) | (rw [List.length_append, List.length_singleton]; omega))) (CT.loop (X := Value × List It) (fun gx => [(8, (i64 (y14 - (gx.2).length))), (7, gx.1), (1, (i64 (beh + itSize gx.2))), (6, (.slice none 0 0)), (0, (pt r 0))]) (fun gx => (slc 3 gx.1 ((gx.2).length) (itC gx.2)) :: Rdr G r (N + 1 + 8 * (gx.2).length) :: R) (fun gx => ItOk beh gx.2 ∧ (gx.2).length ≤ y14) (fun gx => y14 - (gx.2).length) (((.slice none 0 0), ([] : List It))) (⟨trivial, Nat.zero_le _⟩) (.refl _) (.eq m0 (by first | rfl | (congr 1 <;> omega) | (congr 2; rw [List.length_append, List.length_singleton]; omega) | (congr 2; rw [itSize_snoc_lit]; omega) | (congr 2; rw [itSize_snoc_mat]; omega)) (.cons m1 (.eq m4 (by first | rfl | (congr 1 <;> omega) | (congr 2; rw [List.length_append, List.length_singleton]; omega) | (congr 2; rw [itSize_snoc_lit]; omega) | (congr 2; rw [itSize_snoc_mat]; omega)) (.cons m2 (.cons m3 .nil))))) ?_)
 rintro ⟨v, its⟩ ⟨hI1, hI2⟩
 show CT _ _ _ [(8, (i64 (y14 - (its).length))), (7, v), (1, (i64 (beh + itSize its))), (6, (.slice none 0 0)), (0, (pt r 0))] _ _ (slc 3 v ((its).length) (itC its) :: Rdr G r (N + 1 + 8 * (its).length) :: R)
 replace hI1 : ItOk beh its := hI1
 replace hI2 : its.length ≤ y14 := hI2
 have hsz := itSize_le its beh hI1
 refine CT.seq (CT.q (TL.m m0 (TL.val (n_gtr ((y14 - (its).length)) 0 T0 .c) (TL.b (.hd .u1) (CT.ifd m0 (fun c16 => ?_) (fun c16 => ?_))))))
 ·
  refine CT.z (EX.seq (CT.seq (CT.block (CT.seq (CT.q (TL.m m2 (TL.val (n_eql ((beh + itSize its)) 0 T0 .c) (TL.m m0 ?_))))))))
  by_cases g21 : (beh + itSize its) = 0
  ·
   refine TL.sub (.eq m0 (congrArg Value.bool (decide_eq_true g21)) (.eq m1 (congrArg Value.bool (decide_eq_true g21)) (.cons m2 (.cons m3 (.cons m4 (.cons m5 (.cons m6 (.cons m7 .nil)))))))) (TL.gn m0 (TL.gn m0 (TL.gn m0 (TL.val (r_pickt T0 .c) (TL.b (.hd .u3) (CT.ift m0 ?_))))))
   refine CT.y (TL.m m1 (TL.m m5 (TL.m m6 (TL.perm p1 (TL.call (r_call ce_39 (.cons T0 (.cons .c .nil))) (fun w hS => t39 r 256 (N + 1 + 8 * (its).length) (by omega) (by omega) hS) ?_)))))
   rintro _ w29 ⟨y29, rfl, y29_l, hS⟩
   refine TW.at hS (TL.w (r_buildSlice (k := 7) (e := 3) (cs := #[(.int .i64 97), (.int .i64 98), (.int .i64 0), (.int .i64 143), (.int .i64 144), (.int .i64 255), (i64 y29)]) (F := lst [(.int .i64 97), (.int .i64 98), (.int .i64 0), (.int .i64 143), (.int .i64 144), (.int .i64 255), (i64 y29)]) (.cons .c (.cons .c (.cons .c (.cons .c (.cons .c (.cons .c (.cons T0 .nil))))))) (fun _ => by kernel_rfl) rfl lst_ok) ?_)
   rintro _ w30 ⟨b30, rfl, hS⟩
   refine TW.at hS (TL.perm p1 (TL.perm p1 (TL.call (r_call ce_45 (.cons T3 (.cons T0 .nil))) (fun w hS => t45 r b30 [97, 98, 0, 143, 144, 255, y29] (N + 1 + 8 * (its).length + 1) (Nat.zero_lt_succ _) (by show _ < _; simp) (by omega) hS) ?_)))
   rintro _ w31 ⟨y31, rfl, y31_m, hS⟩
   refine TW.at hS ?_
   simp only [List.mem_cons, List.not_mem_nil, or_false] at y31_m
   have hy31 : y31 < 256 := by omega
   refine TL.val (n_conv y31 256 ⟨_, Tryz.underlying3⟩ Tryz.underlying5 T0 rfl (by omega)) (TL.val (r_build (v := (.agg #[(u8 y31), (.int .i64 0), (.int .i64 0)])) (.cons T0 .nil) (fun _ => by kernel_rfl)) (TL.w (r_buildSlice (k := 1) (e := 65) (cs := #[(u8 y31), (.int .i64 0), (.int .i64 0)]) (F := lst [(u8 y31), (.int .i64 0), (.int .i64 0)]) (.cons T0 .nil) (fun _ => by kernel_rfl) rfl lst_ok) ?_))
   rintro _ w34 ⟨b34, rfl, hS⟩
   refine TW.at hS (TL.perm p2 (TL.w (r_append (j := 1) (k := (its).length) (ds := [(u8 y31), (.int .i64 0), (.int .i64 0)]) el_62 Tryz.underlying62 T8 T0 ⟨_, _, rfl⟩ (rdsl m1 rfl rfl) ones3 (by omega) (by omega)) ?_))
   rintro v35 w35 hS
   have ho35 := hS.slc_one
   refine TW.at hS (TL.fold (A' := (slc 3 v35 ((its ++ [It.lit y31]).length) (itC (its ++ [It.lit y31])))) a0 (slc_eq (by rw [List.length_append, List.length_singleton]) itC_lit) ?_)
   refine TL.rm .h11 (TL.a m0 (TL.r (.hd .u10) (TL.m m2 (TL.val (n_add ((beh + itSize its)) 1 9223372036854775808 T0 .c) (TL.rm .h4 (TL.a m0 (TL.b (.hd .u2) (CT.exit (EX.then_exit (EX.out (EX.seq (CT.region (TL.m m2 (TL.val (n_sub ((y14 - (its).length)) 1 9223372036854775808 T0 .c) (TL.rm .h4 (TL.a m0 (TL.x (.hd .u2) (EX.fold (A' := (Rdr G r (N + 1 + 8 * (its ++ [It.lit y31]).length))) a2 (Rdr_mono (by first | (show _ ≤ N + 1 + 8 * 0; omega) | (rw [List.length_append, List.length_singleton]; omega))) (EX.perm p1 (EX.conv (fun _ h => h.tail) ?_))))))))))))))))))))
   exact EX.again ((v35, its ++ [It.lit y31])) (⟨hI1.snoc (x := It.lit y31) ⟨hy31, trivial⟩, by show (its ++ [_]).length ≤ _; rw [List.length_append, List.length_singleton]; omega⟩) (by show _ - (its ++ [_]).length < _ - its.length; rw [List.length_append, List.length_singleton]; omega) (.refl _) (.eq m0 (by first | rfl | (congr 1 <;> omega) | (congr 2; rw [List.length_append, List.length_singleton]; omega) | (congr 2; rw [itSize_snoc_lit]; omega) | (congr 2; rw [itSize_snoc_mat]; omega)) (.cons m2 (.eq m1 (by first | rfl | (congr 1 <;> omega) | (congr 2; rw [List.length_append, List.length_singleton]; omega) | (congr 2; rw [itSize_snoc_lit]; omega) | (congr 2; rw [itSize_snoc_mat]; omega)) (.cons m3 (.cons m4 .nil)))))
  refine TL.sub (.eq m0 (congrArg Value.bool (decide_eq_false g21)) (.eq m1 (congrArg Value.bool (decide_eq_false g21)) (.cons m2 (.cons m3 (.cons m4 (.cons m5 (.cons m6 (.cons m7 .nil)))))))) (TL.gv m0 (r_move T7) (TL.perm p1 (TL.gcall m1 (r_call ce_39 (.cons T0 (.cons .c .nil))) (fun w hS => t39 r 3 (N + 1 + 8 * (its).length) (by omega) (by omega) hS) ?_)))
  rintro _ w23 ⟨y23, rfl, y23_l, hS⟩
  refine TW.at hS (TL.gv m2 (n_gtr y23 0 T0 .c) (TL.val (r_pickf T3 T0) (TL.b (.hd .u6) (CT.ifd m0 (fun c25 => ?_) (fun c25 => ?_)))))
  ·
   refine CT.y (TL.m m1 (TL.m m5 (TL.m m6 (TL.call (r_call ce_39 (.cons T0 (.cons .c .nil))) (fun w hS => t39 r 256 (N + 1 + 8 * (its).length + 1) (by omega) (by omega) hS) ?_))))
   rintro _ w29 ⟨y29, rfl, y29_l, hS⟩
   refine TW.at hS (TL.w (r_buildSlice (k := 7) (e := 3) (cs := #[(.int .i64 97), (.int .i64 98), (.int .i64 0), (.int .i64 143), (.int .i64 144), (.int .i64 255), (i64 y29)]) (F := lst [(.int .i64 97), (.int .i64 98), (.int .i64 0), (.int .i64 143), (.int .i64 144), (.int .i64 255), (i64 y29)]) (.cons .c (.cons .c (.cons .c (.cons .c (.cons .c (.cons .c (.cons T0 .nil))))))) (fun _ => by kernel_rfl) rfl lst_ok) ?_)
   rintro _ w30 ⟨b30, rfl, hS⟩
   refine TW.at hS (TL.perm p1 (TL.perm p1 (TL.call (r_call ce_45 (.cons T3 (.cons T0 .nil))) (fun w hS => t45 r b30 [97, 98, 0, 143, 144, 255, y29] (N + 1 + 8 * (its).length + 1 + 1) (Nat.zero_lt_succ _) (by show _ < _; simp) (by omega) hS) ?_)))
   rintro _ w31 ⟨y31, rfl, y31_m, hS⟩
   refine TW.at hS ?_
   simp only [List.mem_cons, List.not_mem_nil, or_false] at y31_m
   have hy31 : y31 < 256 := by omega
   refine TL.val (n_conv y31 256 ⟨_, Tryz.underlying3⟩ Tryz.underlying5 T0 rfl (by omega)) (TL.val (r_build (v := (.agg #[(u8 y31), (.int .i64 0), (.int .i64 0)])) (.cons T0 .nil) (fun _ => by kernel_rfl)) (TL.w (r_buildSlice (k := 1) (e := 65) (cs := #[(u8 y31), (.int .i64 0), (.int .i64 0)]) (F := lst [(u8 y31), (.int .i64 0), (.int .i64 0)]) (.cons T0 .nil) (fun _ => by kernel_rfl) rfl lst_ok) ?_))
   rintro _ w34 ⟨b34, rfl, hS⟩
   refine TW.at hS (TL.perm p2 (TL.w (r_append (j := 1) (k := (its).length) (ds := [(u8 y31), (.int .i64 0), (.int .i64 0)]) el_62 Tryz.underlying62 T8 T0 ⟨_, _, rfl⟩ (rdsl m1 rfl rfl) ones3 (by omega) (by omega)) ?_))
   rintro v35 w35 hS
   have ho35 := hS.slc_one
   refine TW.at hS (TL.fold (A' := (slc 3 v35 ((its ++ [It.lit y31]).length) (itC (its ++ [It.lit y31])))) a0 (slc_eq (by rw [List.length_append, List.length_singleton]) itC_lit) ?_)
   refine TL.rm .h11 (TL.a m0 (TL.r (.hd .u10) (TL.m m2 (TL.val (n_add ((beh + itSize its)) 1 9223372036854775808 T0 .c) (TL.rm .h4 (TL.a m0 (TL.b (.hd .u2) (CT.exit (EX.then_exit (EX.out (EX.seq (CT.region (TL.m m2 (TL.val (n_sub ((y14 - (its).length)) 1 9223372036854775808 T0 .c) (TL.rm .h4 (TL.a m0 (TL.x (.hd .u2) (EX.fold (A' := (Rdr G r (N + 1 + 8 * (its ++ [It.lit y31]).length))) a2 (Rdr_mono (by first | (show _ ≤ N + 1 + 8 * 0; omega) | (rw [List.length_append, List.length_singleton]; omega))) (EX.perm p1 (EX.conv (fun _ h => h.tail) ?_))))))))))))))))))))
   exact EX.again ((v35, its ++ [It.lit y31])) (⟨hI1.snoc (x := It.lit y31) ⟨hy31, trivial⟩, by show (its ++ [_]).length ≤ _; rw [List.length_append, List.length_singleton]; omega⟩) (by show _ - (its ++ [_]).length < _ - its.length; rw [List.length_append, List.length_singleton]; omega) (.refl _) (.eq m0 (by first | rfl | (congr 1 <;> omega) | (congr 2; rw [List.length_append, List.length_singleton]; omega) | (congr 2; rw [itSize_snoc_lit]; omega) | (congr 2; rw [itSize_snoc_mat]; omega)) (.cons m2 (.eq m1 (by first | rfl | (congr 1 <;> omega) | (congr 2; rw [List.length_append, List.length_singleton]; omega) | (congr 2; rw [itSize_snoc_lit]; omega) | (congr 2; rw [itSize_snoc_mat]; omega)) (.cons m3 (.cons m4 .nil)))))
  refine CT.z (EX.q (TL.m m2 (TL.val (n_min ((beh + itSize its)) 32768 T0 .c rfl rfl) (TL.a m0 (TL.r (.hd .u2) (TL.m m5 (TL.call (r_call ce_53 (.cons T0 .nil)) (fun w hS => t53 r (N + 1 + 8 * (its).length + 1) (by omega) hS) ?_)))))))
  rintro _ w41 ⟨y41, rfl, y41_l, hS⟩
  refine TW.at hS (TL.m m7 (TL.m m8 (TL.m m4 (TL.call (r_call ce_39 (.cons T1 (.cons T0 .nil))) (fun w hS => t39 r ((min ((beh + itSize its)) 32768)) (N + 1 + 8 * (its).length + 1 + 1 + 1) (by omega) (by omega) hS) ?_))))
  rintro _ w45 ⟨y45, rfl, y45_l, hS⟩
  refine TW.at hS (TL.val (n_add 1 y45 9223372036854775808 .c T0) (TL.m m12 (TL.m m8 (TL.val (n_min ((min ((beh + itSize its)) 32768)) 40 T0 .c rfl rfl) (TL.call (r_call ce_39 (.cons T2 (.cons T0 .nil))) (fun w hS => t39 r ((min ((min ((beh + itSize its)) 32768)) 40)) (N + 1 + 8 * (its).length + 1 + 1 + 1 + 1) (by omega) (by omega) hS) ?_)))))
  rintro _ w50 ⟨y50, rfl, y50_l, hS⟩
  refine TW.at hS (TL.val (n_add 1 y50 9223372036854775808 .c T0) (TL.m m12 (TL.w (r_buildSlice (k := 4) (e := 3) (cs := #[(.int .i64 1), (i64 (1 + y45)), (i64 (1 + y50)), (i64 (min ((beh + itSize its)) 32768))]) (F := lst [(.int .i64 1), (i64 (1 + y45)), (i64 (1 + y50)), (i64 (min ((beh + itSize its)) 32768))]) (.cons .c (.cons T6 (.cons T1 (.cons T0 .nil)))) (fun _ => by kernel_rfl) rfl lst_ok) ?_)))
  rintro _ w53 ⟨b53, rfl, hS⟩
  refine TW.at hS (TL.perm p1 (TL.perm p1 (TL.call (r_call ce_45 (.cons T11 (.cons T0 .nil))) (fun w hS => t45 r b53 [1, (1 + y45), (1 + y50), (min ((beh + itSize its)) 32768)] (N + 1 + 8 * (its).length + 1 + 1 + 1 + 1 + 1) (Nat.zero_lt_succ _) (by show _ < _; simp) (by omega) hS) ?_)))
  rintro _ w54 ⟨y54, rfl, y54_m, hS⟩
  refine TW.at hS ?_
  simp only [List.mem_cons, List.not_mem_nil, or_false] at y54_m
  have hy54 : 1 ≤ y54 ∧ y54 ≤ beh + itSize its ∧ y54 ≤ 32768 := by omega
  refine TL.val (r_build (v := (.agg #[(.int .u8 0), (i64 y41), (i64 y54)])) (.cons T13 (.cons T0 .nil)) (fun _ => by kernel_rfl)) (TL.w (r_alloc (F := lst [(.int .u8 0), (.int .i64 0), (.int .i64 0)]) Tryz.zeroValue65 rfl rfl lst_ok) ?_)
  rintro _ w10 ⟨b10, rfl, hS⟩
  refine TW.at hS (TL.s (r_stagl (cs := [(.int .u8 0), (i64 y41), (i64 y54)]) (l' := [(.int .u8 0), (i64 y41), (i64 y54)]) Tryz.sizeOf65 T0 T1 rfl (by decide) ones3) (TL.r (.hd .u16) (TL.m m3 (TL.val (r_ld3 (c0 := (.int .u8 0)) (c1 := (i64 y41)) (c2 := (i64 y54)) Tryz.isAgg65 Tryz.sizeOf65 T1 (fun _ hS => (hS.cell m0 (by decide)).trans (congrArg some rfl)) (fun _ hS => (hS.cell m0 (by decide)).trans (congrArg some rfl)) (fun _ hS => (hS.cell m0 (by decide)).trans (congrArg some rfl))) (TL.w (r_buildSlice (k := 1) (e := 65) (cs := #[(.int .u8 0), (i64 y41), (i64 y54)]) (F := lst [(.int .u8 0), (i64 y41), (i64 y54)]) (.cons T0 .nil) (fun _ => by kernel_rfl) rfl lst_ok) ?_)))))
  rintro _ w58 ⟨b58, rfl, hS⟩
  refine TW.at hS (TL.perm p3 (TL.w (r_append (j := 1) (k := (its).length) (ds := [(.int .u8 0), (i64 y41), (i64 y54)]) el_62 Tryz.underlying62 T2 T0 ⟨_, _, rfl⟩ (rdsl m1 rfl rfl) ones3 (by omega) (by omega)) ?_))
  rintro v59 w59 hS
  have ho59 := hS.slc_one
  refine TW.at hS (TL.fold (A' := (slc 3 v59 ((its ++ [It.mat y41 y54]).length) (itC (its ++ [It.mat y41 y54])))) a0 (slc_eq (by rw [List.length_append, List.length_singleton]) itC_mat) ?_)
  refine TL.rm .h7 (TL.a m0 (TL.b (.hd .u4) (CT.region (TL.m m4 (TL.f 1 fo_65_1 m2 (TL.val (r_ld (v := (i64 y41)) Tryz.isAgg3 m2 T0 (by decide) rfl) (TL.val (n_add ((beh + itSize its)) y41 9223372036854775808 T2 T0) (TL.rm .h8 (TL.a m0 (TL.x (.hd .u4) (EX.bnormal (EX.seq (CT.region (TL.m m4 (TL.val (n_sub ((y14 - (its).length)) 1 9223372036854775808 T0 .c) (TL.rm .h6 (TL.a m0 (TL.x (.hd .u2) (EX.fold (A' := (Rdr G r (N + 1 + 8 * (its ++ [It.mat y41 y54]).length))) a3 (Rdr_mono (by first | (show _ ≤ N + 1 + 8 * 0; omega) | (rw [List.length_append, List.length_singleton]; omega))) (EX.perm p1 (EX.conv (fun _ h => h.tail) ?_)))))))))))))))))))))
  refine EX.perm p1 (EX.conv (fun _ h => h.tail) ?_)
  exact EX.again ((v59, its ++ [It.mat y41 y54])) (⟨hI1.snoc (x := It.mat y41 y54) ⟨⟨y41_l.1, y41_l.2, hy54.1, hy54.2.1, hy54.2.2⟩, trivial⟩, by show (its ++ [_]).length ≤ _; rw [List.length_append, List.length_singleton]; omega⟩) (by show _ - (its ++ [_]).length < _ - its.length; rw [List.length_append, List.length_singleton]; omega) (.refl _) (.eq m0 (by first | rfl | (congr 1 <;> omega) | (congr 2; rw [List.length_append, List.length_singleton]; omega) | (congr 2; rw [itSize_snoc_lit]; omega) | (congr 2; rw [itSize_snoc_mat]; omega)) (.cons m2 (.eq m1 (by first | rfl | (congr 1 <;> omega) | (congr 2; rw [List.length_append, List.length_singleton]; omega) | (congr 2; rw [itSize_snoc_lit]; omega) | (congr 2; rw [itSize_snoc_mat]; omega)) (.cons m5 (.cons m6 .nil)))))
 exact CT.sub .u1 (CT.exit (EX.then_exit (EX.then_exit (EX.out (EX.q (TL.m m1 (TL.rm .h4 (TL.a m0 (TL.b (.hd .u1) (CT.ret (EX.end_ (.inl rfl) (res1 Tryz.results59 m0) (fun _ hS => ⟨its, by omega, hI1, (((hS.perm p1).imp (Rdr_mono (by omega))).perm p1)⟩))))))))))))
end Go.Eng
namespace Go.Eng
open Go Go.Proofs Go.Infl
theorem itC_get {l : List It} {k i : Nat} {x : It} (hx : l[k]? = some x) (hi : i < 3) : (itC l)[k * 3 + i]? = (itV x)[i]? := by
 induction l generalizing k with
 | nil => simp at hx
 | cons y l ih =>
  have hy : (itV y).length = 3 := by cases y <;> rfl
  unfold itC
  rw [List.flatMap_cons]
  cases k with
  | zero =>
   obtain rfl : y = x := by simpa using hx
   rw [List.getElem?_append_left (by omega)]; congr 1; omega
  | succ k =>
   rw [List.getElem?_append_right (by omega), hy, show (k + 1) * 3 + i - 3 = k * 3 + i by omega]
   exact ih (by simpa using hx)
theorem itSize_take {l : List It} {n : Nat} (H : ItOk n l) (k : Nat) : itSize (l.take k) ≤ 258 * l.length := by
 induction l generalizing n k with
 | nil => simp [itSize]
 | cons y l ih =>
  cases k with
  | zero => simp [itSize]
  | succ k =>
   cases y with
   | lit b => have := ih H.2 k; simp only [List.take_succ_cons, itSize, List.length_cons]; omega
   | mat a d => have := ih H.2 k; have := H.1; simp only [List.take_succ_cons, itSize, List.length_cons]; omega
theorem t56 (vo vi : Value) (h : List Nat) (its : List It) (n0 : Nat) (hok : ItOk n0 its) (hn : n0 ≤ h.length) (hl : h.length < 1048576) (hil : its.length ≤ 4096) {G : World} {R : List HProp} {w : World} (hS : Sat G w (slc 1 vo h.length (h.map u8) :: slc 3 vi its.length (itC its) :: R)) :
 CallsR Tryz.prog 56 #[vo, vi] w (fun v w' => Sat G w' (slc 1 v (gives h its).length ((gives h its).map u8) :: slc 3 vi its.length (itC its) :: R)) := by
 refine calls_in (n := 39) [(0, vo), (1, vi)] Tryz.func56 rfl rfl hS args2 ?_
 refine CT.q (TL.val (r_asg .c) (TL.e (CT.seq (CT.q (TL.m m2 (TL.val (r_lens Tryz.underlying62 T0 m1) (TL.val (r_move .c) (TL.b (.hd (.hd (.hd (.hd (.hd .u1))))) (CT.block (CT.fold (A' := (slc 1 vo ((gives h (its.take 0)).length) ((gives h (its.take 0)).map u8))) a0 (slc_eq rfl rfl) (CT.loop (X := Nat × Value) (fun gx => [(9, (i64 gx.1)), (0, gx.2), (8, (i64 its.length)), (7, vi)]) (fun gx => (slc 1 gx.2 ((gives h (its.take gx.1)).length) ((gives h (its.take gx.1)).map u8)) :: slc 3 vi its.length (itC its) :: R) (fun gx => gx.1 ≤ its.length) (fun gx => its.length - gx.1) ((0, vo)) (Nat.zero_le _) (.refl _) (.cons m0 (.cons m4 (.cons m1 (.cons m2 .nil)))) ?_)))))))))))
 rintro ⟨k, v⟩ hI1
 show CT _ _ _ [(9, (i64 k)), (0, v), (8, (i64 its.length)), (7, vi)] _ _ (slc 1 v ((gives h (its.take k)).length) ((gives h (its.take k)).map u8) :: slc 3 vi its.length (itC its) :: R)
 replace hI1 : k ≤ its.length := hI1
 refine CT.q (TL.val (n_lss k its.length T0 T2) (TL.e (CT.seq (CT.ifd m0 (fun c10 => ?_) (fun c10 => ?_)))))
 ·
  refine CT.z (EX.seq (CT.seq (CT.block (CT.seq ?_))))
  obtain ⟨it, hit⟩ : ∃ it, its[k]? = some it := ⟨_, List.getElem?_eq_getElem c10⟩
  have hstep := gives_step h hit
  have hok1 := hok.at_ hit
  have hgl := gives_length (its.take k) h
  have hsz := itSize_take hok k
  refine CT.peek m1 (by omega) ?_
  intro d d_c d_v d_k d_l
  rcases it with b | ⟨n, d⟩
  ·
   refine CT.region (TL.val (r_ia (i := k) (off' := k * 3) Tryz.underlying62 Tryz.sizeOf65 (.te m3 d_v) T0 rfl (by omega) (by omega)) (TL.val (r_ld3 (c0 := (u8 b)) (c1 := (.int .i64 0)) (c2 := (.int .i64 0)) Tryz.isAgg65 Tryz.sizeOf65 T0 (fun _ hS => hS.slc_cell m1 d_v ((itC_get (i := 0) hit (by decide)).trans rfl)) (fun _ hS => hS.slc_cell m1 d_v ((itC_get (i := 1) hit (by decide)).trans rfl)) (fun _ hS => hS.slc_cell m1 d_v ((itC_get (i := 2) hit (by decide)).trans rfl))) (TL.w (r_alloc (F := lst [(.int .u8 0), (.int .i64 0), (.int .i64 0)]) Tryz.zeroValue65 rfl rfl lst_ok) ?_)))
   rintro _ w6 ⟨b6, rfl, hS⟩
   refine TW.at hS (TL.s (r_stagl (cs := [(u8 b), (.int .i64 0), (.int .i64 0)]) (l' := [(u8 b), (.int .i64 0), (.int .i64 0)]) Tryz.sizeOf65 T0 T1 rfl (by decide) ones3) (TL.b (.hd .u2) (CT.seq (CT.q (TL.f 1 fo_65_1 m0 (TL.val (r_ld (v := (.int .i64 0)) Tryz.isAgg3 m0 T0 (by decide) rfl) (TL.val (show Run _ _ _ _ _ _ (.bool true) from n_eql 0 0 T0 .c rfl rfl) (TL.b (.hd .u2) (CT.ift m0 ?_)))))))))
   refine CT.sub .u1 (CT.region (TL.m m2 (TL.f 0 fo_65_0 m1 (TL.val (r_ld (v := (u8 b)) Tryz.isAgg5 m0 T0 (by decide) rfl) (TL.w (r_buildSlice (k := 1) (e := 5) (cs := #[(u8 b)]) (F := lst [(u8 b)]) (.cons T0 .nil) (fun _ => by kernel_rfl) rfl lst_ok) ?_)))))
   rintro _ w19 ⟨b19, rfl, hS⟩
   refine TW.at hS (TL.perm p2 (TL.w (r_append (j := 1) (k := (gives h (its.take k)).length) (ds := [(u8 b)]) el_22 Tryz.underlying22 T3 T0 ⟨_, _, rfl⟩ (rdsl m1 rfl rfl) ones1 (by omega) (by omega)) ?_))
   rintro v20 w20 hS
   have ho20 := hS.slc_one
   refine TW.at hS (TL.fold (A' := (slc 1 v20 ((gives h (its.take (k + 1))).length) ((gives h (its.take (k + 1))).map u8))) a0 (slc_eq (by rw [hstep]; simp [gives]) (by rw [hstep]; simp [gives])) ?_)
   refine TL.rm .h7 (TL.a m0 (TL.r (.hd .u5) (TL.f 1 fo_65_1 m1 (TL.val (r_ld (v := (.int .i64 0)) Tryz.isAgg3 m2 T0 (by decide) rfl) (TL.val (r_move .c) (TL.b (.hd (.hd .u1)) (CT.block (CT.perm p1 (CT.conv (fun _ h => h.tail) ?_)))))))))
   refine CT.perm p1 (CT.conv (fun _ h => h.tail) ?_)
   refine CT.loop (X := Nat) (fun gx => [(23, (i64 gx)), (0, v20), (22, (.int .i64 0)), (6, (pt b6 0)), (9, (i64 k)), (8, (i64 its.length)), (7, vi)]) (fun gx => (slc 1 v20 ((gives h (its.take (k + 1))).length) ((gives h (its.take (k + 1))).map u8)) :: slc 3 vi its.length (itC its) :: R) (fun gx => gx = 0) (fun gx => 0) 0 rfl (.refl _) (.cons m0 (.cons m2 (.cons m1 (.sl 3 4 rfl)))) ?_
   rintro j hj
   show CT _ _ _ [(23, (i64 j)), (0, v20), (22, (.int .i64 0)), (6, (pt b6 0)), (9, (i64 k)), (8, (i64 its.length)), (7, vi)] _ _ (slc 1 v20 ((gives h (its.take (k + 1))).length) ((gives h (its.take (k + 1))).map u8) :: slc 3 vi its.length (itC its) :: R)
   refine CT.q (TL.val (n_lss j 0 T0 T2) (TL.e (CT.seq (CT.ifd m0 (fun c24 => ?_) (fun c24 => ?_)))))
   ·
    exfalso; omega
   exact CT.sub .u1 (CT.exit (EX.then_exit (EX.then_exit (EX.out (EX.bnormal (EX.seq (CT.region (TL.val (n_add k 1 9223372036854775808 T4 .c) (TL.rm .h5 (TL.m m0 (TL.x (.hd .u1) (EX.again ((k + 1, v20)) ((show k + 1 ≤ its.length by omega)) (by show its.length - (k + 1) < its.length - k; omega) (.refl _) (.eq m0 (by first | rfl | (congr 1 <;> omega)) (.cons m2 (.cons m5 (.cons m6 .nil))))))))))))))))
  obtain ⟨⟨ok1, ok2, ok3, ok4, ok5⟩, -⟩ := hok1
  refine CT.region (TL.val (r_ia (i := k) (off' := k * 3) Tryz.underlying62 Tryz.sizeOf65 (.te m3 d_v) T0 rfl (by omega) (by omega)) (TL.val (r_ld3 (c0 := (.int .u8 0)) (c1 := (i64 n)) (c2 := (i64 d)) Tryz.isAgg65 Tryz.sizeOf65 T0 (fun _ hS => hS.slc_cell m1 d_v ((itC_get (i := 0) hit (by decide)).trans rfl)) (fun _ hS => hS.slc_cell m1 d_v ((itC_get (i := 1) hit (by decide)).trans rfl)) (fun _ hS => hS.slc_cell m1 d_v ((itC_get (i := 2) hit (by decide)).trans rfl))) (TL.w (r_alloc (F := lst [(.int .u8 0), (.int .i64 0), (.int .i64 0)]) Tryz.zeroValue65 rfl rfl lst_ok) ?_)))
  rintro _ w6 ⟨b6, rfl, hS⟩
  refine TW.at hS (TL.s (r_stagl (cs := [(.int .u8 0), (i64 n), (i64 d)]) (l' := [(.int .u8 0), (i64 n), (i64 d)]) Tryz.sizeOf65 T0 T1 rfl (by decide) ones3) (TL.b (.hd .u2) (CT.seq (CT.q (TL.f 1 fo_65_1 m0 (TL.val (r_ld (v := (i64 n)) Tryz.isAgg3 m0 T0 (by decide) rfl) (TL.val (n_eql n 0 T0 .c) (TL.b (.hd .u2) (CT.ifd m0 (fun c15 => ?_) (fun c15 => ?_))))))))))
  ·
   exfalso; omega
  refine CT.z (EX.q (TL.f 1 fo_65_1 m0 (TL.val (r_ld (v := (i64 n)) Tryz.isAgg3 m0 T0 (by decide) rfl) (TL.val (r_move .c) (TL.b (.hd (.hd .u1)) (CT.block (CT.fold (A' := (slc 1 v ((copyM (gives h (its.take k)) d 0).length) ((copyM (gives h (its.take k)) d 0).map u8))) a1 (slc_eq rfl rfl) (CT.perm p2 (CT.perm p2 (CT.loop (X := Nat × Value) (fun gx => [(23, (i64 gx.1)), (0, gx.2), (22, (i64 n)), (6, (pt b6 0)), (9, (i64 k)), (8, (i64 its.length)), (7, vi)]) (fun gx => (slc 1 gx.2 ((copyM (gives h (its.take k)) d gx.1).length) ((copyM (gives h (its.take k)) d gx.1).map u8)) :: slc 3 vi its.length (itC its) :: blk b6 3 (lst [(.int .u8 0), (i64 n), (i64 d)]) :: R) (fun gx => gx.1 ≤ n) (fun gx => n - gx.1) ((0, v)) (Nat.zero_le _) (.refl _) (.cons m0 (.cons m4 (.cons m1 (.cons m2 (.cons m3 (.cons m5 (.cons m6 .nil))))))) ?_))))))))))
  rintro ⟨j, vj⟩ hj
  show CT _ _ _ [(23, (i64 j)), (0, vj), (22, (i64 n)), (6, (pt b6 0)), (9, (i64 k)), (8, (i64 its.length)), (7, vi)] _ _ (slc 1 vj ((copyM (gives h (its.take k)) d j).length) ((copyM (gives h (its.take k)) d j).map u8) :: slc 3 vi its.length (itC its) :: blk b6 3 (lst [(.int .u8 0), (i64 n), (i64 d)]) :: R)
  replace hj : j ≤ n := hj
  have hcl := copyM_length (gives h (its.take k)) d j
  refine CT.q (TL.val (n_lss j n T0 T2) (TL.e (CT.seq (CT.ifd m0 (fun c24 => ?_) (fun c24 => ?_)))))
  ·
   refine CT.z (EX.seq (CT.seq (CT.block ?_)))
   obtain ⟨x1, hx1⟩ : ∃ x1, (copyM (gives h (its.take k)) d j)[(copyM (gives h (its.take k)) d j).length - d]? = some x1 := ⟨_, List.getElem?_eq_getElem (by omega)⟩
   refine CT.peek m0 (by omega) ?_
   intro e e_c e_v e_k e_l
   refine CT.region (TL.m m1 (TL.m m2 (TL.m m3 (TL.val (r_lens Tryz.underlying22 T0 m0) (TL.f 2 fo_65_2 m7 (TL.val (r_ld (v := (i64 d)) Tryz.isAgg3 m2 T0 (by decide) rfl) (TL.val (n_sub ((copyM (gives h (its.take k)) d j).length) d 9223372036854775808 T2 T0) (TL.val (r_ia (i := ((copyM (gives h (its.take k)) d j).length - d)) (off' := ((copyM (gives h (its.take k)) d j).length - d)) Tryz.underlying22 Tryz.sizeOf5 (.te m5 e_v) T0 rfl (by omega) (by omega)) (TL.val (r_lds (u := (u8 x1)) Tryz.isAgg5 m0 e_v T0 (by rw [List.getElem?_map, hx1]; rfl)) ?_)))))))))
   refine TL.w (r_buildSlice (k := 1) (e := 5) (cs := #[(u8 x1)]) (F := lst [(u8 x1)]) (.cons T0 .nil) (fun _ => by kernel_rfl) rfl lst_ok) ?_
   rintro _ w34 ⟨b34, rfl, hS⟩
   refine TW.at hS (TL.perm p1 (TL.w (r_append (j := 1) (k := (copyM (gives h (its.take k)) d j).length) (ds := [(u8 x1)]) el_22 Tryz.underlying22 T9 T0 ⟨_, _, rfl⟩ (rdsl m1 rfl rfl) ones1 (by omega) (by omega)) ?_))
   rintro v35 w35 hS
   have ho35 := hS.slc_one
   refine TW.at hS (TL.fold (A' := (slc 1 v35 ((copyM (gives h (its.take k)) d (j + 1)).length) ((copyM (gives h (its.take k)) d (j + 1)).map u8))) a0 (slc_eq (by rw [← copyM_succ hx1, List.length_append]; rfl) (by rw [← copyM_succ hx1]; exact map_snoc)) ?_)
   refine TL.rm .h12 (TL.a m0 (TL.x (.hd .u11) (EX.bnormal (EX.seq (CT.region (TL.val (n_add j 1 9223372036854775808 T1 .c) (TL.rm .h2 (TL.m m0 (TL.x (.hd .u1) (EX.perm p1 (EX.conv (fun _ h => h.tail) ?_)))))))))))
   exact EX.again ((j + 1, v35)) ((show j + 1 ≤ n by omega)) (by show n - (j + 1) < n - j; omega) (.refl _) (.eq m0 (by first | rfl | (congr 1 <;> omega)) (.sl 1 6 rfl))
  refine CT.sub .u1 (CT.exit (EX.then_exit (EX.then_exit (EX.out (EX.bnormal (EX.seq (CT.region (TL.val (n_add k 1 9223372036854775808 T4 .c) (TL.rm .h5 (TL.m m0 (TL.x (.hd .u1) (EX.fold (A' := (slc 1 vj ((gives h (its.take (k + 1))).length) ((gives h (its.take (k + 1))).map u8))) a0 (slc_eq (by obtain rfl : j = n := (by omega); rw [hstep]; rfl) (by obtain rfl : j = n := (by omega); rw [hstep]; rfl)) (EX.perm p2 (EX.conv (fun _ h => h.tail) ?_))))))))))))))
  exact EX.again ((k + 1, vj)) ((show k + 1 ≤ its.length by omega)) (by show its.length - (k + 1) < its.length - k; omega) (.refl _) (.eq m0 (by first | rfl | (congr 1 <;> omega)) (.cons m2 (.cons m5 (.cons m6 .nil))))
 exact CT.sub .u1 (CT.exit (EX.then_exit (EX.then_exit (EX.out (EX.q (TL.m m1 (TL.a m0 (TL.b (.hd .u1) (CT.ret (EX.end_ (.inl rfl) (res1 Tryz.results56 m0) (fun _ hS => by obtain rfl : k = its.length := (by omega); rw [List.take_length] at hS; exact hS)))))))))))
end Go.Eng
namespace Go.Eng
open Go Go.Proofs Go.Infl
theorem upd_part {ls : List Nat} {n j x : Nat} (h : ∀ i, cpart ls n (j + 1) i = if i = j then x else cpart ls n j i) : upd (fun i => i64 (cpart ls n j i)) j (i64 x) = fun i => i64 (cpart ls n (j + 1) i) := by
 funext i
 unfold upd
 rw [h i]
 split <;> rfl
theorem part_one {ls : List Nat} {i : Nat} : cpart ls 1 0 i = 0 := by unfold cpart; rw [if_neg (by omega)]
theorem nx_next {ls : List Nat} {n : Nat} (h : 1 ≤ n) : nx ls (n + 1) = 2 * nx ls n + ls.count n := by rw [nx, if_neg (by omega)]
theorem codes_slc {ls : List Nat} {b : Nat} : ∀ m, Eng.blk b ls.length (fun i => i64 (cpart ls 16 0 i)) m → Eng.slc 1 (.slice (some ⟨b, 0, none⟩) ls.length ls.length) ls.length ((codes ls).map i64) m :=
 mk_slc1 (by simp [codes]) (Nat.le_refl _) (fun j x hj => by
  unfold codes at hj
  rw [List.getElem?_map, List.getElem?_map] at hj
  rcases Nat.lt_or_ge j ls.length with h | h
  ·
   rw [List.getElem?_range h] at hj; exact Option.some.inj hj
  rw [List.getElem?_eq_none (by simp; omega)] at hj; cases hj)
theorem t79 (A : HProp) (ls : List Nat) (lb lo lc : Nat) (hR : ∀ {G w : World} {L : List HProp}, A ∈ L → Sat G w L → ∀ j x, ls[j]? = some x → w.cell? ⟨lb, lo + j, none⟩ = some (i64 x)) (hls : ls.length ≤ 1024) {G : World} {R : List HProp} {w : World} (hS : Sat G w (A :: R)) :
 CallsR Tryz.prog 79 #[(.slice (some ⟨lb, lo, none⟩) ls.length lc)] w (fun v w' => Sat G w' (slc 1 v ls.length ((codes ls).map i64) :: A :: R)) := by
 refine calls_in (n := 35) [(0, (.slice (some ⟨lb, lo, none⟩) ls.length lc))] Tryz.func79 rfl rfl hS args1 ?_
 refine CT.q (TL.val (r_asg .c) (TL.q (TL.m m1 (TL.val (r_len Tryz.underlying42 T0) (TL.w (r_make (l := ls.length) (c := ls.length) Tryz.underlying42 Tryz.sizeOf3 ⟨_, Tryz.typeInfo3, rfl⟩ Tryz.zeroValue3 rfl T0 T0 rfl rfl (by omega) (by exact Nat.le_trans (Nat.mul_le_mul_right _ hls) (Nat.le_of_ble_eq_true rfl)) (by omega)) ?_)))))
 rintro _ w10 ⟨b10, rfl, hS⟩
 refine TW.at hS (TL.a m0 (TL.r (.hd .u3) (TL.val (r_asg .c) (TL.e (CT.seq (CT.q (TL.val (r_asg .c) (TL.e (CT.block (CT.fold (A' := (blk b10 ls.length (fun i => i64 (cpart ls 1 0 i)))) a0 (blk_congr (fun i _ => by show i64 0 = i64 _; rw [part_one])) (CT.loop (X := Nat) (fun gx => [(5, (i64 gx)), (4, (i64 (nx ls gx))), (3, (.slice (some ⟨b10, 0, none⟩) ls.length ls.length)), (2, (.slice none 0 0)), (0, (.slice (some ⟨lb, lo, none⟩) ls.length lc))]) (fun gx => (blk b10 ls.length (fun i => i64 (cpart ls gx 0 i))) :: A :: R) (fun gx => 1 ≤ gx ∧ gx ≤ 16) (fun gx => 16 - gx) 1 (⟨by decide, by decide⟩) (.refl _) (.cons m0 (.eq m1 (by first | rfl | (congr 1 <;> omega) | (refine congrArg (fun z : Nat => Value.int .i64 (z : Int)) ?_; first | omega | (rw [List.take_zero]; simp; omega) | (obtain rfl : j = ls.length := (by omega); rw [nx_next (by omega), List.take_length]))) (.sl 2 3 rfl))) ?_)))))))))))
 rintro n ⟨hI1, hI2⟩
 have hnx := nx_lt (ls := ls) (n := n) (by omega) hls
 refine CT.seq (CT.q (TL.m m0 (TL.val (n_leq n 15 T0 .c) (TL.b (.hd .u1) (CT.ifd m0 (fun c12 => ?_) (fun c12 => ?_))))))
 ·
  refine CT.z (EX.seq (CT.seq (CT.block (CT.q (TL.m m1 (TL.val (n_mul ((nx ls n)) 2 9223372036854775808 T0 .c) (TL.rm .h3 (TL.a m0 (TL.r (.hd .u2) (TL.m m4 (TL.val (r_len Tryz.underlying42 T0) (TL.val (r_move .c) (TL.e (CT.block (CT.loop (X := Nat) (fun gx => [(19, (i64 gx)), (4, (i64 (2 * nx ls n + (ls.take gx).count n))), (18, (i64 ls.length)), (17, (.slice (some ⟨lb, lo, none⟩) ls.length lc)), (5, (i64 n)), (3, (.slice (some ⟨b10, 0, none⟩) ls.length ls.length)), (2, (.slice none 0 0)), (0, (.slice (some ⟨lb, lo, none⟩) ls.length lc))]) (fun gx => (blk b10 ls.length (fun i => i64 (cpart ls n gx i))) :: A :: R) (fun gx => gx ≤ ls.length) (fun gx => ls.length - gx) 0 (Nat.zero_le _) (.refl _) (.cons m0 (.eq m3 (by first | rfl | (congr 1 <;> omega) | (refine congrArg (fun z : Nat => Value.int .i64 (z : Int)) ?_; first | omega | (rw [List.take_zero]; simp; omega) | (obtain rfl : j = ls.length := (by omega); rw [nx_next (by omega), List.take_length]))) (.cons m1 (.cons m2 (.sl 4 4 rfl))))) ?_)))))))))))))))
  rintro j hj
  have hct : (ls.take j).count n ≤ ls.length := Nat.le_trans List.count_le_length (by rw [List.length_take]; omega)
  refine CT.q (TL.val (n_lss j ls.length T0 T2) (TL.e (CT.seq (CT.ifd m0 (fun c20 => ?_) (fun c20 => ?_)))))
  ·
   refine CT.z (EX.seq (CT.seq (CT.block (CT.seq ?_))))
   obtain ⟨x1, hx1⟩ : ∃ x1, ls[j]? = some x1 := ⟨_, List.getElem?_eq_getElem c20⟩
   have hcs := take_count_succ (n := n) hx1
   refine CT.region (TL.m m0 (TL.val (r_ia (i := j) (off' := lo + j) Tryz.underlying42 Tryz.sizeOf3 T4 T1 rfl (by omega) (by omega)) (TL.val (r_ldc (v := (i64 x1)) Tryz.isAgg3 T0 (fun w hS => hR (by first | exact .head _ | exact .tail _ (.head _)) hS _ _ hx1)) (TL.a m2 (TL.a m1 (TL.r (.hd (.hd .u3)) (TL.m m0 (TL.m m7 (TL.val (n_eql x1 n T1 T0) (TL.b (.hd .u2) (CT.ifd m0 (fun c26 => ?_) (fun c26 => ?_))))))))))))
   ·
    rw [if_pos c26] at hcs
    exact CT.y (TL.m m7 (TL.m m2 (TL.m m5 (TL.val (r_ia (i := j) (off' := j) Tryz.underlying42 Tryz.sizeOf3 T2 T1 rfl (by omega) (by omega)) (TL.s (r_st (F' := fun i => i64 (cpart ls n (j + 1) i)) Tryz.sizeOf3 (upd_part (part_step hx1 (by omega) c26)) a0 T0 T1 (by omega)) (TL.b .u4 (CT.region (TL.m m3 (TL.val (n_add ((2 * nx ls n + (ls.take j).count n)) 1 9223372036854775808 T0 .c) (TL.rm .h5 (TL.a m0 (TL.x (.hd .u2) (EX.bnormal (EX.seq (CT.region (TL.val (n_add j 1 9223372036854775808 T3 .c) (TL.rm .h4 (TL.m m0 (TL.x (.hd .u1) (EX.again (j + 1) (by omega) (by omega) (.refl _) (.eq m0 (by first | rfl | (congr 1 <;> omega) | (refine congrArg (fun z : Nat => Value.int .i64 (z : Int)) ?_; first | omega | (rw [List.take_zero]; simp; omega) | (obtain rfl : j = ls.length := (by omega); rw [nx_next (by omega), List.take_length]))) (.eq m1 (by first | rfl | (congr 1 <;> omega) | (refine congrArg (fun z : Nat => Value.int .i64 (z : Int)) ?_; first | omega | (rw [List.take_zero]; simp; omega) | (obtain rfl : j = ls.length := (by omega); rw [nx_next (by omega), List.take_length]))) (.sl 4 6 rfl)))))))))))))))))))))))
   rw [if_neg c26] at hcs
   exact CT.z (EX.bnormal (EX.seq (CT.region (TL.val (n_add j 1 9223372036854775808 T2 .c) (TL.rm .h3 (TL.m m0 (TL.x (.hd .u1) (EX.fold (A' := (blk b10 ls.length (fun i => i64 (cpart ls n (j + 1) i)))) a0 (blk_congr (fun i hi => by rw [part_same hx1 c26])) (EX.again (j + 1) (by omega) (by omega) (.refl _) (.eq m0 (by first | rfl | (congr 1 <;> omega) | (refine congrArg (fun z : Nat => Value.int .i64 (z : Int)) ?_; first | omega | (rw [List.take_zero]; simp; omega) | (obtain rfl : j = ls.length := (by omega); rw [nx_next (by omega), List.take_length]))) (.eq m3 (by first | rfl | (congr 1 <;> omega) | (refine congrArg (fun z : Nat => Value.int .i64 (z : Int)) ?_; first | omega | (rw [List.take_zero]; simp; omega) | (obtain rfl : j = ls.length := (by omega); rw [nx_next (by omega), List.take_length]))) (.sl 4 6 rfl))))))))))))
  exact CT.sub .u1 (CT.exit (EX.then_exit (EX.then_exit (EX.out (EX.bnormal (EX.seq (CT.region (TL.m m4 (TL.val (n_add n 1 9223372036854775808 T0 .c) (TL.rm .h6 (TL.a m0 (TL.x (.hd .u2) (EX.fold (A' := (blk b10 ls.length (fun i => i64 (cpart ls (n + 1) 0 i)))) a0 (blk_congr (fun i hi => by obtain rfl : j = ls.length := (by omega); rw [part_next i hi])) (EX.again (n + 1) (⟨by omega, by omega⟩) (by omega) (.refl _) (.eq m0 (by first | rfl | (congr 1 <;> omega) | (refine congrArg (fun z : Nat => Value.int .i64 (z : Int)) ?_; first | omega | (rw [List.take_zero]; simp; omega) | (obtain rfl : j = ls.length := (by omega); rw [nx_next (by omega), List.take_length]))) (.eq m2 (by first | rfl | (congr 1 <;> omega) | (refine congrArg (fun z : Nat => Value.int .i64 (z : Int)) ?_; first | omega | (rw [List.take_zero]; simp; omega) | (obtain rfl : j = ls.length := (by omega); rw [nx_next (by omega), List.take_length]))) (.sl 5 3 rfl)))))))))))))))))
 exact CT.sub .u1 (CT.exit (EX.then_exit (EX.then_exit (EX.out (EX.q (TL.m m2 (TL.rm .h4 (TL.a m0 (TL.b (.hd .u1) (CT.ret (EX.end_ (.inl rfl) (res1 Tryz.results79 m0) (fun _ hS => by obtain rfl : n = 16 := (by omega); exact hS.imp codes_slc))))))))))))
end Go.Eng
namespace Go.Eng
open Go Go.Proofs Go.Infl
theorem t75  {G : World} {R : List HProp} {w : World} (hS : Sat G w (R)) :
 CallsR Tryz.prog 75 #[] w (fun v w' => ∃ v1 v2, v = .tuple #[v1, v2] ∧ Sat G w' (slc 1 v1 288 (fixLit.map i64) :: slc 1 v2 32 (fixDist.map i64) :: R)) := by
 refine calls_in (n := 36) [] Tryz.func75 rfl rfl hS args0 ?_
 refine CT.q (TL.val (r_asg .c) (TL.val (r_asg .c) (TL.q (TL.val (r_asg .c) (TL.val (r_asg .c) (TL.e (CT.seq (CT.q (TL.val (r_move .c) (TL.e (CT.block (CT.nilslc 1 ?_))))))))))))
 refine CT.loop (X := Nat × Value) (fun gx => [(6, (i64 gx.1)), (2, gx.2), (3, (.slice none 0 0)), (1, (.slice none 0 0)), (0, (.slice none 0 0))]) (fun gx => (slc 1 gx.2 gx.1 (((List.range gx.1).map fl).map i64)) :: R) (fun gx => gx.1 ≤ 288) (fun gx => 288 - gx.1) ((0, (.slice none 0 0))) (Nat.zero_le _) (.refl _) (.cons m0 (.cons m2 (.cons m1 (.cons m3 (.cons m4 .nil))))) ?_
 rintro ⟨k, v⟩ hI
 replace hI : k ≤ 288 := hI
 refine CT.q (TL.val (n_lss k 288 T0 .c) (TL.e (CT.seq (CT.ifd m0 (fun c7 => ?_) (fun c7 => ?_)))))
 ·
  refine CT.z (EX.seq (CT.seq (CT.block (CT.q (TL.m m0 (TL.a m0 (TL.r (.hd .u1) (TL.val (r_asg .c) (TL.e (CT.cut (X := Nat) (fun gx => [(5, (i64 gx)), (4, (i64 k)), (6, (i64 k)), (2, v), (3, (.slice none 0 0)), (1, (.slice none 0 0)), (0, (.slice none 0 0))]) (fun gx => (slc 1 v k (((List.range k).map fl).map i64)) :: R) (fun gx => gx = fl k) ?_ ?_))))))))))
  ·
   refine CT.block (CT.q (TL.m m1 (TL.val (n_geq k 144 T0 .c) (TL.m m0 ?_))))
   by_cases g12 : 144 ≤ k
   ·
    refine TL.sub (.eq m0 (congrArg Value.bool (decide_eq_true g12)) (.eq m1 (congrArg Value.bool (decide_eq_true g12)) (.cons m2 (.cons m3 (.cons m4 (.cons m5 (.cons m6 (.cons m7 (.cons m8 (.cons m9 .nil)))))))))) (TL.gv m0 (r_move T4) (TL.gv m1 (n_leq k 255 T0 .c) (TL.val (r_pickt T2 T0) (TL.a m0 (TL.b (.hd .u6) (CT.ifd m0 (fun c9 => ?_) (fun c9 => ?_)))))))
    ·
     exact CT.sub .u1 (CT.region (TL.rm .here (TL.val (r_asg .c) (TL.nil (EX.bnormal (EX.meet 9 (by unfold fl; first | (rw [if_pos (by omega)]; done) | (rw [if_neg (by omega), if_pos (by omega)]; done) | (rw [if_neg (by omega), if_neg (by omega)]; done)) (.refl _) (.sl 0 7 rfl)))))))
    refine CT.y (TL.m m1 (TL.val (n_geq k 256 T0 .c) (TL.m m0 ?_)))
    by_cases g19 : 256 ≤ k
    ·
     refine TL.sub (.eq m0 (congrArg Value.bool (decide_eq_true g19)) (.eq m1 (congrArg Value.bool (decide_eq_true g19)) (.cons m2 (.cons m3 (.cons m4 (.cons m5 (.cons m6 (.cons m7 (.cons m8 (.cons m9 .nil)))))))))) (TL.gv m0 (r_move T4) (TL.gv m1 (n_leq k 279 T0 .c) (TL.val (r_pickt T2 T0) (TL.a m0 (TL.b (.hd .u6) (CT.ifd m0 (fun c16 => ?_) (fun c16 => ?_)))))))
     ·
      exact CT.sub .u1 (CT.region (TL.rm .here (TL.val (r_asg .c) (TL.nil (EX.bnormal (EX.meet 7 (by unfold fl; first | (rw [if_pos (by omega)]; done) | (rw [if_neg (by omega), if_pos (by omega)]; done) | (rw [if_neg (by omega), if_neg (by omega)]; done)) (.refl _) (.sl 0 7 rfl)))))))
     exact CT.z (EX.bnormal (EX.meet 8 (by unfold fl; first | (rw [if_pos (by omega)]; done) | (rw [if_neg (by omega), if_pos (by omega)]; done) | (rw [if_neg (by omega), if_neg (by omega)]; done)) (.refl _) (.sl 0 7 rfl)))
    refine TL.sub (.eq m0 (congrArg Value.bool (decide_eq_false g19)) (.eq m1 (congrArg Value.bool (decide_eq_false g19)) (.cons m2 (.cons m3 (.cons m4 (.cons m5 (.cons m6 (.cons m7 (.cons m8 (.cons m9 .nil)))))))))) (TL.gn m0 (TL.gn m0 (TL.val (r_pickf T0 .c) (TL.a m0 (TL.b (.hd .u4) (CT.iff_ m0 ?_))))))
    exact CT.z (EX.bnormal (EX.meet 8 (by unfold fl; first | (rw [if_pos (by omega)]; done) | (rw [if_neg (by omega), if_pos (by omega)]; done) | (rw [if_neg (by omega), if_neg (by omega)]; done)) (.refl _) (.sl 0 7 rfl)))
   refine TL.sub (.eq m0 (congrArg Value.bool (decide_eq_false g12)) (.eq m1 (congrArg Value.bool (decide_eq_false g12)) (.cons m2 (.cons m3 (.cons m4 (.cons m5 (.cons m6 (.cons m7 (.cons m8 (.cons m9 .nil)))))))))) (TL.gn m0 (TL.gn m0 (TL.val (r_pickf T0 .c) (TL.a m0 (TL.b (.hd .u4) (CT.iff_ m0 ?_))))))
   refine CT.y (TL.m m1 (TL.val (n_geq k 256 T0 .c) (TL.m m0 ?_)))
   by_cases g19 : 256 ≤ k
   ·
    refine TL.sub (.eq m0 (congrArg Value.bool (decide_eq_true g19)) (.eq m1 (congrArg Value.bool (decide_eq_true g19)) (.cons m2 (.cons m3 (.cons m4 (.cons m5 (.cons m6 (.cons m7 (.cons m8 (.cons m9 .nil)))))))))) (TL.gv m0 (r_move T4) (TL.gv m1 (n_leq k 279 T0 .c) (TL.val (r_pickt T2 T0) (TL.a m0 (TL.b (.hd .u6) (CT.ifd m0 (fun c16 => ?_) (fun c16 => ?_)))))))
    ·
     exact CT.sub .u1 (CT.region (TL.rm .here (TL.val (r_asg .c) (TL.nil (EX.bnormal (EX.meet 7 (by unfold fl; first | (rw [if_pos (by omega)]; done) | (rw [if_neg (by omega), if_pos (by omega)]; done) | (rw [if_neg (by omega), if_neg (by omega)]; done)) (.refl _) (.sl 0 7 rfl)))))))
    exact CT.z (EX.bnormal (EX.meet 8 (by unfold fl; first | (rw [if_pos (by omega)]; done) | (rw [if_neg (by omega), if_pos (by omega)]; done) | (rw [if_neg (by omega), if_neg (by omega)]; done)) (.refl _) (.sl 0 7 rfl)))
   refine TL.sub (.eq m0 (congrArg Value.bool (decide_eq_false g19)) (.eq m1 (congrArg Value.bool (decide_eq_false g19)) (.cons m2 (.cons m3 (.cons m4 (.cons m5 (.cons m6 (.cons m7 (.cons m8 (.cons m9 .nil)))))))))) (TL.gn m0 (TL.gn m0 (TL.val (r_pickf T0 .c) (TL.a m0 (TL.b (.hd .u4) (CT.iff_ m0 ?_))))))
   exact CT.z (EX.bnormal (EX.meet 8 (by unfold fl; first | (rw [if_pos (by omega)]; done) | (rw [if_neg (by omega), if_pos (by omega)]; done) | (rw [if_neg (by omega), if_neg (by omega)]; done)) (.refl _) (.sl 0 7 rfl)))
  rintro y hy
  refine CT.region (TL.m m3 (TL.m m1 (TL.w (r_buildSlice (k := 1) (e := 3) (cs := #[(i64 y)]) (F := lst [(i64 y)]) (.cons T0 .nil) (fun _ => by kernel_rfl) rfl lst_ok) ?_)))
  rintro _ w25 ⟨b25, rfl, hS⟩
  refine TW.at hS (TL.perm p1 (TL.w (r_append (j := 1) (k := k) (ds := [(i64 y)]) el_42 Tryz.underlying42 T2 T0 ⟨_, _, rfl⟩ (rdsl m1 rfl rfl) ones1 (by omega) (by omega)) ?_))
  rintro v26 w26 hS
  have ho26 := hS.slc_one
  refine TW.at hS (TL.fold (A' := (slc 1 v26 ((k + 1)) (((List.range (k + 1)).map fl).map i64))) a0 (slc_eq rfl (by rw [List.range_succ, List.map_append, List.map_append, hy]; rfl)) ?_)
  refine TL.rm .h7 (TL.a m0 (TL.x (.hd .u4) (EX.bnormal (EX.seq (CT.region (TL.val (n_add k 1 9223372036854775808 T3 .c) (TL.rm .h4 (TL.m m0 (TL.x (.hd .u1) (EX.perm p1 (EX.conv (fun _ h => h.tail) ?_)))))))))))
  exact EX.again ((k + 1, v26)) ((show k + 1 ≤ 288 by omega)) (by show 288 - (k + 1) < 288 - k; omega) (.refl _) (.eq m0 (by first | rfl | (congr 1 <;> omega)) (.cons m1 (.sl 4 3 rfl)))
 refine CT.sub .u1 (CT.exit (EX.then_exit (EX.then_exit (EX.out (EX.seq (CT.seq (CT.q (TL.val (r_move .c) (TL.e (CT.block (CT.nilslc 1 ?_)))))))))))
 refine CT.loop (X := Nat × Value) (fun gx => [(28, (i64 gx.1)), (3, gx.2), (6, (i64 k)), (2, v), (1, (.slice none 0 0)), (0, (.slice none 0 0))]) (fun gx => (slc 1 gx.2 gx.1 ((List.replicate gx.1 5).map i64)) :: slc 1 v k (((List.range k).map fl).map i64) :: R) (fun gx => gx.1 ≤ 32) (fun gx => 32 - gx.1) ((0, (.slice none 0 0))) (Nat.zero_le _) (.refl _) (.cons m0 (.cons m3 (.cons m1 (.cons m2 (.cons m4 (.cons m5 .nil)))))) ?_
 rintro ⟨k3, v3⟩ hI3
 replace hI3 : k3 ≤ 32 := hI3
 refine CT.q (TL.val (n_lss k3 32 T0 .c) (TL.e (CT.seq (CT.ifd m0 (fun c29 => ?_) (fun c29 => ?_)))))
 ·
  refine CT.z (EX.seq (CT.seq (CT.block (CT.region (TL.m m1 (TL.w (r_buildSlice (k := 1) (e := 3) (cs := #[(.int .i64 5)]) (F := lst [(.int .i64 5)]) (.cons .c .nil) (fun _ => by kernel_rfl) rfl lst_ok) ?_))))))
  rintro _ w31 ⟨b31, rfl, hS⟩
  refine TW.at hS (TL.perm p1 (TL.w (r_append (j := 1) (k := k3) (ds := [(.int .i64 5)]) el_42 Tryz.underlying42 T1 T0 ⟨_, _, rfl⟩ (rdsl m1 rfl rfl) ones1 (by omega) (by omega)) ?_))
  rintro v32 w32 hS
  have ho32 := hS.slc_one
  refine TW.at hS (TL.fold (A' := (slc 1 v32 ((k3 + 1)) ((List.replicate (k3 + 1) 5).map i64))) a0 (slc_eq rfl (by rw [List.replicate_succ', List.map_append]; rfl)) ?_)
  refine TL.rm .h4 (TL.a m0 (TL.x (.hd .u3) (EX.bnormal (EX.seq (CT.region (TL.val (n_add k3 1 9223372036854775808 T1 .c) (TL.rm .h2 (TL.m m0 (TL.x (.hd .u1) (EX.perm p1 (EX.conv (fun _ h => h.tail) ?_)))))))))))
  exact EX.again ((k3 + 1, v32)) ((show k3 + 1 ≤ 32 by omega)) (by show 32 - (k3 + 1) < 32 - k3; omega) (.refl _) (.eq m0 (by first | rfl | (congr 1 <;> omega)) (.sl 1 5 rfl))
 exact CT.sub .u1 (CT.exit (EX.then_exit (EX.then_exit (EX.out (EX.q (TL.m m3 (TL.m m2 (TL.rm .h7 (TL.a m1 (TL.rm .h7 (TL.a m1 (TL.b (.hd (.hd .u2)) (CT.ret (EX.end_ (.inl rfl) (res2 Tryz.results75 m1 m0) (fun _ hS => ⟨v, v3, rfl, by obtain rfl : k = 288 := (by omega); obtain rfl : k3 = 32 := (by omega); exact hS.perm p1⟩)))))))))))))))
end Go.Eng
namespace Go.Eng
open Go Go.Proofs Go.Infl
theorem t79o {ls : List Nat} {vl : Value} (hl : 0 < ls.length) (hls : ls.length ≤ 1024) {G : World} {R : List HProp} {w : World} (hS : Sat G w (slc 1 vl ls.length (ls.map i64) :: R)) :
 CallsR Tryz.prog 79 #[vl] w (fun v w' => Sat G w' (slc 1 v ls.length ((codes ls).map i64) :: slc 1 vl ls.length (ls.map i64) :: R)) := by
 obtain ⟨_, ⟨_, h0⟩ | ⟨b, c, rfl, hc⟩⟩ := hS.slc_shape (List.mem_cons_self ..)
 ·
  omega
 exact t79 _ ls b 0 c (fun hm hS j x hj => by rw [Nat.zero_add]; exact hS.slc_cell hm rfl (by rw [List.getElem?_map, hj]; rfl)) hls hS
theorem keep4 {G w : World} {R : List HProp} {A B C D E F : HProp} (h : Sat G w (A :: B :: C :: D :: E :: F :: R)) : Sat G w (A :: B :: C :: D :: R) := ((h.perm p5).tail.perm p4).tail
theorem t64 (p : Nat) (vi vl vd : Value) (its : List It) (ls ds : List Nat) (bs : List Bool) (n0 : Nat) (hok : ItOk n0 its) (hil : its.length ≤ 4096) (hls : ls.length ≤ 1024) (hds : ds.length ≤ 1024) (hd0 : 0 < ds.length) (h256 : LOk ls 256) (hneed : ∀ x ∈ its, Needs ls ds x) (hb : bs.length + 1000000 < 1099511627776) {G : World} {R : List HProp} {w : World} (hS : Sat G w (Wr p bs :: slc 3 vi its.length (itC its) :: slc 1 vl ls.length (ls.map i64) :: slc 1 vd ds.length (ds.map i64) :: R)) :
 CallsR Tryz.prog 64 #[(pt p 0), vi, vl, vd] w (fun v w' => v = .tuple #[] ∧ ∃ b, (∃ b1, b = b1 ++ symB ls 256 ∧ ItBits ls ds its b1) ∧ b.length ≤ 64 * its.length + 15 ∧ Sat G w' (Wr p (bs ++ b) :: slc 3 vi its.length (itC its) :: slc 1 vl ls.length (ls.map i64) :: slc 1 vd ds.length (ds.map i64) :: R)) := by
 have hll := h256.1
 refine calls_in (n := 92) [(0, (pt p 0)), (1, vi), (2, vl), (3, vd)] Tryz.func64 rfl rfl hS args4 ?_
 refine CT.q (TL.m m2 (TL.perm p2 (TL.call (r_call ce_79 (.cons T0 .nil)) (fun w hS => t79o (ls := ls) (by omega) (by omega) hS) ?_)))
 rintro v17 w17 hS
 refine TW.at hS (TL.m m5 (TL.perm p4 (TL.call (r_call ce_79 (.cons T0 .nil)) (fun w hS => t79o (ls := ds) (by omega) (by omega) hS) ?_)))
 rintro v19 w19 hS
 refine TW.at hS (TL.a m2 (TL.a m1 (TL.b (.hd (.hd .u4)) (CT.seq (CT.seq (CT.peek m2 (by omega) ?_))))))
 intro pa pa_c pa_v pa_k pa_l
 refine CT.peek m3 (by omega) ?_
 intro pb pb_c pb_v pb_k pb_l
 refine CT.peek m0 (by omega) ?_
 intro pc pc_c pc_v pc_k pc_l
 refine CT.peek m1 (by omega) ?_
 intro pd pd_c pd_v pd_k pd_l
 refine CT.region (TL.m m3 (TL.val (r_lens Tryz.underlying62 T0 m5) (TL.val (r_move .c) (TL.b (.hd (.hd (.hd (.hd (.hd (.hd .u1)))))) (CT.block (CT.fold (A' := (Wr p (bs ++ (([] : List Bool))))) a4 (Wr_eq (by simp)) (CT.perm p5 (CT.perm p4 (CT.perm p4 (CT.perm p4 (CT.perm p4 (CT.perm p5 (CT.loop (X := Nat × List Bool) (fun gx => [(22, (i64 gx.1)), (21, (i64 its.length)), (20, vi), (9, v19), (8, v17), (0, (pt p 0)), (2, vl), (3, vd)]) (fun gx => (Wr p (bs ++ gx.2)) :: slc 1 v19 ds.length ((codes ds).map i64) :: slc 1 vd ds.length (ds.map i64) :: slc 1 v17 ls.length ((codes ls).map i64) :: slc 1 vl ls.length (ls.map i64) :: slc 3 vi its.length (itC its) :: R) (fun gx => gx.1 ≤ its.length ∧ ItBits ls ds (its.take gx.1) gx.2 ∧ (gx.2).length ≤ 64 * gx.1) (fun gx => its.length - gx.1) ((0, ([] : List Bool))) (⟨Nat.zero_le _, .nil, Nat.zero_le _⟩) (.refl _) (.sl 0 8 rfl) ?_)))))))))))))
 rintro ⟨k, b⟩ ⟨hI1, hI2, hI3⟩
 replace hI1 : k ≤ its.length := hI1
 replace hI2 : ItBits ls ds (its.take k) b := hI2
 replace hI3 : b.length ≤ 64 * k := hI3
 refine CT.q (TL.val (n_lss k its.length T0 T1) (TL.e (CT.seq (CT.ifd m0 (fun c23 => ?_) (fun c23 => ?_)))))
 ·
  refine CT.z (EX.seq (CT.seq (CT.block (CT.seq ?_))))
  obtain ⟨it, hit⟩ : ∃ it, its[k]? = some it := ⟨_, List.getElem?_eq_getElem c23⟩
  have hok1 := hok.at_ hit
  have hnd := hneed it (List.mem_of_getElem? hit)
  have htk : its.take (k + 1) = its.take k ++ [it] := by rw [List.take_add_one, hit]; rfl
  refine CT.peek m5 (by omega) ?_
  intro d d_c d_v d_k d_l
  rcases it with y | ⟨n, d⟩
  ·
   have hy0 : y < 256 := hok1.1
   have hcl := codeOf_lt hnd hls
   have hl1 := hnd.1; have hl2 := hnd.2.1; have hl3 := hnd.2.2
   refine CT.region (TL.val (r_ia (i := k) (off' := k * 3) Tryz.underlying62 Tryz.sizeOf65 (.te m2 d_v) T0 rfl (by omega) (by omega)) (TL.val (r_ld3 (c0 := (u8 y)) (c1 := (.int .i64 0)) (c2 := (.int .i64 0)) Tryz.isAgg65 Tryz.sizeOf65 T0 (fun _ hS => hS.slc_cell m5 d_v ((itC_get (i := 0) hit (by decide)).trans rfl)) (fun _ hS => hS.slc_cell m5 d_v ((itC_get (i := 1) hit (by decide)).trans rfl)) (fun _ hS => hS.slc_cell m5 d_v ((itC_get (i := 2) hit (by decide)).trans rfl))) (TL.w (r_alloc (F := lst [(.int .u8 0), (.int .i64 0), (.int .i64 0)]) Tryz.zeroValue65 rfl rfl lst_ok) ?_)))
   rintro _ w11 ⟨b11, rfl, hS⟩
   refine TW.at hS (TL.s (r_stagl (cs := [(u8 y), (.int .i64 0), (.int .i64 0)]) (l' := [(u8 y), (.int .i64 0), (.int .i64 0)]) Tryz.sizeOf65 T0 T1 rfl (by decide) ones3) (TL.b (.hd .u2) (CT.seq (CT.q (TL.f 1 fo_65_1 m0 (TL.val (r_ld (v := (.int .i64 0)) Tryz.isAgg3 m0 T0 (by decide) rfl) (TL.val (show Run _ _ _ _ _ _ (.bool true) from n_eql 0 0 T0 .c rfl rfl) (TL.b (.hd .u2) (CT.ift m0 ?_)))))))))
   refine CT.sub .u1 (CT.seq (CT.draw 11 fm (by kernel_rfl) ?_))
   refine TS.m m6 (TS.m m6 (TS.f 0 fo_65_0 m2 (TS.val (r_ld (v := (u8 y)) Tryz.isAgg5 m0 T0 (by decide) rfl) (TS.val (r_ia (i := y) (off' := y) Tryz.underlying42 Tryz.sizeOf3 (.te m2 pa_v) T0 rfl (by omega) (by omega)) (TS.val (r_lds (u := (i64 (codeOf ls y))) Tryz.isAgg3 m4 pa_v T0 (by rw [List.getElem?_map, codes_get hnd]; rfl)) ?_)))))
   refine TS.m m13 (TS.f 0 fo_65_0 m7 (TS.val (r_ld (v := (u8 y)) Tryz.isAgg5 m0 T0 (by decide) rfl) (TS.val (r_ia (i := y) (off' := y) Tryz.underlying42 Tryz.sizeOf3 (.te m2 pb_v) T0 rfl (by omega) (by omega)) (TS.val (r_lds (u := (i64 (ls.getD y 0))) Tryz.isAgg3 m5 pb_v T0 (by rw [List.getElem?_map, lens_get hnd]; rfl)) ?_))))
   refine TS.nil (TL.perm p1 (TL.call (r_call ce_40 (.cons T10 (.cons T5 (.cons T0 .nil)))) (fun w hS => t40 p ((codeOf ls y)) ((ls.getD y 0)) (bs ++ b) (by (try simp only [List.length_append, nbits_length, cbits_length, bits8_length, List.length_take, List.length_singleton, List.length_nil] at *); omega) (by omega) (by omega) hS) ?_))
   rintro _ w40 ⟨rfl, hS⟩
   refine TW.at hS (TL.b .u12 (CT.exit (EX.then_exit (EX.out (EX.seq (CT.region (TL.val (n_add k 1 9223372036854775808 T1 .c) (TL.rm .h2 (TL.m m0 (TL.x (.hd .u1) (EX.fold (A' := (Wr p (bs ++ (b ++ symB ls y)))) a0 (Wr_eq (by simp only [symB, List.append_assoc])) (EX.perm p1 (EX.conv (fun _ h => h.tail) ?_)))))))))))))
   exact EX.again ((k + 1, b ++ symB ls y)) (⟨(show k + 1 ≤ its.length by omega), (by show ItBits ls ds (its.take (k + 1)) (b ++ symB ls y); rw [htk]; exact hI2.snoc (.lit hnd)), (by show (b ++ symB ls y).length ≤ 64 * (k + 1); rw [List.length_append, symB_length]; omega)⟩) (by show its.length - (k + 1) < its.length - k; omega) (.refl _) (.eq m0 (by first | rfl | (congr 1 <;> omega)) (.sl 2 7 rfl))
  obtain ⟨⟨ok1, ok2, ok3, ok4, ok5⟩, -⟩ := hok1
  refine CT.region (TL.val (r_ia (i := k) (off' := k * 3) Tryz.underlying62 Tryz.sizeOf65 (.te m2 d_v) T0 rfl (by omega) (by omega)) (TL.val (r_ld3 (c0 := (.int .u8 0)) (c1 := (i64 n)) (c2 := (i64 d)) Tryz.isAgg65 Tryz.sizeOf65 T0 (fun _ hS => hS.slc_cell m5 d_v ((itC_get (i := 0) hit (by decide)).trans rfl)) (fun _ hS => hS.slc_cell m5 d_v ((itC_get (i := 1) hit (by decide)).trans rfl)) (fun _ hS => hS.slc_cell m5 d_v ((itC_get (i := 2) hit (by decide)).trans rfl))) (TL.w (r_alloc (F := lst [(.int .u8 0), (.int .i64 0), (.int .i64 0)]) Tryz.zeroValue65 rfl rfl lst_ok) ?_)))
  rintro _ w11 ⟨b11, rfl, hS⟩
  refine TW.at hS (TL.s (r_stagl (cs := [(.int .u8 0), (i64 n), (i64 d)]) (l' := [(.int .u8 0), (i64 n), (i64 d)]) Tryz.sizeOf65 T0 T1 rfl (by decide) ones3) (TL.b (.hd .u2) (CT.seq (CT.q (TL.f 1 fo_65_1 m0 (TL.val (r_ld (v := (i64 n)) Tryz.isAgg3 m0 T0 (by decide) rfl) (TL.val (n_eql n 0 T0 .c) (TL.b (.hd .u2) (CT.ifd m0 (fun c28 => ?_) (fun c28 => ?_))))))))))
  ·
   exfalso; omega
  refine CT.z (EX.q (TL.f 1 fo_65_1 m0 (TL.val (r_ld (v := (i64 n)) Tryz.isAgg3 m0 T0 (by decide) rfl) (TL.call (r_call ce_80 (.cons T0 .nil)) (fun w hS => t80 n (by omega) (by omega) hS) ?_))))
  rintro _ w44 ⟨k1, e1, rfl, hla, hS⟩
  refine TW.at hS (TL.m m0 (TL.val (r_ext T0) (TL.val (r_ext T1) (TL.val (r_ext T2) (TL.a m2 (TL.a m2 (TL.a m2 (TL.b (.hd (.hd (.hd .u7))) (CT.seq ?_)))))))))
  have hok2 := hnd.1 _ _ hla
  have hcl := codeOf_lt hok2 hls
  have hl1 := hok2.1; have hl2 := hok2.2.1; have hl3 := hok2.2.2
  have hx1 := lenExtra_le k1 hla.2.1
  have hx2 : e1 < 9223372036854775808 := Nat.lt_trans hla.2.2.2.1 (Nat.lt_of_le_of_lt (Nat.pow_le_pow_right (by decide) hx1) (by decide))
  refine CT.draw 9 fm (by kernel_rfl) ?_
  refine TS.m m9 (TS.m m9 (TS.m m4 (TS.val (r_ia (i := k1) (off' := k1) Tryz.underlying42 Tryz.sizeOf3 (.te m1 pa_v) T0 rfl (by omega) (by omega)) (TS.val (r_lds (u := (i64 (codeOf ls k1))) Tryz.isAgg3 m4 pa_v T0 (by rw [List.getElem?_map, codes_get hok2]; rfl)) ?_))))
  refine TS.m m15 (TS.m m8 (TS.val (r_ia (i := k1) (off' := k1) Tryz.underlying42 Tryz.sizeOf3 (.te m1 pb_v) T0 rfl (by omega) (by omega)) (TS.val (r_lds (u := (i64 (ls.getD k1 0))) Tryz.isAgg3 m5 pb_v T0 (by rw [List.getElem?_map, lens_get hok2]; rfl)) ?_)))
  refine TS.nil (TL.perm p1 (TL.call (r_call ce_40 (.cons T8 (.cons T4 (.cons T0 .nil)))) (fun w hS => t40 p ((codeOf ls k1)) ((ls.getD k1 0)) (bs ++ b) (by (try simp only [List.length_append, nbits_length, cbits_length, bits8_length, List.length_take, List.length_singleton, List.length_nil] at *); omega) (by omega) (by omega) hS) ?_))
  rintro _ w57 ⟨rfl, hS⟩
  refine TW.at hS (TL.r .u10 (TL.m m9 (TL.m m2 (TL.m m2 (TL.call (r_call ce_37 (.cons T2 (.cons T1 (.cons T0 .nil)))) (fun w hS => t37 p e1 ((lenExtra k1)) ((bs ++ b) ++ cbits ((ls.getD k1 0)) ((codeOf ls k1))) (by (try simp only [List.length_append, nbits_length, cbits_length, bits8_length, List.length_take, List.length_singleton, List.length_nil] at *); omega) (by omega) (by omega) hS) ?_)))))
  rintro _ w61 ⟨rfl, hS⟩
  refine TW.at hS (TL.r .u4 (TL.f 2 fo_65_2 m3 (TL.val (r_ld (v := (i64 d)) Tryz.isAgg3 m1 T0 (by decide) rfl) (TL.call (r_call ce_81 (.cons T0 .nil)) (fun w hS => t81 d (by omega) (by omega) hS) ?_))))
  rintro _ w65 ⟨k2, e2, rfl, hda, hS⟩
  refine TW.at hS (TL.m m0 (TL.val (r_ext T0) (TL.val (r_ext T1) (TL.val (r_ext T2) (TL.a m2 (TL.rm .h9 (TL.a m2 (TL.rm .h9 (TL.a m2 (TL.b (.hd (.hd (.hd .u7))) (CT.seq ?_)))))))))))
  have hok3 := hnd.2 _ _ hda
  have hcl2 := codeOf_lt hok3 hds
  have hm1 := hok3.1; have hm2 := hok3.2.1; have hm3 := hok3.2.2
  have hx3 := distExtra_le k2 hda.1
  have hx4 : e2 < 9223372036854775808 := Nat.lt_trans hda.2.2 (Nat.lt_of_le_of_lt (Nat.pow_le_pow_right (by decide) hx3) (by decide))
  refine CT.draw 9 fm (by kernel_rfl) ?_
  refine TS.m m10 (TS.m m9 (TS.m m4 (TS.val (r_ia (i := k2) (off' := k2) Tryz.underlying42 Tryz.sizeOf3 (.te m1 pc_v) T0 rfl (by omega) (by omega)) (TS.val (r_lds (u := (i64 (codeOf ds k2))) Tryz.isAgg3 m2 pc_v T0 (by rw [List.getElem?_map, codes_get hok3]; rfl)) ?_))))
  refine TS.m m17 (TS.m m8 (TS.val (r_ia (i := k2) (off' := k2) Tryz.underlying42 Tryz.sizeOf3 (.te m1 pd_v) T0 rfl (by omega) (by omega)) (TS.val (r_lds (u := (i64 (ds.getD k2 0))) Tryz.isAgg3 m3 pd_v T0 (by rw [List.getElem?_map, lens_get hok3]; rfl)) ?_)))
  refine TS.nil (TL.call (r_call ce_40 (.cons T8 (.cons T4 (.cons T0 .nil)))) (fun w hS => t40 p ((codeOf ds k2)) ((ds.getD k2 0)) (((bs ++ b) ++ cbits ((ls.getD k1 0)) ((codeOf ls k1))) ++ nbits ((lenExtra k1)) e1) (by (try simp only [List.length_append, nbits_length, cbits_length, bits8_length, List.length_take, List.length_singleton, List.length_nil] at *); omega) (by omega) (by omega) hS) ?_)
  rintro _ w78 ⟨rfl, hS⟩
  refine TW.at hS (TL.b .u10 (CT.region (TL.m m10 (TL.m m2 (TL.m m2 (TL.call (r_call ce_37 (.cons T2 (.cons T1 (.cons T0 .nil)))) (fun w hS => t37 p e2 ((distExtra k2)) ((((bs ++ b) ++ cbits ((ls.getD k1 0)) ((codeOf ls k1))) ++ nbits ((lenExtra k1)) e1) ++ cbits ((ds.getD k2 0)) ((codeOf ds k2))) (by (try simp only [List.length_append, nbits_length, cbits_length, bits8_length, List.length_take, List.length_singleton, List.length_nil] at *); omega) (by omega) (by omega) hS) ?_))))))
  rintro _ w82 ⟨rfl, hS⟩
  refine TW.at hS (TL.x .u4 (EX.bnormal (EX.seq (CT.region (TL.val (n_add k 1 9223372036854775808 T5 .c) (TL.rm .h6 (TL.m m0 (TL.x (.hd .u1) (EX.fold (A' := (Wr p (bs ++ (b ++ (symB ls k1 ++ nbits (lenExtra k1) e1 ++ symB ds k2 ++ nbits (distExtra k2) e2))))) a0 (Wr_eq (by simp only [symB, List.append_assoc])) (EX.perm p1 (EX.conv (fun _ h => h.tail) ?_)))))))))))
  exact EX.again ((k + 1, b ++ (symB ls k1 ++ nbits (lenExtra k1) e1 ++ symB ds k2 ++ nbits (distExtra k2) e2))) (⟨(show k + 1 ≤ its.length by omega), (by show ItBits ls ds (its.take (k + 1)) (b ++ (symB ls k1 ++ nbits (lenExtra k1) e1 ++ symB ds k2 ++ nbits (distExtra k2) e2)); rw [htk]; exact hI2.snoc (.mat hla hda hok2 hok3)), (by have := (ItB.mat hla hda hok2 hok3).len; show (b ++ (symB ls k1 ++ nbits (lenExtra k1) e1 ++ symB ds k2 ++ nbits (distExtra k2) e2)).length ≤ 64 * (k + 1); rw [List.length_append]; omega)⟩) (by show its.length - (k + 1) < its.length - k; omega) (.refl _) (.eq m0 (by first | rfl | (congr 1 <;> omega)) (.sl 6 7 rfl))
 refine CT.sub .u1 (CT.exit (EX.then_exit (EX.then_exit (EX.out (EX.seq ?_)))))
 have hcl := codeOf_lt h256 hls
 have hl1 := h256.1; have hl2 := h256.2.1; have hl3 := h256.2.2
 refine CT.draw 7 fm (by kernel_rfl) ?_
 refine TS.m m5 (TS.m m5 (TS.val (r_ia (i := 256) (off' := 256) Tryz.underlying42 Tryz.sizeOf3 (.te m0 pa_v) .c rfl (by omega) rfl) (TS.val (r_lds (u := (i64 (codeOf ls 256))) Tryz.isAgg3 m3 pa_v T0 (by rw [List.getElem?_map, codes_get h256]; rfl)) ?_)))
 refine TS.m m10 (TS.val (r_ia (i := 256) (off' := 256) Tryz.underlying42 Tryz.sizeOf3 (.te m0 pb_v) .c rfl (by omega) rfl) (TS.val (r_lds (u := (i64 (ls.getD 256 0))) Tryz.isAgg3 m4 pb_v T0 (by rw [List.getElem?_map, lens_get h256]; rfl)) ?_))
 refine TS.nil (TL.call (r_call ce_40 (.cons T6 (.cons T3 (.cons T0 .nil)))) (fun w hS => t40 p ((codeOf ls 256)) ((ls.getD 256 0)) (bs ++ b) (by (try simp only [List.length_append, nbits_length, cbits_length, bits8_length, List.length_take, List.length_singleton, List.length_nil] at *); omega) (by omega) (by omega) hS) ?_)
 rintro _ w91 ⟨rfl, hS⟩
 exact TW.at hS (TL.x .u8 (EX.perm p2 (EX.perm p4 (EX.perm p5 (EX.perm p3 (EX.end_ (.inr rfl) (res0 Tryz.results64) (fun _ hS => ⟨rfl, b ++ symB ls 256, ⟨b, rfl, by obtain rfl : k = its.length := (by omega); rw [List.take_length] at hI2; exact hI2⟩, by rw [List.length_append, symB_length]; have := h256.2.2; omega, keep4 (hS.imp (Wr_eq (by simp only [symB, List.append_assoc])))⟩)))))))
end Go.Eng
namespace Go.Eng
open Go Go.Proofs Go.Infl
theorem fixLit_length : fixLit.length = 288 := by unfold fixLit; rw [List.length_map, List.length_range]
theorem fixDist_length : fixDist.length = 32 := by unfold fixDist; rw [List.length_replicate]
theorem fix_lit {k : Nat} (h : k < 288) : LOk fixLit k := by
 refine ⟨by rw [fixLit_length]; exact h, ?_⟩
 have : fixLit.getD k 0 = fl k := by
  unfold fixLit
  rw [List.getD_eq_getElem?_getD, List.getElem?_map, List.getElem?_range h]; rfl
 rw [this]
 unfold fl
 split
 ·
  decide
 split <;> decide
theorem fix_dist {k : Nat} (h : k < 32) : LOk fixDist k := by
 refine ⟨by rw [fixDist_length]; exact h, ?_⟩
 have : fixDist.getD k 0 = 5 := by
  unfold fixDist
  rw [List.getD_eq_getElem?_getD, List.getElem?_replicate, if_pos h]; rfl
 rw [this]
 decide
theorem fix_needs {n0 : Nat} {its : List It} (hok : ItOk n0 its) : ∀ x ∈ its, Needs fixLit fixDist x := by
 intro x hx
 obtain ⟨k, hk⟩ := List.getElem?_of_mem hx
 have h := hok.at_ hk
 cases x with
 | lit b => exact fix_lit (Nat.lt_of_lt_of_le h.1 (by decide))
 | mat n d => exact ⟨fun k v hk => fix_lit (by have := hk.2.1; omega), fun k v hk => fix_dist (by have := hk.1; omega)⟩
theorem or2 {f : Bool} : (Bool.toNat f ||| 2) = Bool.toNat f + 2 := by cases f <;> rfl
theorem keep2b {G w : World} {R : List HProp} {A B C D : HProp} (h : Sat G w (A :: B :: C :: D :: R)) : Sat G w (A :: B :: R) := ((h.perm p3).tail.perm p2).tail
theorem t75' {G : World} {R : List HProp} {w : World} (hS : Sat G w (R)) :
 CallsR Tryz.prog 75 #[] w (fun v w' => ∃ v1 v2, v = .tuple #[v1, v2] ∧ Sat G w' (slc 1 v1 fixLit.length (fixLit.map i64) :: slc 1 v2 fixDist.length (fixDist.map i64) :: R)) := by
 rw [fixLit_length, fixDist_length]
 exact t75 hS
theorem t54 (p : Nat) (vi : Value) (its : List It) (f : Bool) (bs : List Bool) (n0 : Nat) (hok : ItOk n0 its) (hil : its.length ≤ 4096) (hb : bs.length + 1000010 < 1099511627776) {G : World} {R : List HProp} {w : World} (hS : Sat G w (Wr p bs :: slc 3 vi its.length (itC its) :: R)) :
 CallsR Tryz.prog 54 #[(pt p 0), vi, (.bool f)] w (fun v w' => v = .tuple #[] ∧ ∃ b, (∃ b1, b = b1 ++ symB fixLit 256 ∧ ItBits fixLit fixDist its b1) ∧ b.length ≤ 64 * its.length + 15 ∧ Sat G w' (Wr p (bs ++ (nbits 3 (Bool.toNat f + 2) ++ b)) :: slc 3 vi its.length (itC its) :: R)) := by
 have hf := flag_lt f
 refine calls_in (n := 22) [(0, (pt p 0)), (1, vi), (2, (.bool f))] Tryz.func54 rfl rfl hS args3 ?_
 refine CT.q (TL.m m0 (TL.m m3 (TL.call (r_call ce_77 (.cons T0 .nil)) (fun w hS => t77 f hS) ?_)))
 rintro _ w10 ⟨rfl, hS⟩
 refine TW.at hS (TL.val (n_or ((Bool.toNat f)) 2 9223372036854775808 T0 .c rfl rfl (by omega) (by omega)) (TL.call (r_call ce_37 (.cons T3 (.cons T0 (.cons .c .nil)))) (fun w hS => t37 p (((Bool.toNat f) ||| 2)) 3 bs (by (try simp only [List.length_append, nbits_length, cbits_length, bits8_length, List.length_take, List.length_singleton, List.length_nil] at *); omega) (by have := flag_lt f; have := Nat.or_lt_two_pow (n := 2) (x := Bool.toNat f) (y := 2) (by omega) (by decide); omega) (by omega) hS) ?_))
 rintro _ w12 ⟨rfl, hS⟩
 refine TW.at hS (TL.r (.tl (.tl (.tl (.tl (.tl (.hd (.hd .u1))))))) (TL.call (r_call ce_75 .nil) (fun w hS => t75' hS) ?_))
 rintro _ w14 ⟨v1, v2, rfl, hS⟩
 refine TW.at hS (TL.m m0 (TL.val (r_ext T0) (TL.val (r_ext T1) (TL.a m1 (TL.a m1 (TL.b (.hd (.hd .u4)) (CT.region (TL.m m2 (TL.m m4 (TL.m m3 (TL.m m3 (TL.perm p1 (TL.perm p1 (TL.perm p3 (TL.perm p3 (TL.call (r_call ce_64 (.cons T3 (.cons T2 (.cons T1 (.cons T0 .nil))))) (fun w hS => t64 p vi v1 v2 its fixLit fixDist (bs ++ nbits 3 (((Bool.toNat f) ||| 2))) n0 hok hil (by rw [fixLit_length]; decide) (by rw [fixDist_length]; decide) (by rw [fixDist_length]; decide) (fix_lit (by decide)) (fix_needs hok) (by (try simp only [List.length_append, nbits_length, cbits_length, bits8_length, List.length_take, List.length_singleton, List.length_nil] at *); omega) hS) ?_))))))))))))))))
 rintro _ w21 ⟨rfl, b21, hb21, hbl21, hS⟩
 exact TW.at hS (TL.x (.tl (.tl (.tl (.tl (.tl (.tl (.tl (.hd .u1)))))))) (EX.perm p1 (EX.perm p1 (EX.end_ (.inr rfl) (res0 Tryz.results54) (fun _ hS => ⟨rfl, b21, hb21, hbl21, keep2b (hS.imp (Wr_eq (by rw [or2]; simp only [List.append_assoc])))⟩)))))
end Go.Eng
namespace Go.Eng
open Go Go.Proofs Go.Infl
def gi (i j : Nat) : Nat := if j < i then fl j else 0
theorem gi_put {i v : Nat} (h : fl i = v) : upd (fun jj => i64 (gi i jj)) i (i64 v) = fun jj => i64 (gi (i + 1) jj) := by
 funext j
 show (if j = i then i64 v else i64 (if j < i then fl j else 0)) = i64 (if j < i + 1 then fl j else 0)
 by_cases e : j = i
 ·
  subst e; rw [if_pos rfl, if_pos (by omega), h]
 rw [if_neg e]
 by_cases h2 : j < i
 ·
  rw [if_pos h2, if_pos (by omega)]
 rw [if_neg h2, if_neg (by omega)]
theorem gi_eq {b n i i' : Nat} (h : i = i') : ∀ m, blk b n (fun jj => i64 (gi i jj)) m → blk b n (fun jj => i64 (gi i' jj)) m := by subst h; exact fun _ h => h
theorem gi_end {i j x : Nat} (h : fixLit[j]? = some x) (hi : i = 288) : i64 (gi i j) = i64 x := by
 subst hi
 have h1 := (List.getElem?_eq_some_iff.1 h).1
 rw [fixLit_length] at h1
 unfold fixLit at h
 rw [List.getElem?_map, List.getElem?_range h1] at h
 cases h
 unfold gi
 rw [if_pos h1]
theorem fl_vals (i : Nat) : fl i = 7 ∨ fl i = 8 ∨ fl i = 9 := by unfold fl; split; exact .inr (.inr rfl); split; exact .inl rfl; exact .inr (.inl rfl)
theorem fix_le15 : ∀ x ∈ fixLit, x ≤ 15 := by
 intro x hx
 obtain ⟨i, _, rfl⟩ := List.mem_map.1 hx
 have := fl_vals i
 omega
theorem fix_256 : fixLit.getD 256 0 = 7 := by decide +kernel
theorem fix_mn {m : Nat} (h : m ∈ fixLit) (h0 : m ≠ 0) (h2 : m ≤ fixLit.getD 256 0) : m = fixLit.getD 256 0 := by
 obtain ⟨i, _, rfl⟩ := List.mem_map.1 h
 have := fl_vals i
 rw [fix_256] at *
 omega
theorem z161 : Tryz.zeroCells161.toList = (List.range 288).map (fun jj => i64 (gi 0 jj)) := by kernel_rfl
theorem z94l : Tryz.zeroCells94.toList = (List.range 515).map hz := by rw [z94]
theorem tabf_self : hz = tabf hz 0 hz := by
 funext j
 unfold tabf
 split <;> rfl
theorem TDok.tabf {ls : List Nat} {t : TD} {T F : Nat → Value} (h : TDok ls t T) : TDok ls t (tabf F 0 T) :=
 ⟨fun j hj => by have := tabf_get (F := F) (T := T) (off := 0) hj; rw [Nat.zero_add] at this; rw [this]; exact h.cells j hj, h.tab, h.full, h.m15⟩
theorem t88  {G : World} {R : List HProp} {w : World} (hS : Sat G w (R)) :
 CallsR Tryz.prog 88 #[] w (fun v w' => ∃ (tb : Nat) (T : Nat → Value) (t : TD), v = pt tb 0 ∧ TDok fixLit t T ∧ t.mn = fixLit.getD 256 0 ∧ Sat G w' (blk tb 515 T :: Lnks t :: R)) := by
 refine calls_in (n := 36) [] Tryz.func88 rfl rfl hS args0 ?_
 refine CT.q (TL.val (r_asg .c) (TL.q (TL.w (r_allocz (F := fun jj => i64 (gi 0 jj)) Tryz.zeroValue161 z161) ?_)))
 rintro _ w1 ⟨xb, rfl, hS⟩
 refine TW.at hS (TL.e (CT.seq (CT.q (TL.val (r_asg .c) (TL.e (CT.block (CT.loop (X := Nat) (fun gx => [(2, (i64 gx)), (1, (pt xb 0)), (0, (.pointer none))]) (fun gx => (blk xb 288 (fun jj => i64 (gi gx jj))) :: R) (fun gx => 0 ≤ gx ∧ gx ≤ 144) (fun gx => 144 - gx) 0 (⟨Nat.le_refl _, by decide⟩) (.refl _) (.sl 0 3 rfl) ?_)))))))
 rintro i0 ⟨hA0, hB0⟩
 refine CT.seq (CT.q (TL.m m0 (TL.val (n_lss i0 144 T0 .c) (TL.b (.hd .u1) (CT.ifd m0 (fun c8 => ?_) (fun c8 => ?_))))))
 ·
  exact CT.z (EX.seq (CT.seq (CT.block (CT.region (TL.m m0 (TL.val (r_iaa (i := i0) (off' := i0) Tryz.underlying161 Tryz.sizeOf3 T2 T0 rfl (by omega) (by omega)) (TL.s (r_st (F' := fun jj => i64 (gi (i0 + 1) jj)) Tryz.sizeOf3 (gi_put (by unfold fl; rw [if_neg (by omega), if_neg (by omega)])) a0 T0 .c (by omega)) (TL.x .u2 (EX.bnormal (EX.seq (CT.region (TL.m m0 (TL.val (n_add i0 1 9223372036854775808 T0 .c) (TL.rm .h2 (TL.a m0 (TL.x (.hd .u2) (EX.again (i0 + 1) (⟨by omega, by omega⟩) (by omega) (.refl _) (.eq m0 (by first | rfl | (congr 1 <;> omega)) (.cons m1 (.cons m2 .nil))))))))))))))))))))
 refine CT.sub .u1 (CT.exit (EX.then_exit (EX.then_exit (EX.out (EX.seq (CT.seq (CT.q (TL.val (r_asg .c) (TL.e (CT.block (CT.fold (A' := (blk xb 288 (fun jj => i64 (gi 144 jj)))) a0 (gi_eq (by omega)) (CT.loop (X := Nat) (fun gx => [(3, (i64 gx)), (2, (i64 i0)), (1, (pt xb 0)), (0, (.pointer none))]) (fun gx => (blk xb 288 (fun jj => i64 (gi gx jj))) :: R) (fun gx => 144 ≤ gx ∧ gx ≤ 256) (fun gx => 256 - gx) 144 (⟨Nat.le_refl _, by decide⟩) (.refl _) (.sl 0 4 rfl) ?_))))))))))))
 rintro i2 ⟨hA2, hB2⟩
 refine CT.seq (CT.q (TL.m m0 (TL.val (n_lss i2 256 T0 .c) (TL.b (.hd .u1) (CT.ifd m0 (fun c14 => ?_) (fun c14 => ?_))))))
 ·
  exact CT.z (EX.seq (CT.seq (CT.block (CT.region (TL.m m0 (TL.val (r_iaa (i := i2) (off' := i2) Tryz.underlying161 Tryz.sizeOf3 T3 T0 rfl (by omega) (by omega)) (TL.s (r_st (F' := fun jj => i64 (gi (i2 + 1) jj)) Tryz.sizeOf3 (gi_put (by unfold fl; rw [if_pos (by omega)])) a0 T0 .c (by omega)) (TL.x .u2 (EX.bnormal (EX.seq (CT.region (TL.m m0 (TL.val (n_add i2 1 9223372036854775808 T0 .c) (TL.rm .h2 (TL.a m0 (TL.x (.hd .u2) (EX.again (i2 + 1) (⟨by omega, by omega⟩) (by omega) (.refl _) (.eq m0 (by first | rfl | (congr 1 <;> omega)) (.sl 1 3 rfl)))))))))))))))))))
 refine CT.sub .u1 (CT.exit (EX.then_exit (EX.then_exit (EX.out (EX.seq (CT.seq (CT.q (TL.val (r_asg .c) (TL.e (CT.block (CT.fold (A' := (blk xb 288 (fun jj => i64 (gi 256 jj)))) a0 (gi_eq (by omega)) (CT.loop (X := Nat) (fun gx => [(4, (i64 gx)), (3, (i64 i2)), (2, (i64 i0)), (1, (pt xb 0)), (0, (.pointer none))]) (fun gx => (blk xb 288 (fun jj => i64 (gi gx jj))) :: R) (fun gx => 256 ≤ gx ∧ gx ≤ 280) (fun gx => 280 - gx) 256 (⟨Nat.le_refl _, by decide⟩) (.refl _) (.sl 0 5 rfl) ?_))))))))))))
 rintro i4 ⟨hA4, hB4⟩
 refine CT.seq (CT.q (TL.m m0 (TL.val (n_lss i4 280 T0 .c) (TL.b (.hd .u1) (CT.ifd m0 (fun c20 => ?_) (fun c20 => ?_))))))
 ·
  exact CT.z (EX.seq (CT.seq (CT.block (CT.region (TL.m m0 (TL.val (r_iaa (i := i4) (off' := i4) Tryz.underlying161 Tryz.sizeOf3 T4 T0 rfl (by omega) (by omega)) (TL.s (r_st (F' := fun jj => i64 (gi (i4 + 1) jj)) Tryz.sizeOf3 (gi_put (by unfold fl; rw [if_neg (by omega), if_pos (by omega)])) a0 T0 .c (by omega)) (TL.x .u2 (EX.bnormal (EX.seq (CT.region (TL.m m0 (TL.val (n_add i4 1 9223372036854775808 T0 .c) (TL.rm .h2 (TL.a m0 (TL.x (.hd .u2) (EX.again (i4 + 1) (⟨by omega, by omega⟩) (by omega) (.refl _) (.eq m0 (by first | rfl | (congr 1 <;> omega)) (.sl 1 4 rfl)))))))))))))))))))
 refine CT.sub .u1 (CT.exit (EX.then_exit (EX.then_exit (EX.out (EX.seq (CT.seq (CT.q (TL.val (r_asg .c) (TL.e (CT.block (CT.fold (A' := (blk xb 288 (fun jj => i64 (gi 280 jj)))) a0 (gi_eq (by omega)) (CT.loop (X := Nat) (fun gx => [(5, (i64 gx)), (4, (i64 i4)), (3, (i64 i2)), (2, (i64 i0)), (1, (pt xb 0)), (0, (.pointer none))]) (fun gx => (blk xb 288 (fun jj => i64 (gi gx jj))) :: R) (fun gx => 280 ≤ gx ∧ gx ≤ 288) (fun gx => 288 - gx) 280 (⟨Nat.le_refl _, by decide⟩) (.refl _) (.sl 0 6 rfl) ?_))))))))))))
 rintro i6 ⟨hA6, hB6⟩
 refine CT.seq (CT.q (TL.m m0 (TL.val (n_lss i6 288 T0 .c) (TL.b (.hd .u1) (CT.ifd m0 (fun c26 => ?_) (fun c26 => ?_))))))
 ·
  exact CT.z (EX.seq (CT.seq (CT.block (CT.region (TL.m m0 (TL.val (r_iaa (i := i6) (off' := i6) Tryz.underlying161 Tryz.sizeOf3 T5 T0 rfl (by omega) (by omega)) (TL.s (r_st (F' := fun jj => i64 (gi (i6 + 1) jj)) Tryz.sizeOf3 (gi_put (by unfold fl; rw [if_neg (by omega), if_neg (by omega)])) a0 T0 .c (by omega)) (TL.x .u2 (EX.bnormal (EX.seq (CT.region (TL.m m0 (TL.val (n_add i6 1 9223372036854775808 T0 .c) (TL.rm .h2 (TL.a m0 (TL.x (.hd .u2) (EX.again (i6 + 1) (⟨by omega, by omega⟩) (by omega) (.refl _) (.eq m0 (by first | rfl | (congr 1 <;> omega)) (.sl 1 5 rfl)))))))))))))))))))
 refine CT.sub .u1 (CT.exit (EX.then_exit (EX.then_exit (EX.out (EX.q (TL.w (r_allocz (F := hz) Tryz.zeroValue94 z94l) ?_))))))
 rintro _ w31 ⟨tb, rfl, hS⟩
 refine TW.at hS (TL.a m0 (TL.r (.hd .u1) (TL.m m0 (TL.val (r_slicea (off' := 0) (m := 288) (c' := 288) Tryz.underlying161 Tryz.sizeOf3 T6 .no .no (by (try simp) <;> omega) (by (try simp) <;> omega) (by simp) (by simp) (by simp)) (TL.perm p1 (TL.perm p1 (TL.conv (fun _ h => h.imp (blk_eq rfl tabf_self)) (TL.perm p1 (TL.perm p1 (TL.call (r_call ce_111 (.cons T1 (.cons T0 .nil))) (fun w hS => t111 (n := 515) (off := 0) (F := hz) (T := hz) (by decide) (.inr fun _ _ => rfl) ((blk xb 288 (fun jj => i64 (gi i6 jj)))) fixLit xb 0 288 (fun hm hS j x hj => by rw [Nat.zero_add]; exact (hS.cell hm (by have := (List.getElem?_eq_some_iff.1 hj).1; rw [fixLit_length] at this; exact this)).trans (congrArg some (gi_end hj (by omega)))) (by rw [fixLit_length]; decide) fix_le15 fix_fits.1 hS) ?_))))))))))
 rintro _ w34 ⟨t, rfl, ht, ⟨hm1, hm2, hm3⟩, hS⟩
 exact TW.at hS (TL.r .u3 (TL.m m0 (TL.rm .h7 (TL.a m0 (TL.b (.hd .u1) (CT.ret (EX.perm p2 (EX.perm p1 (EX.end_ (.inl rfl) (res1 Tryz.results88 m0) (fun _ hS => ⟨tb, _, t, rfl, ht.tabf, fix_mn hm1 hm2 (hm3 256 (fix_lit (by decide))), hS.two1⟩))))))))))
end Go.Eng
namespace Go.Infl
inductive HNext (ls ds : List Nat) (fin : Bool) (k : Nat) (h : List Nat) (hF : List Nat × Bool) : List Bool → Prop
 | lit {b : Nat} {rest : List Bool} : LOk ls b → b < 256 → HTail ls ds fin (k + ls.getD b 0) rest (h ++ [b]) hF → HNext ls ds fin k h hF (symB ls b ++ rest)
 | eob {rest : List Bool} : After fin (k + ls.getD 256 0) rest h hF → HNext ls ds fin k h hF (symB ls 256 ++ rest)
 | never {c : Nat} {rest : List Bool} : 286 ≤ c → LOk ls c → hF = (h, false) → HNext ls ds fin k h hF (symB ls c ++ rest)
 | len {n c v c' : Nat} {rest : List Bool} : LenAt n c v → LOk ls c → LOk ds c' →
  ((∃ d v' rest', DistAt d c' v' ∧ rest = nbits (distExtra c') v' ++ rest' ∧ (3 ≤ n ∧ n ≤ 258 ∧ 1 ≤ d ∧ d ≤ h.length ∧ d ≤ 32768 ∧ HTail ls ds fin (k + ls.getD c 0 + lenExtra c + ds.getD c' 0 + distExtra c') rest' (copyM h d n) hF ∨ hF = (h, false) ∧ h.length < d)) ∨ 30 ≤ c' ∧ hF = (h, false)) →
  HNext ls ds fin k h hF (symB ls c ++ (nbits (lenExtra c) v ++ (symB ds c' ++ rest)))
theorem HStep.next {ls ds : List Nat} {fin : Bool} {k : Nat} {h : List Nat} {hF : List Nat × Bool} {bits : List Bool} (H : HStep ls ds fin k h hF bits) : HNext ls ds fin k h hF bits := by
 cases H with
 | lit a b c => exact .lit a b c
 | eob a => exact .eob a
 | mat a1 a2 a3 a4 a5 a6 a7 a8 a9 a10 => exact .len a1 a3 a4 (.inl ⟨_, _, _, a2, rfl, .inl ⟨a5, a6, a7, a8, a9, a10⟩⟩)
 | bad e hb =>
  cases hb with
  | never a1 a2 => exact .never a1 a2 e
  | neverD a1 a2 a3 a4 => exact .len a1 a2 a4 (.inr ⟨a3, e⟩)
  | far a1 a2 a3 a4 a5 => exact .len a1 a2 a4 (.inl ⟨_, _, _, a3, rfl, .inr ⟨e, a5⟩⟩)
def lenGo (c : Nat) : Nat × Nat := if c < 265 then (c - 254, 0) else if c < 269 then (c * 2 - 519, 1) else if c < 273 then (c * 4 - 1057, 2) else if c < 277 then (c * 8 - 2149, 3) else if c < 281 then (c * 16 - 4365, 4) else if c < 285 then (c * 32 - 8861, 5) else (258, 0)
theorem len_go {c : Nat} (h1 : 257 ≤ c) (h2 : c ≤ 285) : (c < 265 → lenBase c = c - 254 ∧ lenExtra c = 0) ∧ (265 ≤ c → c < 269 → lenBase c = c * 2 - 519 ∧ lenExtra c = 1) ∧ (269 ≤ c → c < 273 → lenBase c = c * 4 - 1057 ∧ lenExtra c = 2) ∧
 (273 ≤ c → c < 277 → lenBase c = c * 8 - 2149 ∧ lenExtra c = 3) ∧ (277 ≤ c → c < 281 → lenBase c = c * 16 - 4365 ∧ lenExtra c = 4) ∧ (281 ≤ c → c < 285 → lenBase c = c * 32 - 8861 ∧ lenExtra c = 5) ∧ (285 ≤ c → lenBase c = 258 ∧ lenExtra c = 0) := by
 have : ∀ j, j < 29 → (lenBase (257 + j), lenExtra (257 + j)) = lenGo (257 + j) := by decide
 have e := this (c - 257) (by omega)
 rw [show 257 + (c - 257) = c by omega] at e
 unfold lenGo at e
 refine ⟨fun g1 => ?_, fun g1 g2 => ?_, fun g1 g2 => ?_, fun g1 g2 => ?_, fun g1 g2 => ?_, fun g1 g2 => ?_, fun g1 => ?_⟩
 ·
  rw [if_pos g1] at e; injection e with e1 e2; exact ⟨e1, e2⟩
 ·
  rw [if_neg (by omega), if_pos g2] at e; injection e with e1 e2; exact ⟨e1, e2⟩
 ·
  rw [if_neg (by omega), if_neg (by omega), if_pos g2] at e; injection e with e1 e2; exact ⟨e1, e2⟩
 ·
  rw [if_neg (by omega), if_neg (by omega), if_neg (by omega), if_pos g2] at e; injection e with e1 e2; exact ⟨e1, e2⟩
 ·
  rw [if_neg (by omega), if_neg (by omega), if_neg (by omega), if_neg (by omega), if_pos g2] at e; injection e with e1 e2; exact ⟨e1, e2⟩
 ·
  rw [if_neg (by omega), if_neg (by omega), if_neg (by omega), if_neg (by omega), if_neg (by omega), if_pos g2] at e; injection e with e1 e2; exact ⟨e1, e2⟩
 rw [if_neg (by omega), if_neg (by omega), if_neg (by omega), if_neg (by omega), if_neg (by omega), if_neg (by omega)] at e; injection e with e1 e2; exact ⟨e1, e2⟩
theorem dist_go {c : Nat} (h : c ≤ 29) : (c < 4 → distBase c = c + 1 ∧ distExtra c = 0) ∧ (4 ≤ c → distExtra c = (c - 2) / 2 ∧ distBase c = 1 * 2 ^ ((c - 2) / 2 + 1) + 1 + (c &&& 1) * 2 ^ ((c - 2) / 2) ∧ (c &&& 1) * 2 ^ ((c - 2) / 2) % 2 ^ ((c - 2) / 2) = 0) := by
 have : ∀ j, j < 30 → ((j < 4 → distBase j = j + 1 ∧ distExtra j = 0) ∧ (4 ≤ j → distExtra j = (j - 2) / 2 ∧ distBase j = 1 * 2 ^ ((j - 2) / 2 + 1) + 1 + (j &&& 1) * 2 ^ ((j - 2) / 2) ∧ (j &&& 1) * 2 ^ ((j - 2) / 2) % 2 ^ ((j - 2) / 2) = 0)) := by decide
 exact this c (by omega)
theorem dist_max {d c v : Nat} (h : DistAt d c v) : d ≤ 32768 := by
 obtain ⟨h1, h2, h3⟩ := h
 have : ∀ j, j < 30 → distBase j + 2 ^ distExtra j ≤ 32769 := by decide
 have := this c (by omega)
 omega
theorem len_max {n c v : Nat} (h : LenAt n c v) : n ≤ 258 + 63 := by
 obtain ⟨h1, h2, h3, h4, _⟩ := h
 have : ∀ j, j < 29 → lenBase (257 + j) + 2 ^ lenExtra (257 + j) ≤ 260 := by decide
 have := this (c - 257) (by omega)
 rw [show 257 + (c - 257) = c by omega] at this
 omega
theorem Held.and {B : List Bool} {k i b nb m x : Nat} {rest : List Bool} (H : Held B k i b nb) (hm : m ≤ nb) (hx : x < 2 ^ m) (hd : B.drop k = nbits m x ++ rest) : b &&& (1 * 2 ^ m - 1) = x := by
 rw [Nat.one_mul, Nat.and_two_pow_sub_one_eq_mod]; exact H.low hm hx hd
theorem symB_nbits {ls : List Nat} {k : Nat} : symB ls k = nbits (ls.getD k 0) (rv (ls.getD k 0) (codeOf ls k)) := by
 apply List.ext_getElem?
 intro i
 unfold symB nbits cbits nbits
 by_cases hi : i < ls.getD k 0
 ·
  rw [List.getElem?_reverse (by simpa using hi)]
  simp only [List.length_map, List.length_range, List.getElem?_map]
  rw [List.getElem?_range (by omega), List.getElem?_range hi]
  simp only [Option.map_some, rv_bit, hi, decide_true, Bool.true_and]
 rw [List.getElem?_eq_none (by simpa using hi), List.getElem?_eq_none (by simpa using hi)]
theorem fixDist_code : ∀ c, c < 32 → fixDist.getD c 0 = 5 ∧ codeOf fixDist c = c := by decide +kernel
end Go.Infl
namespace Go.Eng
open Go
section
variable {X : Type} {P : Program} {G : World} {ρ : Env} {n : Nat} {L : List HProp} {Q : Exit → Act → World → Prop}
def JL (ρ0 ρ1 : X → Env) (H0 H1 : X → List HProp) (I0 I1 : X → Prop) (μ0 μ1 : X → Nat) (n : Nat) (G : World) (ok : Nat → Prop) (l : Nat) (a : Act) (w : World) : Prop :=
 (l = 0 ∧ ∃ x, (I0 x ∧ ok (μ0 x)) ∧ Sat G w (H0 x) ∧ Ok (ρ0 x) n a) ∨ (l = 1 ∧ ∃ x, (I1 x ∧ ok (μ1 x)) ∧ Sat G w (H1 x) ∧ Ok (ρ1 x) n a)
theorem CT.scopeJ {c : Code} (ρ0 ρ1 : X → Env) (H0 H1 : X → List HProp) (I0 I1 : X → Prop) (μ0 μ1 : X → Nat) {r0 r1 : Code} (h0 : findLabel c 0 = some r0) (h1 : findLabel c 1 = some r1)
 (first : CT P c (Jumps (JL ρ0 ρ1 H0 H1 I0 I1 μ0 μ1 n G (fun _ => True)) Q) ρ n G L)
 (k0 : ∀ x, I0 x → CT P r0 (Jumps (JL ρ0 ρ1 H0 H1 I0 I1 μ0 μ1 n G (· < μ0 x)) Q) (ρ0 x) n G (H0 x))
 (k1 : ∀ x, I1 x → CT P r1 (Jumps (JL ρ0 ρ1 H0 H1 I0 I1 μ0 μ1 n G (· < μ1 x)) Q) (ρ1 x) n G (H1 x)) : CT P (.scope c) Q ρ n G L := fun w a hS ha => by
 refine wp_scope_ghost (X := X) (fun l x a w => (l = 0 ∧ I0 x ∧ Sat G w (H0 x) ∧ Ok (ρ0 x) n a) ∨ (l = 1 ∧ I1 x ∧ Sat G w (H1 x) ∧ Ok (ρ1 x) n a)) (fun l x => if l = 0 then μ0 x else μ1 x) ?_ ?_
 ·
  refine wp_mono (first w a hS ha) fun e a' w' he => ?_
  cases e with
  | goto l =>
   rcases he with ⟨e1, x, ⟨h2, _⟩, h3, h4⟩ | ⟨e1, x, ⟨h2, _⟩, h3, h4⟩
   ·
    exact ⟨x, .inl ⟨e1, h2, h3, h4⟩⟩
   exact ⟨x, .inr ⟨e1, h2, h3, h4⟩⟩
  | _ => exact he
 rintro l x a w (⟨rfl, h2, h3, h4⟩ | ⟨rfl, h2, h3, h4⟩)
 ·
  refine ⟨r0, h0, wp_mono (k0 x h2 w a h3 h4) fun e a' w' he => ?_⟩
  cases e with
  | goto l =>
   rcases he with ⟨rfl, x', ⟨h2, h5⟩, h3, h4⟩ | ⟨rfl, x', ⟨h2, h5⟩, h3, h4⟩
   ·
    exact ⟨x', .inl ⟨rfl, h2, h3, h4⟩, h5⟩
   exact ⟨x', .inr ⟨rfl, h2, h3, h4⟩, h5⟩
  | _ => exact he
 refine ⟨r1, h1, wp_mono (k1 x h2 w a h3 h4) fun e a' w' he => ?_⟩
 cases e with
 | goto l =>
  rcases he with ⟨rfl, x', ⟨h2, h5⟩, h3, h4⟩ | ⟨rfl, x', ⟨h2, h5⟩, h3, h4⟩
  ·
   exact ⟨x', .inl ⟨rfl, h2, h3, h4⟩, h5⟩
  exact ⟨x', .inr ⟨rfl, h2, h3, h4⟩, h5⟩
 | _ => exact he
theorem EX.jump0 {ρ0 ρ1 : X → Env} {H0 H1 : X → List HProp} {I0 I1 : X → Prop} {μ0 μ1 : X → Nat} {ok : Nat → Prop} (x : X) (hi : I0 x) (hm : ok (μ0 x)) (p : L.Perm (H0 x)) (s : Sub (ρ0 x) ρ) :
 EX (Jumps (JL ρ0 ρ1 H0 H1 I0 I1 μ0 μ1 n G ok) Q) (.goto 0) ρ n G L := fun _ _ hS ha => .inl ⟨rfl, x, ⟨hi, hm⟩, hS.perm p, ha.sub s⟩
theorem EX.jump1 {ρ0 ρ1 : X → Env} {H0 H1 : X → List HProp} {I0 I1 : X → Prop} {μ0 μ1 : X → Nat} {ok : Nat → Prop} (x : X) (hi : I1 x) (hm : ok (μ1 x)) (p : L.Perm (H1 x)) (s : Sub (ρ1 x) ρ) :
 EX (Jumps (JL ρ0 ρ1 H0 H1 I0 I1 μ0 μ1 n G ok) Q) (.goto 1) ρ n G L := fun _ _ hS ha => .inr ⟨rfl, x, ⟨hi, hm⟩, hS.perm p, ha.sub s⟩
end
end Go.Eng
namespace Go.Eng
open Go Go.Proofs Go.Infl
structure HX where
 i : Nat
 b : Nat
 nb : Nat
 wr : Nat
 k : Nat
 cl : Nat
 cd : Nat
 hist : Nat → Nat
 h : List Nat
structure HI (B : List Bool) (del : List Nat) (s : DS) (E : Nat) (x : HX) : Prop where
 win : Win x.hist x.wr s.full x.h
 rw_ : s.rd ≤ x.wr
 wl : x.wr < 32768
 held : Held B x.k x.i x.b x.nb
 nbl : x.nb ≤ E + 7
 un : ∃ un, x.h = del ++ un ∧ un.length = x.wr - s.rd
 il : x.i ≤ (pack B).length
 s01 : s.ss ≤ 1
structure HI0 (B : List Bool) (hF : List Nat × Bool) (del : List Nat) (s : DS) (ls ds : List Nat) (mu0 : Nat) (x : HX) : Prop extends HI B del s (ls.getD 256 0) x where
 tail : HTail ls ds s.final x.k (B.drop x.k) x.h hF
 mu : 1000 * (B.length - x.k) + 1 ≤ mu0
 z : s.ss = 1 → x.cl = 0 ∧ 1 ≤ x.cd ∧ x.cd ≤ x.h.length ∧ x.cd ≤ 32768
structure HI1 (B : List Bool) (hF : List Nat × Bool) (del : List Nat) (s : DS) (ls ds : List Nat) (mu0 : Nat) (x : HX) : Prop extends HI B del s (ls.getD 256 0) x where
 tail : HTail ls ds s.final x.k (B.drop x.k) (copyM x.h x.cd x.cl) hF
 c1 : x.cl ≤ 258
 c2 : 1 ≤ x.cd
 c3 : x.cd ≤ x.h.length
 c4 : x.cd ≤ 32768
 mu : 1000 * (B.length - x.k) + 2 + x.cl ≤ mu0
theorem HI0.sd {B : List Bool} {hF : List Nat × Bool} {del : List Nat} {s s' : DS} {ls ds : List Nat} {mu0 : Nat} {x : HX} (hx : HI0 B hF del s ls ds mu0 x) (h1 : s'.ss = s.ss := by rfl) (h2 : s'.cd = x.cd := by rfl) : SSd s' x.h := by
 have := hx.s01; have := hx.z
 unfold SSd; rw [h1, h2]; omega
theorem HI0.cl0 {B : List Bool} {hF : List Nat × Bool} {del : List Nat} {s s' : DS} {ls ds : List Nat} {mu0 : Nat} {x : HX} (hx : HI0 B hF del s ls ds mu0 x) (h1 : s'.ss = s.ss := by rfl) (h2 : s'.cl = x.cl := by rfl) : s'.ss = 1 → s'.cl = 0 := fun e => by
 rw [h2]; exact (hx.z (by rw [← h1]; exact e)).1
section
variable {G w : World} {R : List HProp} {bb cb f r hb i k : Nat} {B : List Bool} {hF : List Nat × Bool} {del h un : List Nat} {ea : Addr} {s : DS} {hist : Nat → Nat} {mu mu0 : Nat} {ls ds : List Nat} {TB : List HProp} {rest : List Bool}
theorem hb_flush {s' : DS} {W : Nat} (hr : s'.r = rif r) (hhi : s'.hist = Hw hb) (hwr : s'.wr = W % 32768) (hrd : s'.rd = W % 32768) (hful : s'.full = (s.full || decide (W = 32768)))
 (htr : s'.toRead = .slice (some ⟨hb, s.rd, none⟩) (W - s.rd) (32768 - s.rd)) (hst : s'.step = .func (.func 89) #[] #[]) (herr : s'.err = .nilIface) (hro : s'.roff = i) (hex : s'.bits = pt bb 0 ∧ s'.cbits = pt cb 0 ∧ HOk s'.H)
 (hw : Win hist W s.full h) (h1 : s.rd ≤ W) (h2 : s.rd < 32768) (hun : ∃ un, h = del ++ un ∧ un.length = W - s.rd) (hil : i ≤ (pack B).length)
 (hss : s'.ss = 0 ∧ mu = 1000 * (B.length - k) + 1 ∨ s'.ss = 1 ∧ s'.cl ≤ 258 ∧ 1 ≤ s'.cd ∧ s'.cd ≤ h.length ∧ s'.cd ≤ 32768 ∧ mu = 1000 * (B.length - k) + 2 + s'.cl) (hk : Held B k i s'.b s'.nb) (hnb : s'.nb ≤ ls.getD 256 0 + 7)
 (ht : HTail ls ds s'.final k (B.drop k) (if s'.ss = 0 then h else copyM h s'.cd s'.cl) hF) (hmu : mu < mu0) (htb : ∀ m, SatL m TB → Tbs f s'.hl s'.hd s'.H ls ds m)
 (hS : Sat G w (blk f 1054 (D s') :: Br r B i :: blk hb 32768 (fun j => u8 (hist j)) :: (TB ++ R))) : Sat G w (RSA true bb cb f r hb B hF (.iface 187 (.pointer (some ea))) del (· < mu0) :: R) := by
 obtain ⟨un, e1, e2⟩ := hun
 subst e1
 refine RS.toA ⟨s', i, hist, del ++ un, un, [], ⟨hr, hhi, by rw [hwr, hful]; exact hw.flush, by rw [hwr, hrd]; exact Nat.le_refl _, by rw [hwr]; exact Nat.mod_lt _ (by decide), hro, hil, hex, hss.imp (fun h => h.1) fun h => ⟨h.1, h.2.2.1, h.2.2.2.1, h.2.2.2.2.1⟩⟩, by rw [List.append_nil], ?_, ?_, .inl ⟨herr, mu, hmu, ?_⟩⟩
 ·
  rw [hwr, hrd, Nat.sub_self]; rfl
 ·
  refine .inr ⟨s.rd, 32768 - s.rd, by rw [htr, e2], ?_, ?_, hw.tail h1 e2⟩
  ·
   have := hw.1; omega
  have := hw.1; omega
 have h3 : Sat G w (sep TB :: blk f 1054 (D s') :: Br r B i :: blk hb 32768 (fun j => u8 (hist j)) :: R) := by
  refine Sat.resep (Ls := TB) (hS.perm ?_)
  exact (List.perm_append_comm_assoc [blk f 1054 (D s'), Br r B i, blk hb 32768 (fun j => u8 (hist j))] TB R)
 exact (h3.imp fun m hm => .huff hst hss hk hnb ht (htb m hm)).perm (List.perm_middle (l₁ := [blk f 1054 (D s'), Br r B i, blk hb 32768 (fun j => u8 (hist j))])).symm
theorem hb_err {s' : DS} {z : Int} (hr : s'.r = rif r) (hhi : s'.hist = Hw hb) (htr : TR hb hist s'.toRead []) (herr : s'.err = .iface 121 (.int .i64 z)) (hro : s'.roff = i)
 (hex : s'.bits = pt bb 0 ∧ s'.cbits = pt cb 0 ∧ HOk s'.H) (hw : Win hist s'.wr s'.full h) (h1 : s'.rd ≤ s'.wr) (h2 : s'.wr < 32768) (hun : ∃ un, h = del ++ un ∧ un.length = s'.wr - s'.rd) (hil : i ≤ (pack B).length)
 (hsd : SSd s' h) (he : hF = (h, false)) (hS : Sat G w (blk f 1054 (D s') :: Br r B i :: blk hb 32768 (fun j => u8 (hist j)) :: (TB ++ R))) : Sat G w (RSA true bb cb f r hb B hF (.iface 187 (.pointer (some ea))) del (· < mu0) :: R) := by
 obtain ⟨un, e1, e2⟩ := hun
 subst e1 he
 refine RS.toA ⟨s', i, hist, del ++ un, [], un, ⟨hr, hhi, hw, h1, h2, hro, hil, hex, hsd⟩, rfl, e2, htr, .inr ⟨.inr ⟨rfl, z, herr⟩, rfl, .inr ⟨rfl, rfl⟩, ?_⟩⟩
 have h3 : Sat G w (sep TB :: blk f 1054 (D s') :: Br r B i :: blk hb 32768 (fun j => u8 (hist j)) :: R) := by
  refine Sat.resep (Ls := TB) (hS.perm ?_)
  exact (List.perm_append_comm_assoc [blk f 1054 (D s'), Br r B i, blk hb 32768 (fun j => u8 (hist j))] TB R)
 exact h3.tail
theorem hb_fin {s' : DS} (hr : s'.r = rif r) (hhi : s'.hist = Hw hb) (htr : TR hb hist s'.toRead []) (herr : s'.err = .nilIface) (hro : s'.roff = i)
 (hex : s'.bits = pt bb 0 ∧ s'.cbits = pt cb 0 ∧ HOk s'.H) (hw : Win hist s'.wr s'.full h) (h1 : s'.rd ≤ s'.wr) (h2 : s'.wr < 32768) (hun : ∃ un, h = del ++ un ∧ un.length = s'.wr - s'.rd) (hil : i ≤ (pack B).length)
 (hsd : SSd s' h) (hz : s'.ss = 1 → s'.cl = 0) (hk : Held B k i s'.b s'.nb) (hnb : s'.nb ≤ 7) (ha : After s'.final k (B.drop k) h hF) (hmu : 1000 * (B.length - k) < mu0)
 (hS : Sat G w (blk f 1054 (D (finS s' hb (.iface 187 (.pointer (some ea))))) :: Br r B i :: blk hb 32768 (fun j => u8 (hist j)) :: (TB ++ R))) : Sat G w (RSA true bb cb f r hb B hF (.iface 187 (.pointer (some ea))) del (· < mu0) :: R) := by
 obtain ⟨un, e1, e2⟩ := hun
 subst e1
 have hS' : Sat G w (blk f 1054 (D (finS s' hb (.iface 187 (.pointer (some ea))))) :: Br r B i :: blk hb 32768 (fun j => u8 (hist j)) :: R) := by
  have h3 : Sat G w (sep TB :: blk f 1054 (D (finS s' hb (.iface 187 (.pointer (some ea))))) :: Br r B i :: blk hb 32768 (fun j => u8 (hist j)) :: R) := by
   refine Sat.resep (Ls := TB) (hS.perm ?_)
   exact (List.perm_append_comm_assoc [blk f 1054 (D (finS s' hb (.iface 187 (.pointer (some ea))))), Br r B i, blk hb 32768 (fun j => u8 (hist j))] TB R)
  exact h3.tail
 cases hfin : s'.final with
 | false =>
  rw [show finS _ hb _ = _ from if_neg (by simp [hfin])] at hS'
  obtain ⟨st, tail, e3, e4⟩ := ha.2 hfin
  refine RS.toA ⟨{ s' with step := .func (.func 68) #[] #[] }, i, hist, del ++ un, [], un, ⟨hr, hhi, hw, h1, h2, hro, hil, hex, hsd.mono (Nat.le_refl _)⟩, rfl, e2, htr, .inl ⟨herr, 1000 * (B.length - k), hmu, plEmp ?_ hS'⟩⟩
  intro m'
  exact .blk (k := k) (st := st) (tail := tail) rfl hnb hk e3 e4 rfl hz
 | true =>
  rw [show finS _ hb _ = _ from if_pos (by simp [hfin])] at hS'
  obtain ⟨e3, e4⟩ := ha.1 hfin
  by_cases hlt : s'.rd < s'.wr
  ·
   rw [if_pos hlt] at hS'
   refine RS.toA ⟨{ s' with toRead := .slice (some ⟨hb, s'.rd, none⟩) (s'.wr - s'.rd) (32768 - s'.rd), wr := s'.wr % 32768, rd := s'.wr % 32768, full := s'.full || decide (s'.wr = 32768), err := .iface 187 (.pointer (some ea)), step := .func (.func 68) #[] #[] }, i, hist, del ++ un, un, [], ⟨hr, hhi, hw.flush, Nat.le_refl _, Nat.mod_lt _ (by decide), hro, hil, hex, hsd.mono (Nat.le_refl _)⟩, by rw [List.append_nil], (Nat.sub_self _).symm, ?_, .inr ⟨.inl ⟨e4, rfl⟩, e3, .inl rfl, hS'⟩⟩
   refine .inr ⟨s'.rd, 32768 - s'.rd, ?_, ?_, ?_, hw.tail h1 e2⟩
   ·
    show Value.slice _ _ _ = _; rw [e2]
   ·
    omega
   omega
  rw [if_neg hlt] at hS'
  have e0 : un = [] := List.length_eq_zero_iff.1 (by omega)
  exact RS.toA ⟨{ s' with err := .iface 187 (.pointer (some ea)), step := .func (.func 68) #[] #[] }, i, hist, del ++ un, [], un, ⟨hr, hhi, hw, h1, h2, hro, hil, hex, hsd.mono (Nat.le_refl _)⟩, rfl, e2, htr, .inr ⟨.inl ⟨e4, rfl⟩, e3, .inl e0, hS'⟩⟩
end
theorem D_H (s : DS) {j : Nat} (h : j < 1030) : D s (5 + j) = s.H j := by
 unfold D dfun
 rw [if_neg (by omega), if_pos (by omega), Nat.add_sub_cancel_left]
theorem trd_fix {f tb : Nat} {H T : Nat → Value} : TRd f H (blk tb 515 T) tb 0 T := fun s' e m m2 hS j hj => by rw [Nat.zero_add]; exact hS.cell m2 hj
theorem trd_h1 {f : Nat} {H : Nat → Value} {A : HProp} : TRd f H A f 5 H := fun s' e m m2 hS j hj => (hS.cell m (by omega)).trans (congrArg some ((D_H s' (by omega)).trans (congrFun e j)))
theorem trd_h2 {f : Nat} {H : Nat → Value} {A : HProp} : TRd f H A f 520 (fun j => H (515 + j)) := fun s' e m m2 hS j hj => by
 have := (hS.cell m (i := 5 + (515 + j)) (by omega)).trans (congrArg some ((D_H s' (by omega)).trans (congrFun e (515 + j))))
 rw [show 5 + (515 + j) = 520 + j by omega] at this
 exact this
theorem t117 {f hb : Nat} {s : DS} {hist : Nat → Nat} {d n : Nat} {h : List Nat} (hr : s.hist = Hw hb) (H : Win hist s.wr s.full h) (hw : s.wr < 32768) (hd : 1 ≤ d) (hdl : d ≤ h.length) (hd2 : d ≤ 32768) (hn : n ≤ 258) {G : World} {R : List HProp} {w : World}
 (hS : Sat G w (blk f 1054 (D s) :: blk hb 32768 (fun j => u8 (hist j)) :: R)) :
 CallsR Tryz.prog 117 #[pt f 1037, i64 d, i64 n] w (fun v w' => (v = i64 0 ∧ Sat G w' (blk f 1054 (D s) :: blk hb 32768 (fun j => u8 (hist j)) :: R)) ∨
  (v = i64 n ∧ 0 < n ∧ s.wr + n ≤ 32768 ∧ Sat G w' (blk f 1054 (D { s with wr := s.wr + n }) :: blk hb 32768 (fun j => u8 (updh hist s.wr (xsM h d n) j)) :: R))) := by
 have hs : { s with hist := Hw hb } = s := by cases s; simp_all
 by_cases hc : d ≤ s.wr ∧ s.wr + n ≤ 32768
 ·
  refine (t117_yes f hb s hist d n h H hw hd hdl hd2 hn hc.1 hc.2 (hS.D hs.symm)).mono fun v w' ⟨e, hS'⟩ => ?_
  by_cases h0 : n = 0
  ·
   subst h0
   refine .inl ⟨e, ?_⟩
   rw [show xsM h d 0 = [] from List.length_eq_zero_iff.1 (xsM_length h d 0), updh_nil] at hS'
   exact hS'.D (by cases s; simp_all)
  exact .inr ⟨e, by omega, hc.2, hS'.D (by cases s; simp_all)⟩
 exact (t117_no f hb s hist d n h H hw hd hdl hd2 hn (by omega) (hS.D hs.symm)).mono fun v w' ⟨e, hS'⟩ => .inl ⟨e, hS'.D (by cases s; simp_all)⟩
end Go.Eng
namespace Go.Eng
open Go Go.Proofs Go.Infl
def NB (E need n : Nat) : Prop := n ≤ max E need + 7
theorem NB.of {E need n : Nat} (h : n ≤ E + 7) : NB E need n := by unfold NB; omega
theorem NB.more {E need n : Nat} (_ : NB E need n) (h : n < need) : NB E need (n + 8) := by unfold NB; omega
theorem NB.take {E need n : Nat} (h : NB E need n) : n - need ≤ E + 7 := by unfold NB at h; omega
theorem NB.le {E need n : Nat} (h : NB E need n) (h1 : E ≤ 15) (h2 : need ≤ 15) : n ≤ 22 := by unfold NB at h; omega
theorem sym_nb {n L nb E : Nat} (h : n + L ≤ max nb (max E L + 7)) (h1 : nb ≤ E + 7) (h2 : 1 ≤ L) : n ≤ E + 7 := by omega
theorem sym_nb0 {n nb E : Nat} (h : n + E ≤ max nb (max E E + 7)) (h1 : nb ≤ E + 7) : n ≤ 7 := by omega
theorem sym_nbd {n L nb E mn : Nat} (h : n + L ≤ max nb (max mn L + 7)) (h1 : nb ≤ E + 7) (h2 : mn ≤ L) (h3 : 1 ≤ L) : n ≤ E + 7 := by omega
theorem byte_ok {B : List Bool} {k i b n need : Nat} (H : Held B k i b n) (h : n < need) (h2 : k + need ≤ B.length) : 8 * i < B.length ∧ i + 1 ≤ (pack B).length := by
 have := H.1
 rw [pack_length]
 omega
theorem far_ok {hist : Nat → Nat} {wr d : Nat} {full : Bool} {h : List Nat} (H : Win hist wr full h) (h1 : d ≤ h.length) (h2 : d ≤ 32768) : ¬ (if full = true then 32768 else wr) < d := by
 obtain ⟨_, a, b, _⟩ := H
 cases full with
 | false => have := a rfl; simp; omega
 | true => simp; omega
theorem far_bad {hist : Nat → Nat} {wr d : Nat} {full : Bool} {h : List Nat} (H : Win hist wr full h) (h1 : h.length < d) (h2 : d ≤ 32768) : (if full = true then 32768 else wr) < d := by
 obtain ⟨_, a, b, _⟩ := H
 cases full with
 | false => have := a rfl; simp; omega
 | true => have := b rfl; omega
theorem sep_pure {p : Prop} {m : PH} {L : List HProp} (hp : p) (h : SatL m L) : sep (hpure p :: L) m := ⟨fun _ => none, hp, fun _ _ e => (by cases e), SatL.mono (fun b o hb => by simpa [PH.sub] using hb) h⟩
theorem un_app {h del xs : List Nat} {wr rd n : Nat} (h1 : ∃ un, h = del ++ un ∧ un.length = wr - rd) (h2 : xs.length = n) (h3 : rd ≤ wr) : ∃ un, h ++ xs = del ++ un ∧ un.length = wr + n - rd := by
 obtain ⟨un, e1, e2⟩ := h1
 exact ⟨un ++ xs, by rw [e1, List.append_assoc], by rw [List.length_append, e2, h2]; omega⟩
theorem copyM_add {h : List Nat} {d m : Nat} : ∀ {n}, copyM (copyM h d m) d n = copyM h d (m + n)
 | 0 => rfl
 | n + 1 => by rw [copyM, copyM_add (n := n)]; rfl
theorem rv5b : ∀ c, c < 32 → rv 8 (rv 5 c * 2 ^ 3) = c := by decide +kernel
theorem t89_F {G : World} {R : List HProp} {w : World} {bb cb f r hb i k : Nat} {B : List Bool} {hF : List Nat × Bool} {del un ls ds : List Nat} {ea : Addr} {s : DS} {hist : Nat → Nat} {mu0 : Nat} (hE : EOFIs G ea) (hBl : B.length < 1099511627776) (H : Base bb cb r hb B s i hist (del ++ un)) (htr : TR hb hist s.toRead []) (herr : s.err = .nilIface) (h256 : LOk ls 256) {tb : Nat} {T : Nat → Value} {t : TD} (hhl : s.hl = pt tb 0) (hhd : s.hd = .pointer none) (hls : ls = fixLit) (hds : ds = fixDist) (ht : TDok ls t T) (hmn : t.mn = ls.getD 256 0)
 (hent : (s.ss = 0 ∧ HI0 B hF del s ls ds mu0 ⟨i, s.b, s.nb, s.wr, k, s.cl, s.cd, hist, del ++ un⟩) ∨ (s.ss = 1 ∧ HI1 B hF del s ls ds mu0 ⟨i, s.b, s.nb, s.wr, k, s.cl, s.cd, hist, del ++ un⟩))
 (hS : Sat G w (blk f 1054 (D s) :: Br r B i :: blk hb 32768 (fun j => u8 (hist j)) :: blk tb 515 T :: Lnks t :: R)) : CallsR Tryz.prog 89 #[pt f 0] w (fun _ w' => Sat G w' (RSA true bb cb f r hb B hF (.iface 187 (.pointer (some ea))) del (· < mu0) :: R)) := by
 have hs : s = { s with r := rif r, roff := i, hist := Hw hb, err := .nilIface, hl := pt tb 0, hd := .pointer none } := by have h5 := H.r_; have h6 := H.hi; have h7 := H.ro; cases s; simp_all
 replace hS := hS.D hs
 refine calls_in (n := 362) [(0, (pt f 0))] Tryz.func89 rfl rfl hS args1 ?_
 refine CT.scopeJ (X := HX) (fun gx => [(0, (pt f 0))]) (fun gx => [(0, (pt f 0))]) (fun gx => (blk f 1054 (D { s with r := rif r, roff := gx.i, b := gx.b, nb := gx.nb, hist := Hw hb, wr := gx.wr, err := .nilIface, hl := pt tb 0, hd := .pointer none, cl := gx.cl, cd := gx.cd })) :: Br r B gx.i :: blk hb 32768 (fun jj => u8 (gx.hist jj)) :: blk tb 515 T :: Lnks t :: R) (fun gx => (blk f 1054 (D { s with r := rif r, roff := gx.i, b := gx.b, nb := gx.nb, hist := Hw hb, wr := gx.wr, err := .nilIface, hl := pt tb 0, hd := .pointer none, cl := gx.cl, cd := gx.cd })) :: Br r B gx.i :: blk hb 32768 (fun jj => u8 (gx.hist jj)) :: blk tb 515 T :: Lnks t :: R) (HI0 B hF del s ls ds mu0) (HI1 B hF del s ls ds mu0) (fun gx => 2 * (B.length - gx.k)) (fun gx => 2 * (B.length - gx.k) + 1) (by rfl) (by rfl) ?_ ?_ ?_
 ·
  refine CT.seq (CT.seq ?_)
  rcases hent with ⟨hss, hx⟩ | ⟨hss, hx⟩
  ·
   refine CT.fold (A' := (blk f 1054 (D { s with r := rif r, roff := i, hist := Hw hb, ss := 0, err := .nilIface, hl := pt tb 0, hd := .pointer none }))) a0 (D_eq (by rw [← hss])) (CT.region (TL.m m0 (TL.c m0 (TL.f 1046 fo_103_12 m0 (TL.val (r_ld (v := (.int .i64 0)) Tryz.isAgg3 m0 T0 (by decide) (Dget_ss _)) (TL.b (.hd .u3) (CT.block (CT.q (TL.val (show Run _ _ _ _ _ _ (.bool true) from n_eql 0 0 T0 .c rfl rfl) (TL.a m0 (TL.b (.hd .u1) (CT.ift m0 ?_))))))))))))
   exact CT.sub .u1 (CT.goto (EX.bgoto (EX.then_goto (EX.fold (A' := (blk f 1054 (D { s with r := rif r, roff := i, hist := Hw hb, err := .nilIface, hl := pt tb 0, hd := .pointer none }))) a0 (D_eq (by rw [hss])) (EX.jump0 (⟨i, s.b, s.nb, s.wr, k, s.cl, s.cd, hist, del ++ un⟩) hx trivial (.refl _) (.cons m1 .nil))))))
  refine CT.fold (A' := (blk f 1054 (D { s with r := rif r, roff := i, hist := Hw hb, ss := 1, err := .nilIface, hl := pt tb 0, hd := .pointer none }))) a0 (D_eq (by rw [← hss])) (CT.region (TL.m m0 (TL.c m0 (TL.f 1046 fo_103_12 m0 (TL.val (r_ld (v := (.int .i64 1)) Tryz.isAgg3 m0 T0 (by decide) (Dget_ss _)) (TL.b (.hd .u3) (CT.block (CT.q (TL.val (show Run _ _ _ _ _ _ (.bool false) from n_eql 1 0 T0 .c rfl rfl) (TL.a m0 (TL.b (.hd .u1) (CT.iff_ m0 ?_))))))))))))
  refine CT.y (TL.val (show Run _ _ _ _ _ _ (.bool true) from n_eql 1 1 T0 .c rfl rfl) (TL.a m0 (TL.b (.hd .u1) (CT.ift m0 ?_))))
  exact CT.sub .u1 (CT.goto (EX.bgoto (EX.then_goto (EX.fold (A' := (blk f 1054 (D { s with r := rif r, roff := i, hist := Hw hb, err := .nilIface, hl := pt tb 0, hd := .pointer none }))) a0 (D_eq (by rw [hss])) (EX.jump1 (⟨i, s.b, s.nb, s.wr, k, s.cl, s.cd, hist, del ++ un⟩) hx trivial (.refl _) (.cons m1 .nil))))))
 ·
  intro x hx
  show CT _ _ _ [(0, (pt f 0))] _ _ (blk f 1054 (D { s with r := rif r, roff := x.i, b := x.b, nb := x.nb, hist := Hw hb, wr := x.wr, err := .nilIface, hl := pt tb 0, hd := .pointer none, cl := x.cl, cd := x.cd }) :: Br r B x.i :: blk hb 32768 (fun jj => u8 (x.hist jj)) :: blk tb 515 T :: Lnks t :: R)
  refine CT.seq (CT.skip (EX.seq (CT.seq (CT.seq ?_))))
  obtain ⟨hstep, hlen⟩ := hx.tail.step
  have hnx := hstep.next
  clear hstep
  have hw := hx.win
  have hwl := hx.wl
  have hrw := hx.rw_
  have hnbl := hx.nbl
  have hmu := hx.mu
  have hheld := hx.held
  have hil := hx.il
  have hE15 := h256.2.2
  have hpB : (pack B).length < 9223372036854775807 := by rw [pack_length]; omega
  have hlb := List.length_drop (i := x.k) (l := B)
  have hnb22 : x.nb ≤ 22 := by omega
  generalize hbits : B.drop x.k = bits at hnx hlen hlb
  rw [← hmn] at hlen
  rcases hnx with @⟨y, rest, hok, hy, htl⟩ | @⟨rest, haf⟩ | @⟨y, rest, hy, hok, he⟩ | @⟨n, c, v, c2, rest, hla, hok, hok2, hda⟩
  ·
   have hmr := Nat.le_trans hlen (Nat.le_of_eq hlb)
   have hlk1 := hok.2.1; have hlk2 := hok.2.2
   rw [List.length_append, symB_length] at hlb
   have hkB : x.k + ls.getD y 0 ≤ B.length := by omega
   clear hlb hlen
   refine CT.region (TL.m m0 (TL.m m1 (TL.c m0 (TL.f 1050 fo_103_16 m0 (TL.val (r_ld (v := (pt tb 0)) Tryz.isAgg101 m0 T0 (by decide) (Dget_hl _)) (TL.perm p4 (TL.perm p4 (TL.perm p3 (TL.perm p3 (TL.call (r_call ce_112 (.cons T4 (.cons T0 .nil))) (fun w hS => t112 (s := { s with r := rif r, roff := x.i, b := x.b, nb := x.nb, hist := Hw hb, wr := x.wr, err := .nilIface, hl := pt tb 0, hd := .pointer none, cl := x.cl, cd := x.cd }) (k := y) (at_ := x.k) trd_fix ht hok hbits hheld hnb22 hmr hBl hil rfl rfl hS) ?_))))))))))
   rintro _ w24 ⟨i1, b1, n1, rfl, hk1, hn1, hil1, hS⟩
   refine TW.at hS ?_
   replace hn1 : n1 + ls.getD y 0 ≤ max x.nb (max t.mn (ls.getD y 0) + 7) := hn1
   rw [hmn] at hn1
   replace hn1 := sym_nb hn1 hnbl hlk1
   have hdr1 := drop_app hbits
   rw [symB_length] at hdr1
   clear hmr
   refine TL.m m0 (TL.val (r_ext T0) (TL.val (r_ext T1) (TL.a m1 (TL.a m1 (TL.b (.hd (.hd .u9)) (CT.seq (CT.q (TL.m m0 (TL.val (r_nen Tryz.underlying82 T0) (TL.b (.hd .u1) (CT.iff_ m0 ?_)))))))))))
   refine CT.z (EX.q (TL.val (r_asg .c) (TL.q (TL.val (r_asg .c) (TL.e (CT.seq (CT.block (CT.q (TL.m m3 (TL.val (n_lss y 256 T0 .c) (TL.a m0 (TL.b (.hd .u2) (CT.ifd m0 (fun c41 => ?_) (fun c41 => ?_))))))))))))))
   ·
    refine CT.y (TL.m m4 (TL.c m0 (TL.f 1037 fo_103_9 m0 (TL.m m6 (TL.val (n_conv y 256 ⟨_, Tryz.underlying3⟩ Tryz.underlying5 T0 rfl (by omega)) (TL.perm p4 (TL.perm p1 (TL.call (r_call ce_113 (.cons T2 (.cons T0 .nil))) (fun w hS => t113 f hb { s with r := rif r, roff := i1, b := b1, nb := n1, hist := Hw hb, wr := x.wr, err := .nilIface, hl := pt tb 0, hd := .pointer none, cl := x.cl, cd := x.cd } x.hist y (by show x.wr < 32768; omega) hS) ?_))))))))
    rintro _ w49 ⟨rfl, hS⟩
    refine TW.at hS ?_
    have hw1 := hw.write (xs := [y]) (by show x.wr + 1 ≤ 32768; omega)
    replace hw1 : Win (updh x.hist x.wr [y]) (x.wr + 1) s.full (x.h ++ [y]) := hw1
    have hun1 : ∃ un, x.h ++ [y] = del ++ un ∧ un.length = x.wr + 1 - s.rd := un_app hx.un rfl hrw
    refine TL.b .u6 (CT.seq (CT.q (TL.m m4 (TL.c m0 (TL.f 1037 fo_103_9 m0 (TL.call (r_call ce_114 (.cons T0 .nil)) (fun w hS => t114 f hb { s with r := rif r, roff := i1, b := b1, nb := n1, hist := Hw hb, wr := x.wr + 1, err := .nilIface, hl := pt tb 0, hd := .pointer none, cl := x.cl, cd := x.cd } (by show (x.wr + 1) ≤ 32768; omega) hS) ?_))))))
    rintro z53 w53 ⟨hz53, hS⟩
    replace hz53 : z53 = (i64 (32768 - (x.wr + 1))) := hz53
    subst hz53
    refine TW.at hS (TL.val (n_eql ((32768 - (x.wr + 1))) 0 T0 .c) (TL.b (.hd .u4) (CT.ifd m0 (fun c54 => ?_) (fun c54 => ?_))))
    ·
     refine CT.y (TL.m m4 (TL.m m5 (TL.c m0 (TL.f 1037 fo_103_9 m0 (TL.call (r_call ce_108 (.cons T0 .nil)) (fun w hS => t108 f hb { s with r := rif r, roff := i1, b := b1, nb := n1, hist := Hw hb, wr := x.wr + 1, err := .nilIface, hl := pt tb 0, hd := .pointer none, cl := x.cl, cd := x.cd } (by show s.rd ≤ (x.wr + 1); omega) (by show (x.wr + 1) ≤ 32768; omega) (by show s.rd < 32768; omega) hS) ?_)))))
     rintro z59 w59 ⟨hz59, hS⟩
     replace hz59 : z59 = (.slice (some ⟨hb, s.rd, none⟩) (((x.wr + 1) - s.rd)) ((32768 - s.rd))) := hz59
     subst hz59
     refine TW.at hS (TL.c m4 (TL.f 1049 fo_103_15 m0 (TL.s (r_st (F' := D { s with r := rif r, roff := i1, b := b1, nb := n1, hist := Hw hb, wr := (x.wr + 1) % 32768, rd := (x.wr + 1) % 32768, full := s.full || decide ((x.wr + 1) = 32768), err := .nilIface, toRead := .slice (some ⟨hb, s.rd, none⟩) (((x.wr + 1) - s.rd)) ((32768 - s.rd)), hl := pt tb 0, hd := .pointer none, cl := x.cl, cd := x.cd }) Tryz.sizeOf22 (Dsat_toRead (.slice (some ⟨hb, s.rd, none⟩) (((x.wr + 1) - s.rd)) ((32768 - s.rd)))) a0 T0 T2 (by decide)) (TL.r .u7 (TL.m m4 (TL.c m0 (TL.f 1045 fo_103_11 m0 (TL.s (r_st (F' := D { s with r := rif r, roff := i1, b := b1, nb := n1, hist := Hw hb, wr := (x.wr + 1) % 32768, rd := (x.wr + 1) % 32768, full := s.full || decide ((x.wr + 1) = 32768), step := .func (.func 89) #[] #[], err := .nilIface, toRead := .slice (some ⟨hb, s.rd, none⟩) (((x.wr + 1) - s.rd)) ((32768 - s.rd)), hl := pt tb 0, hd := .pointer none, cl := x.cl, cd := x.cd }) Tryz.sizeOf100 (Dsat_step (.func (.func 89) #[] #[])) a0 T0 .f (by decide)) (TL.r .u3 (TL.m m4 (TL.c m0 (TL.f 1046 fo_103_12 m0 (TL.s (r_st (F' := D { s with r := rif r, roff := i1, b := b1, nb := n1, hist := Hw hb, wr := (x.wr + 1) % 32768, rd := (x.wr + 1) % 32768, full := s.full || decide ((x.wr + 1) = 32768), step := .func (.func 89) #[] #[], ss := 0, err := .nilIface, toRead := .slice (some ⟨hb, s.rd, none⟩) (((x.wr + 1) - s.rd)) ((32768 - s.rd)), hl := pt tb 0, hd := .pointer none, cl := x.cl, cd := x.cd }) Tryz.sizeOf3 (Dsat_ss 0) a0 T0 .c (by decide)) (TL.b .u3 (CT.ret (EX.then_ret (EX.bret (EX.then_ret (EX.then_ret (EX.scope_ret ?_))))))))))))))))))))
     exact EX.perm p4 (EX.perm p4 (EX.perm p3 (EX.perm p4 (EX.perm p4 (EX.end_ (.inl rfl) (res0 Tryz.results89) (fun _ hS => hb_flush (s := s) (ea := ea) (R := R) (s' := { s with r := rif r, roff := i1, b := b1, nb := n1, hist := Hw hb, wr := (x.wr + 1) % 32768, rd := (x.wr + 1) % 32768, full := s.full || decide ((x.wr + 1) = 32768), step := .func (.func 89) #[] #[], ss := 0, err := .nilIface, toRead := .slice (some ⟨hb, s.rd, none⟩) (((x.wr + 1) - s.rd)) ((32768 - s.rd)), hl := pt tb 0, hd := .pointer none, cl := x.cl, cd := x.cd }) (W := x.wr + 1) (k := (x.k + ls.getD y 0)) (ls := ls) (ds := ds) (TB := [(blk tb 515 T), (Lnks t)]) rfl rfl rfl rfl rfl rfl rfl rfl rfl H.ex hw1 (by omega) (by omega) hun1 hil1 (.inl ⟨rfl, rfl⟩) hk1 hn1 (by rw [if_pos rfl, hdr1]; exact htl) (by omega) (fun m hm => ⟨h256, .inl ⟨(tb, T, t), sep_pure ⟨rfl, rfl, hls, hds, ht, hmn⟩ hm⟩⟩) hS))))))
    exact CT.z (EX.seq (CT.goto (EX.bgoto (EX.then_goto (EX.then_goto (EX.perm p4 (EX.perm p4 (EX.perm p3 (EX.perm p4 (EX.perm p4 (EX.jump0 (⟨i1, b1, n1, (x.wr + 1), (x.k + ls.getD y 0), x.cl, x.cd, (updh x.hist x.wr [y]), (x.h ++ [y])⟩) (⟨⟨hw1, by show s.rd ≤ x.wr + 1; omega, by show x.wr + 1 < 32768; omega, hk1, hn1, hun1, hil1, hx.s01⟩, by show HTail ls ds s.final (x.k + ls.getD y 0) (B.drop (x.k + ls.getD y 0)) (x.h ++ [y]) hF; rw [hdr1]; exact htl, by show 1000 * (B.length - (x.k + ls.getD y 0)) + 1 ≤ mu0; omega, fun e => by have := hx.z e; show x.cl = 0 ∧ 1 ≤ x.cd ∧ x.cd ≤ (x.h ++ [y]).length ∧ x.cd ≤ 32768; rw [List.length_append]; omega⟩) (by show 2 * (B.length - (x.k + ls.getD y 0)) < 2 * (B.length - x.k); omega) (.refl _) (.cons m4 .nil))))))))))))
   exfalso; omega
  ·
   have hmr := Nat.le_trans hlen (Nat.le_of_eq hlb)
   have hok := h256
   have hlk1 := hok.2.1; have hlk2 := hok.2.2
   rw [List.length_append, symB_length] at hlb
   have hkB : x.k + ls.getD 256 0 ≤ B.length := by omega
   clear hlb hlen
   refine CT.region (TL.m m0 (TL.m m1 (TL.c m0 (TL.f 1050 fo_103_16 m0 (TL.val (r_ld (v := (pt tb 0)) Tryz.isAgg101 m0 T0 (by decide) (Dget_hl _)) (TL.perm p4 (TL.perm p4 (TL.perm p3 (TL.perm p3 (TL.call (r_call ce_112 (.cons T4 (.cons T0 .nil))) (fun w hS => t112 (s := { s with r := rif r, roff := x.i, b := x.b, nb := x.nb, hist := Hw hb, wr := x.wr, err := .nilIface, hl := pt tb 0, hd := .pointer none, cl := x.cl, cd := x.cd }) (k := 256) (at_ := x.k) trd_fix ht hok hbits hheld hnb22 hmr hBl hil rfl rfl hS) ?_))))))))))
   rintro _ w24 ⟨i1, b1, n1, rfl, hk1, hn1, hil1, hS⟩
   refine TW.at hS ?_
   replace hn1 : n1 + ls.getD 256 0 ≤ max x.nb (max t.mn (ls.getD 256 0) + 7) := hn1
   rw [hmn] at hn1
   replace hn1 := sym_nb0 hn1 hnbl
   have hdr1 := drop_app hbits
   rw [symB_length] at hdr1
   clear hmr
   refine TL.m m0 (TL.val (r_ext T0) (TL.val (r_ext T1) (TL.a m1 (TL.a m1 (TL.b (.hd (.hd .u9)) (CT.seq (CT.q (TL.m m0 (TL.val (r_nen Tryz.underlying82 T0) (TL.b (.hd .u1) (CT.iff_ m0 ?_)))))))))))
   refine CT.z (EX.q (TL.val (r_asg .c) (TL.q (TL.val (r_asg .c) (TL.e (CT.seq (CT.block (CT.q (TL.m m3 (TL.val (show Run _ _ _ _ _ _ (.bool false) from n_lss 256 256 T0 .c rfl rfl) (TL.a m0 (TL.b (.hd .u2) (CT.iff_ m0 ?_)))))))))))))
   refine CT.y (TL.m m3 (TL.val (show Run _ _ _ _ _ _ (.bool true) from n_eql 256 256 T0 .c rfl rfl) (TL.a m0 (TL.b (.hd .u2) (CT.ift m0 ?_)))))
   refine CT.y (TL.m m4 (TL.call (r_call ce_109 (.cons T0 .nil)) (fun w hS => t109 f hb { s with r := rif r, roff := i1, b := b1, nb := n1, hist := Hw hb, wr := x.wr, err := .nilIface, hl := pt tb 0, hd := .pointer none, cl := x.cl, cd := x.cd } (by show s.rd ≤ x.wr; omega) (by show x.wr < 32768; omega) hE hS) ?_))
   rintro _ w72 ⟨rfl, hS⟩
   refine TW.at hS (TL.b .u2 (CT.ret (EX.bret (EX.then_ret (EX.then_ret (EX.scope_ret ?_))))))
   exact EX.perm p3 (EX.perm p3 (EX.perm p4 (EX.perm p4 (EX.perm p4 (EX.end_ (.inl rfl) (res0 Tryz.results89) (fun _ hS => hb_fin (ea := ea) (R := R) (s' := { s with r := rif r, roff := i1, b := b1, nb := n1, hist := Hw hb, wr := x.wr, err := .nilIface, hl := pt tb 0, hd := .pointer none, cl := x.cl, cd := x.cd }) (k := x.k + ls.getD 256 0) (TB := [(blk tb 515 T), (Lnks t)]) rfl rfl htr.nil rfl rfl H.ex hw hrw hwl hx.un hil1 hx.sd hx.cl0 hk1 hn1 (by rw [hdr1]; exact haf) (by omega) hS))))))
  ·
   have hmr := Nat.le_trans hlen (Nat.le_of_eq hlb)
   have hlk1 := hok.2.1; have hlk2 := hok.2.2
   rw [List.length_append, symB_length] at hlb
   have hkB : x.k + ls.getD y 0 ≤ B.length := by omega
   clear hlb hlen
   refine CT.region (TL.m m0 (TL.m m1 (TL.c m0 (TL.f 1050 fo_103_16 m0 (TL.val (r_ld (v := (pt tb 0)) Tryz.isAgg101 m0 T0 (by decide) (Dget_hl _)) (TL.perm p4 (TL.perm p4 (TL.perm p3 (TL.perm p3 (TL.call (r_call ce_112 (.cons T4 (.cons T0 .nil))) (fun w hS => t112 (s := { s with r := rif r, roff := x.i, b := x.b, nb := x.nb, hist := Hw hb, wr := x.wr, err := .nilIface, hl := pt tb 0, hd := .pointer none, cl := x.cl, cd := x.cd }) (k := y) (at_ := x.k) trd_fix ht hok hbits hheld hnb22 hmr hBl hil rfl rfl hS) ?_))))))))))
   rintro _ w24 ⟨i1, b1, n1, rfl, hk1, hn1, hil1, hS⟩
   refine TW.at hS ?_
   replace hn1 : n1 + ls.getD y 0 ≤ max x.nb (max t.mn (ls.getD y 0) + 7) := hn1
   rw [hmn] at hn1
   replace hn1 := sym_nb hn1 hnbl hlk1
   have hdr1 := drop_app hbits
   rw [symB_length] at hdr1
   clear hmr
   refine TL.m m0 (TL.val (r_ext T0) (TL.val (r_ext T1) (TL.a m1 (TL.a m1 (TL.b (.hd (.hd .u9)) (CT.seq (CT.q (TL.m m0 (TL.val (r_nen Tryz.underlying82 T0) (TL.b (.hd .u1) (CT.iff_ m0 ?_)))))))))))
   refine CT.z (EX.q (TL.val (r_asg .c) (TL.q (TL.val (r_asg .c) (TL.e (CT.seq (CT.block (CT.q (TL.m m3 (TL.val (n_lss y 256 T0 .c) (TL.a m0 (TL.b (.hd .u2) (CT.ifd m0 (fun c41 => ?_) (fun c41 => ?_))))))))))))))
   ·
    exfalso; omega
   refine CT.y (TL.m m3 (TL.val (n_eql y 256 T0 .c) (TL.a m0 (TL.b (.hd .u2) (CT.ifd m0 (fun c68 => ?_) (fun c68 => ?_))))))
   ·
    exfalso; omega
   refine CT.y (TL.m m3 (TL.val (n_lss y 265 T0 .c) (TL.a m0 (TL.b (.hd .u2) (CT.ifd m0 (fun c73 => ?_) (fun c73 => ?_))))))
   ·
    exfalso; omega
   refine CT.y (TL.m m3 (TL.val (n_lss y 269 T0 .c) (TL.a m0 (TL.b (.hd .u2) (CT.ifd m0 (fun c78 => ?_) (fun c78 => ?_))))))
   ·
    exfalso; omega
   refine CT.y (TL.m m3 (TL.val (n_lss y 273 T0 .c) (TL.a m0 (TL.b (.hd .u2) (CT.ifd m0 (fun c84 => ?_) (fun c84 => ?_))))))
   ·
    exfalso; omega
   refine CT.y (TL.m m3 (TL.val (n_lss y 277 T0 .c) (TL.a m0 (TL.b (.hd .u2) (CT.ifd m0 (fun c90 => ?_) (fun c90 => ?_))))))
   ·
    exfalso; omega
   refine CT.y (TL.m m3 (TL.val (n_lss y 281 T0 .c) (TL.a m0 (TL.b (.hd .u2) (CT.ifd m0 (fun c96 => ?_) (fun c96 => ?_))))))
   ·
    exfalso; omega
   refine CT.y (TL.m m3 (TL.val (n_lss y 285 T0 .c) (TL.a m0 (TL.b (.hd .u2) (CT.ifd m0 (fun c102 => ?_) (fun c102 => ?_))))))
   ·
    exfalso; omega
   refine CT.y (TL.m m3 (TL.val (n_lss y 286 T0 .c) (TL.a m0 (TL.b (.hd .u2) (CT.ifd m0 (fun c108 => ?_) (fun c108 => ?_))))))
   ·
    exfalso; omega
   refine CT.y (TL.m m4 (TL.m m5 (TL.c m0 (TL.f 2 fo_103_2 m0 (TL.val (r_ld (v := (i64 i1)) Tryz.isAgg2 m0 T0 (by decide) (Dget_roff _)) (TL.val (r_mki Tryz.underlying121 T0) (TL.c m5 (TL.f 1048 fo_103_14 m0 (TL.s (r_st (F' := D { s with r := rif r, roff := i1, b := b1, nb := n1, hist := Hw hb, wr := x.wr, err := .iface 121 (i64 i1), hl := pt tb 0, hd := .pointer none, cl := x.cl, cd := x.cd }) Tryz.sizeOf82 (Dsat_err (.iface 121 (i64 i1))) a0 T0 T2 (by decide)) (TL.b .u8 (CT.ret (EX.bret (EX.then_ret (EX.then_ret (EX.scope_ret ?_)))))))))))))))
   exact EX.perm p3 (EX.perm p3 (EX.perm p4 (EX.perm p4 (EX.perm p4 (EX.end_ (.inl rfl) (res0 Tryz.results89) (fun _ hS => hb_err (ea := ea) (R := R) (s' := { s with r := rif r, roff := i1, b := b1, nb := n1, hist := Hw hb, wr := x.wr, err := .iface 121 (i64 i1), hl := pt tb 0, hd := .pointer none, cl := x.cl, cd := x.cd }) (TB := [(blk tb 515 T), (Lnks t)]) rfl rfl htr.nil rfl rfl H.ex hw hrw hwl hx.un hil1 hx.sd he hS))))))
  have hmr := Nat.le_trans hlen (Nat.le_of_eq hlb)
  have hlk1 := hok.2.1; have hlk2 := hok.2.2
  simp only [List.length_append, symB_length, nbits_length] at hlb
  have hkB : x.k + ls.getD c 0 + lenExtra c + ds.getD c2 0 + rest.length ≤ B.length := by omega
  have hc1 := hla.1
  have hc2 := hla.2.1
  have hv := hla.2.2.2.1
  have hnn := hla.2.2.1
  have hle := lenExtra_le c hc2
  have hlm := len_max hla
  have hp6 : 2 ^ lenExtra c ≤ 2 ^ 6 := Nat.pow_le_pow_right (by decide) hle
  clear hlb hlen
  refine CT.region (TL.m m0 (TL.m m1 (TL.c m0 (TL.f 1050 fo_103_16 m0 (TL.val (r_ld (v := (pt tb 0)) Tryz.isAgg101 m0 T0 (by decide) (Dget_hl _)) (TL.perm p4 (TL.perm p4 (TL.perm p3 (TL.perm p3 (TL.call (r_call ce_112 (.cons T4 (.cons T0 .nil))) (fun w hS => t112 (s := { s with r := rif r, roff := x.i, b := x.b, nb := x.nb, hist := Hw hb, wr := x.wr, err := .nilIface, hl := pt tb 0, hd := .pointer none, cl := x.cl, cd := x.cd }) (k := c) (at_ := x.k) trd_fix ht hok hbits hheld hnb22 hmr hBl hil rfl rfl hS) ?_))))))))))
  rintro _ w24 ⟨i1, b1, n1, rfl, hk1, hn1, hil1, hS⟩
  refine TW.at hS ?_
  replace hn1 : n1 + ls.getD c 0 ≤ max x.nb (max t.mn (ls.getD c 0) + 7) := hn1
  rw [hmn] at hn1
  replace hn1 := sym_nb hn1 hnbl hlk1
  have hdr1 := drop_app hbits
  rw [symB_length] at hdr1
  clear hmr
  refine TL.m m0 (TL.val (r_ext T0) (TL.val (r_ext T1) (TL.a m1 (TL.a m1 (TL.b (.hd (.hd .u9)) (CT.seq (CT.q (TL.m m0 (TL.val (r_nen Tryz.underlying82 T0) (TL.b (.hd .u1) (CT.iff_ m0 ?_)))))))))))
  refine CT.z (EX.q (TL.val (r_asg .c) (TL.q (TL.val (r_asg .c) (TL.e (CT.cut (X := Unit) (fun gx => [(5, (i64 (lenBase c))), (4, (u64 (lenExtra c))), (3, .nilIface), (2, (i64 c)), (0, (pt f 0))]) (fun gx => (blk f 1054 (D { s with r := rif r, roff := i1, b := b1, nb := n1, hist := Hw hb, wr := x.wr, err := .nilIface, hl := pt tb 0, hd := .pointer none, cl := x.cl, cd := x.cd })) :: Br r B i1 :: blk hb 32768 (fun jj => u8 (x.hist jj)) :: blk tb 515 T :: Lnks t :: R) (fun gx => True) ?_ ?_))))))
  ·
   refine CT.block (CT.q (TL.m m3 (TL.val (n_lss c 256 T0 .c) (TL.a m0 (TL.b (.hd .u2) (CT.ifd m0 (fun c41 => ?_) (fun c41 => ?_)))))))
   ·
    exfalso; omega
   refine CT.y (TL.m m3 (TL.val (n_eql c 256 T0 .c) (TL.a m0 (TL.b (.hd .u2) (CT.ifd m0 (fun c68 => ?_) (fun c68 => ?_))))))
   ·
    exfalso; omega
   refine CT.y (TL.m m3 (TL.val (n_lss c 265 T0 .c) (TL.a m0 (TL.b (.hd .u2) (CT.ifd m0 (fun c73 => ?_) (fun c73 => ?_))))))
   ·
    have hq := (len_go hc1 hc2).1 c73
    exact CT.y (TL.m m3 (TL.val (n_sub c 254 9223372036854775808 T0 .c) (TL.rm .h2 (TL.a m0 (TL.b (.hd .u2) (CT.region (TL.rm .h1 (TL.val (r_asg .c) (TL.nil (EX.bnormal (EX.perm p3 (EX.perm p3 (EX.perm p4 (EX.perm p4 (EX.perm p4 (EX.meet () trivial (.refl _) (.eq m1 (congrArg (fun z : Nat => Value.int .i64 (z : Int)) (show ((c - 254) : Nat) = (lenBase c) by omega)) (.eq m0 (congrArg (fun z : Nat => Value.int .u64 (z : Int)) (show (0 : Nat) = (lenExtra c) by omega)) (.sl 2 3 rfl)))))))))))))))))))
   refine CT.y (TL.m m3 (TL.val (n_lss c 269 T0 .c) (TL.a m0 (TL.b (.hd .u2) (CT.ifd m0 (fun c78 => ?_) (fun c78 => ?_))))))
   ·
    have hq := (len_go hc1 hc2).2.1 (by omega) c78
    exact CT.y (TL.m m3 (TL.val (n_mul c 2 9223372036854775808 T0 .c) (TL.val (n_sub ((c * 2)) 519 9223372036854775808 T0 .c) (TL.rm .h3 (TL.a m0 (TL.b (.hd .u3) (CT.region (TL.rm .h1 (TL.val (r_asg .c) (TL.nil (EX.bnormal (EX.perm p3 (EX.perm p3 (EX.perm p4 (EX.perm p4 (EX.perm p4 (EX.meet () trivial (.refl _) (.eq m1 (congrArg (fun z : Nat => Value.int .i64 (z : Int)) (show (((c * 2) - 519) : Nat) = (lenBase c) by omega)) (.eq m0 (congrArg (fun z : Nat => Value.int .u64 (z : Int)) (show (1 : Nat) = (lenExtra c) by omega)) (.sl 2 3 rfl))))))))))))))))))))
   refine CT.y (TL.m m3 (TL.val (n_lss c 273 T0 .c) (TL.a m0 (TL.b (.hd .u2) (CT.ifd m0 (fun c84 => ?_) (fun c84 => ?_))))))
   ·
    have hq := (len_go hc1 hc2).2.2.1 (by omega) c84
    exact CT.y (TL.m m3 (TL.val (n_mul c 4 9223372036854775808 T0 .c) (TL.val (n_sub ((c * 4)) 1057 9223372036854775808 T0 .c) (TL.rm .h3 (TL.a m0 (TL.b (.hd .u3) (CT.region (TL.rm .h1 (TL.val (r_asg .c) (TL.nil (EX.bnormal (EX.perm p3 (EX.perm p3 (EX.perm p4 (EX.perm p4 (EX.perm p4 (EX.meet () trivial (.refl _) (.eq m1 (congrArg (fun z : Nat => Value.int .i64 (z : Int)) (show (((c * 4) - 1057) : Nat) = (lenBase c) by omega)) (.eq m0 (congrArg (fun z : Nat => Value.int .u64 (z : Int)) (show (2 : Nat) = (lenExtra c) by omega)) (.sl 2 3 rfl))))))))))))))))))))
   refine CT.y (TL.m m3 (TL.val (n_lss c 277 T0 .c) (TL.a m0 (TL.b (.hd .u2) (CT.ifd m0 (fun c90 => ?_) (fun c90 => ?_))))))
   ·
    have hq := (len_go hc1 hc2).2.2.2.1 (by omega) c90
    exact CT.y (TL.m m3 (TL.val (n_mul c 8 9223372036854775808 T0 .c) (TL.val (n_sub ((c * 8)) 2149 9223372036854775808 T0 .c) (TL.rm .h3 (TL.a m0 (TL.b (.hd .u3) (CT.region (TL.rm .h1 (TL.val (r_asg .c) (TL.nil (EX.bnormal (EX.perm p3 (EX.perm p3 (EX.perm p4 (EX.perm p4 (EX.perm p4 (EX.meet () trivial (.refl _) (.eq m1 (congrArg (fun z : Nat => Value.int .i64 (z : Int)) (show (((c * 8) - 2149) : Nat) = (lenBase c) by omega)) (.eq m0 (congrArg (fun z : Nat => Value.int .u64 (z : Int)) (show (3 : Nat) = (lenExtra c) by omega)) (.sl 2 3 rfl))))))))))))))))))))
   refine CT.y (TL.m m3 (TL.val (n_lss c 281 T0 .c) (TL.a m0 (TL.b (.hd .u2) (CT.ifd m0 (fun c96 => ?_) (fun c96 => ?_))))))
   ·
    have hq := (len_go hc1 hc2).2.2.2.2.1 (by omega) c96
    exact CT.y (TL.m m3 (TL.val (n_mul c 16 9223372036854775808 T0 .c) (TL.val (n_sub ((c * 16)) 4365 9223372036854775808 T0 .c) (TL.rm .h3 (TL.a m0 (TL.b (.hd .u3) (CT.region (TL.rm .h1 (TL.val (r_asg .c) (TL.nil (EX.bnormal (EX.perm p3 (EX.perm p3 (EX.perm p4 (EX.perm p4 (EX.perm p4 (EX.meet () trivial (.refl _) (.eq m1 (congrArg (fun z : Nat => Value.int .i64 (z : Int)) (show (((c * 16) - 4365) : Nat) = (lenBase c) by omega)) (.eq m0 (congrArg (fun z : Nat => Value.int .u64 (z : Int)) (show (4 : Nat) = (lenExtra c) by omega)) (.sl 2 3 rfl))))))))))))))))))))
   refine CT.y (TL.m m3 (TL.val (n_lss c 285 T0 .c) (TL.a m0 (TL.b (.hd .u2) (CT.ifd m0 (fun c102 => ?_) (fun c102 => ?_))))))
   ·
    have hq := (len_go hc1 hc2).2.2.2.2.2.1 (by omega) c102
    exact CT.y (TL.m m3 (TL.val (n_mul c 32 9223372036854775808 T0 .c) (TL.val (n_sub ((c * 32)) 8861 9223372036854775808 T0 .c) (TL.rm .h3 (TL.a m0 (TL.b (.hd .u3) (CT.region (TL.rm .h1 (TL.val (r_asg .c) (TL.nil (EX.bnormal (EX.perm p3 (EX.perm p3 (EX.perm p4 (EX.perm p4 (EX.perm p4 (EX.meet () trivial (.refl _) (.eq m1 (congrArg (fun z : Nat => Value.int .i64 (z : Int)) (show (((c * 32) - 8861) : Nat) = (lenBase c) by omega)) (.eq m0 (congrArg (fun z : Nat => Value.int .u64 (z : Int)) (show (5 : Nat) = (lenExtra c) by omega)) (.sl 2 3 rfl))))))))))))))))))))
   refine CT.y (TL.m m3 (TL.val (n_lss c 286 T0 .c) (TL.a m0 (TL.b (.hd .u2) (CT.ifd m0 (fun c108 => ?_) (fun c108 => ?_))))))
   ·
    have hq := (len_go hc1 hc2).2.2.2.2.2.2 (by omega)
    exact CT.y (TL.rm .here (TL.val (r_asg .c) (TL.e (CT.region (TL.rm .h1 (TL.val (r_asg .c) (TL.nil (EX.bnormal (EX.perm p3 (EX.perm p3 (EX.perm p4 (EX.perm p4 (EX.perm p4 (EX.meet () trivial (.refl _) (.eq m1 (congrArg (fun z : Nat => Value.int .i64 (z : Int)) (show (258 : Nat) = (lenBase c) by omega)) (.eq m0 (congrArg (fun z : Nat => Value.int .u64 (z : Int)) (show (0 : Nat) = (lenExtra c) by omega)) (.sl 2 3 rfl)))))))))))))))))
   exfalso; omega
  rintro ⟨⟩ -
  refine CT.cut (X := Nat × Nat × Nat) (fun gx => [(5, (i64 (lenBase c + v))), (4, (u64 (lenExtra c))), (2, (i64 c)), (0, (pt f 0))]) (fun gx => (blk f 1054 (D { s with r := rif r, roff := gx.1, b := gx.2.1, nb := gx.2.2, hist := Hw hb, wr := x.wr, err := .nilIface, hl := pt tb 0, hd := .pointer none, cl := x.cl, cd := x.cd })) :: Br r B gx.1 :: blk hb 32768 (fun jj => u8 (x.hist jj)) :: blk tb 515 T :: Lnks t :: R) (fun gx => Held B (x.k + ls.getD c 0 + lenExtra c) gx.1 gx.2.1 gx.2.2 ∧ gx.2.2 ≤ ls.getD 256 0 + 7 ∧ gx.1 ≤ (pack B).length) ?_ ?_
  ·
   refine CT.q (TL.m m1 (TL.val (n_gtr ((lenExtra c)) 0 T0 .c) (TL.b (.hd .u1) (CT.ifd m0 (fun c112 => ?_) (fun c112 => ?_)))))
   ·
    refine CT.sub .u1 (CT.seq (CT.block (CT.loop (X := Nat × Nat × Nat) (fun gx => [(5, (i64 (lenBase c))), (4, (u64 (lenExtra c))), (2, (i64 c)), (0, (pt f 0))]) (fun gx => (blk f 1054 (D { s with r := rif r, roff := gx.1, b := gx.2.1, nb := gx.2.2, hist := Hw hb, wr := x.wr, err := .nilIface, hl := pt tb 0, hd := .pointer none, cl := x.cl, cd := x.cd })) :: Br r B gx.1 :: blk hb 32768 (fun jj => u8 (x.hist jj)) :: blk tb 515 T :: Lnks t :: R) (fun gx => Held B (x.k + ls.getD c 0) gx.1 gx.2.1 gx.2.2 ∧ NB (ls.getD 256 0) (lenExtra c) gx.2.2 ∧ gx.1 ≤ (pack B).length) (fun gx => lenExtra c - gx.2.2) ((i1, b1, n1)) (⟨hk1, .of hn1, hil1⟩) (.refl _) (.cons m0 (.cons m1 (.cons m3 (.cons m4 .nil)))) ?_)))
    rintro ⟨i5, b5, n5⟩ ⟨hheld5, hnb5, hib5⟩
    replace hheld5 : Held B (x.k + ls.getD c 0) i5 b5 n5 := hheld5
    replace hnb5 : NB (ls.getD 256 0) (lenExtra c) n5 := hnb5
    replace hib5 : i5 ≤ (pack B).length := hib5
    have hn5b : n5 ≤ 22 := hnb5.le hE15 (by omega)
    have hb5 : b5 < 4294967296 := Nat.lt_of_lt_of_le hheld5.lt (Nat.pow_le_pow_right (by decide) (show n5 ≤ 32 from Nat.le_trans hn5b (by decide)))
    refine CT.seq (CT.q (TL.m m3 (TL.c m0 (TL.f 4 fo_103_4 m0 (TL.val (r_ld (v := (u64 n5)) Tryz.isAgg90 m0 T0 (by decide) (Dget_nb _)) (TL.m m5 (TL.val (n_lss n5 ((lenExtra c)) T1 T0) (TL.b (.hd .u5) (CT.ifd m0 (fun c118 => ?_) (fun c118 => ?_))))))))))
    ·
     have hlt5 : n5 < lenExtra c := by omega
     have hbyte5 := byte_ok hheld5 hlt5 (show x.k + ls.getD c 0 + lenExtra c ≤ B.length by omega)
     refine CT.z (EX.seq (CT.block (CT.q (TL.m m3 (TL.perm p1 (TL.perm p1 (TL.call (r_call ce_86 (.cons T0 .nil)) (fun w hS => t86 f r i5 B { s with r := rif r, roff := i5, b := b5, nb := n5, hist := Hw hb, wr := x.wr, err := .nilIface, hl := pt tb 0, hd := .pointer none, cl := x.cl, cd := x.cd } hbyte5.2 (by omega) (by show i5 < 9223372036854775807; omega) (by show b5 < 4294967296; omega) (by show n5 ≤ 24; omega) hS) ?_)))))))
     rintro z120 w120 ⟨hz120, hS⟩
     replace hz120 : z120 = .nilIface := hz120
     subst hz120
     refine TW.at hS (TL.a m0 (TL.r (.hd .u2) (TL.m m0 (TL.val (r_nen Tryz.underlying82 T0) (TL.b (.hd .u1) (CT.iff_ m0 ?_))))))
     exact CT.z (EX.bnormal (EX.again ((i5 + 1, b5 ||| byteAt B i5 * 2 ^ n5, n5 + 8)) (⟨hheld5.more hbyte5.1, hnb5.more hlt5, hbyte5.2⟩) (by show lenExtra c - (n5 + 8) < lenExtra c - n5; omega) (.refl _) (.sl 1 4 rfl)))
    have hge5 : lenExtra c ≤ n5 := by omega
    refine CT.sub .u1 (CT.exit (EX.then_exit (EX.then_exit (EX.out (EX.q (TL.m m0 (TL.m m4 (TL.c m0 (TL.f 3 fo_103_3 m0 (TL.val (r_ld (v := (u32 b5)) Tryz.isAgg89 m0 T0 (by decide) (Dget_b _)) (TL.m m6 (TL.val (n_shl 1 ((lenExtra c)) 4294967296 .c T0 rfl rfl (show _ ≤ 32 by omega) (by omega)) (TL.val (n_sub ((1 * 2 ^ (lenExtra c))) 1 4294967296 T0 .c) (TL.val (n_and b5 (1 * 2 ^ lenExtra c - 1) 4294967296 T3 T0 rfl rfl (by omega) (by omega)) (TL.sub (.eq m0 (congrArg (fun z : Nat => Value.int .u32 (z : Int)) (hheld5.and (by omega) hv hdr1)) (.cons m1 (.cons m2 (.cons m3 (.cons m4 (.cons m5 (.cons m6 (.cons m7 (.cons m8 (.cons m9 (.cons m10 (.cons m11 (.cons m12 .nil))))))))))))) (TL.val (n_conv v 9223372036854775808 ⟨_, Tryz.underlying89⟩ Tryz.underlying3 T0 rfl (by omega)) (TL.val (n_add ((lenBase c)) v 9223372036854775808 T9 T0) (TL.rm .h11 (TL.a m0 (TL.r (.hd .u11) (TL.m m3 (TL.c m0 (TL.f 3 fo_103_3 m0 (TL.val (r_ld (v := (u32 b5)) Tryz.isAgg89 m0 T0 (by decide) (Dget_b _)) (TL.m m5 (TL.val (n_shr b5 ((lenExtra c)) T1 T0 rfl rfl (show _ ≤ 32 by omega)) (TL.c m5 (TL.f 3 fo_103_3 m0 (TL.s (r_st (F' := D { s with r := rif r, roff := i5, b := b5 / 2 ^ (lenExtra c), nb := n5, hist := Hw hb, wr := x.wr, err := .nilIface, hl := pt tb 0, hd := .pointer none, cl := x.cl, cd := x.cd }) Tryz.sizeOf89 (Dsat_b ((b5 / 2 ^ (lenExtra c)))) a0 T0 T2 (by decide)) (TL.b .u8 (CT.region ?_)))))))))))))))))))))))))))))))
    exact TL.m m3 (TL.c m0 (TL.f 4 fo_103_4 m0 (TL.val (r_ld (v := (u64 n5)) Tryz.isAgg90 m0 T0 (by decide) (Dget_nb _)) (TL.m m5 (TL.val (n_sub n5 ((lenExtra c)) 18446744073709551616 T1 T0) (TL.c m5 (TL.f 4 fo_103_4 m0 (TL.s (r_st (F' := D { s with r := rif r, roff := i5, b := b5 / 2 ^ (lenExtra c), nb := n5 - (lenExtra c), hist := Hw hb, wr := x.wr, err := .nilIface, hl := pt tb 0, hd := .pointer none, cl := x.cl, cd := x.cd }) Tryz.sizeOf90 (Dsat_nb ((n5 - (lenExtra c)))) a0 T0 T2 (by decide)) (TL.x .u8 (EX.fold (A' := (blk f 1054 (D { s with r := rif r, roff := i5, b := b5 / 2 ^ lenExtra c, nb := n5 - lenExtra c, hist := Hw hb, wr := x.wr, err := .nilIface, hl := pt tb 0, hd := .pointer none, cl := x.cl, cd := x.cd }))) a0 (D_eq rfl) (EX.meet ((i5, b5 / 2 ^ lenExtra c, n5 - lenExtra c)) (⟨hheld5.take hge5, hnb5.take, hib5⟩) (.refl _) (.eq m0 (congrArg (fun z : Nat => Value.int .i64 (z : Int)) (show (((lenBase c) + v) : Nat) = (lenBase c + v) by omega)) (.sl 1 3 rfl)))))))))))))
   have hE0 : lenExtra c = 0 := by omega
   have hv0 : v = 0 := by rw [hE0] at hv; omega
   exact CT.z (EX.meet ((i1, b1, n1)) (⟨by show Held B (x.k + ls.getD c 0 + lenExtra c) i1 b1 n1; rw [hE0]; exact hk1, hn1, hil1⟩) (.refl _) (.eq m0 (congrArg (fun z : Nat => Value.int .i64 (z : Int)) (show ((lenBase c) : Nat) = (lenBase c + v) by omega)) (.cons m1 (.cons m3 (.cons m4 .nil)))))
  rintro ⟨i2, b2, n2⟩ ⟨hheld2, hnb2, hib2⟩
  replace hheld2 : Held B (x.k + ls.getD c 0 + lenExtra c) i2 b2 n2 := hheld2
  replace hnb2 : n2 ≤ ls.getD 256 0 + 7 := hnb2
  replace hib2 : i2 ≤ (pack B).length := hib2
  have hn2b : n2 ≤ 22 := by omega
  have hb2 : b2 < 4294967296 := Nat.lt_of_lt_of_le hheld2.lt (Nat.pow_le_pow_right (by decide) (show n2 ≤ 32 from Nat.le_trans hn2b (by decide)))
  have hdr2 := drop_app hdr1
  rw [nbits_length] at hdr2
  refine CT.seq ?_
  have hc32 : c2 < 32 := by have := hok2.1; rw [hds, fixDist_length] at this; exact this
  obtain ⟨hf1, hf2⟩ := fixDist_code c2 hc32
  have hsb : symB ds c2 = nbits 5 (rv 5 c2) := by rw [symB_nbits, hds, hf1, hf2]
  have hds5 : ds.getD c2 0 = 5 := by rw [hds, hf1]
  have hr5 := rv_lt 5 c2
  refine CT.region (TL.val (r_asg .c) (TL.e (CT.cut (X := Nat × Nat × Nat) (fun gx => [(6, (i64 c2)), (5, (i64 (lenBase c + v))), (4, (u64 (lenExtra c))), (2, (i64 c)), (0, (pt f 0))]) (fun gx => (blk f 1054 (D { s with r := rif r, roff := gx.1, b := gx.2.1, nb := gx.2.2, hist := Hw hb, wr := x.wr, err := .nilIface, hl := pt tb 0, hd := .pointer none, cl := x.cl, cd := x.cd })) :: Br r B gx.1 :: blk hb 32768 (fun jj => u8 (x.hist jj)) :: blk tb 515 T :: Lnks t :: R) (fun gx => Held B (x.k + ls.getD c 0 + lenExtra c + ds.getD c2 0) gx.1 gx.2.1 gx.2.2 ∧ gx.2.2 ≤ ls.getD 256 0 + 7 ∧ gx.1 ≤ (pack B).length) ?_ ?_)))
  ·
   refine CT.q (TL.m m4 (TL.c m0 (TL.f 1051 fo_103_17 m0 (TL.val (r_ld (v := (.pointer none)) Tryz.isAgg101 m0 T0 (by decide) (Dget_hd _)) (TL.val (r_eqpn Tryz.underlying101 T0) (TL.b (.hd .u4) (CT.ift m0 ?_)))))))
   refine CT.sub .u1 (CT.seq (CT.block (CT.loop (X := Nat × Nat × Nat) (fun gx => [(6, (.int .i64 0)), (5, (i64 (lenBase c + v))), (4, (u64 (lenExtra c))), (2, (i64 c)), (0, (pt f 0))]) (fun gx => (blk f 1054 (D { s with r := rif r, roff := gx.1, b := gx.2.1, nb := gx.2.2, hist := Hw hb, wr := x.wr, err := .nilIface, hl := pt tb 0, hd := .pointer none, cl := x.cl, cd := x.cd })) :: Br r B gx.1 :: blk hb 32768 (fun jj => u8 (x.hist jj)) :: blk tb 515 T :: Lnks t :: R) (fun gx => Held B (x.k + ls.getD c 0 + lenExtra c) gx.1 gx.2.1 gx.2.2 ∧ NB (ls.getD 256 0) 5 gx.2.2 ∧ gx.1 ≤ (pack B).length) (fun gx => 5 - gx.2.2) ((i2, b2, n2)) (⟨hheld2, .of hnb2, hib2⟩) (.refl _) (.sl 0 5 rfl) ?_)))
   rintro ⟨i6, b6, n6⟩ ⟨hheld6, hnb6, hib6⟩
   replace hheld6 : Held B (x.k + ls.getD c 0 + lenExtra c) i6 b6 n6 := hheld6
   replace hnb6 : NB (ls.getD 256 0) 5 n6 := hnb6
   replace hib6 : i6 ≤ (pack B).length := hib6
   have hn6b : n6 ≤ 22 := hnb6.le hE15 (by omega)
   have hb6 : b6 < 4294967296 := Nat.lt_of_lt_of_le hheld6.lt (Nat.pow_le_pow_right (by decide) (show n6 ≤ 32 from Nat.le_trans hn6b (by decide)))
   refine CT.seq (CT.q (TL.m m4 (TL.c m0 (TL.f 4 fo_103_4 m0 (TL.val (r_ld (v := (u64 n6)) Tryz.isAgg90 m0 T0 (by decide) (Dget_nb _)) (TL.val (n_lss n6 5 T0 .c) (TL.b (.hd .u4) (CT.ifd m0 (fun c163 => ?_) (fun c163 => ?_)))))))))
   ·
    have hlt6 : n6 < 5 := by omega
    have hbyte6 := byte_ok hheld6 hlt6 (show x.k + ls.getD c 0 + lenExtra c + 5 ≤ B.length by omega)
    refine CT.z (EX.seq (CT.block (CT.q (TL.m m4 (TL.perm p1 (TL.perm p1 (TL.call (r_call ce_86 (.cons T0 .nil)) (fun w hS => t86 f r i6 B { s with r := rif r, roff := i6, b := b6, nb := n6, hist := Hw hb, wr := x.wr, err := .nilIface, hl := pt tb 0, hd := .pointer none, cl := x.cl, cd := x.cd } hbyte6.2 (by omega) (by show i6 < 9223372036854775807; omega) (by show b6 < 4294967296; omega) (by show n6 ≤ 24; omega) hS) ?_)))))))
    rintro z165 w165 ⟨hz165, hS⟩
    replace hz165 : z165 = .nilIface := hz165
    subst hz165
    refine TW.at hS (TL.a m0 (TL.r (.hd .u2) (TL.m m0 (TL.val (r_nen Tryz.underlying82 T0) (TL.b (.hd .u1) (CT.iff_ m0 ?_))))))
    exact CT.z (EX.bnormal (EX.again ((i6 + 1, b6 ||| byteAt B i6 * 2 ^ n6, n6 + 8)) (⟨hheld6.more hbyte6.1, hnb6.more hlt6, hbyte6.2⟩) (by show 5 - (n6 + 8) < 5 - n6; omega) (.refl _) (.sl 1 5 rfl)))
   refine CT.sub .u1 (CT.exit (EX.then_exit (EX.then_exit (EX.out (EX.q (TL.m m4 (TL.c m0 (TL.f 3 fo_103_3 m0 (TL.val (r_ld (v := (u32 b6)) Tryz.isAgg89 m0 T0 (by decide) (Dget_b _)) (TL.val (n_and b6 31 4294967296 T0 .c rfl rfl (by omega) (by omega)) (TL.sub (.eq m0 (congrArg (fun z : Nat => Value.int .u32 (z : Int)) (hheld6.and (m := 5) (by omega) hr5 (by rw [← hsb]; exact hdr2))) (.cons m1 (.cons m2 (.cons m3 (.cons m4 (.cons m5 (.cons m6 (.cons m7 (.cons m8 (.cons m9 .nil)))))))))) (TL.val (n_shl ((rv 5 c2)) 3 4294967296 T0 .c rfl rfl (by decide) (by omega)) (TL.val (n_conv (((rv 5 c2) * 2 ^ 3)) 256 ⟨_, Tryz.underlying89⟩ Tryz.underlying5 T0 rfl (by omega)) (TL.call (r_call ce_115 (.cons T0 .nil)) (fun w hS => t115 (rv 5 c2 * 2 ^ 3) (by omega) hS) ?_))))))))))))))
   rintro _ w179 ⟨rfl, hS⟩
   exact TW.at hS (TL.sub (.eq m0 (congrArg (fun z : Nat => Value.int .u8 (z : Int)) (rv5b c2 hc32)) (.cons m1 (.cons m2 (.cons m3 (.cons m4 (.cons m5 (.cons m6 (.cons m7 (.cons m8 (.cons m9 (.cons m10 (.cons m11 (.cons m12 .nil))))))))))))) (TL.val (n_conv c2 9223372036854775808 ⟨_, Tryz.underlying5⟩ Tryz.underlying3 T0 rfl (by omega)) (TL.rm .h9 (TL.a m0 (TL.r (.hd .u9) (TL.m m4 (TL.c m0 (TL.f 3 fo_103_3 m0 (TL.val (r_ld (v := (u32 b6)) Tryz.isAgg89 m0 T0 (by decide) (Dget_b _)) (TL.val (n_shr b6 5 T0 .c rfl rfl (by decide)) (TL.c m4 (TL.f 3 fo_103_3 m0 (TL.s (r_st (F' := D { s with r := rif r, roff := i6, b := b6 / 2 ^ 5, nb := n6, hist := Hw hb, wr := x.wr, err := .nilIface, hl := pt tb 0, hd := .pointer none, cl := x.cl, cd := x.cd }) Tryz.sizeOf89 (Dsat_b ((b6 / 2 ^ 5))) a0 T0 T2 (by decide)) (TL.b .u7 (CT.region (TL.m m4 (TL.c m0 (TL.f 4 fo_103_4 m0 (TL.val (r_ld (v := (u64 n6)) Tryz.isAgg90 m0 T0 (by decide) (Dget_nb _)) (TL.val (n_sub n6 5 18446744073709551616 T0 .c) (TL.c m4 (TL.f 4 fo_103_4 m0 (TL.s (r_st (F' := D { s with r := rif r, roff := i6, b := b6 / 2 ^ 5, nb := n6 - 5, hist := Hw hb, wr := x.wr, err := .nilIface, hl := pt tb 0, hd := .pointer none, cl := x.cl, cd := x.cd }) Tryz.sizeOf90 (Dsat_nb ((n6 - 5))) a0 T0 T2 (by decide)) (TL.x .u7 (EX.meet ((i6, b6 / 2 ^ 5, n6 - 5)) (⟨by show Held B (x.k + ls.getD c 0 + lenExtra c + ds.getD c2 0) i6 (b6 / 2 ^ 5) (n6 - 5); rw [hds5]; exact hheld6.take (by omega), hnb6.take, hib6⟩) (.refl _) (.sl 0 5 rfl))))))))))))))))))))))))))
  rintro ⟨i3, b3, n3⟩ ⟨hheld3, hnb3, hib3⟩
  replace hheld3 : Held B (x.k + ls.getD c 0 + lenExtra c + ds.getD c2 0) i3 b3 n3 := hheld3
  replace hnb3 : n3 ≤ ls.getD 256 0 + 7 := hnb3
  replace hib3 : i3 ≤ (pack B).length := hib3
  have hn3b : n3 ≤ 22 := by omega
  have hb3 : b3 < 4294967296 := Nat.lt_of_lt_of_le hheld3.lt (Nat.pow_le_pow_right (by decide) (show n3 ≤ 32 from Nat.le_trans hn3b (by decide)))
  have hdr3 := drop_app hdr2
  rw [symB_length] at hdr3
  rcases hda with ⟨d, v2, rest2, hda, rfl, hfar⟩ | ⟨h30, he⟩
  ·
   have hdm := dist_max hda
   have hd1 := hda.2.1
   have hd2 := hda.2.2
   have hd3 := hda.1
   rw [List.length_append, nbits_length] at hkB
   have hdx := distExtra_le c2 hda.1
   have hp13 : 2 ^ distExtra c2 ≤ 2 ^ 13 := Nat.pow_le_pow_right (by decide) hdx
   refine CT.cut (X := Nat × Nat × Nat) (fun gx => [(6, (i64 d)), (5, (i64 (lenBase c + v))), (4, (u64 (lenExtra c))), (2, (i64 c)), (0, (pt f 0))]) (fun gx => (blk f 1054 (D { s with r := rif r, roff := gx.1, b := gx.2.1, nb := gx.2.2, hist := Hw hb, wr := x.wr, err := .nilIface, hl := pt tb 0, hd := .pointer none, cl := x.cl, cd := x.cd })) :: Br r B gx.1 :: blk hb 32768 (fun jj => u8 (x.hist jj)) :: blk tb 515 T :: Lnks t :: R) (fun gx => Held B (x.k + ls.getD c 0 + lenExtra c + ds.getD c2 0 + distExtra c2) gx.1 gx.2.1 gx.2.2 ∧ gx.2.2 ≤ ls.getD 256 0 + 7 ∧ gx.1 ≤ (pack B).length) ?_ ?_
   ·
    refine CT.block (CT.q (TL.m m0 (TL.val (n_lss c2 4 T0 .c) (TL.a m0 (TL.b (.hd .u2) (CT.ifd m0 (fun c218 => ?_) (fun c218 => ?_)))))))
    ·
     have hq := (dist_go hda.1).1 c218
     have hv20 : v2 = 0 := by rw [hq.2] at hd2; omega
     exact CT.sub .u1 (CT.region (TL.m m0 (TL.val (n_add c2 1 9223372036854775808 T0 .c) (TL.rm .h2 (TL.a m0 (TL.x (.hd .u2) (EX.bnormal (EX.meet ((i3, b3, n3)) (⟨by show Held B (x.k + ls.getD c 0 + lenExtra c + ds.getD c2 0 + distExtra c2) i3 b3 n3; rw [hq.2]; exact hheld3, hnb3, hib3⟩) (.refl _) (.eq m0 (congrArg (fun z : Nat => Value.int .i64 (z : Int)) (show ((c2 + 1) : Nat) = d by omega)) (.sl 1 4 rfl))))))))))
    refine CT.y (TL.m m0 (TL.val (n_lss c2 30 T0 .c) (TL.a m0 (TL.b (.hd .u2) (CT.ifd m0 (fun c223 => ?_) (fun c223 => ?_))))))
    ·
     have hq := (dist_go hda.1).2 (by omega)
     have hq1 := hq.1; have hq2 := hq.2.1
     rw [← hq1] at hq2
     have hc1b : (c2 &&& 1) ≤ 1 := Nat.and_le_right
     have hcm : (c2 &&& 1) * 2 ^ distExtra c2 ≤ 1 * 2 ^ 13 := Nat.mul_le_mul hc1b hp13
     have hp14 : 2 ^ (distExtra c2 + 1) ≤ 2 ^ 14 := Nat.pow_le_pow_right (by decide) (by omega)
     have hp1d := Nat.two_pow_pos (distExtra c2)
     refine CT.y (TL.m m0 (TL.val (n_sub c2 2 9223372036854775808 T0 .c) (TL.val (n_conv ((c2 - 2)) 18446744073709551616 ⟨_, Tryz.underlying3⟩ Tryz.underlying90 T0 rfl (by omega)) (TL.val (n_shr ((c2 - 2)) 1 T0 .c rfl rfl (by decide)) (TL.a m0 (TL.sub (.hd .u4) (TL.r (.eq m0 (congrArg (fun z : Nat => Value.int .u64 (z : Int)) (show (c2 - 2) / 2 ^ 1 = distExtra c2 by rw [hq1])) (.cons m1 (.cons m2 (.cons m3 (.cons m4 (.cons m5 .nil)))))) (TL.m m1 (TL.val (n_and c2 1 9223372036854775808 T0 .c rfl rfl (by omega) (by omega)) (TL.m m2 (TL.val (n_shl ((c2 &&& 1)) ((distExtra c2)) 9223372036854775808 T1 T0 rfl rfl (show _ ≤ 64 by omega) (by omega)) (TL.a m0 (TL.b (.hd .u4) (CT.seq (CT.block (CT.loop (X := Nat × Nat × Nat) (fun gx => [(8, (i64 ((c2 &&& 1) * 2 ^ (distExtra c2)))), (7, (u64 (distExtra c2))), (6, (i64 c2)), (5, (i64 (lenBase c + v))), (4, (u64 (lenExtra c))), (2, (i64 c)), (0, (pt f 0))]) (fun gx => (blk f 1054 (D { s with r := rif r, roff := gx.1, b := gx.2.1, nb := gx.2.2, hist := Hw hb, wr := x.wr, err := .nilIface, hl := pt tb 0, hd := .pointer none, cl := x.cl, cd := x.cd })) :: Br r B gx.1 :: blk hb 32768 (fun jj => u8 (x.hist jj)) :: blk tb 515 T :: Lnks t :: R) (fun gx => Held B (x.k + ls.getD c 0 + lenExtra c + ds.getD c2 0) gx.1 gx.2.1 gx.2.2 ∧ NB (ls.getD 256 0) (distExtra c2) gx.2.2 ∧ gx.1 ≤ (pack B).length) (fun gx => distExtra c2 - gx.2.2) ((i3, b3, n3)) (⟨hheld3, .of hnb3, hib3⟩) (.refl _) (.sl 0 7 rfl) ?_))))))))))))))))
     rintro ⟨i7, b7, n7⟩ ⟨hheld7, hnb7, hib7⟩
     replace hheld7 : Held B (x.k + ls.getD c 0 + lenExtra c + ds.getD c2 0) i7 b7 n7 := hheld7
     replace hnb7 : NB (ls.getD 256 0) (distExtra c2) n7 := hnb7
     replace hib7 : i7 ≤ (pack B).length := hib7
     have hn7b : n7 ≤ 22 := hnb7.le hE15 (by omega)
     have hb7 : b7 < 4294967296 := Nat.lt_of_lt_of_le hheld7.lt (Nat.pow_le_pow_right (by decide) (show n7 ≤ 32 from Nat.le_trans hn7b (by decide)))
     refine CT.seq (CT.q (TL.m m6 (TL.c m0 (TL.f 4 fo_103_4 m0 (TL.val (r_ld (v := (u64 n7)) Tryz.isAgg90 m0 T0 (by decide) (Dget_nb _)) (TL.m m5 (TL.val (n_lss n7 ((distExtra c2)) T1 T0) (TL.b (.hd .u5) (CT.ifd m0 (fun c239 => ?_) (fun c239 => ?_))))))))))
     ·
      have hlt7 : n7 < distExtra c2 := by omega
      have hbyte7 := byte_ok hheld7 hlt7 (show x.k + ls.getD c 0 + lenExtra c + ds.getD c2 0 + distExtra c2 ≤ B.length by omega)
      refine CT.z (EX.seq (CT.block (CT.q (TL.m m6 (TL.perm p1 (TL.perm p1 (TL.call (r_call ce_86 (.cons T0 .nil)) (fun w hS => t86 f r i7 B { s with r := rif r, roff := i7, b := b7, nb := n7, hist := Hw hb, wr := x.wr, err := .nilIface, hl := pt tb 0, hd := .pointer none, cl := x.cl, cd := x.cd } hbyte7.2 (by omega) (by show i7 < 9223372036854775807; omega) (by show b7 < 4294967296; omega) (by show n7 ≤ 24; omega) hS) ?_)))))))
      rintro z241 w241 ⟨hz241, hS⟩
      replace hz241 : z241 = .nilIface := hz241
      subst hz241
      refine TW.at hS (TL.a m0 (TL.r (.hd .u2) (TL.m m0 (TL.val (r_nen Tryz.underlying82 T0) (TL.b (.hd .u1) (CT.iff_ m0 ?_))))))
      exact CT.z (EX.bnormal (EX.again ((i7 + 1, b7 ||| byteAt B i7 * 2 ^ n7, n7 + 8)) (⟨hheld7.more hbyte7.1, hnb7.more hlt7, hbyte7.2⟩) (by show distExtra c2 - (n7 + 8) < distExtra c2 - n7; omega) (.refl _) (.sl 1 7 rfl)))
     refine CT.sub .u1 (CT.exit (EX.then_exit (EX.then_exit (EX.out (EX.q (TL.m m0 (TL.m m7 (TL.c m0 (TL.f 3 fo_103_3 m0 (TL.val (r_ld (v := (u32 b7)) Tryz.isAgg89 m0 T0 (by decide) (Dget_b _)) (TL.m m6 (TL.val (n_shl 1 ((distExtra c2)) 4294967296 .c T0 rfl rfl (show _ ≤ 32 by omega) (by omega)) (TL.val (n_sub ((1 * 2 ^ (distExtra c2))) 1 4294967296 T0 .c) (TL.val (n_and b7 (1 * 2 ^ distExtra c2 - 1) 4294967296 T3 T0 rfl rfl (by omega) (by omega)) (TL.sub (.eq m0 (congrArg (fun z : Nat => Value.int .u32 (z : Int)) (hheld7.and (by omega) hd2 hdr3)) (.cons m1 (.cons m2 (.cons m3 (.cons m4 (.cons m5 (.cons m6 (.cons m7 (.cons m8 (.cons m9 (.cons m10 (.cons m11 (.cons m12 (.cons m13 (.cons m14 (.cons m15 .nil)))))))))))))))) (TL.val (n_conv v2 9223372036854775808 ⟨_, Tryz.underlying89⟩ Tryz.underlying3 T0 rfl (by omega)) (TL.val (n_or ((c2 &&& 1) * 2 ^ distExtra c2) v2 9223372036854775808 T9 T0 rfl rfl (by omega) (by omega)) (TL.sub (.eq m0 (congrArg (fun z : Nat => Value.int .i64 (z : Int)) (by rw [Nat.or_comm, or_add hd2])) (.cons m1 (.cons m2 (.cons m3 (.cons m4 (.cons m5 (.cons m6 (.cons m7 (.cons m8 (.cons m9 (.cons m10 (.cons m11 (.cons m12 (.cons m13 (.cons m14 (.cons m15 (.cons m16 (.cons m17 .nil)))))))))))))))))) (TL.rm .h11 (TL.a m0 (TL.r (.hd .u11) (TL.m m6 (TL.c m0 (TL.f 3 fo_103_3 m0 (TL.val (r_ld (v := (u32 b7)) Tryz.isAgg89 m0 T0 (by decide) (Dget_b _)) (TL.m m5 (TL.val (n_shr b7 ((distExtra c2)) T1 T0 rfl rfl (show _ ≤ 32 by omega)) (TL.c m5 (TL.f 3 fo_103_3 m0 (TL.s (r_st (F' := D { s with r := rif r, roff := i7, b := b7 / 2 ^ (distExtra c2), nb := n7, hist := Hw hb, wr := x.wr, err := .nilIface, hl := pt tb 0, hd := .pointer none, cl := x.cl, cd := x.cd }) Tryz.sizeOf89 (Dsat_b ((b7 / 2 ^ (distExtra c2)))) a0 T0 T2 (by decide)) (TL.b .u8 ?_)))))))))))))))))))))))))))))))
     exact CT.q (TL.m m6 (TL.c m0 (TL.f 4 fo_103_4 m0 (TL.val (r_ld (v := (u64 n7)) Tryz.isAgg90 m0 T0 (by decide) (Dget_nb _)) (TL.m m5 (TL.val (n_sub n7 ((distExtra c2)) 18446744073709551616 T1 T0) (TL.c m5 (TL.f 4 fo_103_4 m0 (TL.s (r_st (F' := D { s with r := rif r, roff := i7, b := b7 / 2 ^ (distExtra c2), nb := n7 - (distExtra c2), hist := Hw hb, wr := x.wr, err := .nilIface, hl := pt tb 0, hd := .pointer none, cl := x.cl, cd := x.cd }) Tryz.sizeOf90 (Dsat_nb ((n7 - (distExtra c2)))) a0 T0 T2 (by decide)) (TL.b .u8 (CT.region (TL.m m1 (TL.val (n_add ((distExtra c2)) 1 18446744073709551616 T0 .c) (TL.val (n_shl 1 (((distExtra c2) + 1)) 9223372036854775808 .c T0 rfl rfl (show _ ≤ 64 by omega) (by omega)) (TL.val (n_add ((1 * 2 ^ ((distExtra c2) + 1))) 1 9223372036854775808 T0 .c) (TL.m m4 (TL.val (n_add (((1 * 2 ^ ((distExtra c2) + 1)) + 1)) ((v2 + (c2 &&& 1) * 2 ^ distExtra c2)) 9223372036854775808 T1 T0 rfl rfl (by omega)) (TL.rm .h8 (TL.a m0 (TL.x (.hd .u6) (EX.bnormal (EX.fold (A' := (blk f 1054 (D { s with r := rif r, roff := i7, b := b7 / 2 ^ distExtra c2, nb := n7 - distExtra c2, hist := Hw hb, wr := x.wr, err := .nilIface, hl := pt tb 0, hd := .pointer none, cl := x.cl, cd := x.cd }))) a0 (D_eq rfl) (EX.meet ((i7, b7 / 2 ^ distExtra c2, n7 - distExtra c2)) (⟨hheld7.take (by omega), hnb7.take, hib7⟩) (.refl _) (.eq m0 (congrArg (fun z : Nat => Value.int .i64 (z : Int)) (show ((((1 * 2 ^ ((distExtra c2) + 1)) + 1) + (v2 + (c2 &&& 1) * 2 ^ distExtra c2)) : Nat) = d by omega)) (.sl 3 4 rfl)))))))))))))))))))))))))
    exfalso; omega
   rintro ⟨i4, b4, n4⟩ ⟨hheld4, hnb4, hib4⟩
   replace hheld4 : Held B (x.k + ls.getD c 0 + lenExtra c + ds.getD c2 0 + distExtra c2) i4 b4 n4 := hheld4
   replace hnb4 : n4 ≤ ls.getD 256 0 + 7 := hnb4
   replace hib4 : i4 ≤ (pack B).length := hib4
   have hn4b : n4 ≤ 22 := by omega
   have hb4 : b4 < 4294967296 := Nat.lt_of_lt_of_le hheld4.lt (Nat.pow_le_pow_right (by decide) (show n4 ≤ 32 from Nat.le_trans hn4b (by decide)))
   have hdr4 := drop_app hdr3
   rw [nbits_length] at hdr4
   refine CT.seq (CT.seq ?_)
   rcases hfar with ⟨h3n, hn258, hd1l, hdle, hd32, htl⟩ | ⟨he, hfar⟩
   ·
    refine CT.region (TL.m m0 (TL.m m5 (TL.c m0 (TL.f 1037 fo_103_9 m0 (TL.call (r_call ce_116 (.cons T0 .nil)) (fun w hS => t116 f hb { s with r := rif r, roff := i4, b := b4, nb := n4, hist := Hw hb, wr := x.wr, err := .nilIface, hl := pt tb 0, hd := .pointer none, cl := x.cl, cd := x.cd } hS) ?_)))))
    rintro z285 w285 ⟨hz285, hS⟩
    replace hz285 : z285 = (i64 (if s.full = true then 32768 else x.wr)) := hz285
    subst hz285
    refine TW.at hS (TL.val (n_gtr d ((if s.full = true then 32768 else x.wr)) T4 T0) (TL.b (.hd .u5) (CT.ifd m0 (fun c286 => ?_) (fun c286 => ?_))))
    ·
     exact absurd c286 (far_ok hw hdle hd32)
    exact CT.z (EX.q (TL.m m4 (TL.m m5 (TL.m m3 (TL.m m3 (TL.c m3 (TL.f 1052 fo_103_18 m0 (TL.s (r_st (F' := D { s with r := rif r, roff := i4, b := b4, nb := n4, hist := Hw hb, wr := x.wr, err := .nilIface, hl := pt tb 0, hd := .pointer none, cl := lenBase c + v, cd := x.cd }) Tryz.sizeOf3 (Dsat_cl ((lenBase c + v))) a0 T0 T3 (by decide)) (TL.c m4 (TL.f 1053 fo_103_19 m0 (TL.s (r_st (F' := D { s with r := rif r, roff := i4, b := b4, nb := n4, hist := Hw hb, wr := x.wr, err := .nilIface, hl := pt tb 0, hd := .pointer none, cl := lenBase c + v, cd := d }) Tryz.sizeOf3 (Dsat_cd d) a0 T0 T4 (by decide)) (TL.b .u8 (CT.goto (EX.then_goto (EX.fold (A' := (blk f 1054 (D { s with r := rif r, roff := i4, b := b4, nb := n4, hist := Hw hb, wr := x.wr, err := .nilIface, hl := pt tb 0, hd := .pointer none, cl := n, cd := d }))) a0 (D_eq (by rw [← hnn])) (EX.jump1 (⟨i4, b4, n4, x.wr, (x.k + ls.getD c 0 + lenExtra c + ds.getD c2 0 + distExtra c2), n, d, x.hist, x.h⟩) (⟨⟨hw, hrw, hwl, hheld4, hnb4, hx.un, hib4, hx.s01⟩, by show HTail ls ds s.final (x.k + ls.getD c 0 + lenExtra c + ds.getD c2 0 + distExtra c2) (B.drop (x.k + ls.getD c 0 + lenExtra c + ds.getD c2 0 + distExtra c2)) (copyM x.h d n) hF; rw [hdr4]; exact htl, hn258, hd1l, hdle, hd32, by show 1000 * (B.length - (x.k + ls.getD c 0 + lenExtra c + ds.getD c2 0 + distExtra c2)) + 2 + n ≤ mu0; omega⟩) (by show 2 * (B.length - (x.k + ls.getD c 0 + lenExtra c + ds.getD c2 0 + distExtra c2)) + 1 < 2 * (B.length - x.k); omega) (.refl _) (.cons m4 .nil)))))))))))))))))
   refine CT.region (TL.m m0 (TL.m m5 (TL.c m0 (TL.f 1037 fo_103_9 m0 (TL.call (r_call ce_116 (.cons T0 .nil)) (fun w hS => t116 f hb { s with r := rif r, roff := i4, b := b4, nb := n4, hist := Hw hb, wr := x.wr, err := .nilIface, hl := pt tb 0, hd := .pointer none, cl := x.cl, cd := x.cd } hS) ?_)))))
   rintro z285 w285 ⟨hz285, hS⟩
   replace hz285 : z285 = (i64 (if s.full = true then 32768 else x.wr)) := hz285
   subst hz285
   refine TW.at hS (TL.val (n_gtr d ((if s.full = true then 32768 else x.wr)) T4 T0) (TL.b (.hd .u5) (CT.ifd m0 (fun c286 => ?_) (fun c286 => ?_))))
   ·
    refine CT.y (TL.m m4 (TL.m m5 (TL.c m0 (TL.f 2 fo_103_2 m0 (TL.val (r_ld (v := (i64 i4)) Tryz.isAgg2 m0 T0 (by decide) (Dget_roff _)) (TL.val (r_mki Tryz.underlying121 T0) (TL.c m5 (TL.f 1048 fo_103_14 m0 (TL.s (r_st (F' := D { s with r := rif r, roff := i4, b := b4, nb := n4, hist := Hw hb, wr := x.wr, err := .iface 121 (i64 i4), hl := pt tb 0, hd := .pointer none, cl := x.cl, cd := x.cd }) Tryz.sizeOf82 (Dsat_err (.iface 121 (i64 i4))) a0 T0 T2 (by decide)) (TL.b .u8 (CT.ret (EX.then_ret (EX.then_ret (EX.scope_ret ?_))))))))))))))
    exact EX.perm p4 (EX.perm p4 (EX.perm p4 (EX.perm p4 (EX.perm p4 (EX.end_ (.inl rfl) (res0 Tryz.results89) (fun _ hS => hb_err (ea := ea) (R := R) (s' := { s with r := rif r, roff := i4, b := b4, nb := n4, hist := Hw hb, wr := x.wr, err := .iface 121 (i64 i4), hl := pt tb 0, hd := .pointer none, cl := x.cl, cd := x.cd }) (TB := [(blk tb 515 T), (Lnks t)]) rfl rfl htr.nil rfl rfl H.ex hw hrw hwl hx.un hib4 hx.sd he hS))))))
   exact absurd (far_bad hw hfar hdm) c286
  refine CT.seq (CT.block (CT.q (TL.m m0 (TL.val (n_lss c2 4 T0 .c) (TL.a m0 (TL.b (.hd .u2) (CT.ifd m0 (fun c218 => ?_) (fun c218 => ?_))))))))
  ·
   exfalso; omega
  refine CT.y (TL.m m0 (TL.val (n_lss c2 30 T0 .c) (TL.a m0 (TL.b (.hd .u2) (CT.ifd m0 (fun c223 => ?_) (fun c223 => ?_))))))
  ·
   exfalso; omega
  refine CT.y (TL.m m4 (TL.m m5 (TL.c m0 (TL.f 2 fo_103_2 m0 (TL.val (r_ld (v := (i64 i3)) Tryz.isAgg2 m0 T0 (by decide) (Dget_roff _)) (TL.val (r_mki Tryz.underlying121 T0) (TL.c m5 (TL.f 1048 fo_103_14 m0 (TL.s (r_st (F' := D { s with r := rif r, roff := i3, b := b3, nb := n3, hist := Hw hb, wr := x.wr, err := .iface 121 (i64 i3), hl := pt tb 0, hd := .pointer none, cl := x.cl, cd := x.cd }) Tryz.sizeOf82 (Dsat_err (.iface 121 (i64 i3))) a0 T0 T2 (by decide)) (TL.b .u8 (CT.ret (EX.bret (EX.then_ret (EX.then_ret (EX.scope_ret ?_)))))))))))))))
  exact EX.perm p4 (EX.perm p4 (EX.perm p4 (EX.perm p4 (EX.perm p4 (EX.end_ (.inl rfl) (res0 Tryz.results89) (fun _ hS => hb_err (ea := ea) (R := R) (s' := { s with r := rif r, roff := i3, b := b3, nb := n3, hist := Hw hb, wr := x.wr, err := .iface 121 (i64 i3), hl := pt tb 0, hd := .pointer none, cl := x.cl, cd := x.cd }) (TB := [(blk tb 515 T), (Lnks t)]) rfl rfl htr.nil rfl rfl H.ex hw hrw hwl hx.un hib3 hx.sd he hS))))))
 intro x hx
 show CT _ _ _ [(0, (pt f 0))] _ _ (blk f 1054 (D { s with r := rif r, roff := x.i, b := x.b, nb := x.nb, hist := Hw hb, wr := x.wr, err := .nilIface, hl := pt tb 0, hd := .pointer none, cl := x.cl, cd := x.cd }) :: Br r B x.i :: blk hb 32768 (fun jj => u8 (x.hist jj)) :: blk tb 515 T :: Lnks t :: R)
 refine CT.seq (CT.skip (EX.seq (CT.seq ?_)))
 have hw := hx.win
 have hwl := hx.wl
 have hrw := hx.rw_
 have hmu := hx.mu
 have hc1 := hx.c1
 have hc2 := hx.c2
 have hc3 := hx.c3
 have hc4 := hx.c4
 refine CT.draw 11 fm (by kernel_rfl) ?_
 refine TS.m m0 (TS.c m0 (TS.f 1037 fo_103_9 m0 (TS.m m3 (TS.c m0 (TS.f 1053 fo_103_19 m0 (TS.val (r_ld (v := (i64 x.cd)) Tryz.isAgg3 m0 T0 (by decide) (Dget_cd _)) (TS.m m7 (TS.c m0 (TS.f 1052 fo_103_18 m0 (TS.val (r_ld (v := (i64 x.cl)) Tryz.isAgg3 m0 T0 (by decide) (Dget_cl _)) (TS.nil (TL.perm p2 (TL.perm p1 (TL.call (r_call ce_117 (.cons T8 (.cons T4 (.cons T0 .nil)))) (fun w hS => t117 (s := { s with r := rif r, roff := x.i, b := x.b, nb := x.nb, hist := Hw hb, wr := x.wr, err := .nilIface, hl := pt tb 0, hd := .pointer none, cl := x.cl, cd := x.cd }) rfl hw hwl hc2 hc3 hc4 hc1 hS) ?_))))))))))))))
 rintro _ w314 (⟨rfl, hS⟩ | ⟨rfl, hm0, hm1, hS⟩)
 ·
  refine TW.at hS (TL.a m0 (TL.b (.hd .u12) (CT.cut (X := Nat) (fun gx => [(9, (i64 gx)), (0, (pt f 0))]) (fun gx => (blk f 1054 (D { s with r := rif r, roff := x.i, b := x.b, nb := x.nb, hist := Hw hb, wr := x.wr + gx, err := .nilIface, hl := pt tb 0, hd := .pointer none, cl := x.cl, cd := x.cd })) :: Br r B x.i :: blk hb 32768 (fun jj => u8 ((updh x.hist x.wr (xsM x.h x.cd gx)) jj)) :: blk tb 515 T :: Lnks t :: R) (fun gx => gx = min x.cl (32768 - x.wr)) ?_ ?_)))
  ·
   refine CT.q (TL.m m0 (TL.val (show Run _ _ _ _ _ _ (.bool true) from n_eql 0 0 T0 .c rfl rfl) (TL.b (.hd .u1) (CT.ift m0 ?_))))
   refine CT.sub .u1 (CT.draw 11 fm (by kernel_rfl) ?_)
   refine TS.m m1 (TS.c m0 (TS.f 1037 fo_103_9 m0 (TS.m m4 (TS.c m0 (TS.f 1053 fo_103_19 m0 (TS.val (r_ld (v := (i64 x.cd)) Tryz.isAgg3 m0 T0 (by decide) (Dget_cd _)) (TS.m m8 (TS.c m0 (TS.f 1052 fo_103_18 m0 (TS.val (r_ld (v := (i64 x.cl)) Tryz.isAgg3 m0 T0 (by decide) (Dget_cl _)) (TS.nil (TL.perm p1 (TL.perm p1 ?_)))))))))))))
   obtain ⟨m, hm⟩ : ∃ m, m = min x.cl (32768 - x.wr) := ⟨_, rfl⟩
   refine TL.perm p1 (TL.perm p1 (TL.call (r_call ce_118 (.cons T8 (.cons T4 (.cons T0 .nil)))) (fun w hS => t118 f hb { s with r := rif r, roff := x.i, b := x.b, nb := x.nb, hist := Hw hb, wr := x.wr, err := .nilIface, hl := pt tb 0, hd := .pointer none, cl := x.cl, cd := x.cd } x.hist x.cd x.cl x.h hw hwl hc2 hc3 hc4 hc1 m hm hS) ?_))
   rintro z328 w328 ⟨hz328, hS⟩
   replace hz328 : z328 = (i64 m) := hz328
   subst hz328
   exact TW.at hS (TL.rm .h12 (TL.a m0 (TL.x (.hd .u12) (EX.perm p4 (EX.perm p4 (EX.perm p3 (EX.perm p4 (EX.perm p4 (EX.meet m hm (.refl _) (.cons m0 (.cons m1 .nil)))))))))))
  rintro m hm
  have hmc : m ≤ x.cl := by omega
  have hmw : x.wr + m ≤ 32768 := by omega
  have hw1 := hw.write (xs := xsM x.h x.cd m) (by rw [xsM_length]; exact hmw)
  rw [xsM_length, ← copyM_split] at hw1
  have hun1 : ∃ un, copyM x.h x.cd m = del ++ un ∧ un.length = x.wr + m - s.rd := by rw [copyM_split]; exact un_app hx.un (xsM_length _ _ _) hrw
  refine CT.q (TL.m m1 (TL.c m0 (TL.f 1052 fo_103_18 m0 (TL.val (r_ld (v := (i64 x.cl)) Tryz.isAgg3 m0 T0 (by decide) (Dget_cl _)) (TL.m m4 (TL.val (n_sub x.cl m 9223372036854775808 T1 T0) (TL.c m5 (TL.f 1052 fo_103_18 m0 (TL.s (r_st (F' := D { s with r := rif r, roff := x.i, b := x.b, nb := x.nb, hist := Hw hb, wr := x.wr + m, err := .nilIface, hl := pt tb 0, hd := .pointer none, cl := x.cl - m, cd := x.cd }) Tryz.sizeOf3 (Dsat_cl ((x.cl - m))) a0 T0 T2 (by decide)) (TL.b .u8 (CT.seq (CT.q (TL.m m1 (TL.c m0 (TL.f 1037 fo_103_9 m0 (TL.call (r_call ce_114 (.cons T0 .nil)) (fun w hS => t114 f hb { s with r := rif r, roff := x.i, b := x.b, nb := x.nb, hist := Hw hb, wr := x.wr + m, err := .nilIface, hl := pt tb 0, hd := .pointer none, cl := x.cl - m, cd := x.cd } (by show (x.wr + m) ≤ 32768; omega) hS) ?_))))))))))))))))
  rintro z340 w340 ⟨hz340, hS⟩
  replace hz340 : z340 = (i64 (32768 - (x.wr + m))) := hz340
  subst hz340
  refine TW.at hS (TL.val (n_eql ((32768 - (x.wr + m))) 0 T0 .c) (TL.m m0 ?_))
  by_cases g342 : (32768 - (x.wr + m)) = 0
  ·
   have hW : x.wr + m = 32768 := by omega
   refine TL.sub (.eq m0 (congrArg Value.bool (decide_eq_true g342)) (.eq m1 (congrArg Value.bool (decide_eq_true g342)) (.cons m2 (.cons m3 (.cons m4 (.cons m5 (.cons m6 (.cons m7 .nil)))))))) (TL.gn m0 (TL.gn m0 (TL.gn m0 (TL.gn m0 (TL.gn m0 (TL.val (r_pickt T0 .c) (TL.b (.hd .u6) (CT.ift m0 ?_))))))))
   refine CT.y (TL.m m1 (TL.m m2 (TL.c m0 (TL.f 1037 fo_103_9 m0 (TL.call (r_call ce_108 (.cons T0 .nil)) (fun w hS => t108 f hb { s with r := rif r, roff := x.i, b := x.b, nb := x.nb, hist := Hw hb, wr := x.wr + m, err := .nilIface, hl := pt tb 0, hd := .pointer none, cl := x.cl - m, cd := x.cd } (by show s.rd ≤ (x.wr + m); omega) (by show (x.wr + m) ≤ 32768; omega) (by show s.rd < 32768; omega) hS) ?_)))))
   rintro z353 w353 ⟨hz353, hS⟩
   replace hz353 : z353 = (.slice (some ⟨hb, s.rd, none⟩) (((x.wr + m) - s.rd)) ((32768 - s.rd))) := hz353
   subst hz353
   refine TW.at hS (TL.c m4 (TL.f 1049 fo_103_15 m0 (TL.s (r_st (F' := D { s with r := rif r, roff := x.i, b := x.b, nb := x.nb, hist := Hw hb, wr := (x.wr + m) % 32768, rd := (x.wr + m) % 32768, full := s.full || decide ((x.wr + m) = 32768), err := .nilIface, toRead := .slice (some ⟨hb, s.rd, none⟩) (((x.wr + m) - s.rd)) ((32768 - s.rd)), hl := pt tb 0, hd := .pointer none, cl := x.cl - m, cd := x.cd }) Tryz.sizeOf22 (Dsat_toRead (.slice (some ⟨hb, s.rd, none⟩) (((x.wr + m) - s.rd)) ((32768 - s.rd)))) a0 T0 T2 (by decide)) (TL.r .u7 (TL.m m1 (TL.c m0 (TL.f 1045 fo_103_11 m0 (TL.s (r_st (F' := D { s with r := rif r, roff := x.i, b := x.b, nb := x.nb, hist := Hw hb, wr := (x.wr + m) % 32768, rd := (x.wr + m) % 32768, full := s.full || decide ((x.wr + m) = 32768), step := .func (.func 89) #[] #[], err := .nilIface, toRead := .slice (some ⟨hb, s.rd, none⟩) (((x.wr + m) - s.rd)) ((32768 - s.rd)), hl := pt tb 0, hd := .pointer none, cl := x.cl - m, cd := x.cd }) Tryz.sizeOf100 (Dsat_step (.func (.func 89) #[] #[])) a0 T0 .f (by decide)) (TL.r .u3 (TL.m m1 (TL.c m0 (TL.f 1046 fo_103_12 m0 (TL.s (r_st (F' := D { s with r := rif r, roff := x.i, b := x.b, nb := x.nb, hist := Hw hb, wr := (x.wr + m) % 32768, rd := (x.wr + m) % 32768, full := s.full || decide ((x.wr + m) = 32768), step := .func (.func 89) #[] #[], ss := 1, err := .nilIface, toRead := .slice (some ⟨hb, s.rd, none⟩) (((x.wr + m) - s.rd)) ((32768 - s.rd)), hl := pt tb 0, hd := .pointer none, cl := x.cl - m, cd := x.cd }) Tryz.sizeOf3 (Dsat_ss 1) a0 T0 .c (by decide)) (TL.b .u3 (CT.ret (EX.then_ret (EX.scope_ret ?_)))))))))))))))))
   exact EX.perm p4 (EX.perm p4 (EX.perm p4 (EX.perm p4 (EX.perm p4 (EX.end_ (.inl rfl) (res0 Tryz.results89) (fun _ hS => hb_flush (s := s) (ea := ea) (R := R) (s' := { s with r := rif r, roff := x.i, b := x.b, nb := x.nb, hist := Hw hb, wr := (x.wr + m) % 32768, rd := (x.wr + m) % 32768, full := s.full || decide ((x.wr + m) = 32768), step := .func (.func 89) #[] #[], ss := 1, err := .nilIface, toRead := .slice (some ⟨hb, s.rd, none⟩) (((x.wr + m) - s.rd)) ((32768 - s.rd)), hl := pt tb 0, hd := .pointer none, cl := x.cl - m, cd := x.cd }) (W := x.wr + m) (k := x.k) (ls := ls) (ds := ds) (TB := [(blk tb 515 T), (Lnks t)]) rfl rfl rfl rfl rfl rfl rfl rfl rfl H.ex hw1 (by omega) (by omega) hun1 hx.il (.inr ⟨rfl, by show x.cl - m ≤ 258; omega, hc2, by show x.cd ≤ (copyM x.h x.cd m).length; rw [copyM_length]; omega, hc4, rfl⟩) hx.held hx.nbl (by show HTail ls ds s.final x.k (B.drop x.k) (if (1 : Nat) = 0 then _ else copyM (copyM x.h x.cd m) x.cd (x.cl - m)) hF; rw [if_neg (by decide), copyM_add, show m + (x.cl - m) = x.cl by omega]; exact hx.tail) (by show 1000 * (B.length - x.k) + 2 + (x.cl - m) < mu0; omega) (fun m hm => ⟨h256, .inl ⟨(tb, T, t), sep_pure ⟨rfl, rfl, hls, hds, ht, hmn⟩ hm⟩⟩) hS))))))
  refine TL.sub (.eq m0 (congrArg Value.bool (decide_eq_false g342)) (.eq m1 (congrArg Value.bool (decide_eq_false g342)) (.cons m2 (.cons m3 (.cons m4 (.cons m5 (.cons m6 (.cons m7 .nil)))))))) (TL.gv m0 (r_move T7) (TL.gv m1 (r_nil T0) (TL.gv m2 (r_fa (off' := 1052) fo_103_18 T0) (TL.gv m3 (r_ld (v := (i64 (x.cl - m))) Tryz.isAgg3 m0 T0 (by decide) (Dget_cl _)) (TL.gv m4 (n_gtr ((x.cl - m)) 0 T0 .c) (TL.val (r_pickf T5 T0) (TL.b (.hd .u11) (CT.ifd m0 (fun c348 => ?_) (fun c348 => ?_)))))))))
  ·
   have hW : x.wr + m = 32768 := by omega
   refine CT.y (TL.m m1 (TL.m m2 (TL.c m0 (TL.f 1037 fo_103_9 m0 (TL.call (r_call ce_108 (.cons T0 .nil)) (fun w hS => t108 f hb { s with r := rif r, roff := x.i, b := x.b, nb := x.nb, hist := Hw hb, wr := x.wr + m, err := .nilIface, hl := pt tb 0, hd := .pointer none, cl := x.cl - m, cd := x.cd } (by show s.rd ≤ (x.wr + m); omega) (by show (x.wr + m) ≤ 32768; omega) (by show s.rd < 32768; omega) hS) ?_)))))
   rintro z353 w353 ⟨hz353, hS⟩
   replace hz353 : z353 = (.slice (some ⟨hb, s.rd, none⟩) (((x.wr + m) - s.rd)) ((32768 - s.rd))) := hz353
   subst hz353
   refine TW.at hS (TL.c m4 (TL.f 1049 fo_103_15 m0 (TL.s (r_st (F' := D { s with r := rif r, roff := x.i, b := x.b, nb := x.nb, hist := Hw hb, wr := (x.wr + m) % 32768, rd := (x.wr + m) % 32768, full := s.full || decide ((x.wr + m) = 32768), err := .nilIface, toRead := .slice (some ⟨hb, s.rd, none⟩) (((x.wr + m) - s.rd)) ((32768 - s.rd)), hl := pt tb 0, hd := .pointer none, cl := x.cl - m, cd := x.cd }) Tryz.sizeOf22 (Dsat_toRead (.slice (some ⟨hb, s.rd, none⟩) (((x.wr + m) - s.rd)) ((32768 - s.rd)))) a0 T0 T2 (by decide)) (TL.r .u7 (TL.m m1 (TL.c m0 (TL.f 1045 fo_103_11 m0 (TL.s (r_st (F' := D { s with r := rif r, roff := x.i, b := x.b, nb := x.nb, hist := Hw hb, wr := (x.wr + m) % 32768, rd := (x.wr + m) % 32768, full := s.full || decide ((x.wr + m) = 32768), step := .func (.func 89) #[] #[], err := .nilIface, toRead := .slice (some ⟨hb, s.rd, none⟩) (((x.wr + m) - s.rd)) ((32768 - s.rd)), hl := pt tb 0, hd := .pointer none, cl := x.cl - m, cd := x.cd }) Tryz.sizeOf100 (Dsat_step (.func (.func 89) #[] #[])) a0 T0 .f (by decide)) (TL.r .u3 (TL.m m1 (TL.c m0 (TL.f 1046 fo_103_12 m0 (TL.s (r_st (F' := D { s with r := rif r, roff := x.i, b := x.b, nb := x.nb, hist := Hw hb, wr := (x.wr + m) % 32768, rd := (x.wr + m) % 32768, full := s.full || decide ((x.wr + m) = 32768), step := .func (.func 89) #[] #[], ss := 1, err := .nilIface, toRead := .slice (some ⟨hb, s.rd, none⟩) (((x.wr + m) - s.rd)) ((32768 - s.rd)), hl := pt tb 0, hd := .pointer none, cl := x.cl - m, cd := x.cd }) Tryz.sizeOf3 (Dsat_ss 1) a0 T0 .c (by decide)) (TL.b .u3 (CT.ret (EX.then_ret (EX.scope_ret ?_)))))))))))))))))
   exact EX.perm p4 (EX.perm p4 (EX.perm p4 (EX.perm p4 (EX.perm p4 (EX.end_ (.inl rfl) (res0 Tryz.results89) (fun _ hS => hb_flush (s := s) (ea := ea) (R := R) (s' := { s with r := rif r, roff := x.i, b := x.b, nb := x.nb, hist := Hw hb, wr := (x.wr + m) % 32768, rd := (x.wr + m) % 32768, full := s.full || decide ((x.wr + m) = 32768), step := .func (.func 89) #[] #[], ss := 1, err := .nilIface, toRead := .slice (some ⟨hb, s.rd, none⟩) (((x.wr + m) - s.rd)) ((32768 - s.rd)), hl := pt tb 0, hd := .pointer none, cl := x.cl - m, cd := x.cd }) (W := x.wr + m) (k := x.k) (ls := ls) (ds := ds) (TB := [(blk tb 515 T), (Lnks t)]) rfl rfl rfl rfl rfl rfl rfl rfl rfl H.ex hw1 (by omega) (by omega) hun1 hx.il (.inr ⟨rfl, by show x.cl - m ≤ 258; omega, hc2, by show x.cd ≤ (copyM x.h x.cd m).length; rw [copyM_length]; omega, hc4, rfl⟩) hx.held hx.nbl (by show HTail ls ds s.final x.k (B.drop x.k) (if (1 : Nat) = 0 then _ else copyM (copyM x.h x.cd m) x.cd (x.cl - m)) hF; rw [if_neg (by decide), copyM_add, show m + (x.cl - m) = x.cl by omega]; exact hx.tail) (by show 1000 * (B.length - x.k) + 2 + (x.cl - m) < mu0; omega) (fun m hm => ⟨h256, .inl ⟨(tb, T, t), sep_pure ⟨rfl, rfl, hls, hds, ht, hmn⟩ hm⟩⟩) hS))))))
  have hmcl : m = x.cl := by omega
  exact CT.z (EX.seq (CT.goto (EX.jump0 (⟨x.i, x.b, x.nb, (x.wr + m), x.k, (x.cl - m), x.cd, (updh x.hist x.wr (xsM x.h x.cd m)), (copyM x.h x.cd m)⟩) (⟨⟨hw1, by show s.rd ≤ x.wr + m; omega, by show x.wr + m < 32768; omega, hx.held, hx.nbl, hun1, hx.il, hx.s01⟩, by show HTail ls ds s.final x.k (B.drop x.k) (copyM x.h x.cd m) hF; rw [hmcl]; exact hx.tail, by show 1000 * (B.length - x.k) + 1 ≤ mu0; omega, fun _ => ⟨by show x.cl - m = 0; omega, hc2, by show x.cd ≤ (copyM x.h x.cd m).length; rw [copyM_length]; omega, hc4⟩⟩) (by show 2 * (B.length - x.k) < 2 * (B.length - x.k) + 1; omega) (.refl _) (.cons m1 .nil))))
 replace hm1 : x.wr + x.cl ≤ 32768 := hm1
 refine TW.at hS (TL.a m0 (TL.b (.hd .u12) (CT.cut (X := Nat) (fun gx => [(9, (i64 gx)), (0, (pt f 0))]) (fun gx => (blk f 1054 (D { s with r := rif r, roff := x.i, b := x.b, nb := x.nb, hist := Hw hb, wr := x.wr + gx, err := .nilIface, hl := pt tb 0, hd := .pointer none, cl := x.cl, cd := x.cd })) :: Br r B x.i :: blk hb 32768 (fun jj => u8 ((updh x.hist x.wr (xsM x.h x.cd gx)) jj)) :: blk tb 515 T :: Lnks t :: R) (fun gx => gx = min x.cl (32768 - x.wr)) ?_ ?_)))
 ·
  refine CT.q (TL.m m0 (TL.val (n_eql x.cl 0 T0 .c) (TL.b (.hd .u1) (CT.ifd m0 (fun c316 => ?_) (fun c316 => ?_)))))
  ·
   exfalso; omega
  exact CT.z (EX.perm p4 (EX.perm p4 (EX.perm p3 (EX.perm p4 (EX.perm p4 (EX.meet x.cl (by omega) (.refl _) (.cons m0 (.cons m1 .nil))))))))
 rintro m hm
 have hmc : m ≤ x.cl := by omega
 have hmw : x.wr + m ≤ 32768 := by omega
 have hw1 := hw.write (xs := xsM x.h x.cd m) (by rw [xsM_length]; exact hmw)
 rw [xsM_length, ← copyM_split] at hw1
 have hun1 : ∃ un, copyM x.h x.cd m = del ++ un ∧ un.length = x.wr + m - s.rd := by rw [copyM_split]; exact un_app hx.un (xsM_length _ _ _) hrw
 refine CT.q (TL.m m1 (TL.c m0 (TL.f 1052 fo_103_18 m0 (TL.val (r_ld (v := (i64 x.cl)) Tryz.isAgg3 m0 T0 (by decide) (Dget_cl _)) (TL.m m4 (TL.val (n_sub x.cl m 9223372036854775808 T1 T0) (TL.c m5 (TL.f 1052 fo_103_18 m0 (TL.s (r_st (F' := D { s with r := rif r, roff := x.i, b := x.b, nb := x.nb, hist := Hw hb, wr := x.wr + m, err := .nilIface, hl := pt tb 0, hd := .pointer none, cl := x.cl - m, cd := x.cd }) Tryz.sizeOf3 (Dsat_cl ((x.cl - m))) a0 T0 T2 (by decide)) (TL.b .u8 (CT.seq (CT.q (TL.m m1 (TL.c m0 (TL.f 1037 fo_103_9 m0 (TL.call (r_call ce_114 (.cons T0 .nil)) (fun w hS => t114 f hb { s with r := rif r, roff := x.i, b := x.b, nb := x.nb, hist := Hw hb, wr := x.wr + m, err := .nilIface, hl := pt tb 0, hd := .pointer none, cl := x.cl - m, cd := x.cd } (by show (x.wr + m) ≤ 32768; omega) hS) ?_))))))))))))))))
 rintro z340 w340 ⟨hz340, hS⟩
 replace hz340 : z340 = (i64 (32768 - (x.wr + m))) := hz340
 subst hz340
 refine TW.at hS (TL.val (n_eql ((32768 - (x.wr + m))) 0 T0 .c) (TL.m m0 ?_))
 by_cases g342 : (32768 - (x.wr + m)) = 0
 ·
  have hW : x.wr + m = 32768 := by omega
  refine TL.sub (.eq m0 (congrArg Value.bool (decide_eq_true g342)) (.eq m1 (congrArg Value.bool (decide_eq_true g342)) (.cons m2 (.cons m3 (.cons m4 (.cons m5 (.cons m6 (.cons m7 .nil)))))))) (TL.gn m0 (TL.gn m0 (TL.gn m0 (TL.gn m0 (TL.gn m0 (TL.val (r_pickt T0 .c) (TL.b (.hd .u6) (CT.ift m0 ?_))))))))
  refine CT.y (TL.m m1 (TL.m m2 (TL.c m0 (TL.f 1037 fo_103_9 m0 (TL.call (r_call ce_108 (.cons T0 .nil)) (fun w hS => t108 f hb { s with r := rif r, roff := x.i, b := x.b, nb := x.nb, hist := Hw hb, wr := x.wr + m, err := .nilIface, hl := pt tb 0, hd := .pointer none, cl := x.cl - m, cd := x.cd } (by show s.rd ≤ (x.wr + m); omega) (by show (x.wr + m) ≤ 32768; omega) (by show s.rd < 32768; omega) hS) ?_)))))
  rintro z353 w353 ⟨hz353, hS⟩
  replace hz353 : z353 = (.slice (some ⟨hb, s.rd, none⟩) (((x.wr + m) - s.rd)) ((32768 - s.rd))) := hz353
  subst hz353
  refine TW.at hS (TL.c m4 (TL.f 1049 fo_103_15 m0 (TL.s (r_st (F' := D { s with r := rif r, roff := x.i, b := x.b, nb := x.nb, hist := Hw hb, wr := (x.wr + m) % 32768, rd := (x.wr + m) % 32768, full := s.full || decide ((x.wr + m) = 32768), err := .nilIface, toRead := .slice (some ⟨hb, s.rd, none⟩) (((x.wr + m) - s.rd)) ((32768 - s.rd)), hl := pt tb 0, hd := .pointer none, cl := x.cl - m, cd := x.cd }) Tryz.sizeOf22 (Dsat_toRead (.slice (some ⟨hb, s.rd, none⟩) (((x.wr + m) - s.rd)) ((32768 - s.rd)))) a0 T0 T2 (by decide)) (TL.r .u7 (TL.m m1 (TL.c m0 (TL.f 1045 fo_103_11 m0 (TL.s (r_st (F' := D { s with r := rif r, roff := x.i, b := x.b, nb := x.nb, hist := Hw hb, wr := (x.wr + m) % 32768, rd := (x.wr + m) % 32768, full := s.full || decide ((x.wr + m) = 32768), step := .func (.func 89) #[] #[], err := .nilIface, toRead := .slice (some ⟨hb, s.rd, none⟩) (((x.wr + m) - s.rd)) ((32768 - s.rd)), hl := pt tb 0, hd := .pointer none, cl := x.cl - m, cd := x.cd }) Tryz.sizeOf100 (Dsat_step (.func (.func 89) #[] #[])) a0 T0 .f (by decide)) (TL.r .u3 (TL.m m1 (TL.c m0 (TL.f 1046 fo_103_12 m0 (TL.s (r_st (F' := D { s with r := rif r, roff := x.i, b := x.b, nb := x.nb, hist := Hw hb, wr := (x.wr + m) % 32768, rd := (x.wr + m) % 32768, full := s.full || decide ((x.wr + m) = 32768), step := .func (.func 89) #[] #[], ss := 1, err := .nilIface, toRead := .slice (some ⟨hb, s.rd, none⟩) (((x.wr + m) - s.rd)) ((32768 - s.rd)), hl := pt tb 0, hd := .pointer none, cl := x.cl - m, cd := x.cd }) Tryz.sizeOf3 (Dsat_ss 1) a0 T0 .c (by decide)) (TL.b .u3 (CT.ret (EX.then_ret (EX.scope_ret ?_)))))))))))))))))
  exact EX.perm p4 (EX.perm p4 (EX.perm p4 (EX.perm p4 (EX.perm p4 (EX.end_ (.inl rfl) (res0 Tryz.results89) (fun _ hS => hb_flush (s := s) (ea := ea) (R := R) (s' := { s with r := rif r, roff := x.i, b := x.b, nb := x.nb, hist := Hw hb, wr := (x.wr + m) % 32768, rd := (x.wr + m) % 32768, full := s.full || decide ((x.wr + m) = 32768), step := .func (.func 89) #[] #[], ss := 1, err := .nilIface, toRead := .slice (some ⟨hb, s.rd, none⟩) (((x.wr + m) - s.rd)) ((32768 - s.rd)), hl := pt tb 0, hd := .pointer none, cl := x.cl - m, cd := x.cd }) (W := x.wr + m) (k := x.k) (ls := ls) (ds := ds) (TB := [(blk tb 515 T), (Lnks t)]) rfl rfl rfl rfl rfl rfl rfl rfl rfl H.ex hw1 (by omega) (by omega) hun1 hx.il (.inr ⟨rfl, by show x.cl - m ≤ 258; omega, hc2, by show x.cd ≤ (copyM x.h x.cd m).length; rw [copyM_length]; omega, hc4, rfl⟩) hx.held hx.nbl (by show HTail ls ds s.final x.k (B.drop x.k) (if (1 : Nat) = 0 then _ else copyM (copyM x.h x.cd m) x.cd (x.cl - m)) hF; rw [if_neg (by decide), copyM_add, show m + (x.cl - m) = x.cl by omega]; exact hx.tail) (by show 1000 * (B.length - x.k) + 2 + (x.cl - m) < mu0; omega) (fun m hm => ⟨h256, .inl ⟨(tb, T, t), sep_pure ⟨rfl, rfl, hls, hds, ht, hmn⟩ hm⟩⟩) hS))))))
 refine TL.sub (.eq m0 (congrArg Value.bool (decide_eq_false g342)) (.eq m1 (congrArg Value.bool (decide_eq_false g342)) (.cons m2 (.cons m3 (.cons m4 (.cons m5 (.cons m6 (.cons m7 .nil)))))))) (TL.gv m0 (r_move T7) (TL.gv m1 (r_nil T0) (TL.gv m2 (r_fa (off' := 1052) fo_103_18 T0) (TL.gv m3 (r_ld (v := (i64 (x.cl - m))) Tryz.isAgg3 m0 T0 (by decide) (Dget_cl _)) (TL.gv m4 (n_gtr ((x.cl - m)) 0 T0 .c) (TL.val (r_pickf T5 T0) (TL.b (.hd .u11) (CT.ifd m0 (fun c348 => ?_) (fun c348 => ?_)))))))))
 ·
  have hW : x.wr + m = 32768 := by omega
  refine CT.y (TL.m m1 (TL.m m2 (TL.c m0 (TL.f 1037 fo_103_9 m0 (TL.call (r_call ce_108 (.cons T0 .nil)) (fun w hS => t108 f hb { s with r := rif r, roff := x.i, b := x.b, nb := x.nb, hist := Hw hb, wr := x.wr + m, err := .nilIface, hl := pt tb 0, hd := .pointer none, cl := x.cl - m, cd := x.cd } (by show s.rd ≤ (x.wr + m); omega) (by show (x.wr + m) ≤ 32768; omega) (by show s.rd < 32768; omega) hS) ?_)))))
  rintro z353 w353 ⟨hz353, hS⟩
  replace hz353 : z353 = (.slice (some ⟨hb, s.rd, none⟩) (((x.wr + m) - s.rd)) ((32768 - s.rd))) := hz353
  subst hz353
  refine TW.at hS (TL.c m4 (TL.f 1049 fo_103_15 m0 (TL.s (r_st (F' := D { s with r := rif r, roff := x.i, b := x.b, nb := x.nb, hist := Hw hb, wr := (x.wr + m) % 32768, rd := (x.wr + m) % 32768, full := s.full || decide ((x.wr + m) = 32768), err := .nilIface, toRead := .slice (some ⟨hb, s.rd, none⟩) (((x.wr + m) - s.rd)) ((32768 - s.rd)), hl := pt tb 0, hd := .pointer none, cl := x.cl - m, cd := x.cd }) Tryz.sizeOf22 (Dsat_toRead (.slice (some ⟨hb, s.rd, none⟩) (((x.wr + m) - s.rd)) ((32768 - s.rd)))) a0 T0 T2 (by decide)) (TL.r .u7 (TL.m m1 (TL.c m0 (TL.f 1045 fo_103_11 m0 (TL.s (r_st (F' := D { s with r := rif r, roff := x.i, b := x.b, nb := x.nb, hist := Hw hb, wr := (x.wr + m) % 32768, rd := (x.wr + m) % 32768, full := s.full || decide ((x.wr + m) = 32768), step := .func (.func 89) #[] #[], err := .nilIface, toRead := .slice (some ⟨hb, s.rd, none⟩) (((x.wr + m) - s.rd)) ((32768 - s.rd)), hl := pt tb 0, hd := .pointer none, cl := x.cl - m, cd := x.cd }) Tryz.sizeOf100 (Dsat_step (.func (.func 89) #[] #[])) a0 T0 .f (by decide)) (TL.r .u3 (TL.m m1 (TL.c m0 (TL.f 1046 fo_103_12 m0 (TL.s (r_st (F' := D { s with r := rif r, roff := x.i, b := x.b, nb := x.nb, hist := Hw hb, wr := (x.wr + m) % 32768, rd := (x.wr + m) % 32768, full := s.full || decide ((x.wr + m) = 32768), step := .func (.func 89) #[] #[], ss := 1, err := .nilIface, toRead := .slice (some ⟨hb, s.rd, none⟩) (((x.wr + m) - s.rd)) ((32768 - s.rd)), hl := pt tb 0, hd := .pointer none, cl := x.cl - m, cd := x.cd }) Tryz.sizeOf3 (Dsat_ss 1) a0 T0 .c (by decide)) (TL.b .u3 (CT.ret (EX.then_ret (EX.scope_ret ?_)))))))))))))))))
  exact EX.perm p4 (EX.perm p4 (EX.perm p4 (EX.perm p4 (EX.perm p4 (EX.end_ (.inl rfl) (res0 Tryz.results89) (fun _ hS => hb_flush (s := s) (ea := ea) (R := R) (s' := { s with r := rif r, roff := x.i, b := x.b, nb := x.nb, hist := Hw hb, wr := (x.wr + m) % 32768, rd := (x.wr + m) % 32768, full := s.full || decide ((x.wr + m) = 32768), step := .func (.func 89) #[] #[], ss := 1, err := .nilIface, toRead := .slice (some ⟨hb, s.rd, none⟩) (((x.wr + m) - s.rd)) ((32768 - s.rd)), hl := pt tb 0, hd := .pointer none, cl := x.cl - m, cd := x.cd }) (W := x.wr + m) (k := x.k) (ls := ls) (ds := ds) (TB := [(blk tb 515 T), (Lnks t)]) rfl rfl rfl rfl rfl rfl rfl rfl rfl H.ex hw1 (by omega) (by omega) hun1 hx.il (.inr ⟨rfl, by show x.cl - m ≤ 258; omega, hc2, by show x.cd ≤ (copyM x.h x.cd m).length; rw [copyM_length]; omega, hc4, rfl⟩) hx.held hx.nbl (by show HTail ls ds s.final x.k (B.drop x.k) (if (1 : Nat) = 0 then _ else copyM (copyM x.h x.cd m) x.cd (x.cl - m)) hF; rw [if_neg (by decide), copyM_add, show m + (x.cl - m) = x.cl by omega]; exact hx.tail) (by show 1000 * (B.length - x.k) + 2 + (x.cl - m) < mu0; omega) (fun m hm => ⟨h256, .inl ⟨(tb, T, t), sep_pure ⟨rfl, rfl, hls, hds, ht, hmn⟩ hm⟩⟩) hS))))))
 have hmcl : m = x.cl := by omega
 exact CT.z (EX.seq (CT.goto (EX.jump0 (⟨x.i, x.b, x.nb, (x.wr + m), x.k, (x.cl - m), x.cd, (updh x.hist x.wr (xsM x.h x.cd m)), (copyM x.h x.cd m)⟩) (⟨⟨hw1, by show s.rd ≤ x.wr + m; omega, by show x.wr + m < 32768; omega, hx.held, hx.nbl, hun1, hx.il, hx.s01⟩, by show HTail ls ds s.final x.k (B.drop x.k) (copyM x.h x.cd m) hF; rw [hmcl]; exact hx.tail, by show 1000 * (B.length - x.k) + 1 ≤ mu0; omega, fun _ => ⟨by show x.cl - m = 0; omega, hc2, by show x.cd ≤ (copyM x.h x.cd m).length; rw [copyM_length]; omega, hc4⟩⟩) (by show 2 * (B.length - x.k) < 2 * (B.length - x.k) + 1; omega) (.refl _) (.cons m1 .nil))))
end Go.Eng
namespace Go.Eng
open Go Go.Proofs Go.Infl
theorem t89_D {G : World} {R : List HProp} {w : World} {bb cb f r hb i k : Nat} {B : List Bool} {hF : List Nat × Bool} {del un ls ds : List Nat} {ea : Addr} {s : DS} {hist : Nat → Nat} {mu0 : Nat} (hE : EOFIs G ea) (hBl : B.length < 1099511627776) (H : Base bb cb r hb B s i hist (del ++ un)) (htr : TR hb hist s.toRead []) (herr : s.err = .nilIface) (h256 : LOk ls 256) {t td : TD} (hhl : s.hl = pt f 5) (hhd : s.hd = pt f 520) (ht : TDok ls t s.H) (hmn : t.mn = ls.getD 256 0) (htd : (TDok ds td (fun j => s.H (515 + j)) ∧ ∀ k, LOk ds k → td.mn ≤ ds.getD k 0) ∨ ∀ y ∈ ds, y = 0)
 (hent : (s.ss = 0 ∧ HI0 B hF del s ls ds mu0 ⟨i, s.b, s.nb, s.wr, k, s.cl, s.cd, hist, del ++ un⟩) ∨ (s.ss = 1 ∧ HI1 B hF del s ls ds mu0 ⟨i, s.b, s.nb, s.wr, k, s.cl, s.cd, hist, del ++ un⟩))
 (hS : Sat G w (blk f 1054 (D s) :: Br r B i :: blk hb 32768 (fun j => u8 (hist j)) :: Lnks t :: Lnks td :: R)) : CallsR Tryz.prog 89 #[pt f 0] w (fun _ w' => Sat G w' (RSA true bb cb f r hb B hF (.iface 187 (.pointer (some ea))) del (· < mu0) :: R)) := by
 have hs : s = { s with r := rif r, roff := i, hist := Hw hb, err := .nilIface, hl := pt f 5, hd := pt f 520 } := by have h5 := H.r_; have h6 := H.hi; have h7 := H.ro; cases s; simp_all
 replace hS := hS.D hs
 refine calls_in (n := 362) [(0, (pt f 0))] Tryz.func89 rfl rfl hS args1 ?_
 refine CT.scopeJ (X := HX) (fun gx => [(0, (pt f 0))]) (fun gx => [(0, (pt f 0))]) (fun gx => (blk f 1054 (D { s with r := rif r, roff := gx.i, b := gx.b, nb := gx.nb, hist := Hw hb, wr := gx.wr, err := .nilIface, hl := pt f 5, hd := pt f 520, cl := gx.cl, cd := gx.cd })) :: Br r B gx.i :: blk hb 32768 (fun jj => u8 (gx.hist jj)) :: Lnks t :: Lnks td :: R) (fun gx => (blk f 1054 (D { s with r := rif r, roff := gx.i, b := gx.b, nb := gx.nb, hist := Hw hb, wr := gx.wr, err := .nilIface, hl := pt f 5, hd := pt f 520, cl := gx.cl, cd := gx.cd })) :: Br r B gx.i :: blk hb 32768 (fun jj => u8 (gx.hist jj)) :: Lnks t :: Lnks td :: R) (HI0 B hF del s ls ds mu0) (HI1 B hF del s ls ds mu0) (fun gx => 2 * (B.length - gx.k)) (fun gx => 2 * (B.length - gx.k) + 1) (by rfl) (by rfl) ?_ ?_ ?_
 ·
  refine CT.seq (CT.seq ?_)
  rcases hent with ⟨hss, hx⟩ | ⟨hss, hx⟩
  ·
   refine CT.fold (A' := (blk f 1054 (D { s with r := rif r, roff := i, hist := Hw hb, ss := 0, err := .nilIface, hl := pt f 5, hd := pt f 520 }))) a0 (D_eq (by rw [← hss])) (CT.region (TL.m m0 (TL.c m0 (TL.f 1046 fo_103_12 m0 (TL.val (r_ld (v := (.int .i64 0)) Tryz.isAgg3 m0 T0 (by decide) (Dget_ss _)) (TL.b (.hd .u3) (CT.block (CT.q (TL.val (show Run _ _ _ _ _ _ (.bool true) from n_eql 0 0 T0 .c rfl rfl) (TL.a m0 (TL.b (.hd .u1) (CT.ift m0 ?_))))))))))))
   exact CT.sub .u1 (CT.goto (EX.bgoto (EX.then_goto (EX.fold (A' := (blk f 1054 (D { s with r := rif r, roff := i, hist := Hw hb, err := .nilIface, hl := pt f 5, hd := pt f 520 }))) a0 (D_eq (by rw [hss])) (EX.jump0 (⟨i, s.b, s.nb, s.wr, k, s.cl, s.cd, hist, del ++ un⟩) hx trivial (.refl _) (.cons m1 .nil))))))
  refine CT.fold (A' := (blk f 1054 (D { s with r := rif r, roff := i, hist := Hw hb, ss := 1, err := .nilIface, hl := pt f 5, hd := pt f 520 }))) a0 (D_eq (by rw [← hss])) (CT.region (TL.m m0 (TL.c m0 (TL.f 1046 fo_103_12 m0 (TL.val (r_ld (v := (.int .i64 1)) Tryz.isAgg3 m0 T0 (by decide) (Dget_ss _)) (TL.b (.hd .u3) (CT.block (CT.q (TL.val (show Run _ _ _ _ _ _ (.bool false) from n_eql 1 0 T0 .c rfl rfl) (TL.a m0 (TL.b (.hd .u1) (CT.iff_ m0 ?_))))))))))))
  refine CT.y (TL.val (show Run _ _ _ _ _ _ (.bool true) from n_eql 1 1 T0 .c rfl rfl) (TL.a m0 (TL.b (.hd .u1) (CT.ift m0 ?_))))
  exact CT.sub .u1 (CT.goto (EX.bgoto (EX.then_goto (EX.fold (A' := (blk f 1054 (D { s with r := rif r, roff := i, hist := Hw hb, err := .nilIface, hl := pt f 5, hd := pt f 520 }))) a0 (D_eq (by rw [hss])) (EX.jump1 (⟨i, s.b, s.nb, s.wr, k, s.cl, s.cd, hist, del ++ un⟩) hx trivial (.refl _) (.cons m1 .nil))))))
 ·
  intro x hx
  show CT _ _ _ [(0, (pt f 0))] _ _ (blk f 1054 (D { s with r := rif r, roff := x.i, b := x.b, nb := x.nb, hist := Hw hb, wr := x.wr, err := .nilIface, hl := pt f 5, hd := pt f 520, cl := x.cl, cd := x.cd }) :: Br r B x.i :: blk hb 32768 (fun jj => u8 (x.hist jj)) :: Lnks t :: Lnks td :: R)
  refine CT.seq (CT.skip (EX.seq (CT.seq (CT.seq ?_))))
  obtain ⟨hstep, hlen⟩ := hx.tail.step
  have hnx := hstep.next
  clear hstep
  have hw := hx.win
  have hwl := hx.wl
  have hrw := hx.rw_
  have hnbl := hx.nbl
  have hmu := hx.mu
  have hheld := hx.held
  have hil := hx.il
  have hE15 := h256.2.2
  have hpB : (pack B).length < 9223372036854775807 := by rw [pack_length]; omega
  have hlb := List.length_drop (i := x.k) (l := B)
  have hnb22 : x.nb ≤ 22 := by omega
  generalize hbits : B.drop x.k = bits at hnx hlen hlb
  rw [← hmn] at hlen
  rcases hnx with @⟨y, rest, hok, hy, htl⟩ | @⟨rest, haf⟩ | @⟨y, rest, hy, hok, he⟩ | @⟨n, c, v, c2, rest, hla, hok, hok2, hda⟩
  ·
   have hmr := Nat.le_trans hlen (Nat.le_of_eq hlb)
   have hlk1 := hok.2.1; have hlk2 := hok.2.2
   rw [List.length_append, symB_length] at hlb
   have hkB : x.k + ls.getD y 0 ≤ B.length := by omega
   clear hlb hlen
   refine CT.region (TL.m m0 (TL.m m1 (TL.c m0 (TL.f 1050 fo_103_16 m0 (TL.val (r_ld (v := (pt f 5)) Tryz.isAgg101 m0 T0 (by decide) (Dget_hl _)) (TL.perm p3 (TL.perm p4 (TL.perm p3 (TL.perm p3 (TL.call (r_call ce_112 (.cons T4 (.cons T0 .nil))) (fun w hS => t112 (s := { s with r := rif r, roff := x.i, b := x.b, nb := x.nb, hist := Hw hb, wr := x.wr, err := .nilIface, hl := pt f 5, hd := pt f 520, cl := x.cl, cd := x.cd }) (k := y) (at_ := x.k) trd_h1 ht hok hbits hheld hnb22 hmr hBl hil rfl rfl hS) ?_))))))))))
   rintro _ w24 ⟨i1, b1, n1, rfl, hk1, hn1, hil1, hS⟩
   refine TW.at hS ?_
   replace hn1 : n1 + ls.getD y 0 ≤ max x.nb (max t.mn (ls.getD y 0) + 7) := hn1
   rw [hmn] at hn1
   replace hn1 := sym_nb hn1 hnbl hlk1
   have hdr1 := drop_app hbits
   rw [symB_length] at hdr1
   clear hmr
   refine TL.m m0 (TL.val (r_ext T0) (TL.val (r_ext T1) (TL.a m1 (TL.a m1 (TL.b (.hd (.hd .u9)) (CT.seq (CT.q (TL.m m0 (TL.val (r_nen Tryz.underlying82 T0) (TL.b (.hd .u1) (CT.iff_ m0 ?_)))))))))))
   refine CT.z (EX.q (TL.val (r_asg .c) (TL.q (TL.val (r_asg .c) (TL.e (CT.seq (CT.block (CT.q (TL.m m3 (TL.val (n_lss y 256 T0 .c) (TL.a m0 (TL.b (.hd .u2) (CT.ifd m0 (fun c41 => ?_) (fun c41 => ?_))))))))))))))
   ·
    refine CT.y (TL.m m4 (TL.c m0 (TL.f 1037 fo_103_9 m0 (TL.m m6 (TL.val (n_conv y 256 ⟨_, Tryz.underlying3⟩ Tryz.underlying5 T0 rfl (by omega)) (TL.perm p4 (TL.perm p1 (TL.call (r_call ce_113 (.cons T2 (.cons T0 .nil))) (fun w hS => t113 f hb { s with r := rif r, roff := i1, b := b1, nb := n1, hist := Hw hb, wr := x.wr, err := .nilIface, hl := pt f 5, hd := pt f 520, cl := x.cl, cd := x.cd } x.hist y (by show x.wr < 32768; omega) hS) ?_))))))))
    rintro _ w49 ⟨rfl, hS⟩
    refine TW.at hS ?_
    have hw1 := hw.write (xs := [y]) (by show x.wr + 1 ≤ 32768; omega)
    replace hw1 : Win (updh x.hist x.wr [y]) (x.wr + 1) s.full (x.h ++ [y]) := hw1
    have hun1 : ∃ un, x.h ++ [y] = del ++ un ∧ un.length = x.wr + 1 - s.rd := un_app hx.un rfl hrw
    refine TL.b .u6 (CT.seq (CT.q (TL.m m4 (TL.c m0 (TL.f 1037 fo_103_9 m0 (TL.call (r_call ce_114 (.cons T0 .nil)) (fun w hS => t114 f hb { s with r := rif r, roff := i1, b := b1, nb := n1, hist := Hw hb, wr := x.wr + 1, err := .nilIface, hl := pt f 5, hd := pt f 520, cl := x.cl, cd := x.cd } (by show (x.wr + 1) ≤ 32768; omega) hS) ?_))))))
    rintro z53 w53 ⟨hz53, hS⟩
    replace hz53 : z53 = (i64 (32768 - (x.wr + 1))) := hz53
    subst hz53
    refine TW.at hS (TL.val (n_eql ((32768 - (x.wr + 1))) 0 T0 .c) (TL.b (.hd .u4) (CT.ifd m0 (fun c54 => ?_) (fun c54 => ?_))))
    ·
     refine CT.y (TL.m m4 (TL.m m5 (TL.c m0 (TL.f 1037 fo_103_9 m0 (TL.call (r_call ce_108 (.cons T0 .nil)) (fun w hS => t108 f hb { s with r := rif r, roff := i1, b := b1, nb := n1, hist := Hw hb, wr := x.wr + 1, err := .nilIface, hl := pt f 5, hd := pt f 520, cl := x.cl, cd := x.cd } (by show s.rd ≤ (x.wr + 1); omega) (by show (x.wr + 1) ≤ 32768; omega) (by show s.rd < 32768; omega) hS) ?_)))))
     rintro z59 w59 ⟨hz59, hS⟩
     replace hz59 : z59 = (.slice (some ⟨hb, s.rd, none⟩) (((x.wr + 1) - s.rd)) ((32768 - s.rd))) := hz59
     subst hz59
     refine TW.at hS (TL.c m4 (TL.f 1049 fo_103_15 m0 (TL.s (r_st (F' := D { s with r := rif r, roff := i1, b := b1, nb := n1, hist := Hw hb, wr := (x.wr + 1) % 32768, rd := (x.wr + 1) % 32768, full := s.full || decide ((x.wr + 1) = 32768), err := .nilIface, toRead := .slice (some ⟨hb, s.rd, none⟩) (((x.wr + 1) - s.rd)) ((32768 - s.rd)), hl := pt f 5, hd := pt f 520, cl := x.cl, cd := x.cd }) Tryz.sizeOf22 (Dsat_toRead (.slice (some ⟨hb, s.rd, none⟩) (((x.wr + 1) - s.rd)) ((32768 - s.rd)))) a0 T0 T2 (by decide)) (TL.r .u7 (TL.m m4 (TL.c m0 (TL.f 1045 fo_103_11 m0 (TL.s (r_st (F' := D { s with r := rif r, roff := i1, b := b1, nb := n1, hist := Hw hb, wr := (x.wr + 1) % 32768, rd := (x.wr + 1) % 32768, full := s.full || decide ((x.wr + 1) = 32768), step := .func (.func 89) #[] #[], err := .nilIface, toRead := .slice (some ⟨hb, s.rd, none⟩) (((x.wr + 1) - s.rd)) ((32768 - s.rd)), hl := pt f 5, hd := pt f 520, cl := x.cl, cd := x.cd }) Tryz.sizeOf100 (Dsat_step (.func (.func 89) #[] #[])) a0 T0 .f (by decide)) (TL.r .u3 (TL.m m4 (TL.c m0 (TL.f 1046 fo_103_12 m0 (TL.s (r_st (F' := D { s with r := rif r, roff := i1, b := b1, nb := n1, hist := Hw hb, wr := (x.wr + 1) % 32768, rd := (x.wr + 1) % 32768, full := s.full || decide ((x.wr + 1) = 32768), step := .func (.func 89) #[] #[], ss := 0, err := .nilIface, toRead := .slice (some ⟨hb, s.rd, none⟩) (((x.wr + 1) - s.rd)) ((32768 - s.rd)), hl := pt f 5, hd := pt f 520, cl := x.cl, cd := x.cd }) Tryz.sizeOf3 (Dsat_ss 0) a0 T0 .c (by decide)) (TL.b .u3 (CT.ret (EX.then_ret (EX.bret (EX.then_ret (EX.then_ret (EX.scope_ret ?_))))))))))))))))))))
     exact EX.perm p3 (EX.perm p4 (EX.perm p3 (EX.perm p4 (EX.perm p4 (EX.end_ (.inl rfl) (res0 Tryz.results89) (fun _ hS => hb_flush (s := s) (ea := ea) (R := R) (s' := { s with r := rif r, roff := i1, b := b1, nb := n1, hist := Hw hb, wr := (x.wr + 1) % 32768, rd := (x.wr + 1) % 32768, full := s.full || decide ((x.wr + 1) = 32768), step := .func (.func 89) #[] #[], ss := 0, err := .nilIface, toRead := .slice (some ⟨hb, s.rd, none⟩) (((x.wr + 1) - s.rd)) ((32768 - s.rd)), hl := pt f 5, hd := pt f 520, cl := x.cl, cd := x.cd }) (W := x.wr + 1) (k := (x.k + ls.getD y 0)) (ls := ls) (ds := ds) (TB := [(Lnks t), (Lnks td)]) rfl rfl rfl rfl rfl rfl rfl rfl rfl H.ex hw1 (by omega) (by omega) hun1 hil1 (.inl ⟨rfl, rfl⟩) hk1 hn1 (by rw [if_pos rfl, hdr1]; exact htl) (by omega) (fun m hm => ⟨h256, .inr ⟨(t, td), sep_pure ⟨rfl, rfl, ht, hmn, htd⟩ hm⟩⟩) hS))))))
    exact CT.z (EX.seq (CT.goto (EX.bgoto (EX.then_goto (EX.then_goto (EX.perm p3 (EX.perm p4 (EX.perm p3 (EX.perm p4 (EX.perm p4 (EX.jump0 (⟨i1, b1, n1, (x.wr + 1), (x.k + ls.getD y 0), x.cl, x.cd, (updh x.hist x.wr [y]), (x.h ++ [y])⟩) (⟨⟨hw1, by show s.rd ≤ x.wr + 1; omega, by show x.wr + 1 < 32768; omega, hk1, hn1, hun1, hil1, hx.s01⟩, by show HTail ls ds s.final (x.k + ls.getD y 0) (B.drop (x.k + ls.getD y 0)) (x.h ++ [y]) hF; rw [hdr1]; exact htl, by show 1000 * (B.length - (x.k + ls.getD y 0)) + 1 ≤ mu0; omega, fun e => by have := hx.z e; show x.cl = 0 ∧ 1 ≤ x.cd ∧ x.cd ≤ (x.h ++ [y]).length ∧ x.cd ≤ 32768; rw [List.length_append]; omega⟩) (by show 2 * (B.length - (x.k + ls.getD y 0)) < 2 * (B.length - x.k); omega) (.refl _) (.cons m4 .nil))))))))))))
   exfalso; omega
  ·
   have hmr := Nat.le_trans hlen (Nat.le_of_eq hlb)
   have hok := h256
   have hlk1 := hok.2.1; have hlk2 := hok.2.2
   rw [List.length_append, symB_length] at hlb
   have hkB : x.k + ls.getD 256 0 ≤ B.length := by omega
   clear hlb hlen
   refine CT.region (TL.m m0 (TL.m m1 (TL.c m0 (TL.f 1050 fo_103_16 m0 (TL.val (r_ld (v := (pt f 5)) Tryz.isAgg101 m0 T0 (by decide) (Dget_hl _)) (TL.perm p3 (TL.perm p4 (TL.perm p3 (TL.perm p3 (TL.call (r_call ce_112 (.cons T4 (.cons T0 .nil))) (fun w hS => t112 (s := { s with r := rif r, roff := x.i, b := x.b, nb := x.nb, hist := Hw hb, wr := x.wr, err := .nilIface, hl := pt f 5, hd := pt f 520, cl := x.cl, cd := x.cd }) (k := 256) (at_ := x.k) trd_h1 ht hok hbits hheld hnb22 hmr hBl hil rfl rfl hS) ?_))))))))))
   rintro _ w24 ⟨i1, b1, n1, rfl, hk1, hn1, hil1, hS⟩
   refine TW.at hS ?_
   replace hn1 : n1 + ls.getD 256 0 ≤ max x.nb (max t.mn (ls.getD 256 0) + 7) := hn1
   rw [hmn] at hn1
   replace hn1 := sym_nb0 hn1 hnbl
   have hdr1 := drop_app hbits
   rw [symB_length] at hdr1
   clear hmr
   refine TL.m m0 (TL.val (r_ext T0) (TL.val (r_ext T1) (TL.a m1 (TL.a m1 (TL.b (.hd (.hd .u9)) (CT.seq (CT.q (TL.m m0 (TL.val (r_nen Tryz.underlying82 T0) (TL.b (.hd .u1) (CT.iff_ m0 ?_)))))))))))
   refine CT.z (EX.q (TL.val (r_asg .c) (TL.q (TL.val (r_asg .c) (TL.e (CT.seq (CT.block (CT.q (TL.m m3 (TL.val (show Run _ _ _ _ _ _ (.bool false) from n_lss 256 256 T0 .c rfl rfl) (TL.a m0 (TL.b (.hd .u2) (CT.iff_ m0 ?_)))))))))))))
   refine CT.y (TL.m m3 (TL.val (show Run _ _ _ _ _ _ (.bool true) from n_eql 256 256 T0 .c rfl rfl) (TL.a m0 (TL.b (.hd .u2) (CT.ift m0 ?_)))))
   refine CT.y (TL.m m4 (TL.call (r_call ce_109 (.cons T0 .nil)) (fun w hS => t109 f hb { s with r := rif r, roff := i1, b := b1, nb := n1, hist := Hw hb, wr := x.wr, err := .nilIface, hl := pt f 5, hd := pt f 520, cl := x.cl, cd := x.cd } (by show s.rd ≤ x.wr; omega) (by show x.wr < 32768; omega) hE hS) ?_))
   rintro _ w72 ⟨rfl, hS⟩
   refine TW.at hS (TL.b .u2 (CT.ret (EX.bret (EX.then_ret (EX.then_ret (EX.scope_ret ?_))))))
   exact EX.perm p2 (EX.perm p3 (EX.perm p4 (EX.perm p4 (EX.perm p4 (EX.end_ (.inl rfl) (res0 Tryz.results89) (fun _ hS => hb_fin (ea := ea) (R := R) (s' := { s with r := rif r, roff := i1, b := b1, nb := n1, hist := Hw hb, wr := x.wr, err := .nilIface, hl := pt f 5, hd := pt f 520, cl := x.cl, cd := x.cd }) (k := x.k + ls.getD 256 0) (TB := [(Lnks t), (Lnks td)]) rfl rfl htr.nil rfl rfl H.ex hw hrw hwl hx.un hil1 hx.sd hx.cl0 hk1 hn1 (by rw [hdr1]; exact haf) (by omega) hS))))))
  ·
   have hmr := Nat.le_trans hlen (Nat.le_of_eq hlb)
   have hlk1 := hok.2.1; have hlk2 := hok.2.2
   rw [List.length_append, symB_length] at hlb
   have hkB : x.k + ls.getD y 0 ≤ B.length := by omega
   clear hlb hlen
   refine CT.region (TL.m m0 (TL.m m1 (TL.c m0 (TL.f 1050 fo_103_16 m0 (TL.val (r_ld (v := (pt f 5)) Tryz.isAgg101 m0 T0 (by decide) (Dget_hl _)) (TL.perm p3 (TL.perm p4 (TL.perm p3 (TL.perm p3 (TL.call (r_call ce_112 (.cons T4 (.cons T0 .nil))) (fun w hS => t112 (s := { s with r := rif r, roff := x.i, b := x.b, nb := x.nb, hist := Hw hb, wr := x.wr, err := .nilIface, hl := pt f 5, hd := pt f 520, cl := x.cl, cd := x.cd }) (k := y) (at_ := x.k) trd_h1 ht hok hbits hheld hnb22 hmr hBl hil rfl rfl hS) ?_))))))))))
   rintro _ w24 ⟨i1, b1, n1, rfl, hk1, hn1, hil1, hS⟩
   refine TW.at hS ?_
   replace hn1 : n1 + ls.getD y 0 ≤ max x.nb (max t.mn (ls.getD y 0) + 7) := hn1
   rw [hmn] at hn1
   replace hn1 := sym_nb hn1 hnbl hlk1
   have hdr1 := drop_app hbits
   rw [symB_length] at hdr1
   clear hmr
   refine TL.m m0 (TL.val (r_ext T0) (TL.val (r_ext T1) (TL.a m1 (TL.a m1 (TL.b (.hd (.hd .u9)) (CT.seq (CT.q (TL.m m0 (TL.val (r_nen Tryz.underlying82 T0) (TL.b (.hd .u1) (CT.iff_ m0 ?_)))))))))))
   refine CT.z (EX.q (TL.val (r_asg .c) (TL.q (TL.val (r_asg .c) (TL.e (CT.seq (CT.block (CT.q (TL.m m3 (TL.val (n_lss y 256 T0 .c) (TL.a m0 (TL.b (.hd .u2) (CT.ifd m0 (fun c41 => ?_) (fun c41 => ?_))))))))))))))
   ·
    exfalso; omega
   refine CT.y (TL.m m3 (TL.val (n_eql y 256 T0 .c) (TL.a m0 (TL.b (.hd .u2) (CT.ifd m0 (fun c68 => ?_) (fun c68 => ?_))))))
   ·
    exfalso; omega
   refine CT.y (TL.m m3 (TL.val (n_lss y 265 T0 .c) (TL.a m0 (TL.b (.hd .u2) (CT.ifd m0 (fun c73 => ?_) (fun c73 => ?_))))))
   ·
    exfalso; omega
   refine CT.y (TL.m m3 (TL.val (n_lss y 269 T0 .c) (TL.a m0 (TL.b (.hd .u2) (CT.ifd m0 (fun c78 => ?_) (fun c78 => ?_))))))
   ·
    exfalso; omega
   refine CT.y (TL.m m3 (TL.val (n_lss y 273 T0 .c) (TL.a m0 (TL.b (.hd .u2) (CT.ifd m0 (fun c84 => ?_) (fun c84 => ?_))))))
   ·
    exfalso; omega
   refine CT.y (TL.m m3 (TL.val (n_lss y 277 T0 .c) (TL.a m0 (TL.b (.hd .u2) (CT.ifd m0 (fun c90 => ?_) (fun c90 => ?_))))))
   ·
    exfalso; omega
   refine CT.y (TL.m m3 (TL.val (n_lss y 281 T0 .c) (TL.a m0 (TL.b (.hd .u2) (CT.ifd m0 (fun c96 => ?_) (fun c96 => ?_))))))
   ·
    exfalso; omega
   refine CT.y (TL.m m3 (TL.val (n_lss y 285 T0 .c) (TL.a m0 (TL.b (.hd .u2) (CT.ifd m0 (fun c102 => ?_) (fun c102 => ?_))))))
   ·
    exfalso; omega
   refine CT.y (TL.m m3 (TL.val (n_lss y 286 T0 .c) (TL.a m0 (TL.b (.hd .u2) (CT.ifd m0 (fun c108 => ?_) (fun c108 => ?_))))))
   ·
    exfalso; omega
   refine CT.y (TL.m m4 (TL.m m5 (TL.c m0 (TL.f 2 fo_103_2 m0 (TL.val (r_ld (v := (i64 i1)) Tryz.isAgg2 m0 T0 (by decide) (Dget_roff _)) (TL.val (r_mki Tryz.underlying121 T0) (TL.c m5 (TL.f 1048 fo_103_14 m0 (TL.s (r_st (F' := D { s with r := rif r, roff := i1, b := b1, nb := n1, hist := Hw hb, wr := x.wr, err := .iface 121 (i64 i1), hl := pt f 5, hd := pt f 520, cl := x.cl, cd := x.cd }) Tryz.sizeOf82 (Dsat_err (.iface 121 (i64 i1))) a0 T0 T2 (by decide)) (TL.b .u8 (CT.ret (EX.bret (EX.then_ret (EX.then_ret (EX.scope_ret ?_)))))))))))))))
   exact EX.perm p2 (EX.perm p3 (EX.perm p4 (EX.perm p4 (EX.perm p4 (EX.end_ (.inl rfl) (res0 Tryz.results89) (fun _ hS => hb_err (ea := ea) (R := R) (s' := { s with r := rif r, roff := i1, b := b1, nb := n1, hist := Hw hb, wr := x.wr, err := .iface 121 (i64 i1), hl := pt f 5, hd := pt f 520, cl := x.cl, cd := x.cd }) (TB := [(Lnks t), (Lnks td)]) rfl rfl htr.nil rfl rfl H.ex hw hrw hwl hx.un hil1 hx.sd he hS))))))
  have hmr := Nat.le_trans hlen (Nat.le_of_eq hlb)
  have hlk1 := hok.2.1; have hlk2 := hok.2.2
  simp only [List.length_append, symB_length, nbits_length] at hlb
  have hkB : x.k + ls.getD c 0 + lenExtra c + ds.getD c2 0 + rest.length ≤ B.length := by omega
  have hc1 := hla.1
  have hc2 := hla.2.1
  have hv := hla.2.2.2.1
  have hnn := hla.2.2.1
  have hle := lenExtra_le c hc2
  have hlm := len_max hla
  have hp6 : 2 ^ lenExtra c ≤ 2 ^ 6 := Nat.pow_le_pow_right (by decide) hle
  clear hlb hlen
  refine CT.region (TL.m m0 (TL.m m1 (TL.c m0 (TL.f 1050 fo_103_16 m0 (TL.val (r_ld (v := (pt f 5)) Tryz.isAgg101 m0 T0 (by decide) (Dget_hl _)) (TL.perm p3 (TL.perm p4 (TL.perm p3 (TL.perm p3 (TL.call (r_call ce_112 (.cons T4 (.cons T0 .nil))) (fun w hS => t112 (s := { s with r := rif r, roff := x.i, b := x.b, nb := x.nb, hist := Hw hb, wr := x.wr, err := .nilIface, hl := pt f 5, hd := pt f 520, cl := x.cl, cd := x.cd }) (k := c) (at_ := x.k) trd_h1 ht hok hbits hheld hnb22 hmr hBl hil rfl rfl hS) ?_))))))))))
  rintro _ w24 ⟨i1, b1, n1, rfl, hk1, hn1, hil1, hS⟩
  refine TW.at hS ?_
  replace hn1 : n1 + ls.getD c 0 ≤ max x.nb (max t.mn (ls.getD c 0) + 7) := hn1
  rw [hmn] at hn1
  replace hn1 := sym_nb hn1 hnbl hlk1
  have hdr1 := drop_app hbits
  rw [symB_length] at hdr1
  clear hmr
  refine TL.m m0 (TL.val (r_ext T0) (TL.val (r_ext T1) (TL.a m1 (TL.a m1 (TL.b (.hd (.hd .u9)) (CT.seq (CT.q (TL.m m0 (TL.val (r_nen Tryz.underlying82 T0) (TL.b (.hd .u1) (CT.iff_ m0 ?_)))))))))))
  refine CT.z (EX.q (TL.val (r_asg .c) (TL.q (TL.val (r_asg .c) (TL.e (CT.cut (X := Unit) (fun gx => [(5, (i64 (lenBase c))), (4, (u64 (lenExtra c))), (3, .nilIface), (2, (i64 c)), (0, (pt f 0))]) (fun gx => (blk f 1054 (D { s with r := rif r, roff := i1, b := b1, nb := n1, hist := Hw hb, wr := x.wr, err := .nilIface, hl := pt f 5, hd := pt f 520, cl := x.cl, cd := x.cd })) :: Br r B i1 :: blk hb 32768 (fun jj => u8 (x.hist jj)) :: Lnks t :: Lnks td :: R) (fun gx => True) ?_ ?_))))))
  ·
   refine CT.block (CT.q (TL.m m3 (TL.val (n_lss c 256 T0 .c) (TL.a m0 (TL.b (.hd .u2) (CT.ifd m0 (fun c41 => ?_) (fun c41 => ?_)))))))
   ·
    exfalso; omega
   refine CT.y (TL.m m3 (TL.val (n_eql c 256 T0 .c) (TL.a m0 (TL.b (.hd .u2) (CT.ifd m0 (fun c68 => ?_) (fun c68 => ?_))))))
   ·
    exfalso; omega
   refine CT.y (TL.m m3 (TL.val (n_lss c 265 T0 .c) (TL.a m0 (TL.b (.hd .u2) (CT.ifd m0 (fun c73 => ?_) (fun c73 => ?_))))))
   ·
    have hq := (len_go hc1 hc2).1 c73
    exact CT.y (TL.m m3 (TL.val (n_sub c 254 9223372036854775808 T0 .c) (TL.rm .h2 (TL.a m0 (TL.b (.hd .u2) (CT.region (TL.rm .h1 (TL.val (r_asg .c) (TL.nil (EX.bnormal (EX.perm p2 (EX.perm p3 (EX.perm p4 (EX.perm p4 (EX.perm p4 (EX.meet () trivial (.refl _) (.eq m1 (congrArg (fun z : Nat => Value.int .i64 (z : Int)) (show ((c - 254) : Nat) = (lenBase c) by omega)) (.eq m0 (congrArg (fun z : Nat => Value.int .u64 (z : Int)) (show (0 : Nat) = (lenExtra c) by omega)) (.sl 2 3 rfl)))))))))))))))))))
   refine CT.y (TL.m m3 (TL.val (n_lss c 269 T0 .c) (TL.a m0 (TL.b (.hd .u2) (CT.ifd m0 (fun c78 => ?_) (fun c78 => ?_))))))
   ·
    have hq := (len_go hc1 hc2).2.1 (by omega) c78
    exact CT.y (TL.m m3 (TL.val (n_mul c 2 9223372036854775808 T0 .c) (TL.val (n_sub ((c * 2)) 519 9223372036854775808 T0 .c) (TL.rm .h3 (TL.a m0 (TL.b (.hd .u3) (CT.region (TL.rm .h1 (TL.val (r_asg .c) (TL.nil (EX.bnormal (EX.perm p2 (EX.perm p3 (EX.perm p4 (EX.perm p4 (EX.perm p4 (EX.meet () trivial (.refl _) (.eq m1 (congrArg (fun z : Nat => Value.int .i64 (z : Int)) (show (((c * 2) - 519) : Nat) = (lenBase c) by omega)) (.eq m0 (congrArg (fun z : Nat => Value.int .u64 (z : Int)) (show (1 : Nat) = (lenExtra c) by omega)) (.sl 2 3 rfl))))))))))))))))))))
   refine CT.y (TL.m m3 (TL.val (n_lss c 273 T0 .c) (TL.a m0 (TL.b (.hd .u2) (CT.ifd m0 (fun c84 => ?_) (fun c84 => ?_))))))
   ·
    have hq := (len_go hc1 hc2).2.2.1 (by omega) c84
    exact CT.y (TL.m m3 (TL.val (n_mul c 4 9223372036854775808 T0 .c) (TL.val (n_sub ((c * 4)) 1057 9223372036854775808 T0 .c) (TL.rm .h3 (TL.a m0 (TL.b (.hd .u3) (CT.region (TL.rm .h1 (TL.val (r_asg .c) (TL.nil (EX.bnormal (EX.perm p2 (EX.perm p3 (EX.perm p4 (EX.perm p4 (EX.perm p4 (EX.meet () trivial (.refl _) (.eq m1 (congrArg (fun z : Nat => Value.int .i64 (z : Int)) (show (((c * 4) - 1057) : Nat) = (lenBase c) by omega)) (.eq m0 (congrArg (fun z : Nat => Value.int .u64 (z : Int)) (show (2 : Nat) = (lenExtra c) by omega)) (.sl 2 3 rfl))))))))))))))))))))
   refine CT.y (TL.m m3 (TL.val (n_lss c 277 T0 .c) (TL.a m0 (TL.b (.hd .u2) (CT.ifd m0 (fun c90 => ?_) (fun c90 => ?_))))))
   ·
    have hq := (len_go hc1 hc2).2.2.2.1 (by omega) c90
    exact CT.y (TL.m m3 (TL.val (n_mul c 8 9223372036854775808 T0 .c) (TL.val (n_sub ((c * 8)) 2149 9223372036854775808 T0 .c) (TL.rm .h3 (TL.a m0 (TL.b (.hd .u3) (CT.region (TL.rm .h1 (TL.val (r_asg .c) (TL.nil (EX.bnormal (EX.perm p2 (EX.perm p3 (EX.perm p4 (EX.perm p4 (EX.perm p4 (EX.meet () trivial (.refl _) (.eq m1 (congrArg (fun z : Nat => Value.int .i64 (z : Int)) (show (((c * 8) - 2149) : Nat) = (lenBase c) by omega)) (.eq m0 (congrArg (fun z : Nat => Value.int .u64 (z : Int)) (show (3 : Nat) = (lenExtra c) by omega)) (.sl 2 3 rfl))))))))))))))))))))
   refine CT.y (TL.m m3 (TL.val (n_lss c 281 T0 .c) (TL.a m0 (TL.b (.hd .u2) (CT.ifd m0 (fun c96 => ?_) (fun c96 => ?_))))))
   ·
    have hq := (len_go hc1 hc2).2.2.2.2.1 (by omega) c96
    exact CT.y (TL.m m3 (TL.val (n_mul c 16 9223372036854775808 T0 .c) (TL.val (n_sub ((c * 16)) 4365 9223372036854775808 T0 .c) (TL.rm .h3 (TL.a m0 (TL.b (.hd .u3) (CT.region (TL.rm .h1 (TL.val (r_asg .c) (TL.nil (EX.bnormal (EX.perm p2 (EX.perm p3 (EX.perm p4 (EX.perm p4 (EX.perm p4 (EX.meet () trivial (.refl _) (.eq m1 (congrArg (fun z : Nat => Value.int .i64 (z : Int)) (show (((c * 16) - 4365) : Nat) = (lenBase c) by omega)) (.eq m0 (congrArg (fun z : Nat => Value.int .u64 (z : Int)) (show (4 : Nat) = (lenExtra c) by omega)) (.sl 2 3 rfl))))))))))))))))))))
   refine CT.y (TL.m m3 (TL.val (n_lss c 285 T0 .c) (TL.a m0 (TL.b (.hd .u2) (CT.ifd m0 (fun c102 => ?_) (fun c102 => ?_))))))
   ·
    have hq := (len_go hc1 hc2).2.2.2.2.2.1 (by omega) c102
    exact CT.y (TL.m m3 (TL.val (n_mul c 32 9223372036854775808 T0 .c) (TL.val (n_sub ((c * 32)) 8861 9223372036854775808 T0 .c) (TL.rm .h3 (TL.a m0 (TL.b (.hd .u3) (CT.region (TL.rm .h1 (TL.val (r_asg .c) (TL.nil (EX.bnormal (EX.perm p2 (EX.perm p3 (EX.perm p4 (EX.perm p4 (EX.perm p4 (EX.meet () trivial (.refl _) (.eq m1 (congrArg (fun z : Nat => Value.int .i64 (z : Int)) (show (((c * 32) - 8861) : Nat) = (lenBase c) by omega)) (.eq m0 (congrArg (fun z : Nat => Value.int .u64 (z : Int)) (show (5 : Nat) = (lenExtra c) by omega)) (.sl 2 3 rfl))))))))))))))))))))
   refine CT.y (TL.m m3 (TL.val (n_lss c 286 T0 .c) (TL.a m0 (TL.b (.hd .u2) (CT.ifd m0 (fun c108 => ?_) (fun c108 => ?_))))))
   ·
    have hq := (len_go hc1 hc2).2.2.2.2.2.2 (by omega)
    exact CT.y (TL.rm .here (TL.val (r_asg .c) (TL.e (CT.region (TL.rm .h1 (TL.val (r_asg .c) (TL.nil (EX.bnormal (EX.perm p2 (EX.perm p3 (EX.perm p4 (EX.perm p4 (EX.perm p4 (EX.meet () trivial (.refl _) (.eq m1 (congrArg (fun z : Nat => Value.int .i64 (z : Int)) (show (258 : Nat) = (lenBase c) by omega)) (.eq m0 (congrArg (fun z : Nat => Value.int .u64 (z : Int)) (show (0 : Nat) = (lenExtra c) by omega)) (.sl 2 3 rfl)))))))))))))))))
   exfalso; omega
  rintro ⟨⟩ -
  refine CT.cut (X := Nat × Nat × Nat) (fun gx => [(5, (i64 (lenBase c + v))), (4, (u64 (lenExtra c))), (2, (i64 c)), (0, (pt f 0))]) (fun gx => (blk f 1054 (D { s with r := rif r, roff := gx.1, b := gx.2.1, nb := gx.2.2, hist := Hw hb, wr := x.wr, err := .nilIface, hl := pt f 5, hd := pt f 520, cl := x.cl, cd := x.cd })) :: Br r B gx.1 :: blk hb 32768 (fun jj => u8 (x.hist jj)) :: Lnks t :: Lnks td :: R) (fun gx => Held B (x.k + ls.getD c 0 + lenExtra c) gx.1 gx.2.1 gx.2.2 ∧ gx.2.2 ≤ ls.getD 256 0 + 7 ∧ gx.1 ≤ (pack B).length) ?_ ?_
  ·
   refine CT.q (TL.m m1 (TL.val (n_gtr ((lenExtra c)) 0 T0 .c) (TL.b (.hd .u1) (CT.ifd m0 (fun c112 => ?_) (fun c112 => ?_)))))
   ·
    refine CT.sub .u1 (CT.seq (CT.block (CT.loop (X := Nat × Nat × Nat) (fun gx => [(5, (i64 (lenBase c))), (4, (u64 (lenExtra c))), (2, (i64 c)), (0, (pt f 0))]) (fun gx => (blk f 1054 (D { s with r := rif r, roff := gx.1, b := gx.2.1, nb := gx.2.2, hist := Hw hb, wr := x.wr, err := .nilIface, hl := pt f 5, hd := pt f 520, cl := x.cl, cd := x.cd })) :: Br r B gx.1 :: blk hb 32768 (fun jj => u8 (x.hist jj)) :: Lnks t :: Lnks td :: R) (fun gx => Held B (x.k + ls.getD c 0) gx.1 gx.2.1 gx.2.2 ∧ NB (ls.getD 256 0) (lenExtra c) gx.2.2 ∧ gx.1 ≤ (pack B).length) (fun gx => lenExtra c - gx.2.2) ((i1, b1, n1)) (⟨hk1, .of hn1, hil1⟩) (.refl _) (.cons m0 (.cons m1 (.cons m3 (.cons m4 .nil)))) ?_)))
    rintro ⟨i5, b5, n5⟩ ⟨hheld5, hnb5, hib5⟩
    replace hheld5 : Held B (x.k + ls.getD c 0) i5 b5 n5 := hheld5
    replace hnb5 : NB (ls.getD 256 0) (lenExtra c) n5 := hnb5
    replace hib5 : i5 ≤ (pack B).length := hib5
    have hn5b : n5 ≤ 22 := hnb5.le hE15 (by omega)
    have hb5 : b5 < 4294967296 := Nat.lt_of_lt_of_le hheld5.lt (Nat.pow_le_pow_right (by decide) (show n5 ≤ 32 from Nat.le_trans hn5b (by decide)))
    refine CT.seq (CT.q (TL.m m3 (TL.c m0 (TL.f 4 fo_103_4 m0 (TL.val (r_ld (v := (u64 n5)) Tryz.isAgg90 m0 T0 (by decide) (Dget_nb _)) (TL.m m5 (TL.val (n_lss n5 ((lenExtra c)) T1 T0) (TL.b (.hd .u5) (CT.ifd m0 (fun c118 => ?_) (fun c118 => ?_))))))))))
    ·
     have hlt5 : n5 < lenExtra c := by omega
     have hbyte5 := byte_ok hheld5 hlt5 (show x.k + ls.getD c 0 + lenExtra c ≤ B.length by omega)
     refine CT.z (EX.seq (CT.block (CT.q (TL.m m3 (TL.perm p1 (TL.perm p1 (TL.call (r_call ce_86 (.cons T0 .nil)) (fun w hS => t86 f r i5 B { s with r := rif r, roff := i5, b := b5, nb := n5, hist := Hw hb, wr := x.wr, err := .nilIface, hl := pt f 5, hd := pt f 520, cl := x.cl, cd := x.cd } hbyte5.2 (by omega) (by show i5 < 9223372036854775807; omega) (by show b5 < 4294967296; omega) (by show n5 ≤ 24; omega) hS) ?_)))))))
     rintro z120 w120 ⟨hz120, hS⟩
     replace hz120 : z120 = .nilIface := hz120
     subst hz120
     refine TW.at hS (TL.a m0 (TL.r (.hd .u2) (TL.m m0 (TL.val (r_nen Tryz.underlying82 T0) (TL.b (.hd .u1) (CT.iff_ m0 ?_))))))
     exact CT.z (EX.bnormal (EX.again ((i5 + 1, b5 ||| byteAt B i5 * 2 ^ n5, n5 + 8)) (⟨hheld5.more hbyte5.1, hnb5.more hlt5, hbyte5.2⟩) (by show lenExtra c - (n5 + 8) < lenExtra c - n5; omega) (.refl _) (.sl 1 4 rfl)))
    have hge5 : lenExtra c ≤ n5 := by omega
    refine CT.sub .u1 (CT.exit (EX.then_exit (EX.then_exit (EX.out (EX.q (TL.m m0 (TL.m m4 (TL.c m0 (TL.f 3 fo_103_3 m0 (TL.val (r_ld (v := (u32 b5)) Tryz.isAgg89 m0 T0 (by decide) (Dget_b _)) (TL.m m6 (TL.val (n_shl 1 ((lenExtra c)) 4294967296 .c T0 rfl rfl (show _ ≤ 32 by omega) (by omega)) (TL.val (n_sub ((1 * 2 ^ (lenExtra c))) 1 4294967296 T0 .c) (TL.val (n_and b5 (1 * 2 ^ lenExtra c - 1) 4294967296 T3 T0 rfl rfl (by omega) (by omega)) (TL.sub (.eq m0 (congrArg (fun z : Nat => Value.int .u32 (z : Int)) (hheld5.and (by omega) hv hdr1)) (.cons m1 (.cons m2 (.cons m3 (.cons m4 (.cons m5 (.cons m6 (.cons m7 (.cons m8 (.cons m9 (.cons m10 (.cons m11 (.cons m12 .nil))))))))))))) (TL.val (n_conv v 9223372036854775808 ⟨_, Tryz.underlying89⟩ Tryz.underlying3 T0 rfl (by omega)) (TL.val (n_add ((lenBase c)) v 9223372036854775808 T9 T0) (TL.rm .h11 (TL.a m0 (TL.r (.hd .u11) (TL.m m3 (TL.c m0 (TL.f 3 fo_103_3 m0 (TL.val (r_ld (v := (u32 b5)) Tryz.isAgg89 m0 T0 (by decide) (Dget_b _)) (TL.m m5 (TL.val (n_shr b5 ((lenExtra c)) T1 T0 rfl rfl (show _ ≤ 32 by omega)) (TL.c m5 (TL.f 3 fo_103_3 m0 (TL.s (r_st (F' := D { s with r := rif r, roff := i5, b := b5 / 2 ^ (lenExtra c), nb := n5, hist := Hw hb, wr := x.wr, err := .nilIface, hl := pt f 5, hd := pt f 520, cl := x.cl, cd := x.cd }) Tryz.sizeOf89 (Dsat_b ((b5 / 2 ^ (lenExtra c)))) a0 T0 T2 (by decide)) (TL.b .u8 (CT.region ?_)))))))))))))))))))))))))))))))
    exact TL.m m3 (TL.c m0 (TL.f 4 fo_103_4 m0 (TL.val (r_ld (v := (u64 n5)) Tryz.isAgg90 m0 T0 (by decide) (Dget_nb _)) (TL.m m5 (TL.val (n_sub n5 ((lenExtra c)) 18446744073709551616 T1 T0) (TL.c m5 (TL.f 4 fo_103_4 m0 (TL.s (r_st (F' := D { s with r := rif r, roff := i5, b := b5 / 2 ^ (lenExtra c), nb := n5 - (lenExtra c), hist := Hw hb, wr := x.wr, err := .nilIface, hl := pt f 5, hd := pt f 520, cl := x.cl, cd := x.cd }) Tryz.sizeOf90 (Dsat_nb ((n5 - (lenExtra c)))) a0 T0 T2 (by decide)) (TL.x .u8 (EX.fold (A' := (blk f 1054 (D { s with r := rif r, roff := i5, b := b5 / 2 ^ lenExtra c, nb := n5 - lenExtra c, hist := Hw hb, wr := x.wr, err := .nilIface, hl := pt f 5, hd := pt f 520, cl := x.cl, cd := x.cd }))) a0 (D_eq rfl) (EX.meet ((i5, b5 / 2 ^ lenExtra c, n5 - lenExtra c)) (⟨hheld5.take hge5, hnb5.take, hib5⟩) (.refl _) (.eq m0 (congrArg (fun z : Nat => Value.int .i64 (z : Int)) (show (((lenBase c) + v) : Nat) = (lenBase c + v) by omega)) (.sl 1 3 rfl)))))))))))))
   have hE0 : lenExtra c = 0 := by omega
   have hv0 : v = 0 := by rw [hE0] at hv; omega
   exact CT.z (EX.meet ((i1, b1, n1)) (⟨by show Held B (x.k + ls.getD c 0 + lenExtra c) i1 b1 n1; rw [hE0]; exact hk1, hn1, hil1⟩) (.refl _) (.eq m0 (congrArg (fun z : Nat => Value.int .i64 (z : Int)) (show ((lenBase c) : Nat) = (lenBase c + v) by omega)) (.cons m1 (.cons m3 (.cons m4 .nil)))))
  rintro ⟨i2, b2, n2⟩ ⟨hheld2, hnb2, hib2⟩
  replace hheld2 : Held B (x.k + ls.getD c 0 + lenExtra c) i2 b2 n2 := hheld2
  replace hnb2 : n2 ≤ ls.getD 256 0 + 7 := hnb2
  replace hib2 : i2 ≤ (pack B).length := hib2
  have hn2b : n2 ≤ 22 := by omega
  have hb2 : b2 < 4294967296 := Nat.lt_of_lt_of_le hheld2.lt (Nat.pow_le_pow_right (by decide) (show n2 ≤ 32 from Nat.le_trans hn2b (by decide)))
  have hdr2 := drop_app hdr1
  rw [nbits_length] at hdr2
  refine CT.q (TL.val (r_asg .c) (TL.e (CT.cut (X := Nat × Nat × Nat) (fun gx => [(6, (i64 c2)), (5, (i64 (lenBase c + v))), (4, (u64 (lenExtra c))), (2, (i64 c)), (0, (pt f 0))]) (fun gx => (blk f 1054 (D { s with r := rif r, roff := gx.1, b := gx.2.1, nb := gx.2.2, hist := Hw hb, wr := x.wr, err := .nilIface, hl := pt f 5, hd := pt f 520, cl := x.cl, cd := x.cd })) :: Br r B gx.1 :: blk hb 32768 (fun jj => u8 (x.hist jj)) :: Lnks t :: Lnks td :: R) (fun gx => Held B (x.k + ls.getD c 0 + lenExtra c + ds.getD c2 0) gx.1 gx.2.1 gx.2.2 ∧ gx.2.2 ≤ ls.getD 256 0 + 7 ∧ gx.1 ≤ (pack B).length) ?_ ?_)))
  ·
   refine CT.q (TL.m m4 (TL.c m0 (TL.f 1051 fo_103_17 m0 (TL.val (r_ld (v := (pt f 520)) Tryz.isAgg101 m0 T0 (by decide) (Dget_hd _)) (TL.val (r_eqps Tryz.underlying101 T0) (TL.b (.hd .u4) (CT.iff_ m0 ?_)))))))
   refine CT.sub .u1 (CT.seq ?_)
   obtain ⟨htd1, htd2⟩ : TDok ds td (fun j => s.H (515 + j)) ∧ ∀ k, LOk ds k → td.mn ≤ ds.getD k 0 := htd.resolve_right (fun h0 => by have := hok2.2.1; have h1 := h0 _ (List.mem_of_getElem? (lens_get hok2)); omega)
   have hbits3 := hdr2
   have hk31 := hok2.2.1; have hk32 := hok2.2.2
   refine CT.region (TL.m m4 (TL.m m5 (TL.c m0 (TL.f 1051 fo_103_17 m0 (TL.val (r_ld (v := (pt f 520)) Tryz.isAgg101 m0 T0 (by decide) (Dget_hd _)) (TL.perm p4 (TL.perm p4 (TL.perm p3 (TL.perm p3 (TL.call (r_call ce_112 (.cons T4 (.cons T0 .nil))) (fun w hS => t112 (s := { s with r := rif r, roff := i2, b := b2, nb := n2, hist := Hw hb, wr := x.wr, err := .nilIface, hl := pt f 5, hd := pt f 520, cl := x.cl, cd := x.cd }) (k := c2) (at_ := (x.k + ls.getD c 0 + lenExtra c)) trd_h2 htd1 hok2 hbits3 hheld2 (by show n2 ≤ 22; omega) (by have := htd2 c2 hok2; omega) hBl hib2 rfl rfl hS) ?_))))))))))
   rintro _ w201 ⟨i3, b3, n3, rfl, hk3, hn3, hib3, hS⟩
   refine TW.at hS ?_
   have htd3 := htd2 c2 hok2
   replace hn3 : n3 + ds.getD c2 0 ≤ max n2 (max td.mn (ds.getD c2 0) + 7) := hn3
   replace hn3 := sym_nbd hn3 hnb2 htd3 hok2.2.1
   refine TL.m m0 (TL.val (r_ext T0) (TL.val (r_ext T1) (TL.rm .h9 (TL.a m1 (TL.a m1 (TL.r (.hd (.hd .u9)) (TL.m m0 (TL.val (r_nen Tryz.underlying82 T0) (TL.b (.hd .u1) (CT.iff_ m0 ?_))))))))))
   exact CT.z (EX.perm p3 (EX.perm p3 (EX.perm p4 (EX.perm p4 (EX.perm p4 (EX.meet ((i3, b3, n3)) (⟨hk3, hn3, hib3⟩) (.refl _) (.sl 1 5 rfl)))))))
  rintro ⟨i3, b3, n3⟩ ⟨hheld3, hnb3, hib3⟩
  replace hheld3 : Held B (x.k + ls.getD c 0 + lenExtra c + ds.getD c2 0) i3 b3 n3 := hheld3
  replace hnb3 : n3 ≤ ls.getD 256 0 + 7 := hnb3
  replace hib3 : i3 ≤ (pack B).length := hib3
  have hn3b : n3 ≤ 22 := by omega
  have hb3 : b3 < 4294967296 := Nat.lt_of_lt_of_le hheld3.lt (Nat.pow_le_pow_right (by decide) (show n3 ≤ 32 from Nat.le_trans hn3b (by decide)))
  have hdr3 := drop_app hdr2
  rw [symB_length] at hdr3
  rcases hda with ⟨d, v2, rest2, hda, rfl, hfar⟩ | ⟨h30, he⟩
  ·
   have hdm := dist_max hda
   have hd1 := hda.2.1
   have hd2 := hda.2.2
   have hd3 := hda.1
   rw [List.length_append, nbits_length] at hkB
   have hdx := distExtra_le c2 hda.1
   have hp13 : 2 ^ distExtra c2 ≤ 2 ^ 13 := Nat.pow_le_pow_right (by decide) hdx
   refine CT.cut (X := Nat × Nat × Nat) (fun gx => [(6, (i64 d)), (5, (i64 (lenBase c + v))), (4, (u64 (lenExtra c))), (2, (i64 c)), (0, (pt f 0))]) (fun gx => (blk f 1054 (D { s with r := rif r, roff := gx.1, b := gx.2.1, nb := gx.2.2, hist := Hw hb, wr := x.wr, err := .nilIface, hl := pt f 5, hd := pt f 520, cl := x.cl, cd := x.cd })) :: Br r B gx.1 :: blk hb 32768 (fun jj => u8 (x.hist jj)) :: Lnks t :: Lnks td :: R) (fun gx => Held B (x.k + ls.getD c 0 + lenExtra c + ds.getD c2 0 + distExtra c2) gx.1 gx.2.1 gx.2.2 ∧ gx.2.2 ≤ ls.getD 256 0 + 7 ∧ gx.1 ≤ (pack B).length) ?_ ?_
   ·
    refine CT.block (CT.q (TL.m m0 (TL.val (n_lss c2 4 T0 .c) (TL.a m0 (TL.b (.hd .u2) (CT.ifd m0 (fun c218 => ?_) (fun c218 => ?_)))))))
    ·
     have hq := (dist_go hda.1).1 c218
     have hv20 : v2 = 0 := by rw [hq.2] at hd2; omega
     exact CT.sub .u1 (CT.region (TL.m m0 (TL.val (n_add c2 1 9223372036854775808 T0 .c) (TL.rm .h2 (TL.a m0 (TL.x (.hd .u2) (EX.bnormal (EX.meet ((i3, b3, n3)) (⟨by show Held B (x.k + ls.getD c 0 + lenExtra c + ds.getD c2 0 + distExtra c2) i3 b3 n3; rw [hq.2]; exact hheld3, hnb3, hib3⟩) (.refl _) (.eq m0 (congrArg (fun z : Nat => Value.int .i64 (z : Int)) (show ((c2 + 1) : Nat) = d by omega)) (.sl 1 4 rfl))))))))))
    refine CT.y (TL.m m0 (TL.val (n_lss c2 30 T0 .c) (TL.a m0 (TL.b (.hd .u2) (CT.ifd m0 (fun c223 => ?_) (fun c223 => ?_))))))
    ·
     have hq := (dist_go hda.1).2 (by omega)
     have hq1 := hq.1; have hq2 := hq.2.1
     rw [← hq1] at hq2
     have hc1b : (c2 &&& 1) ≤ 1 := Nat.and_le_right
     have hcm : (c2 &&& 1) * 2 ^ distExtra c2 ≤ 1 * 2 ^ 13 := Nat.mul_le_mul hc1b hp13
     have hp14 : 2 ^ (distExtra c2 + 1) ≤ 2 ^ 14 := Nat.pow_le_pow_right (by decide) (by omega)
     have hp1d := Nat.two_pow_pos (distExtra c2)
     refine CT.y (TL.m m0 (TL.val (n_sub c2 2 9223372036854775808 T0 .c) (TL.val (n_conv ((c2 - 2)) 18446744073709551616 ⟨_, Tryz.underlying3⟩ Tryz.underlying90 T0 rfl (by omega)) (TL.val (n_shr ((c2 - 2)) 1 T0 .c rfl rfl (by decide)) (TL.a m0 (TL.sub (.hd .u4) (TL.r (.eq m0 (congrArg (fun z : Nat => Value.int .u64 (z : Int)) (show (c2 - 2) / 2 ^ 1 = distExtra c2 by rw [hq1])) (.cons m1 (.cons m2 (.cons m3 (.cons m4 (.cons m5 .nil)))))) (TL.m m1 (TL.val (n_and c2 1 9223372036854775808 T0 .c rfl rfl (by omega) (by omega)) (TL.m m2 (TL.val (n_shl ((c2 &&& 1)) ((distExtra c2)) 9223372036854775808 T1 T0 rfl rfl (show _ ≤ 64 by omega) (by omega)) (TL.a m0 (TL.b (.hd .u4) (CT.seq (CT.block (CT.loop (X := Nat × Nat × Nat) (fun gx => [(8, (i64 ((c2 &&& 1) * 2 ^ (distExtra c2)))), (7, (u64 (distExtra c2))), (6, (i64 c2)), (5, (i64 (lenBase c + v))), (4, (u64 (lenExtra c))), (2, (i64 c)), (0, (pt f 0))]) (fun gx => (blk f 1054 (D { s with r := rif r, roff := gx.1, b := gx.2.1, nb := gx.2.2, hist := Hw hb, wr := x.wr, err := .nilIface, hl := pt f 5, hd := pt f 520, cl := x.cl, cd := x.cd })) :: Br r B gx.1 :: blk hb 32768 (fun jj => u8 (x.hist jj)) :: Lnks t :: Lnks td :: R) (fun gx => Held B (x.k + ls.getD c 0 + lenExtra c + ds.getD c2 0) gx.1 gx.2.1 gx.2.2 ∧ NB (ls.getD 256 0) (distExtra c2) gx.2.2 ∧ gx.1 ≤ (pack B).length) (fun gx => distExtra c2 - gx.2.2) ((i3, b3, n3)) (⟨hheld3, .of hnb3, hib3⟩) (.refl _) (.sl 0 7 rfl) ?_))))))))))))))))
     rintro ⟨i7, b7, n7⟩ ⟨hheld7, hnb7, hib7⟩
     replace hheld7 : Held B (x.k + ls.getD c 0 + lenExtra c + ds.getD c2 0) i7 b7 n7 := hheld7
     replace hnb7 : NB (ls.getD 256 0) (distExtra c2) n7 := hnb7
     replace hib7 : i7 ≤ (pack B).length := hib7
     have hn7b : n7 ≤ 22 := hnb7.le hE15 (by omega)
     have hb7 : b7 < 4294967296 := Nat.lt_of_lt_of_le hheld7.lt (Nat.pow_le_pow_right (by decide) (show n7 ≤ 32 from Nat.le_trans hn7b (by decide)))
     refine CT.seq (CT.q (TL.m m6 (TL.c m0 (TL.f 4 fo_103_4 m0 (TL.val (r_ld (v := (u64 n7)) Tryz.isAgg90 m0 T0 (by decide) (Dget_nb _)) (TL.m m5 (TL.val (n_lss n7 ((distExtra c2)) T1 T0) (TL.b (.hd .u5) (CT.ifd m0 (fun c239 => ?_) (fun c239 => ?_))))))))))
     ·
      have hlt7 : n7 < distExtra c2 := by omega
      have hbyte7 := byte_ok hheld7 hlt7 (show x.k + ls.getD c 0 + lenExtra c + ds.getD c2 0 + distExtra c2 ≤ B.length by omega)
      refine CT.z (EX.seq (CT.block (CT.q (TL.m m6 (TL.perm p1 (TL.perm p1 (TL.call (r_call ce_86 (.cons T0 .nil)) (fun w hS => t86 f r i7 B { s with r := rif r, roff := i7, b := b7, nb := n7, hist := Hw hb, wr := x.wr, err := .nilIface, hl := pt f 5, hd := pt f 520, cl := x.cl, cd := x.cd } hbyte7.2 (by omega) (by show i7 < 9223372036854775807; omega) (by show b7 < 4294967296; omega) (by show n7 ≤ 24; omega) hS) ?_)))))))
      rintro z241 w241 ⟨hz241, hS⟩
      replace hz241 : z241 = .nilIface := hz241
      subst hz241
      refine TW.at hS (TL.a m0 (TL.r (.hd .u2) (TL.m m0 (TL.val (r_nen Tryz.underlying82 T0) (TL.b (.hd .u1) (CT.iff_ m0 ?_))))))
      exact CT.z (EX.bnormal (EX.again ((i7 + 1, b7 ||| byteAt B i7 * 2 ^ n7, n7 + 8)) (⟨hheld7.more hbyte7.1, hnb7.more hlt7, hbyte7.2⟩) (by show distExtra c2 - (n7 + 8) < distExtra c2 - n7; omega) (.refl _) (.sl 1 7 rfl)))
     refine CT.sub .u1 (CT.exit (EX.then_exit (EX.then_exit (EX.out (EX.q (TL.m m0 (TL.m m7 (TL.c m0 (TL.f 3 fo_103_3 m0 (TL.val (r_ld (v := (u32 b7)) Tryz.isAgg89 m0 T0 (by decide) (Dget_b _)) (TL.m m6 (TL.val (n_shl 1 ((distExtra c2)) 4294967296 .c T0 rfl rfl (show _ ≤ 32 by omega) (by omega)) (TL.val (n_sub ((1 * 2 ^ (distExtra c2))) 1 4294967296 T0 .c) (TL.val (n_and b7 (1 * 2 ^ distExtra c2 - 1) 4294967296 T3 T0 rfl rfl (by omega) (by omega)) (TL.sub (.eq m0 (congrArg (fun z : Nat => Value.int .u32 (z : Int)) (hheld7.and (by omega) hd2 hdr3)) (.cons m1 (.cons m2 (.cons m3 (.cons m4 (.cons m5 (.cons m6 (.cons m7 (.cons m8 (.cons m9 (.cons m10 (.cons m11 (.cons m12 (.cons m13 (.cons m14 (.cons m15 .nil)))))))))))))))) (TL.val (n_conv v2 9223372036854775808 ⟨_, Tryz.underlying89⟩ Tryz.underlying3 T0 rfl (by omega)) (TL.val (n_or ((c2 &&& 1) * 2 ^ distExtra c2) v2 9223372036854775808 T9 T0 rfl rfl (by omega) (by omega)) (TL.sub (.eq m0 (congrArg (fun z : Nat => Value.int .i64 (z : Int)) (by rw [Nat.or_comm, or_add hd2])) (.cons m1 (.cons m2 (.cons m3 (.cons m4 (.cons m5 (.cons m6 (.cons m7 (.cons m8 (.cons m9 (.cons m10 (.cons m11 (.cons m12 (.cons m13 (.cons m14 (.cons m15 (.cons m16 (.cons m17 .nil)))))))))))))))))) (TL.rm .h11 (TL.a m0 (TL.r (.hd .u11) (TL.m m6 (TL.c m0 (TL.f 3 fo_103_3 m0 (TL.val (r_ld (v := (u32 b7)) Tryz.isAgg89 m0 T0 (by decide) (Dget_b _)) (TL.m m5 (TL.val (n_shr b7 ((distExtra c2)) T1 T0 rfl rfl (show _ ≤ 32 by omega)) (TL.c m5 (TL.f 3 fo_103_3 m0 (TL.s (r_st (F' := D { s with r := rif r, roff := i7, b := b7 / 2 ^ (distExtra c2), nb := n7, hist := Hw hb, wr := x.wr, err := .nilIface, hl := pt f 5, hd := pt f 520, cl := x.cl, cd := x.cd }) Tryz.sizeOf89 (Dsat_b ((b7 / 2 ^ (distExtra c2)))) a0 T0 T2 (by decide)) (TL.b .u8 ?_)))))))))))))))))))))))))))))))
     exact CT.q (TL.m m6 (TL.c m0 (TL.f 4 fo_103_4 m0 (TL.val (r_ld (v := (u64 n7)) Tryz.isAgg90 m0 T0 (by decide) (Dget_nb _)) (TL.m m5 (TL.val (n_sub n7 ((distExtra c2)) 18446744073709551616 T1 T0) (TL.c m5 (TL.f 4 fo_103_4 m0 (TL.s (r_st (F' := D { s with r := rif r, roff := i7, b := b7 / 2 ^ (distExtra c2), nb := n7 - (distExtra c2), hist := Hw hb, wr := x.wr, err := .nilIface, hl := pt f 5, hd := pt f 520, cl := x.cl, cd := x.cd }) Tryz.sizeOf90 (Dsat_nb ((n7 - (distExtra c2)))) a0 T0 T2 (by decide)) (TL.b .u8 (CT.region (TL.m m1 (TL.val (n_add ((distExtra c2)) 1 18446744073709551616 T0 .c) (TL.val (n_shl 1 (((distExtra c2) + 1)) 9223372036854775808 .c T0 rfl rfl (show _ ≤ 64 by omega) (by omega)) (TL.val (n_add ((1 * 2 ^ ((distExtra c2) + 1))) 1 9223372036854775808 T0 .c) (TL.m m4 (TL.val (n_add (((1 * 2 ^ ((distExtra c2) + 1)) + 1)) ((v2 + (c2 &&& 1) * 2 ^ distExtra c2)) 9223372036854775808 T1 T0 rfl rfl (by omega)) (TL.rm .h8 (TL.a m0 (TL.x (.hd .u6) (EX.bnormal (EX.fold (A' := (blk f 1054 (D { s with r := rif r, roff := i7, b := b7 / 2 ^ distExtra c2, nb := n7 - distExtra c2, hist := Hw hb, wr := x.wr, err := .nilIface, hl := pt f 5, hd := pt f 520, cl := x.cl, cd := x.cd }))) a0 (D_eq rfl) (EX.meet ((i7, b7 / 2 ^ distExtra c2, n7 - distExtra c2)) (⟨hheld7.take (by omega), hnb7.take, hib7⟩) (.refl _) (.eq m0 (congrArg (fun z : Nat => Value.int .i64 (z : Int)) (show ((((1 * 2 ^ ((distExtra c2) + 1)) + 1) + (v2 + (c2 &&& 1) * 2 ^ distExtra c2)) : Nat) = d by omega)) (.sl 3 4 rfl)))))))))))))))))))))))))
    exfalso; omega
   rintro ⟨i4, b4, n4⟩ ⟨hheld4, hnb4, hib4⟩
   replace hheld4 : Held B (x.k + ls.getD c 0 + lenExtra c + ds.getD c2 0 + distExtra c2) i4 b4 n4 := hheld4
   replace hnb4 : n4 ≤ ls.getD 256 0 + 7 := hnb4
   replace hib4 : i4 ≤ (pack B).length := hib4
   have hn4b : n4 ≤ 22 := by omega
   have hb4 : b4 < 4294967296 := Nat.lt_of_lt_of_le hheld4.lt (Nat.pow_le_pow_right (by decide) (show n4 ≤ 32 from Nat.le_trans hn4b (by decide)))
   have hdr4 := drop_app hdr3
   rw [nbits_length] at hdr4
   refine CT.seq (CT.seq ?_)
   rcases hfar with ⟨h3n, hn258, hd1l, hdle, hd32, htl⟩ | ⟨he, hfar⟩
   ·
    refine CT.region (TL.m m0 (TL.m m5 (TL.c m0 (TL.f 1037 fo_103_9 m0 (TL.call (r_call ce_116 (.cons T0 .nil)) (fun w hS => t116 f hb { s with r := rif r, roff := i4, b := b4, nb := n4, hist := Hw hb, wr := x.wr, err := .nilIface, hl := pt f 5, hd := pt f 520, cl := x.cl, cd := x.cd } hS) ?_)))))
    rintro z285 w285 ⟨hz285, hS⟩
    replace hz285 : z285 = (i64 (if s.full = true then 32768 else x.wr)) := hz285
    subst hz285
    refine TW.at hS (TL.val (n_gtr d ((if s.full = true then 32768 else x.wr)) T4 T0) (TL.b (.hd .u5) (CT.ifd m0 (fun c286 => ?_) (fun c286 => ?_))))
    ·
     exact absurd c286 (far_ok hw hdle hd32)
    exact CT.z (EX.q (TL.m m4 (TL.m m5 (TL.m m3 (TL.m m3 (TL.c m3 (TL.f 1052 fo_103_18 m0 (TL.s (r_st (F' := D { s with r := rif r, roff := i4, b := b4, nb := n4, hist := Hw hb, wr := x.wr, err := .nilIface, hl := pt f 5, hd := pt f 520, cl := lenBase c + v, cd := x.cd }) Tryz.sizeOf3 (Dsat_cl ((lenBase c + v))) a0 T0 T3 (by decide)) (TL.c m4 (TL.f 1053 fo_103_19 m0 (TL.s (r_st (F' := D { s with r := rif r, roff := i4, b := b4, nb := n4, hist := Hw hb, wr := x.wr, err := .nilIface, hl := pt f 5, hd := pt f 520, cl := lenBase c + v, cd := d }) Tryz.sizeOf3 (Dsat_cd d) a0 T0 T4 (by decide)) (TL.b .u8 (CT.goto (EX.then_goto (EX.fold (A' := (blk f 1054 (D { s with r := rif r, roff := i4, b := b4, nb := n4, hist := Hw hb, wr := x.wr, err := .nilIface, hl := pt f 5, hd := pt f 520, cl := n, cd := d }))) a0 (D_eq (by rw [← hnn])) (EX.jump1 (⟨i4, b4, n4, x.wr, (x.k + ls.getD c 0 + lenExtra c + ds.getD c2 0 + distExtra c2), n, d, x.hist, x.h⟩) (⟨⟨hw, hrw, hwl, hheld4, hnb4, hx.un, hib4, hx.s01⟩, by show HTail ls ds s.final (x.k + ls.getD c 0 + lenExtra c + ds.getD c2 0 + distExtra c2) (B.drop (x.k + ls.getD c 0 + lenExtra c + ds.getD c2 0 + distExtra c2)) (copyM x.h d n) hF; rw [hdr4]; exact htl, hn258, hd1l, hdle, hd32, by show 1000 * (B.length - (x.k + ls.getD c 0 + lenExtra c + ds.getD c2 0 + distExtra c2)) + 2 + n ≤ mu0; omega⟩) (by show 2 * (B.length - (x.k + ls.getD c 0 + lenExtra c + ds.getD c2 0 + distExtra c2)) + 1 < 2 * (B.length - x.k); omega) (.refl _) (.cons m4 .nil)))))))))))))))))
   refine CT.region (TL.m m0 (TL.m m5 (TL.c m0 (TL.f 1037 fo_103_9 m0 (TL.call (r_call ce_116 (.cons T0 .nil)) (fun w hS => t116 f hb { s with r := rif r, roff := i4, b := b4, nb := n4, hist := Hw hb, wr := x.wr, err := .nilIface, hl := pt f 5, hd := pt f 520, cl := x.cl, cd := x.cd } hS) ?_)))))
   rintro z285 w285 ⟨hz285, hS⟩
   replace hz285 : z285 = (i64 (if s.full = true then 32768 else x.wr)) := hz285
   subst hz285
   refine TW.at hS (TL.val (n_gtr d ((if s.full = true then 32768 else x.wr)) T4 T0) (TL.b (.hd .u5) (CT.ifd m0 (fun c286 => ?_) (fun c286 => ?_))))
   ·
    refine CT.y (TL.m m4 (TL.m m5 (TL.c m0 (TL.f 2 fo_103_2 m0 (TL.val (r_ld (v := (i64 i4)) Tryz.isAgg2 m0 T0 (by decide) (Dget_roff _)) (TL.val (r_mki Tryz.underlying121 T0) (TL.c m5 (TL.f 1048 fo_103_14 m0 (TL.s (r_st (F' := D { s with r := rif r, roff := i4, b := b4, nb := n4, hist := Hw hb, wr := x.wr, err := .iface 121 (i64 i4), hl := pt f 5, hd := pt f 520, cl := x.cl, cd := x.cd }) Tryz.sizeOf82 (Dsat_err (.iface 121 (i64 i4))) a0 T0 T2 (by decide)) (TL.b .u8 (CT.ret (EX.then_ret (EX.then_ret (EX.scope_ret ?_))))))))))))))
    exact EX.perm p4 (EX.perm p4 (EX.perm p4 (EX.perm p4 (EX.perm p4 (EX.end_ (.inl rfl) (res0 Tryz.results89) (fun _ hS => hb_err (ea := ea) (R := R) (s' := { s with r := rif r, roff := i4, b := b4, nb := n4, hist := Hw hb, wr := x.wr, err := .iface 121 (i64 i4), hl := pt f 5, hd := pt f 520, cl := x.cl, cd := x.cd }) (TB := [(Lnks t), (Lnks td)]) rfl rfl htr.nil rfl rfl H.ex hw hrw hwl hx.un hib4 hx.sd he hS))))))
   exact absurd (far_bad hw hfar hdm) c286
  refine CT.seq (CT.block (CT.q (TL.m m0 (TL.val (n_lss c2 4 T0 .c) (TL.a m0 (TL.b (.hd .u2) (CT.ifd m0 (fun c218 => ?_) (fun c218 => ?_))))))))
  ·
   exfalso; omega
  refine CT.y (TL.m m0 (TL.val (n_lss c2 30 T0 .c) (TL.a m0 (TL.b (.hd .u2) (CT.ifd m0 (fun c223 => ?_) (fun c223 => ?_))))))
  ·
   exfalso; omega
  refine CT.y (TL.m m4 (TL.m m5 (TL.c m0 (TL.f 2 fo_103_2 m0 (TL.val (r_ld (v := (i64 i3)) Tryz.isAgg2 m0 T0 (by decide) (Dget_roff _)) (TL.val (r_mki Tryz.underlying121 T0) (TL.c m5 (TL.f 1048 fo_103_14 m0 (TL.s (r_st (F' := D { s with r := rif r, roff := i3, b := b3, nb := n3, hist := Hw hb, wr := x.wr, err := .iface 121 (i64 i3), hl := pt f 5, hd := pt f 520, cl := x.cl, cd := x.cd }) Tryz.sizeOf82 (Dsat_err (.iface 121 (i64 i3))) a0 T0 T2 (by decide)) (TL.b .u8 (CT.ret (EX.bret (EX.then_ret (EX.then_ret (EX.scope_ret ?_)))))))))))))))
  exact EX.perm p4 (EX.perm p4 (EX.perm p4 (EX.perm p4 (EX.perm p4 (EX.end_ (.inl rfl) (res0 Tryz.results89) (fun _ hS => hb_err (ea := ea) (R := R) (s' := { s with r := rif r, roff := i3, b := b3, nb := n3, hist := Hw hb, wr := x.wr, err := .iface 121 (i64 i3), hl := pt f 5, hd := pt f 520, cl := x.cl, cd := x.cd }) (TB := [(Lnks t), (Lnks td)]) rfl rfl htr.nil rfl rfl H.ex hw hrw hwl hx.un hib3 hx.sd he hS))))))
 intro x hx
 show CT _ _ _ [(0, (pt f 0))] _ _ (blk f 1054 (D { s with r := rif r, roff := x.i, b := x.b, nb := x.nb, hist := Hw hb, wr := x.wr, err := .nilIface, hl := pt f 5, hd := pt f 520, cl := x.cl, cd := x.cd }) :: Br r B x.i :: blk hb 32768 (fun jj => u8 (x.hist jj)) :: Lnks t :: Lnks td :: R)
 refine CT.seq (CT.skip (EX.seq (CT.seq ?_)))
 have hw := hx.win
 have hwl := hx.wl
 have hrw := hx.rw_
 have hmu := hx.mu
 have hc1 := hx.c1
 have hc2 := hx.c2
 have hc3 := hx.c3
 have hc4 := hx.c4
 refine CT.draw 11 fm (by kernel_rfl) ?_
 refine TS.m m0 (TS.c m0 (TS.f 1037 fo_103_9 m0 (TS.m m3 (TS.c m0 (TS.f 1053 fo_103_19 m0 (TS.val (r_ld (v := (i64 x.cd)) Tryz.isAgg3 m0 T0 (by decide) (Dget_cd _)) (TS.m m7 (TS.c m0 (TS.f 1052 fo_103_18 m0 (TS.val (r_ld (v := (i64 x.cl)) Tryz.isAgg3 m0 T0 (by decide) (Dget_cl _)) (TS.nil (TL.perm p2 (TL.perm p1 (TL.call (r_call ce_117 (.cons T8 (.cons T4 (.cons T0 .nil)))) (fun w hS => t117 (s := { s with r := rif r, roff := x.i, b := x.b, nb := x.nb, hist := Hw hb, wr := x.wr, err := .nilIface, hl := pt f 5, hd := pt f 520, cl := x.cl, cd := x.cd }) rfl hw hwl hc2 hc3 hc4 hc1 hS) ?_))))))))))))))
 rintro _ w314 (⟨rfl, hS⟩ | ⟨rfl, hm0, hm1, hS⟩)
 ·
  refine TW.at hS (TL.a m0 (TL.b (.hd .u12) (CT.cut (X := Nat) (fun gx => [(9, (i64 gx)), (0, (pt f 0))]) (fun gx => (blk f 1054 (D { s with r := rif r, roff := x.i, b := x.b, nb := x.nb, hist := Hw hb, wr := x.wr + gx, err := .nilIface, hl := pt f 5, hd := pt f 520, cl := x.cl, cd := x.cd })) :: Br r B x.i :: blk hb 32768 (fun jj => u8 ((updh x.hist x.wr (xsM x.h x.cd gx)) jj)) :: Lnks t :: Lnks td :: R) (fun gx => gx = min x.cl (32768 - x.wr)) ?_ ?_)))
  ·
   refine CT.q (TL.m m0 (TL.val (show Run _ _ _ _ _ _ (.bool true) from n_eql 0 0 T0 .c rfl rfl) (TL.b (.hd .u1) (CT.ift m0 ?_))))
   refine CT.sub .u1 (CT.draw 11 fm (by kernel_rfl) ?_)
   refine TS.m m1 (TS.c m0 (TS.f 1037 fo_103_9 m0 (TS.m m4 (TS.c m0 (TS.f 1053 fo_103_19 m0 (TS.val (r_ld (v := (i64 x.cd)) Tryz.isAgg3 m0 T0 (by decide) (Dget_cd _)) (TS.m m8 (TS.c m0 (TS.f 1052 fo_103_18 m0 (TS.val (r_ld (v := (i64 x.cl)) Tryz.isAgg3 m0 T0 (by decide) (Dget_cl _)) (TS.nil (TL.perm p1 (TL.perm p1 ?_)))))))))))))
   obtain ⟨m, hm⟩ : ∃ m, m = min x.cl (32768 - x.wr) := ⟨_, rfl⟩
   refine TL.perm p1 (TL.perm p1 (TL.call (r_call ce_118 (.cons T8 (.cons T4 (.cons T0 .nil)))) (fun w hS => t118 f hb { s with r := rif r, roff := x.i, b := x.b, nb := x.nb, hist := Hw hb, wr := x.wr, err := .nilIface, hl := pt f 5, hd := pt f 520, cl := x.cl, cd := x.cd } x.hist x.cd x.cl x.h hw hwl hc2 hc3 hc4 hc1 m hm hS) ?_))
   rintro z328 w328 ⟨hz328, hS⟩
   replace hz328 : z328 = (i64 m) := hz328
   subst hz328
   exact TW.at hS (TL.rm .h12 (TL.a m0 (TL.x (.hd .u12) (EX.perm p4 (EX.perm p4 (EX.perm p3 (EX.perm p4 (EX.perm p4 (EX.meet m hm (.refl _) (.cons m0 (.cons m1 .nil)))))))))))
  rintro m hm
  have hmc : m ≤ x.cl := by omega
  have hmw : x.wr + m ≤ 32768 := by omega
  have hw1 := hw.write (xs := xsM x.h x.cd m) (by rw [xsM_length]; exact hmw)
  rw [xsM_length, ← copyM_split] at hw1
  have hun1 : ∃ un, copyM x.h x.cd m = del ++ un ∧ un.length = x.wr + m - s.rd := by rw [copyM_split]; exact un_app hx.un (xsM_length _ _ _) hrw
  refine CT.q (TL.m m1 (TL.c m0 (TL.f 1052 fo_103_18 m0 (TL.val (r_ld (v := (i64 x.cl)) Tryz.isAgg3 m0 T0 (by decide) (Dget_cl _)) (TL.m m4 (TL.val (n_sub x.cl m 9223372036854775808 T1 T0) (TL.c m5 (TL.f 1052 fo_103_18 m0 (TL.s (r_st (F' := D { s with r := rif r, roff := x.i, b := x.b, nb := x.nb, hist := Hw hb, wr := x.wr + m, err := .nilIface, hl := pt f 5, hd := pt f 520, cl := x.cl - m, cd := x.cd }) Tryz.sizeOf3 (Dsat_cl ((x.cl - m))) a0 T0 T2 (by decide)) (TL.b .u8 (CT.seq (CT.q (TL.m m1 (TL.c m0 (TL.f 1037 fo_103_9 m0 (TL.call (r_call ce_114 (.cons T0 .nil)) (fun w hS => t114 f hb { s with r := rif r, roff := x.i, b := x.b, nb := x.nb, hist := Hw hb, wr := x.wr + m, err := .nilIface, hl := pt f 5, hd := pt f 520, cl := x.cl - m, cd := x.cd } (by show (x.wr + m) ≤ 32768; omega) hS) ?_))))))))))))))))
  rintro z340 w340 ⟨hz340, hS⟩
  replace hz340 : z340 = (i64 (32768 - (x.wr + m))) := hz340
  subst hz340
  refine TW.at hS (TL.val (n_eql ((32768 - (x.wr + m))) 0 T0 .c) (TL.m m0 ?_))
  by_cases g342 : (32768 - (x.wr + m)) = 0
  ·
   have hW : x.wr + m = 32768 := by omega
   refine TL.sub (.eq m0 (congrArg Value.bool (decide_eq_true g342)) (.eq m1 (congrArg Value.bool (decide_eq_true g342)) (.cons m2 (.cons m3 (.cons m4 (.cons m5 (.cons m6 (.cons m7 .nil)))))))) (TL.gn m0 (TL.gn m0 (TL.gn m0 (TL.gn m0 (TL.gn m0 (TL.val (r_pickt T0 .c) (TL.b (.hd .u6) (CT.ift m0 ?_))))))))
   refine CT.y (TL.m m1 (TL.m m2 (TL.c m0 (TL.f 1037 fo_103_9 m0 (TL.call (r_call ce_108 (.cons T0 .nil)) (fun w hS => t108 f hb { s with r := rif r, roff := x.i, b := x.b, nb := x.nb, hist := Hw hb, wr := x.wr + m, err := .nilIface, hl := pt f 5, hd := pt f 520, cl := x.cl - m, cd := x.cd } (by show s.rd ≤ (x.wr + m); omega) (by show (x.wr + m) ≤ 32768; omega) (by show s.rd < 32768; omega) hS) ?_)))))
   rintro z353 w353 ⟨hz353, hS⟩
   replace hz353 : z353 = (.slice (some ⟨hb, s.rd, none⟩) (((x.wr + m) - s.rd)) ((32768 - s.rd))) := hz353
   subst hz353
   refine TW.at hS (TL.c m4 (TL.f 1049 fo_103_15 m0 (TL.s (r_st (F' := D { s with r := rif r, roff := x.i, b := x.b, nb := x.nb, hist := Hw hb, wr := (x.wr + m) % 32768, rd := (x.wr + m) % 32768, full := s.full || decide ((x.wr + m) = 32768), err := .nilIface, toRead := .slice (some ⟨hb, s.rd, none⟩) (((x.wr + m) - s.rd)) ((32768 - s.rd)), hl := pt f 5, hd := pt f 520, cl := x.cl - m, cd := x.cd }) Tryz.sizeOf22 (Dsat_toRead (.slice (some ⟨hb, s.rd, none⟩) (((x.wr + m) - s.rd)) ((32768 - s.rd)))) a0 T0 T2 (by decide)) (TL.r .u7 (TL.m m1 (TL.c m0 (TL.f 1045 fo_103_11 m0 (TL.s (r_st (F' := D { s with r := rif r, roff := x.i, b := x.b, nb := x.nb, hist := Hw hb, wr := (x.wr + m) % 32768, rd := (x.wr + m) % 32768, full := s.full || decide ((x.wr + m) = 32768), step := .func (.func 89) #[] #[], err := .nilIface, toRead := .slice (some ⟨hb, s.rd, none⟩) (((x.wr + m) - s.rd)) ((32768 - s.rd)), hl := pt f 5, hd := pt f 520, cl := x.cl - m, cd := x.cd }) Tryz.sizeOf100 (Dsat_step (.func (.func 89) #[] #[])) a0 T0 .f (by decide)) (TL.r .u3 (TL.m m1 (TL.c m0 (TL.f 1046 fo_103_12 m0 (TL.s (r_st (F' := D { s with r := rif r, roff := x.i, b := x.b, nb := x.nb, hist := Hw hb, wr := (x.wr + m) % 32768, rd := (x.wr + m) % 32768, full := s.full || decide ((x.wr + m) = 32768), step := .func (.func 89) #[] #[], ss := 1, err := .nilIface, toRead := .slice (some ⟨hb, s.rd, none⟩) (((x.wr + m) - s.rd)) ((32768 - s.rd)), hl := pt f 5, hd := pt f 520, cl := x.cl - m, cd := x.cd }) Tryz.sizeOf3 (Dsat_ss 1) a0 T0 .c (by decide)) (TL.b .u3 (CT.ret (EX.then_ret (EX.scope_ret ?_)))))))))))))))))
   exact EX.perm p4 (EX.perm p4 (EX.perm p4 (EX.perm p4 (EX.perm p4 (EX.end_ (.inl rfl) (res0 Tryz.results89) (fun _ hS => hb_flush (s := s) (ea := ea) (R := R) (s' := { s with r := rif r, roff := x.i, b := x.b, nb := x.nb, hist := Hw hb, wr := (x.wr + m) % 32768, rd := (x.wr + m) % 32768, full := s.full || decide ((x.wr + m) = 32768), step := .func (.func 89) #[] #[], ss := 1, err := .nilIface, toRead := .slice (some ⟨hb, s.rd, none⟩) (((x.wr + m) - s.rd)) ((32768 - s.rd)), hl := pt f 5, hd := pt f 520, cl := x.cl - m, cd := x.cd }) (W := x.wr + m) (k := x.k) (ls := ls) (ds := ds) (TB := [(Lnks t), (Lnks td)]) rfl rfl rfl rfl rfl rfl rfl rfl rfl H.ex hw1 (by omega) (by omega) hun1 hx.il (.inr ⟨rfl, by show x.cl - m ≤ 258; omega, hc2, by show x.cd ≤ (copyM x.h x.cd m).length; rw [copyM_length]; omega, hc4, rfl⟩) hx.held hx.nbl (by show HTail ls ds s.final x.k (B.drop x.k) (if (1 : Nat) = 0 then _ else copyM (copyM x.h x.cd m) x.cd (x.cl - m)) hF; rw [if_neg (by decide), copyM_add, show m + (x.cl - m) = x.cl by omega]; exact hx.tail) (by show 1000 * (B.length - x.k) + 2 + (x.cl - m) < mu0; omega) (fun m hm => ⟨h256, .inr ⟨(t, td), sep_pure ⟨rfl, rfl, ht, hmn, htd⟩ hm⟩⟩) hS))))))
  refine TL.sub (.eq m0 (congrArg Value.bool (decide_eq_false g342)) (.eq m1 (congrArg Value.bool (decide_eq_false g342)) (.cons m2 (.cons m3 (.cons m4 (.cons m5 (.cons m6 (.cons m7 .nil)))))))) (TL.gv m0 (r_move T7) (TL.gv m1 (r_nil T0) (TL.gv m2 (r_fa (off' := 1052) fo_103_18 T0) (TL.gv m3 (r_ld (v := (i64 (x.cl - m))) Tryz.isAgg3 m0 T0 (by decide) (Dget_cl _)) (TL.gv m4 (n_gtr ((x.cl - m)) 0 T0 .c) (TL.val (r_pickf T5 T0) (TL.b (.hd .u11) (CT.ifd m0 (fun c348 => ?_) (fun c348 => ?_)))))))))
  ·
   have hW : x.wr + m = 32768 := by omega
   refine CT.y (TL.m m1 (TL.m m2 (TL.c m0 (TL.f 1037 fo_103_9 m0 (TL.call (r_call ce_108 (.cons T0 .nil)) (fun w hS => t108 f hb { s with r := rif r, roff := x.i, b := x.b, nb := x.nb, hist := Hw hb, wr := x.wr + m, err := .nilIface, hl := pt f 5, hd := pt f 520, cl := x.cl - m, cd := x.cd } (by show s.rd ≤ (x.wr + m); omega) (by show (x.wr + m) ≤ 32768; omega) (by show s.rd < 32768; omega) hS) ?_)))))
   rintro z353 w353 ⟨hz353, hS⟩
   replace hz353 : z353 = (.slice (some ⟨hb, s.rd, none⟩) (((x.wr + m) - s.rd)) ((32768 - s.rd))) := hz353
   subst hz353
   refine TW.at hS (TL.c m4 (TL.f 1049 fo_103_15 m0 (TL.s (r_st (F' := D { s with r := rif r, roff := x.i, b := x.b, nb := x.nb, hist := Hw hb, wr := (x.wr + m) % 32768, rd := (x.wr + m) % 32768, full := s.full || decide ((x.wr + m) = 32768), err := .nilIface, toRead := .slice (some ⟨hb, s.rd, none⟩) (((x.wr + m) - s.rd)) ((32768 - s.rd)), hl := pt f 5, hd := pt f 520, cl := x.cl - m, cd := x.cd }) Tryz.sizeOf22 (Dsat_toRead (.slice (some ⟨hb, s.rd, none⟩) (((x.wr + m) - s.rd)) ((32768 - s.rd)))) a0 T0 T2 (by decide)) (TL.r .u7 (TL.m m1 (TL.c m0 (TL.f 1045 fo_103_11 m0 (TL.s (r_st (F' := D { s with r := rif r, roff := x.i, b := x.b, nb := x.nb, hist := Hw hb, wr := (x.wr + m) % 32768, rd := (x.wr + m) % 32768, full := s.full || decide ((x.wr + m) = 32768), step := .func (.func 89) #[] #[], err := .nilIface, toRead := .slice (some ⟨hb, s.rd, none⟩) (((x.wr + m) - s.rd)) ((32768 - s.rd)), hl := pt f 5, hd := pt f 520, cl := x.cl - m, cd := x.cd }) Tryz.sizeOf100 (Dsat_step (.func (.func 89) #[] #[])) a0 T0 .f (by decide)) (TL.r .u3 (TL.m m1 (TL.c m0 (TL.f 1046 fo_103_12 m0 (TL.s (r_st (F' := D { s with r := rif r, roff := x.i, b := x.b, nb := x.nb, hist := Hw hb, wr := (x.wr + m) % 32768, rd := (x.wr + m) % 32768, full := s.full || decide ((x.wr + m) = 32768), step := .func (.func 89) #[] #[], ss := 1, err := .nilIface, toRead := .slice (some ⟨hb, s.rd, none⟩) (((x.wr + m) - s.rd)) ((32768 - s.rd)), hl := pt f 5, hd := pt f 520, cl := x.cl - m, cd := x.cd }) Tryz.sizeOf3 (Dsat_ss 1) a0 T0 .c (by decide)) (TL.b .u3 (CT.ret (EX.then_ret (EX.scope_ret ?_)))))))))))))))))
   exact EX.perm p4 (EX.perm p4 (EX.perm p4 (EX.perm p4 (EX.perm p4 (EX.end_ (.inl rfl) (res0 Tryz.results89) (fun _ hS => hb_flush (s := s) (ea := ea) (R := R) (s' := { s with r := rif r, roff := x.i, b := x.b, nb := x.nb, hist := Hw hb, wr := (x.wr + m) % 32768, rd := (x.wr + m) % 32768, full := s.full || decide ((x.wr + m) = 32768), step := .func (.func 89) #[] #[], ss := 1, err := .nilIface, toRead := .slice (some ⟨hb, s.rd, none⟩) (((x.wr + m) - s.rd)) ((32768 - s.rd)), hl := pt f 5, hd := pt f 520, cl := x.cl - m, cd := x.cd }) (W := x.wr + m) (k := x.k) (ls := ls) (ds := ds) (TB := [(Lnks t), (Lnks td)]) rfl rfl rfl rfl rfl rfl rfl rfl rfl H.ex hw1 (by omega) (by omega) hun1 hx.il (.inr ⟨rfl, by show x.cl - m ≤ 258; omega, hc2, by show x.cd ≤ (copyM x.h x.cd m).length; rw [copyM_length]; omega, hc4, rfl⟩) hx.held hx.nbl (by show HTail ls ds s.final x.k (B.drop x.k) (if (1 : Nat) = 0 then _ else copyM (copyM x.h x.cd m) x.cd (x.cl - m)) hF; rw [if_neg (by decide), copyM_add, show m + (x.cl - m) = x.cl by omega]; exact hx.tail) (by show 1000 * (B.length - x.k) + 2 + (x.cl - m) < mu0; omega) (fun m hm => ⟨h256, .inr ⟨(t, td), sep_pure ⟨rfl, rfl, ht, hmn, htd⟩ hm⟩⟩) hS))))))
  have hmcl : m = x.cl := by omega
  exact CT.z (EX.seq (CT.goto (EX.jump0 (⟨x.i, x.b, x.nb, (x.wr + m), x.k, (x.cl - m), x.cd, (updh x.hist x.wr (xsM x.h x.cd m)), (copyM x.h x.cd m)⟩) (⟨⟨hw1, by show s.rd ≤ x.wr + m; omega, by show x.wr + m < 32768; omega, hx.held, hx.nbl, hun1, hx.il, hx.s01⟩, by show HTail ls ds s.final x.k (B.drop x.k) (copyM x.h x.cd m) hF; rw [hmcl]; exact hx.tail, by show 1000 * (B.length - x.k) + 1 ≤ mu0; omega, fun _ => ⟨by show x.cl - m = 0; omega, hc2, by show x.cd ≤ (copyM x.h x.cd m).length; rw [copyM_length]; omega, hc4⟩⟩) (by show 2 * (B.length - x.k) < 2 * (B.length - x.k) + 1; omega) (.refl _) (.cons m1 .nil))))
 replace hm1 : x.wr + x.cl ≤ 32768 := hm1
 refine TW.at hS (TL.a m0 (TL.b (.hd .u12) (CT.cut (X := Nat) (fun gx => [(9, (i64 gx)), (0, (pt f 0))]) (fun gx => (blk f 1054 (D { s with r := rif r, roff := x.i, b := x.b, nb := x.nb, hist := Hw hb, wr := x.wr + gx, err := .nilIface, hl := pt f 5, hd := pt f 520, cl := x.cl, cd := x.cd })) :: Br r B x.i :: blk hb 32768 (fun jj => u8 ((updh x.hist x.wr (xsM x.h x.cd gx)) jj)) :: Lnks t :: Lnks td :: R) (fun gx => gx = min x.cl (32768 - x.wr)) ?_ ?_)))
 ·
  refine CT.q (TL.m m0 (TL.val (n_eql x.cl 0 T0 .c) (TL.b (.hd .u1) (CT.ifd m0 (fun c316 => ?_) (fun c316 => ?_)))))
  ·
   exfalso; omega
  exact CT.z (EX.perm p4 (EX.perm p4 (EX.perm p3 (EX.perm p4 (EX.perm p4 (EX.meet x.cl (by omega) (.refl _) (.cons m0 (.cons m1 .nil))))))))
 rintro m hm
 have hmc : m ≤ x.cl := by omega
 have hmw : x.wr + m ≤ 32768 := by omega
 have hw1 := hw.write (xs := xsM x.h x.cd m) (by rw [xsM_length]; exact hmw)
 rw [xsM_length, ← copyM_split] at hw1
 have hun1 : ∃ un, copyM x.h x.cd m = del ++ un ∧ un.length = x.wr + m - s.rd := by rw [copyM_split]; exact un_app hx.un (xsM_length _ _ _) hrw
 refine CT.q (TL.m m1 (TL.c m0 (TL.f 1052 fo_103_18 m0 (TL.val (r_ld (v := (i64 x.cl)) Tryz.isAgg3 m0 T0 (by decide) (Dget_cl _)) (TL.m m4 (TL.val (n_sub x.cl m 9223372036854775808 T1 T0) (TL.c m5 (TL.f 1052 fo_103_18 m0 (TL.s (r_st (F' := D { s with r := rif r, roff := x.i, b := x.b, nb := x.nb, hist := Hw hb, wr := x.wr + m, err := .nilIface, hl := pt f 5, hd := pt f 520, cl := x.cl - m, cd := x.cd }) Tryz.sizeOf3 (Dsat_cl ((x.cl - m))) a0 T0 T2 (by decide)) (TL.b .u8 (CT.seq (CT.q (TL.m m1 (TL.c m0 (TL.f 1037 fo_103_9 m0 (TL.call (r_call ce_114 (.cons T0 .nil)) (fun w hS => t114 f hb { s with r := rif r, roff := x.i, b := x.b, nb := x.nb, hist := Hw hb, wr := x.wr + m, err := .nilIface, hl := pt f 5, hd := pt f 520, cl := x.cl - m, cd := x.cd } (by show (x.wr + m) ≤ 32768; omega) hS) ?_))))))))))))))))
 rintro z340 w340 ⟨hz340, hS⟩
 replace hz340 : z340 = (i64 (32768 - (x.wr + m))) := hz340
 subst hz340
 refine TW.at hS (TL.val (n_eql ((32768 - (x.wr + m))) 0 T0 .c) (TL.m m0 ?_))
 by_cases g342 : (32768 - (x.wr + m)) = 0
 ·
  have hW : x.wr + m = 32768 := by omega
  refine TL.sub (.eq m0 (congrArg Value.bool (decide_eq_true g342)) (.eq m1 (congrArg Value.bool (decide_eq_true g342)) (.cons m2 (.cons m3 (.cons m4 (.cons m5 (.cons m6 (.cons m7 .nil)))))))) (TL.gn m0 (TL.gn m0 (TL.gn m0 (TL.gn m0 (TL.gn m0 (TL.val (r_pickt T0 .c) (TL.b (.hd .u6) (CT.ift m0 ?_))))))))
  refine CT.y (TL.m m1 (TL.m m2 (TL.c m0 (TL.f 1037 fo_103_9 m0 (TL.call (r_call ce_108 (.cons T0 .nil)) (fun w hS => t108 f hb { s with r := rif r, roff := x.i, b := x.b, nb := x.nb, hist := Hw hb, wr := x.wr + m, err := .nilIface, hl := pt f 5, hd := pt f 520, cl := x.cl - m, cd := x.cd } (by show s.rd ≤ (x.wr + m); omega) (by show (x.wr + m) ≤ 32768; omega) (by show s.rd < 32768; omega) hS) ?_)))))
  rintro z353 w353 ⟨hz353, hS⟩
  replace hz353 : z353 = (.slice (some ⟨hb, s.rd, none⟩) (((x.wr + m) - s.rd)) ((32768 - s.rd))) := hz353
  subst hz353
  refine TW.at hS (TL.c m4 (TL.f 1049 fo_103_15 m0 (TL.s (r_st (F' := D { s with r := rif r, roff := x.i, b := x.b, nb := x.nb, hist := Hw hb, wr := (x.wr + m) % 32768, rd := (x.wr + m) % 32768, full := s.full || decide ((x.wr + m) = 32768), err := .nilIface, toRead := .slice (some ⟨hb, s.rd, none⟩) (((x.wr + m) - s.rd)) ((32768 - s.rd)), hl := pt f 5, hd := pt f 520, cl := x.cl - m, cd := x.cd }) Tryz.sizeOf22 (Dsat_toRead (.slice (some ⟨hb, s.rd, none⟩) (((x.wr + m) - s.rd)) ((32768 - s.rd)))) a0 T0 T2 (by decide)) (TL.r .u7 (TL.m m1 (TL.c m0 (TL.f 1045 fo_103_11 m0 (TL.s (r_st (F' := D { s with r := rif r, roff := x.i, b := x.b, nb := x.nb, hist := Hw hb, wr := (x.wr + m) % 32768, rd := (x.wr + m) % 32768, full := s.full || decide ((x.wr + m) = 32768), step := .func (.func 89) #[] #[], err := .nilIface, toRead := .slice (some ⟨hb, s.rd, none⟩) (((x.wr + m) - s.rd)) ((32768 - s.rd)), hl := pt f 5, hd := pt f 520, cl := x.cl - m, cd := x.cd }) Tryz.sizeOf100 (Dsat_step (.func (.func 89) #[] #[])) a0 T0 .f (by decide)) (TL.r .u3 (TL.m m1 (TL.c m0 (TL.f 1046 fo_103_12 m0 (TL.s (r_st (F' := D { s with r := rif r, roff := x.i, b := x.b, nb := x.nb, hist := Hw hb, wr := (x.wr + m) % 32768, rd := (x.wr + m) % 32768, full := s.full || decide ((x.wr + m) = 32768), step := .func (.func 89) #[] #[], ss := 1, err := .nilIface, toRead := .slice (some ⟨hb, s.rd, none⟩) (((x.wr + m) - s.rd)) ((32768 - s.rd)), hl := pt f 5, hd := pt f 520, cl := x.cl - m, cd := x.cd }) Tryz.sizeOf3 (Dsat_ss 1) a0 T0 .c (by decide)) (TL.b .u3 (CT.ret (EX.then_ret (EX.scope_ret ?_)))))))))))))))))
  exact EX.perm p4 (EX.perm p4 (EX.perm p4 (EX.perm p4 (EX.perm p4 (EX.end_ (.inl rfl) (res0 Tryz.results89) (fun _ hS => hb_flush (s := s) (ea := ea) (R := R) (s' := { s with r := rif r, roff := x.i, b := x.b, nb := x.nb, hist := Hw hb, wr := (x.wr + m) % 32768, rd := (x.wr + m) % 32768, full := s.full || decide ((x.wr + m) = 32768), step := .func (.func 89) #[] #[], ss := 1, err := .nilIface, toRead := .slice (some ⟨hb, s.rd, none⟩) (((x.wr + m) - s.rd)) ((32768 - s.rd)), hl := pt f 5, hd := pt f 520, cl := x.cl - m, cd := x.cd }) (W := x.wr + m) (k := x.k) (ls := ls) (ds := ds) (TB := [(Lnks t), (Lnks td)]) rfl rfl rfl rfl rfl rfl rfl rfl rfl H.ex hw1 (by omega) (by omega) hun1 hx.il (.inr ⟨rfl, by show x.cl - m ≤ 258; omega, hc2, by show x.cd ≤ (copyM x.h x.cd m).length; rw [copyM_length]; omega, hc4, rfl⟩) hx.held hx.nbl (by show HTail ls ds s.final x.k (B.drop x.k) (if (1 : Nat) = 0 then _ else copyM (copyM x.h x.cd m) x.cd (x.cl - m)) hF; rw [if_neg (by decide), copyM_add, show m + (x.cl - m) = x.cl by omega]; exact hx.tail) (by show 1000 * (B.length - x.k) + 2 + (x.cl - m) < mu0; omega) (fun m hm => ⟨h256, .inr ⟨(t, td), sep_pure ⟨rfl, rfl, ht, hmn, htd⟩ hm⟩⟩) hS))))))
 refine TL.sub (.eq m0 (congrArg Value.bool (decide_eq_false g342)) (.eq m1 (congrArg Value.bool (decide_eq_false g342)) (.cons m2 (.cons m3 (.cons m4 (.cons m5 (.cons m6 (.cons m7 .nil)))))))) (TL.gv m0 (r_move T7) (TL.gv m1 (r_nil T0) (TL.gv m2 (r_fa (off' := 1052) fo_103_18 T0) (TL.gv m3 (r_ld (v := (i64 (x.cl - m))) Tryz.isAgg3 m0 T0 (by decide) (Dget_cl _)) (TL.gv m4 (n_gtr ((x.cl - m)) 0 T0 .c) (TL.val (r_pickf T5 T0) (TL.b (.hd .u11) (CT.ifd m0 (fun c348 => ?_) (fun c348 => ?_)))))))))
 ·
  have hW : x.wr + m = 32768 := by omega
  refine CT.y (TL.m m1 (TL.m m2 (TL.c m0 (TL.f 1037 fo_103_9 m0 (TL.call (r_call ce_108 (.cons T0 .nil)) (fun w hS => t108 f hb { s with r := rif r, roff := x.i, b := x.b, nb := x.nb, hist := Hw hb, wr := x.wr + m, err := .nilIface, hl := pt f 5, hd := pt f 520, cl := x.cl - m, cd := x.cd } (by show s.rd ≤ (x.wr + m); omega) (by show (x.wr + m) ≤ 32768; omega) (by show s.rd < 32768; omega) hS) ?_)))))
  rintro z353 w353 ⟨hz353, hS⟩
  replace hz353 : z353 = (.slice (some ⟨hb, s.rd, none⟩) (((x.wr + m) - s.rd)) ((32768 - s.rd))) := hz353
  subst hz353
  refine TW.at hS (TL.c m4 (TL.f 1049 fo_103_15 m0 (TL.s (r_st (F' := D { s with r := rif r, roff := x.i, b := x.b, nb := x.nb, hist := Hw hb, wr := (x.wr + m) % 32768, rd := (x.wr + m) % 32768, full := s.full || decide ((x.wr + m) = 32768), err := .nilIface, toRead := .slice (some ⟨hb, s.rd, none⟩) (((x.wr + m) - s.rd)) ((32768 - s.rd)), hl := pt f 5, hd := pt f 520, cl := x.cl - m, cd := x.cd }) Tryz.sizeOf22 (Dsat_toRead (.slice (some ⟨hb, s.rd, none⟩) (((x.wr + m) - s.rd)) ((32768 - s.rd)))) a0 T0 T2 (by decide)) (TL.r .u7 (TL.m m1 (TL.c m0 (TL.f 1045 fo_103_11 m0 (TL.s (r_st (F' := D { s with r := rif r, roff := x.i, b := x.b, nb := x.nb, hist := Hw hb, wr := (x.wr + m) % 32768, rd := (x.wr + m) % 32768, full := s.full || decide ((x.wr + m) = 32768), step := .func (.func 89) #[] #[], err := .nilIface, toRead := .slice (some ⟨hb, s.rd, none⟩) (((x.wr + m) - s.rd)) ((32768 - s.rd)), hl := pt f 5, hd := pt f 520, cl := x.cl - m, cd := x.cd }) Tryz.sizeOf100 (Dsat_step (.func (.func 89) #[] #[])) a0 T0 .f (by decide)) (TL.r .u3 (TL.m m1 (TL.c m0 (TL.f 1046 fo_103_12 m0 (TL.s (r_st (F' := D { s with r := rif r, roff := x.i, b := x.b, nb := x.nb, hist := Hw hb, wr := (x.wr + m) % 32768, rd := (x.wr + m) % 32768, full := s.full || decide ((x.wr + m) = 32768), step := .func (.func 89) #[] #[], ss := 1, err := .nilIface, toRead := .slice (some ⟨hb, s.rd, none⟩) (((x.wr + m) - s.rd)) ((32768 - s.rd)), hl := pt f 5, hd := pt f 520, cl := x.cl - m, cd := x.cd }) Tryz.sizeOf3 (Dsat_ss 1) a0 T0 .c (by decide)) (TL.b .u3 (CT.ret (EX.then_ret (EX.scope_ret ?_)))))))))))))))))
  exact EX.perm p4 (EX.perm p4 (EX.perm p4 (EX.perm p4 (EX.perm p4 (EX.end_ (.inl rfl) (res0 Tryz.results89) (fun _ hS => hb_flush (s := s) (ea := ea) (R := R) (s' := { s with r := rif r, roff := x.i, b := x.b, nb := x.nb, hist := Hw hb, wr := (x.wr + m) % 32768, rd := (x.wr + m) % 32768, full := s.full || decide ((x.wr + m) = 32768), step := .func (.func 89) #[] #[], ss := 1, err := .nilIface, toRead := .slice (some ⟨hb, s.rd, none⟩) (((x.wr + m) - s.rd)) ((32768 - s.rd)), hl := pt f 5, hd := pt f 520, cl := x.cl - m, cd := x.cd }) (W := x.wr + m) (k := x.k) (ls := ls) (ds := ds) (TB := [(Lnks t), (Lnks td)]) rfl rfl rfl rfl rfl rfl rfl rfl rfl H.ex hw1 (by omega) (by omega) hun1 hx.il (.inr ⟨rfl, by show x.cl - m ≤ 258; omega, hc2, by show x.cd ≤ (copyM x.h x.cd m).length; rw [copyM_length]; omega, hc4, rfl⟩) hx.held hx.nbl (by show HTail ls ds s.final x.k (B.drop x.k) (if (1 : Nat) = 0 then _ else copyM (copyM x.h x.cd m) x.cd (x.cl - m)) hF; rw [if_neg (by decide), copyM_add, show m + (x.cl - m) = x.cl by omega]; exact hx.tail) (by show 1000 * (B.length - x.k) + 2 + (x.cl - m) < mu0; omega) (fun m hm => ⟨h256, .inr ⟨(t, td), sep_pure ⟨rfl, rfl, ht, hmn, htd⟩ hm⟩⟩) hS))))))
 have hmcl : m = x.cl := by omega
 exact CT.z (EX.seq (CT.goto (EX.jump0 (⟨x.i, x.b, x.nb, (x.wr + m), x.k, (x.cl - m), x.cd, (updh x.hist x.wr (xsM x.h x.cd m)), (copyM x.h x.cd m)⟩) (⟨⟨hw1, by show s.rd ≤ x.wr + m; omega, by show x.wr + m < 32768; omega, hx.held, hx.nbl, hun1, hx.il, hx.s01⟩, by show HTail ls ds s.final x.k (B.drop x.k) (copyM x.h x.cd m) hF; rw [hmcl]; exact hx.tail, by show 1000 * (B.length - x.k) + 1 ≤ mu0; omega, fun _ => ⟨by show x.cl - m = 0; omega, hc2, by show x.cd ≤ (copyM x.h x.cd m).length; rw [copyM_length]; omega, hc4⟩⟩) (by show 2 * (B.length - x.k) < 2 * (B.length - x.k) + 1; omega) (.refl _) (.cons m1 .nil))))
end Go.Eng
namespace Go.Infl
def RunR (own : List Nat) (nl nd : Nat) (acc : List Nat) (bits : List Bool) (o : Option (List Nat × List Nat × List Bool)) : Prop :=
 (∃ lit dist rb rest, lit.length = nl ∧ dist.length = nd ∧ bits = rb ++ rest ∧ RunB own acc rb (lit ++ dist) ∧ (∀ x ∈ lit ++ dist, x ≤ 15) ∧ LOk lit 256 ∧
  ((o = some (lit, dist, rest) ∧ Full lit ∧ (Full dist ∨ ∀ x ∈ dist, x = 0)) ∨ (o = none ∧ (Over lit ∨ Full lit ∧ Over dist)))) ∨
 (o = none ∧ ∃ rb acc' k v rest, bits = rb ++ (symB own k ++ (nbits (rnBits k) v ++ rest)) ∧ RunB own acc rb acc' ∧ acc'.length < nl + nd ∧ LOk own k ∧ v < 2 ^ rnBits k ∧ (k = 16 ∧ acc' = [] ∨ (k = 16 → acc' ≠ []) ∧ nl + nd < (rnExp acc' k v).length))
def HdrR (own : List Nat) (nl nd : Nat) (bits : List Bool) (o : Option (List Nat × List Nat × List Bool)) : Prop := (Over own ∧ o = none) ∨ (Full own ∧ RunR own nl nd [] bits o)
theorem RunR.step {own acc : List Nat} {nl nd : Nat} {bits : List Bool} {o : Option (List Nat × List Nat × List Bool)} (H : RunR own nl nd acc bits o) (hl : acc.length < nl + nd) :
 ∃ k v rest, bits = symB own k ++ (nbits (rnBits k) v ++ rest) ∧ LOk own k ∧ v < 2 ^ rnBits k ∧ ((o = none ∧ k = 16 ∧ acc = []) ∨ ((k = 16 → acc ≠ []) ∧ ((o = none ∧ nl + nd < (rnExp acc k v).length) ∨ ((rnExp acc k v).length ≤ nl + nd ∧ RunR own nl nd (rnExp acc k v) rest o)))) := by
 rcases H with ⟨lit, dist, rb, rest, h1, h2, rfl, h3, h4, h5, h6⟩ | ⟨ho, rb, acc', k, v, rest, rfl, h1, h2, h3, h4, h5⟩
 ·
  have hll : (lit ++ dist).length = nl + nd := by rw [List.length_append, h1, h2]
  generalize hld : lit ++ dist = ld at h3
  cases h3 with
  | nil => rw [← hld, hll] at hl; exact absurd hl (Nat.lt_irrefl _)
  | @cons _ _ k v bs a1 a2 a3 a4 =>
   refine ⟨k, v, bs ++ rest, by simp only [List.append_assoc], a1, a2, .inr ⟨a3, .inr ⟨?_, .inl ⟨lit, dist, bs, rest, h1, h2, rfl, by rw [hld]; exact a4, h4, h5, h6⟩⟩⟩⟩
   have := a4.len
   rw [← hld, hll] at this
   exact this
 cases h1 with
 | nil =>
  refine ⟨k, v, rest, by simp, h3, h4, ?_⟩
  rcases h5 with ⟨e1, e2⟩ | ⟨e1, e2⟩
  ·
   exact .inl ⟨ho, e1, e2⟩
  exact .inr ⟨e1, .inl ⟨ho, e2⟩⟩
 | @cons _ _ k1 v1 bs a1 a2 a3 a4 =>
  refine ⟨k1, v1, bs ++ (symB own k ++ (nbits (rnBits k) v ++ rest)), by simp only [List.append_assoc], a1, a2, .inr ⟨a3, .inr ⟨?_, .inr ⟨ho, bs, acc', k, v, rest, rfl, a4, h2, h3, h4, h5⟩⟩⟩⟩
  have := a4.len
  omega
theorem RunR.fin {own acc : List Nat} {nl nd : Nat} {bits : List Bool} {o : Option (List Nat × List Nat × List Bool)} (H : RunR own nl nd acc bits o) (hl : acc.length = nl + nd) :
 ∃ lit dist, acc = lit ++ dist ∧ lit.length = nl ∧ dist.length = nd ∧ (∀ x ∈ lit ++ dist, x ≤ 15) ∧ LOk lit 256 ∧ ((o = some (lit, dist, bits) ∧ Full lit ∧ (Full dist ∨ ∀ x ∈ dist, x = 0)) ∨ (o = none ∧ (Over lit ∨ Full lit ∧ Over dist))) := by
 rcases H with ⟨lit, dist, rb, rest, h1, h2, rfl, h3, h4, h5, h6⟩ | ⟨ho, rb, acc', k, v, rest, rfl, h1, h2, h3, h4, h5⟩
 ·
  have hll : (lit ++ dist).length = nl + nd := by rw [List.length_append, h1, h2]
  generalize hld : lit ++ dist = ld at h3
  cases h3 with
  | nil => exact ⟨lit, dist, hld.symm, h1, h2, h4, h5, by simpa using h6⟩
  | @cons _ _ k v bs a1 a2 a3 a4 =>
   have := a4.len
   rw [← hld, hll, rnExp_length] at this
   have := rnMany_pos k v
   omega
 have := h1.len
 omega
theorem HdrR.good {hb : List Bool} {lit dist : List Nat} {rest : List Bool} (h : Told hb lit dist) (h1 : Full lit) (h2 : Full dist ∨ ∀ x ∈ dist, x = 0) :
 ∃ own hb0 bits, hb ++ rest = hb0 ++ bits ∧ OwnHd hb0 own lit.length dist.length ∧ HdrR own lit.length dist.length bits (some (lit, dist, rest)) := by
 obtain ⟨own, hb0, rb, rfl, a1, a2, a3, a4, a5⟩ := h
 exact ⟨own, hb0, rb ++ rest, by rw [List.append_assoc], a1, .inr ⟨a2, .inl ⟨lit, dist, rb, rest, rfl, rfl, rfl, a3, a4, a5, .inl ⟨rfl, h1, h2⟩⟩⟩⟩
theorem HdrR.over {hb : List Bool} {lit dist : List Nat} {rest : List Bool} (h : Told hb lit dist) (h1 : Over lit ∨ Full lit ∧ Over dist) :
 ∃ own hb0 bits, hb ++ rest = hb0 ++ bits ∧ OwnHd hb0 own lit.length dist.length ∧ HdrR own lit.length dist.length bits none := by
 obtain ⟨own, hb0, rb, rfl, a1, a2, a3, a4, a5⟩ := h
 exact ⟨own, hb0, rb ++ rest, by rw [List.append_assoc], a1, .inr ⟨a2, .inl ⟨lit, dist, rb, rest, rfl, rfl, rfl, a3, a4, a5, .inr ⟨rfl, h1⟩⟩⟩⟩
theorem HdrR.len {own lit dist : List Nat} {nl nd : Nat} {bits r : List Bool} (h : HdrR own nl nd bits (some (lit, dist, r))) : r.length ≤ bits.length := by
 rcases h with ⟨_, h⟩ | ⟨_, ⟨_, _, rb, rest, _, _, rfl, _, _, _, ⟨h, _⟩ | ⟨h, _⟩⟩ | ⟨h, _⟩⟩
 ·
  cases h
 ·
  cases h; rw [List.length_append]; omega
 ·
  cases h
 cases h
theorem ordr_drop {many i : Nat} {g : Nat → List Bool} (h : i < many) (h2 : many ≤ 19) : ((ordr.take many).drop i).flatMap g = g (ordr.getD i 0) ++ ((ordr.take many).drop (i + 1)).flatMap g := by
 have hl : i < (ordr.take many).length := by rw [List.length_take]; show i < min many 19; omega
 rw [List.drop_eq_getElem_cons hl, List.flatMap_cons]
 congr 1
 congr 1
 rw [List.getElem_take, List.getD_eq_getElem?_getD, List.getElem?_eq_getElem]
 rfl
theorem ordr_lt : ∀ i, i < 19 → ordr.getD i 0 < 19 := by decide
theorem ordr_take {i : Nat} (h : i < 19) : ordr.take (i + 1) = ordr.take i ++ [ordr.getD i 0] := by
 have hl : i < ordr.length := h
 rw [List.take_add_one, List.getD_eq_getElem?_getD, List.getElem?_eq_getElem hl]; rfl
theorem ordr_all : ∀ j, j < 19 → j ∈ ordr.take 19 := by decide
theorem OwnHd.bits3 {hb : List Bool} {own : List Nat} {nl nd : Nat} (H : OwnHd hb own nl nd) : ∃ many, own.length = 19 ∧ (∀ x ∈ own, x ≤ 7) ∧ 4 ≤ many ∧ many ≤ 19 ∧ (∀ i, many ≤ i → i < 19 → own.getD (ordr.getD i 0) 0 = 0) ∧ 257 ≤ nl ∧ nl ≤ 286 ∧ 1 ≤ nd ∧ nd ≤ 30 ∧
 hb = nbits 5 (nl - 257) ++ (nbits 5 (nd - 1) ++ (nbits 4 (many - 4) ++ ((ordr.take many).drop 0).flatMap (fun o => nbits 3 (own.getD o 0)))) := H
theorem own7 {own : List Nat} (h : ∀ x ∈ own, x ≤ 7) (i : Nat) : own.getD i 0 ≤ 7 := by
 rw [List.getD_eq_getElem?_getD]
 cases e : own[i]? with
 | none => exact Nat.zero_le _
 | some x => exact h x (List.mem_of_getElem? e)
theorem rn16 {k : Nat} (h : k < 16) (v : Nat) : rnBits k = 0 ∧ rnMany k v = 1 ∧ ∀ acc, rnVal acc k = k := by
 refine ⟨?_, ?_, fun acc => ?_⟩
 ·
  unfold rnBits; rw [if_neg (by omega), if_neg (by omega), if_neg (by omega)]
 ·
  unfold rnMany; rw [if_neg (by omega), if_neg (by omega), if_neg (by omega)]
 unfold rnVal; rw [if_neg (by omega), if_neg (by omega), if_neg (by omega)]
theorem rnExp16 {k : Nat} (h : k < 16) (v : Nat) (acc : List Nat) : rnExp acc k v = acc ++ [k] := by
 obtain ⟨_, h2, h3⟩ := rn16 h v
 unfold rnExp; rw [h2, h3]; rfl
theorem rnMany_ge {k : Nat} (h : 16 ≤ k) (h2 : k < 19) (v : Nat) : rnMany k v = rnMany k 0 + v ∧ rnMany k 0 ≤ 11 ∧ rnBits k ≤ 7 := by
 have : k = 16 ∨ k = 17 ∨ k = 18 := by omega
 rcases this with rfl | rfl | rfl <;> refine ⟨?_, by decide, by decide⟩ <;> simp [rnMany]
end Go.Infl
namespace Go.Eng
open Go Go.Proofs Go.Infl
def AnyB (b n : Nat) : HProp := hex fun F : Nat → Value => blk b n F
def OrdIs (G : World) : Prop := ∀ i, i < 19 → G.cell? ⟨3, i, none⟩ = some (i64 (ordr.getD i 0))
def cbf (own : List Nat) (i : Nat) (F : Nat → Value) (x : Nat) : Value := if x ∈ ordr.take i then i64 (own.getD x 0) else F x
theorem cbf_put {own : List Nat} {i : Nat} {F : Nat → Value} (h : i < 19) {v : Nat} (hv : v = own.getD (ordr.getD i 0) 0) : upd (cbf own i F) (ordr.getD i 0) (i64 v) = cbf own (i + 1) F := by
 subst hv
 funext x
 unfold upd cbf
 rw [ordr_take h]
 by_cases e : x = ordr.getD i 0
 ·
  subst e; rw [if_pos rfl, if_pos (List.mem_append_right _ (List.mem_singleton.2 rfl))]
 rw [if_neg e]
 have : x ∈ ordr.take i ++ [ordr.getD i 0] ↔ x ∈ ordr.take i := by rw [List.mem_append, List.mem_singleton]; exact ⟨fun h => h.resolve_right e, .inl⟩
 simp only [this]
theorem cbf_rd {own : List Nat} {cb : Nat} {F : Nat → Value} (h19 : own.length = 19) {G w : World} {L : List HProp} (hm : blk cb 19 (cbf own 19 F) ∈ L) (hS : Sat G w L) : ∀ j x, own[j]? = some x → w.cell? ⟨cb, 0 + j, none⟩ = some (i64 x) := fun j x hj => by
 have hl := (List.getElem?_eq_some_iff.1 hj).1
 have h := hS.cell hm (i := j) (by omega)
 unfold cbf at h
 rw [if_pos (ordr_all j (by omega)), List.getD_eq_getElem?_getD, hj] at h
 rw [Nat.zero_add]
 exact h
theorem cbf_nil {own : List Nat} {F : Nat → Value} : F = cbf own 0 F := by funext x; exact (if_neg (by simp)).symm
def bbf (acc : List Nat) (F : Nat → Value) (x : Nat) : Value := if x < acc.length then i64 (acc.getD x 0) else F x
theorem bbf_put {acc : List Nat} {F : Nat → Value} {v : Nat} : upd (bbf acc F) acc.length (i64 v) = bbf (acc ++ [v]) F := by
 funext x
 unfold upd bbf
 rw [List.length_append, List.length_singleton, List.getD_eq_getElem?_getD, List.getD_eq_getElem?_getD]
 by_cases e : x = acc.length
 ·
  subst e; rw [if_pos rfl, if_pos (by omega), List.getElem?_append_right (Nat.le_refl _), Nat.sub_self]; rfl
 rw [if_neg e]
 by_cases h : x < acc.length
 ·
  rw [if_pos h, if_pos (by omega), List.getElem?_append_left h]
 rw [if_neg h, if_neg (by omega)]
theorem bbf_put2 {acc : List Nat} {F : Nat → Value} {i v : Nat} (h : i = acc.length) : upd (bbf acc F) i (i64 v) = bbf (acc ++ [v]) F := by subst h; exact bbf_put
theorem bbf_nil {acc : List Nat} {F : Nat → Value} (h : acc = []) : F = bbf acc F := by subst h; funext x; exact (if_neg (Nat.not_lt_zero _)).symm
theorem bbf_get {acc : List Nat} {F : Nat → Value} {x : Nat} (h : x < acc.length) : bbf acc F x = i64 (acc.getD x 0) := if_pos h
theorem bbf_rd {lit dist : List Nat} {bb lo n : Nat} {F : Nat → Value} (hn : (lit ++ dist).length ≤ n) (hl : lit.length = lo) {G w : World} {L : List HProp} (hm : blk bb n (bbf (lit ++ dist) F) ∈ L) (hS : Sat G w L) : ∀ j x, dist[j]? = some x → w.cell? ⟨bb, lo + j, none⟩ = some (i64 x) := fun j x hj => by
 have hl2 := (List.getElem?_eq_some_iff.1 hj).1
 rw [List.length_append] at hn
 have h := hS.cell hm (i := lo + j) (by omega)
 rw [bbf_get (by rw [List.length_append]; omega), List.getD_eq_getElem?_getD, List.getElem?_append_right (by omega), show lo + j - lit.length = j by omega, hj] at h
 exact h
theorem bbf_rd0 {lit dist : List Nat} {bb n : Nat} {F : Nat → Value} (hn : (lit ++ dist).length ≤ n) {G w : World} {L : List HProp} (hm : blk bb n (bbf (lit ++ dist) F) ∈ L) (hS : Sat G w L) : ∀ j x, lit[j]? = some x → w.cell? ⟨bb, 0 + j, none⟩ = some (i64 x) := fun j x hj => by
 have hl2 := (List.getElem?_eq_some_iff.1 hj).1
 rw [List.length_append] at hn
 have h := hS.cell hm (i := j) (by omega)
 rw [bbf_get (by rw [List.length_append]; omega), List.getD_eq_getElem?_getD, List.getElem?_append_left hl2, hj] at h
 rw [Nat.zero_add]; exact h
theorem bbf_lit {lit dist : List Nat} {F : Nat → Value} {x : Nat} (h : x < lit.length) : bbf (lit ++ dist) F x = i64 (lit.getD x 0) := by
 rw [bbf_get (by rw [List.length_append]; omega), List.getD_eq_getElem?_getD, List.getElem?_append_left h, List.getD_eq_getElem?_getD]
theorem TA.takegu {P : Program} {G : World} {ρ : Env} {n : Nat} {L : List HProp} {Q : Exit → Act → World → Prop} {ops : Array Oper} {fuel : Nat} {listed : Array Bool} {d : Nat} {op : Op} {ty : TypeId} {pos : String} {af : Array Edge} {j g : Nat} {b want : Bool} (i : Nat)
 (hi : ops[i]? = some ⟨some d, op, ty, pos, af, some (j, want)⟩) (hs : Region.noSelect ops = true) (hf : Region.free .any ops listed i = true) (hr : (Region.ready .any ops listed).contains i = true) (hQ : NP Q)
 (hb : (g, .bool b) ∈ ρ) (hw : (b == want) = false) (k : TA P Q ops fuel (listed.setIfInBounds i true) ((d, undef) :: ρ) n G L) (hj : (ops[j]?).bind (·.dst) = some g) (hc : chk d n ρ = true := by rfl) : TA P Q ops (fuel + 1) listed ρ n G L :=
 fun w a hS ha => wpAny_take hi hs hf hr (fun c a w h => (hQ c _ w h).elim) (.inr ⟨by rw [wanted_of hj hb ha]; exact hw, rfl⟩) (k w _ hS (ha.put hc))
theorem any2 {G w : World} {A B : HProp} {L : List HProp} {bb cb n m : Nat} {F F' : Nat → Value} (h : Sat G w (A :: B :: blk bb n F :: blk cb m F' :: L)) : Sat G w (A :: B :: AnyB bb n :: AnyB cb m :: L) := by
 have h1 := (h.perm p3).imp (B := AnyB cb m) fun _ hm => ⟨_, hm⟩
 have h2 := (h1.perm p3).imp (B := AnyB bb n) fun _ hm => ⟨_, hm⟩
 exact (h2.perm p3).perm p3
def setH1 (H T : Nat → Value) (j : Nat) : Value := if j < 515 then T j else H j
def setH2 (H T : Nat → Value) (j : Nat) : Value := if 515 ≤ j ∧ j < 1030 then T (j - 515) else H j
theorem D_h1 (s : DS) : D s = tabf (D s) 5 s.H := by
 funext j; unfold tabf
 split
 ·
  rename_i h; have := D_H s (j := j - 5) (by omega); rw [show 5 + (j - 5) = j by omega] at this; exact this
 rfl
theorem D_h2 (s : DS) : D s = tabf (D s) 520 (fun j => s.H (515 + j)) := by
 funext j; unfold tabf
 split
 ·
  rename_i h; have := D_H s (j := j - 5) (by omega); rw [show 5 + (j - 5) = j by omega] at this; rw [this]; congr 1; omega
 rfl
theorem D_off {s : DS} {H : Nat → Value} {j : Nat} (h : ¬ (5 ≤ j ∧ j < 1035)) : D { s with H := H } j = D s j := by
 unfold D dfun
 by_cases h1 : j < 5
 ·
  rw [if_pos h1, if_pos h1]
 rw [if_neg h1, if_neg h1, if_neg (by omega), if_neg (by omega)]
theorem D_set1 (s : DS) (T : Nat → Value) : tabf (D s) 5 T = D { s with H := setH1 s.H T } := by
 funext j
 by_cases hj : 5 ≤ j ∧ j < 1035
 ·
  have e := D_H { s with H := setH1 s.H T } (j := j - 5) (by omega)
  have e2 := D_H s (j := j - 5) (by omega)
  rw [show 5 + (j - 5) = j by omega] at e e2
  rw [e]; show _ = setH1 s.H T (j - 5); unfold tabf setH1
  by_cases h : j < 520
  ·
   rw [if_pos (by omega), if_pos (by omega)]
  rw [if_neg (by omega), if_neg (by omega)]; exact e2
 rw [D_off hj]; unfold tabf; rw [if_neg (by omega)]
theorem D_set2 (s : DS) (T : Nat → Value) : tabf (D s) 520 T = D { s with H := setH2 s.H T } := by
 funext j
 by_cases hj : 5 ≤ j ∧ j < 1035
 ·
  have e := D_H { s with H := setH2 s.H T } (j := j - 5) (by omega)
  have e2 := D_H s (j := j - 5) (by omega)
  rw [show 5 + (j - 5) = j by omega] at e e2
  rw [e]; show _ = setH2 s.H T (j - 5); unfold tabf setH2
  by_cases h : 520 ≤ j
  ·
   rw [if_pos (by omega), if_pos (by omega)]; congr 1
  rw [if_neg (by omega), if_neg (by omega)]; exact e2
 rw [D_off hj]; unfold tabf; rw [if_neg (by omega)]
theorem D_min (s : DS) (v : Value) : upd (D s) 5 v = D { s with H := upd s.H 0 v } := by
 funext j
 by_cases hj : 5 ≤ j ∧ j < 1035
 ·
  have e := D_H { s with H := upd s.H 0 v } (j := j - 5) (by omega)
  have e2 := D_H s (j := j - 5) (by omega)
  rw [show 5 + (j - 5) = j by omega] at e e2
  rw [e]; show _ = upd s.H 0 v (j - 5); unfold upd
  by_cases h : j = 5
  ·
   rw [if_pos h, if_pos (by omega)]
  rw [if_neg h, if_neg (by omega)]; exact e2
 rw [D_off hj]; unfold upd; rw [if_neg (by omega)]
theorem TOk.ext {T T' : Nat → Value} (h : TOk T) (e : ∀ j, j < 515 → T' j = T j) : TOk T' := by
 rcases h with ⟨m, h1, h2⟩ | h
 ·
  exact .inl ⟨m, h1, by rw [e 0 (by decide)]; exact h2⟩
 exact .inr fun j hj => by rw [e j hj]; exact h j hj
theorem TDok.ext {ls : List Nat} {t : TD} {T T' : Nat → Value} (h : TDok ls t T) (e : ∀ j, j < 515 → T' j = T j) : TDok ls t T' := ⟨fun j hj => by rw [e j hj]; exact h.cells j hj, h.tab, h.full, h.m15⟩
theorem TDok.tok {ls : List Nat} {t : TD} {T : Nat → Value} (h : TDok ls t T) (h0 : t.mn ≠ 0) : TOk T := .inl ⟨t.mn, h0, h.cells 0 (by decide)⟩
theorem tok0 : TOk (hc 0 (fun _ => 0) (.slice none 0 0) 0) := .inr fun _ _ => rfl
theorem HOk.set1 {H T : Nat → Value} (h : HOk H) (ht : TOk T) : HOk (setH1 H T) := ⟨ht.ext fun j hj => if_pos hj, h.2.ext fun j hj => if_neg (by omega)⟩
theorem HOk.set2 {H T : Nat → Value} (h : HOk H) (ht : TOk T) : HOk (setH2 H T) := ⟨h.1.ext fun j hj => if_neg (by omega), ht.ext fun j hj => by show (if _ then _ else _) = _; rw [if_pos (by omega), Nat.add_sub_cancel_left]⟩
theorem TDok.min {ls : List Nat} {t : TD} {H : Nat → Value} (h : TDok ls t H) {x : Nat} (hx : x ≤ 15) : TDok ls { t with mn := x } (upd H 0 (i64 x)) := by
 refine ⟨fun j hj => ?_, h.tab, h.full, hx⟩
 have := h.cells j hj
 unfold upd
 by_cases e : j = 0
 ·
  subst e; rfl
 rw [if_neg e, this]; unfold hc; rw [if_neg e, if_neg e]
theorem HOk.min {H : Nat → Value} (h : HOk H) {x : Nat} (hx : x ≠ 0) : HOk (upd H 0 (i64 x)) := ⟨.inl ⟨x, hx, rfl⟩, h.2.ext fun j hj => if_neg (by omega)⟩
section
variable {f : Nat} {s : DS} (hH : HOk s.H) (A : HProp) (ls : List Nat) (lb lo lc : Nat) (hR : ∀ {G w : World} {L : List HProp}, A ∈ L → Sat G w L → ∀ j x, ls[j]? = some x → w.cell? ⟨lb, lo + j, none⟩ = some (i64 x)) (hls : ls.length ≤ 1000) (h15 : ∀ x ∈ ls, x ≤ 15)
include hH hR hls h15
theorem t111a {G : World} {R : List HProp} {w : World} (hF : Full ls) (hS : Sat G w (blk f 1054 (D s) :: A :: R)) :
 CallsR Tryz.prog 111 #[pt f 5, .slice (some ⟨lb, lo, none⟩) ls.length lc] w (fun v w' => ∃ (t : TD) (H' : Nat → Value), v = .bool true ∧ TDok ls t H' ∧ (t.mn ∈ ls ∧ t.mn ≠ 0 ∧ ∀ k, LOk ls k → t.mn ≤ ls.getD k 0) ∧ HOk H' ∧ Sat G w' (blk f 1054 (D { s with H := H' }) :: A :: Lnks t :: R)) :=
 (t111 (by decide) hH.1 A ls lb lo lc hR hls h15 hF (hS.imp (blk_eq rfl (D_h1 s)))).mono fun v w' ⟨t, e, ht, hm, hS⟩ =>
  ⟨t, _, e, ht.ext fun j hj => if_pos hj, hm, hH.set1 (ht.tok hm.2.1), hS.imp (blk_eq rfl (D_set1 s _))⟩
theorem t111a_over {G : World} {R : List HProp} {w : World} (hF : Over ls) (hS : Sat G w (blk f 1054 (D s) :: A :: R)) :
 CallsR Tryz.prog 111 #[pt f 5, .slice (some ⟨lb, lo, none⟩) ls.length lc] w (fun v w' => ∃ H' : Nat → Value, v = .bool false ∧ HOk H' ∧ Sat G w' (blk f 1054 (D { s with H := H' }) :: A :: R)) :=
 (t111_over (by decide) hH.1 A ls lb lo lc hR hls h15 hF (hS.imp (blk_eq rfl (D_h1 s)))).mono fun v w' ⟨e, hS⟩ => ⟨_, e, hH.set1 tok0, hS.imp (blk_eq rfl (D_set1 s _))⟩
theorem t111b {G : World} {R : List HProp} {w : World} (hF : Full ls) (hS : Sat G w (blk f 1054 (D s) :: A :: R)) :
 CallsR Tryz.prog 111 #[pt f 520, .slice (some ⟨lb, lo, none⟩) ls.length lc] w (fun v w' => ∃ (t : TD) (H' : Nat → Value), v = .bool true ∧ TDok ls t (fun j => H' (515 + j)) ∧ (∀ k, LOk ls k → t.mn ≤ ls.getD k 0) ∧ HOk H' ∧ (∀ j, j < 515 → H' j = s.H j) ∧ Sat G w' (blk f 1054 (D { s with H := H' }) :: A :: Lnks t :: R)) :=
 (t111 (by decide) hH.2 A ls lb lo lc hR hls h15 hF (hS.imp (blk_eq rfl (D_h2 s)))).mono fun v w' ⟨t, e, ht, hm, hS⟩ =>
  ⟨t, _, e, ht.ext fun j hj => by show (if _ then _ else _) = _; rw [if_pos (by omega), Nat.add_sub_cancel_left], hm.2.2, hH.set2 (ht.tok hm.2.1), fun j hj => if_neg (by omega), hS.imp (blk_eq rfl (D_set2 s _))⟩
theorem t111b_z {G : World} {R : List HProp} {w : World} (hF : ∀ x ∈ ls, x = 0) (hS : Sat G w (blk f 1054 (D s) :: A :: R)) :
 CallsR Tryz.prog 111 #[pt f 520, .slice (some ⟨lb, lo, none⟩) ls.length lc] w (fun v w' => ∃ H' : Nat → Value, v = .bool true ∧ HOk H' ∧ (∀ j, j < 515 → H' j = s.H j) ∧ Sat G w' (blk f 1054 (D { s with H := H' }) :: A :: R)) :=
 (t111_z (by decide) hH.2 A ls lb lo lc hR hls h15 hF (hS.imp (blk_eq rfl (D_h2 s)))).mono fun v w' ⟨e, hS⟩ => ⟨_, e, hH.set2 tok0, fun j hj => if_neg (by omega), hS.imp (blk_eq rfl (D_set2 s _))⟩
theorem t111b_over {G : World} {R : List HProp} {w : World} (hF : Over ls) (hS : Sat G w (blk f 1054 (D s) :: A :: R)) :
 CallsR Tryz.prog 111 #[pt f 520, .slice (some ⟨lb, lo, none⟩) ls.length lc] w (fun v w' => ∃ H' : Nat → Value, v = .bool false ∧ HOk H' ∧ Sat G w' (blk f 1054 (D { s with H := H' }) :: A :: R)) :=
 (t111_over (by decide) hH.2 A ls lb lo lc hR hls h15 hF (hS.imp (blk_eq rfl (D_h2 s)))).mono fun v w' ⟨e, hS⟩ => ⟨_, e, hH.set2 tok0, hS.imp (blk_eq rfl (D_set2 s _))⟩
end
end Go.Eng
