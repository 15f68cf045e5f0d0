/- Parts of the proof of the card: Je Jg La -/
import Derived.Test.YtkpadembffdepaaGreatDoorK5
import Derived.Test.YtkpadembffdepaaGreatDoorK4
set_option maxRecDepth 100000
set_option maxHeartbeats 4000000
set_option linter.unusedVariables false
set_option linter.unusedSimpArgs false
namespace Go.Eng
open Go Go.Proofs Go.Infl
theorem or6 {y : Nat} (h : y < 2) : (y ||| 6) = Bool.toNat (decide (y = 1)) + 6 := by
 have : y = 0 ∨ y = 1 := by omega
 rcases this with rfl | rfl <;> rfl
theorem t36 (r p N : Nat) (hN : N < 4294967296) {G : World} {R : List HProp} {w : World} (hS : Sat G w (Rdr G r (N) :: Wr p (([] : List Bool)) :: R)) :
 CallsR Tryz.prog 36 #[(pt r 0), (pt p 0)] w (fun v w' => ∃ (h : List Nat) (b : List Bool), Blks 0 b [] h ∧ h.length ≤ 15480 ∧ b.length ≤ 3221225472 ∧ Sat G w' (slc 1 v h.length (h.map u8) :: Wr p b :: Rdr G r (N + 4294967296) :: R)) := by
 refine calls_in (n := 18) [(0, (pt r 0)), (1, (pt p 0))] Tryz.func36 rfl rfl hS args2 ?_
 refine CT.q (TL.val (r_asg .c) (TL.q (TL.val (r_asg .c) (TL.e (CT.seq (CT.q (TL.m m2 (TL.call (r_call ce_39 (.cons T0 (.cons .c .nil))) (fun w hS => t39 r 3 (N) (by omega) (by omega) hS) ?_))))))))
 rintro _ w8 ⟨y8, rfl, y8_l, hS⟩
 refine TW.at hS (TL.a m0 (TL.b (.hd .u2) (CT.block (CT.nilslc 1 ?_))))
 refine CT.fold (A' := (Rdr G r (N + 1 + 1073741824 * 0))) a1 (Rdr_mono (by first | (show _ ≤ _; omega) | (show _ ≤ N + 1 + 1073741824 * (k + 1); omega))) (CT.perm p1 (CT.perm p2 (CT.perm p2 (CT.loop (X := Nat × Value × List Nat × List Bool) (fun gx => [(6, (i64 (y8 - gx.1))), (5, gx.2.1), (4, (.slice none 0 0)), (0, (pt r 0)), (1, (pt p 0))]) (fun gx => (slc 1 gx.2.1 ((gx.2.2.1).length) ((gx.2.2.1).map u8)) :: Wr p gx.2.2.2 :: Rdr G r (N + 1 + 1073741824 * gx.1) :: R) (fun gx => gx.1 ≤ y8 ∧ Blks 0 gx.2.2.2 [] gx.2.2.1 ∧ (gx.2.2.1).length ≤ gx.1 * 5160 ∧ (gx.2.2.2).length ≤ gx.1 * 1073741824) (fun gx => y8 - gx.1) ((0, (.slice none 0 0), ([] : List Nat), ([] : List Bool))) (⟨Nat.zero_le _, .nil, Nat.zero_le _, Nat.zero_le _⟩) (.refl _) (.eq m0 (by first | rfl | (congr 1 <;> omega)) (.sl 1 4 rfl)) ?_))))
 rintro ⟨k, v, h, bits⟩ ⟨hI1, hI2, hI3, hI4⟩
 replace hI1 : k ≤ y8 := hI1
 replace hI2 : Blks 0 bits [] h := hI2
 replace hI3 : h.length ≤ k * 5160 := hI3
 replace hI4 : bits.length ≤ k * 1073741824 := hI4
 refine CT.seq (CT.q (TL.m m0 (TL.val (n_gtr ((y8 - k)) 0 T0 .c) (TL.b (.hd .u1) (CT.ifd m0 (fun c10 => ?_) (fun c10 => ?_))))))
 ·
  refine CT.z (EX.seq (CT.seq (CT.block (CT.region (TL.m m3 (TL.m m5 (TL.m m3 (TL.perm p2 (TL.perm p2 (TL.perm p2 (TL.call (r_call ce_46 (.cons T2 (.cons T1 (.cons T0 (.cons .c (.cons .c (.cons .c (.cons .c .nil)))))))) (fun w hS => (blkC_3 (most := 20) (by decide)) r p (N + 1 + 1073741824 * k) v h bits false 0 (Nat.zero_le _) (by omega) (by omega) (by omega) hS) ?_)))))))))))
  rintro v16 w16 ⟨h16, d16, h16_b, h16_l, d16_l, hS⟩
  replace h16_b : IsBlk (bits).length false h d16 h16 := h16_b
  replace h16_l : h16.length ≤ (h).length + 258 * 20 := h16_l
  exact TW.at hS (TL.rm .h5 (TL.a m0 (TL.x (.hd .u4) (EX.bnormal (EX.seq (CT.region (TL.m m1 (TL.val (n_sub ((y8 - k)) 1 9223372036854775808 T0 .c) (TL.rm .h3 (TL.a m0 (TL.x (.hd .u2) (EX.fold (A' := (Rdr G r (N + 1 + 1073741824 * (k + 1)))) a2 (Rdr_mono (by first | (show _ ≤ _; omega) | (show _ ≤ N + 1 + 1073741824 * (k + 1); omega))) (EX.again ((k + 1, v16, h16, bits ++ d16)) (⟨by omega, hI2.snoc (by rw [Nat.zero_add]; exact h16_b), by show h16.length ≤ (k + 1) * 5160; rw [Nat.succ_mul]; omega, by show (bits ++ d16).length ≤ (k + 1) * _; rw [List.length_append]; omega⟩) (by show y8 - (k + 1) < y8 - k; omega) (.refl _) (.eq m0 (by first | rfl | (congr 1 <;> omega)) (.sl 1 4 rfl)))))))))))))))
 exact CT.sub .u1 (CT.exit (EX.then_exit (EX.then_exit (EX.out (EX.q (TL.m m1 (TL.rm .h3 (TL.a m0 (TL.b (.hd .u1) (CT.ret (EX.perm p2 (EX.perm p2 (EX.perm p2 (EX.end_ (.inl rfl) (res1 Tryz.results36 m0) (fun _ hS => ⟨h, bits, hI2, by omega, by omega, (hS.perm p2).imp (Rdr_mono (by omega)) |>.perm p2 |>.perm p2⟩)))))))))))))))
theorem t34 {G : World} (cv : Value) (hc : CodeOf G cv) {R : List HProp} {w : World} (hS : Sat G w (R)) :
 CallsR Tryz.prog 34 #[cv] w (fun v w' => ∃ (v1 v2 : Value) (bits : List Bool) (h : List Nat), v = .tuple #[v1, v2] ∧ Strm 0 bits [] (h, false) ∧ h.length ≤ 131072 ∧ bits.length ≤ 8589934592 ∧ Sat G w' (slc 1 v1 (pack bits).length ((pack bits).map u8) :: slc 1 v2 h.length (h.map u8) :: R)) := by
 refine calls_in (n := 32) [(0, cv)] Tryz.func34 rfl rfl hS args1 ?_
 refine CT.q (TL.val (r_asg .c) (TL.val (r_asg .c) (TL.q (TL.m m2 (TL.call (r_call ce_35 (.cons T0 .nil)) (fun w hS => t35 _ hc hS) ?_)))))
 rintro _ w8 ⟨b8, rfl, hS⟩
 refine TW.at hS (TL.a m0 (TL.r (.hd (.tl (.tl (.hd (.hd .u1))))) (TL.val (r_build (v := (.agg #[(.slice none 0 0), (.int .i64 0)])) .nil (fun _ => by kernel_rfl)) (TL.w (r_box (F := lst [(.slice none 0 0), (.int .i64 0)]) T0 rfl rfl lst_ok) ?_))))
 rintro _ w10 ⟨b10, rfl, hS⟩
 refine TW.at hS (TL.a m0 (TL.b (.hd .u2) (CT.seq (CT.conv (fun _ h => h.newWr) ?_))))
 refine CT.region (TL.m m1 (TL.m m1 (TL.perm p1 (TL.call (r_call ce_36 (.cons T1 (.cons T0 .nil))) (fun w hS => t36 b8 b10 0 (by decide) hS) ?_))))
 rintro v13 w13 ⟨h, b, hbk, hhl, hbl, hS⟩
 refine TW.at hS (TL.a m0 (TL.r (.hd .u3) (TL.m m1 (TL.m m3 (TL.perm p2 (TL.call (r_call ce_39 (.cons T0 (.cons .c .nil))) (fun w hS => t39 b8 2 (0 + 4294967296) (by omega) (by omega) hS) ?_))))))
 rintro _ w16 ⟨y16, rfl, y16_l, hS⟩
 refine TW.at hS (TL.val (n_or y16 6 9223372036854775808 T0 .c rfl rfl (by omega) (by omega)) (TL.perm p2 (TL.call (r_call ce_37 (.cons T3 (.cons T0 (.cons .c .nil)))) (fun w hS => t37 b10 ((y16 ||| 6)) 3 b (by (try simp only [List.length_append, nbits_length, cbits_length, bits8_length, List.length_take, List.length_singleton, List.length_nil] at *); omega) (by first | (have := Nat.or_lt_two_pow (n := 3) (x := y16) (y := 6) (by omega) (by decide); omega) | omega) (by omega) hS) ?_)))
 rintro _ w18 ⟨rfl, hS⟩
 refine TW.at hS (TL.r .u5 (TL.m m1 (TL.m m3 (TL.perm p1 (TL.call (r_call ce_39 (.cons T0 (.cons .c .nil))) (fun w hS => t39 b8 256 (0 + 4294967296 + 1) (by omega) (by omega) hS) ?_)))))
 rintro _ w21 ⟨y21, rfl, y21_l, hS⟩
 refine TW.at hS (TL.perm p1 (TL.call (r_call ce_37 (.cons T2 (.cons T0 (.cons .c .nil)))) (fun w hS => t37 b10 y21 8 (b ++ nbits 3 ((y16 ||| 6))) (by (try simp only [List.length_append, nbits_length, cbits_length, bits8_length, List.length_take, List.length_singleton, List.length_nil] at *); omega) (by first | (have := Nat.or_lt_two_pow (n := 3) (x := y16) (y := 6) (by omega) (by decide); omega) | omega) (by omega) hS) ?_))
 rintro _ w22 ⟨rfl, hS⟩
 refine TW.at hS (TL.r .u4 (TL.m m1 (TL.m m3 (TL.perm p1 (TL.call (r_call ce_39 (.cons T0 (.cons .c .nil))) (fun w hS => t39 b8 256 (0 + 4294967296 + 1 + 1) (by omega) (by omega) hS) ?_)))))
 rintro _ w25 ⟨y25, rfl, y25_l, hS⟩
 refine TW.at hS (TL.perm p1 (TL.call (r_call ce_37 (.cons T2 (.cons T0 (.cons .c .nil)))) (fun w hS => t37 b10 y25 8 ((b ++ nbits 3 ((y16 ||| 6))) ++ nbits 8 y21) (by (try simp only [List.length_append, nbits_length, cbits_length, bits8_length, List.length_take, List.length_singleton, List.length_nil] at *); omega) (by first | (have := Nat.or_lt_two_pow (n := 3) (x := y16) (y := 6) (by omega) (by decide); omega) | omega) (by omega) hS) ?_))
 rintro _ w26 ⟨rfl, hS⟩
 refine TW.at hS (TL.b .u4 (CT.seq (CT.fold (A' := (Wr b10 (b ++ (nbits 3 (Bool.toNat (decide (y16 = 1)) + 6) ++ (nbits 8 y21 ++ nbits 8 y25))))) a0 (Wr_eq (by rw [or6 (by omega)]; simp only [List.append_assoc])) (CT.wr ?_))))
 intro vs
 refine CT.region (TL.m m1 (TL.c m0 (TL.f 0 fo_39_0 m0 (TL.val (r_ld (v := vs) Tryz.isAgg22 m0 T0 (by decide) rfl) (TL.m m4 (TL.rm .h9 (TL.a m1 (TL.rm .h9 (TL.a m1 (TL.b (.hd (.hd .u6)) (CT.ret (EX.perm p3 (EX.perm p2 (EX.perm p2 (EX.conv (fun _ h => h.tail) ?_)))))))))))))))
 refine EX.perm p2 (EX.conv (fun _ h => h.tail) ?_)
 exact EX.perm p1 (EX.perm p1 (EX.end_ (.inl rfl) (res2 Tryz.results34 m1 m0) (fun _ hS => ⟨vs, v13, (b ++ (nbits 3 (Bool.toNat (decide (y16 = 1)) + 6) ++ (nbits 8 y21 ++ nbits 8 y25))), h, rfl, ⟨b, _, h, rfl, hbk, .inr ⟨rfl, .type3⟩⟩, by omega, by (try simp only [List.length_append, nbits_length, cbits_length, bits8_length, List.length_take, List.length_singleton, List.length_nil] at *); omega, hS⟩)))
end Go.Eng
namespace Go.Eng
open Go Go.Proofs Go.Infl
theorem CT.rdr {P : Program} {Q : Exit → Act → World → Prop} {ρ : Env} {n : Nat} {G : World} {L : List HProp} {c : Code} {r N : Nat} (k : ∀ bv q, Src G bv → q ≤ N → CT P c Q ρ n G (blk r 2 (lst [bv, i64 q]) :: L)) : CT P c Q ρ n G (Rdr G r N :: L) := fun w a hS ha => let ⟨bv, q, h1, h2, h3⟩ := hS.rdr; k bv q h1 h2 w a h3 ha
theorem one_mat {b n d : Nat} : ∀ m, Eng.blk b 3 (lst [.int .u8 0, i64 n, i64 d]) m → Eng.slc 3 (.slice (some ⟨b, 0, none⟩) 1 1) ([It.mat n d] : List It).length (itC [It.mat n d]) m :=
 fun m h => ⟨rfl, .inr ⟨b, 1, _, rfl, Nat.le_refl _, h, fun j x hj => lst_get hj⟩⟩
theorem too_far {pos n d : Nat} {h : List Nat} {hd b1 : List Bool} {ls ds : List Nat} (hh : Head true hd ls ds) (hb : ItBits ls ds [It.mat n d] b1) (hd' : h.length < d) : IsBad pos h (hd ++ (b1 ++ symB ls 256)) h := by
 have h0 : ItBits ls ds [] [] := .nil
 cases hb with
 | cons hi ht =>
  cases ht
  cases hi with
  | mat h1 h2 h3 h4 =>
   have e : BadSym ls ds (gives h []).length (_ ++ (nbits _ _ ++ (_ ++ (nbits _ _ ++ symB ls 256)))) := .far h1 h3 h2 h4 hd'
   have := IsBad.huff (pos := pos) (h := h) (its := []) hh trivial .nil e (by simp only [List.length_append, symB_length]; omega)
   simpa only [List.append_assoc, List.nil_append, List.append_nil, gives] using this
theorem t33 {G : World} (cv : Value) (hc : CodeOf G cv) {R : List HProp} {w : World} (hS : Sat G w (R)) :
 CallsR Tryz.prog 33 #[cv] w (fun v w' => ∃ (v1 v2 : Value) (bits : List Bool) (h : List Nat), v = .tuple #[v1, v2] ∧ Strm 0 bits [] (h, false) ∧ h.length ≤ 131072 ∧ bits.length ≤ 8589934592 ∧ Sat G w' (slc 1 v1 (pack bits).length ((pack bits).map u8) :: slc 1 v2 h.length (h.map u8) :: R)) := by
 refine calls_in (n := 52) [(0, cv)] Tryz.func33 rfl rfl hS args1 ?_
 refine CT.q (TL.val (r_asg .c) (TL.val (r_asg .c) (TL.q (TL.m m2 (TL.call (r_call ce_35 (.cons T0 .nil)) (fun w hS => t35 _ hc hS) ?_)))))
 rintro _ w9 ⟨b9, rfl, hS⟩
 refine TW.at hS (TL.a m0 (TL.r (.hd (.tl (.tl (.hd (.hd .u1))))) (TL.val (r_build (v := (.agg #[(.slice none 0 0), (.int .i64 0)])) .nil (fun _ => by kernel_rfl)) (TL.w (r_box (F := lst [(.slice none 0 0), (.int .i64 0)]) T0 rfl rfl lst_ok) ?_))))
 rintro _ w11 ⟨b11, rfl, hS⟩
 refine TW.at hS (TL.a m0 (TL.b (.hd .u2) (CT.seq (CT.conv (fun _ h => h.newWr) ?_))))
 refine CT.region (TL.m m1 (TL.m m1 (TL.perm p1 (TL.call (r_call ce_36 (.cons T1 (.cons T0 .nil))) (fun w hS => t36 b9 b11 0 (by decide) hS) ?_))))
 rintro v14 w14 ⟨h, b, hbk, hhl, hbl, hS⟩
 refine TW.at hS (TL.a m0 (TL.b (.hd .u3) (CT.seq (CT.block (CT.fold (A' := (Rdr G b9 (0 + 4294967296 + 1 + (15480 - (h).length)))) a2 (Rdr_mono (by omega)) (CT.loop (X := Value × Nat × List Nat × List Bool) (fun gx => [(6, gx.1), (5, (.pointer (some ⟨gx.2.1, 0, none⟩))), (4, (pt b9 0)), (3, (.slice none 0 0)), (2, (.slice none 0 0))]) (fun gx => (slc 1 gx.1 ((gx.2.2.1).length) ((gx.2.2.1).map u8)) :: Wr gx.2.1 gx.2.2.2 :: Rdr G b9 (0 + 4294967296 + 1 + (15480 - (gx.2.2.1).length)) :: R) (fun gx => Blks 0 gx.2.2.2 [] gx.2.2.1 ∧ (gx.2.2.1).length ≤ 15480 ∧ (gx.2.2.2).length ≤ 3221225472) (fun gx => (gx.2.2.1).length) ((v14, b11, h, b)) (⟨hbk, hhl, hbl⟩) (.refl _) (.sl 0 5 rfl) ?_))))))
 rintro ⟨v, p, h, b⟩ ⟨hbk, hhl, hbl⟩
 show CT _ _ _ [(6, v), (5, (pt p 0)), (4, (pt b9 0)), (3, (.slice none 0 0)), (2, (.slice none 0 0))] _ _ (slc 1 v ((h).length) ((h).map u8) :: Wr p b :: Rdr G b9 (0 + 4294967296 + 1 + (15480 - (h).length)) :: R)
 replace hbk : Blks 0 b [] h := hbk
 replace hhl : h.length ≤ 15480 := hhl
 replace hbl : b.length ≤ 3221225472 := hbl
 refine CT.seq (CT.q (TL.m m0 (TL.val (r_lens Tryz.underlying22 T0 m0) (TL.val (n_gtr ((h).length) 200 T0 .c) (TL.b (.hd .u2) (CT.ifd m0 (fun c17 => ?_) (fun c17 => ?_)))))))
 ·
  refine CT.z (EX.seq (CT.block (CT.seq (CT.perm p2 (CT.rdr ?_)))))
  intro bv q0 hsrc hq0
  refine CT.region (TL.m m2 (TL.c m0 (TL.f 1 fo_78_1 m0 (TL.val (r_ld (v := (i64 q0)) Tryz.isAgg3 m0 T0 (by decide) rfl) (TL.val (n_add q0 1 9223372036854775808 T0 .c) (TL.c m4 (TL.f 1 fo_78_1 m0 (TL.s (r_stl (l' := [bv, (i64 (q0 + 1))]) Tryz.sizeOf3 a0 T0 T2 (by decide)) (TL.r .u7 (TL.val (r_build (v := (.agg #[(.slice none 0 0), (.int .i64 0)])) .nil (fun _ => by kernel_rfl)) (TL.w (r_box (F := lst [(.slice none 0 0), (.int .i64 0)]) T0 rfl rfl lst_ok) ?_)))))))))))
  rintro _ w26 ⟨b26, rfl, hS⟩
  refine TW.at hS (TL.rm .h3 (TL.a m0 (TL.b (.hd .u2) (CT.region (TL.rm .h1 (TL.val (r_asg .c) (TL.nil (EX.bnormal (EX.nilslc 1 ?_)))))))))
  refine EX.perm p1 (EX.conv (fun _ h => h.newWr) ?_)
  refine EX.perm p2 (EX.conv (fun _ h => Sat.toRdr (N := 0 + 4294967296 + 1 + (15480 - (([] : List Nat)).length)) hsrc (by show _ ≤ 0 + 4294967296 + 1 + (15480 - 0); omega) h) ?_)
  refine EX.perm p3 (EX.conv (fun _ h => h.tail) ?_)
  refine EX.perm p3 (EX.conv (fun _ h => h.tail) ?_)
  exact EX.perm p1 (EX.perm p2 (EX.again (((.slice none 0 0), b26, ([] : List Nat), ([] : List Bool))) (⟨.nil, Nat.zero_le _, Nat.zero_le _⟩) (by show 0 < h.length; omega) (.refl _) (.sl 0 5 rfl)))
 refine CT.sub .u1 (CT.exit (EX.then_exit (EX.then_exit (EX.out (EX.q (TL.m m2 (TL.perm p2 (TL.call (r_call ce_53 (.cons T0 .nil)) (fun w hS => t53 b9 (0 + 4294967296 + 1 + (15480 - (h).length)) (by omega) hS) ?_))))))))
 rintro _ w28 ⟨y28, rfl, y28_l, hS⟩
 refine TW.at hS (TL.m m2 (TL.val (r_lens Tryz.underlying22 T0 m1) (TL.val (n_add ((h).length) 1 9223372036854775808 T0 .c) (TL.m m7 (TL.call (r_call ce_39 (.cons T0 (.cons .c .nil))) (fun w hS => t39 b9 300 (0 + 4294967296 + 1 + (15480 - (h).length) + 1 + 1) (by omega) (by omega) hS) ?_)))))
 rintro _ w33 ⟨y33, rfl, y33_l, hS⟩
 refine TW.at hS (TL.val (n_add (((h).length + 1)) y33 9223372036854775808 T2 T0) (TL.val (r_build (v := (.agg #[(.int .u8 0), (i64 y28), (i64 (((h).length + 1) + y33))])) (.cons T6 (.cons T0 .nil)) (fun _ => by kernel_rfl)) (TL.w (r_buildSlice (k := 1) (e := 65) (cs := #[(.int .u8 0), (i64 y28), (i64 (((h).length + 1) + y33))]) (F := lst [(.int .u8 0), (i64 y28), (i64 (((h).length + 1) + y33))]) (.cons T0 .nil) (fun _ => by kernel_rfl) rfl lst_ok) ?_)))
 rintro _ w36 ⟨b36, rfl, hS⟩
 refine TW.at hS (TL.a m0 (TL.b (.hd .u10) (CT.cut (X := List Bool) (fun gx => [(6, v), (5, (pt p 0)), (4, (pt b9 0)), (3, (.slice none 0 0)), (2, (.slice none 0 0))]) (fun gx => (slc 1 v ((h).length) ((h).map u8)) :: Wr p (b ++ gx) :: R) (fun gx => IsBad (0 + b.length) h gx h ∧ (gx).length ≤ 1000000) ?_ ?_)))
 ·
  refine CT.seq ?_
  obtain ⟨dd, hdd⟩ : ∃ dd, dd = h.length + 1 + y33 := ⟨_, rfl⟩
  have itok : ItOk 32768 [It.mat y28 dd] := ⟨⟨y28_l.1, y28_l.2, by omega, by omega, by omega⟩, trivial⟩
  refine CT.fold (A' := (slc 3 (.slice (some ⟨b36, 0, none⟩) 1 1) (([It.mat y28 dd] : List It).length) (itC [It.mat y28 dd]))) a0 (by subst hdd; exact one_mat) (CT.region (TL.m m3 (TL.perm p1 (TL.call (r_call ce_39 (.cons T0 (.cons .c .nil))) (fun w hS => t39 b9 2 (0 + 4294967296 + 1 + (15480 - (h).length) + 1 + 1 + 1) (by omega) (by omega) hS) ?_))))
  rintro _ w38 ⟨y38, rfl, y38_l, hS⟩
  refine TW.at hS (TL.val (n_eql y38 0 T0 .c) (TL.b (.hd .u2) (CT.ifd m0 (fun c39 => ?_) (fun c39 => ?_))))
  ·
   refine CT.sub .u1 (CT.region (TL.m m2 (TL.m m1 (TL.perm p1 (TL.perm p3 (TL.call (r_call ce_54 (.cons T1 (.cons T0 (.cons .c .nil)))) (fun w hS => t54' p (.slice (some ⟨b36, 0, none⟩) 1 1) [It.mat y28 dd] true b 32768 itok (show 1 ≤ 4096 by decide) (by omega) hS) ?_))))))
   rintro _ w42 ⟨rfl, hd, b1, ls, ds, hhd, hib, hbl, hS⟩
   refine TW.at hS (TL.x .u3 (EX.perm p1 (EX.conv (fun _ h => h.tail) ?_)))
   refine EX.perm p1 (EX.conv (fun _ h => h.tail) ?_)
   exact EX.perm p1 (EX.meet (hd ++ (b1 ++ symB ls 256)) (⟨by rw [Nat.zero_add]; exact too_far hhd hib (by omega), hbl⟩) (.refl _) (.sl 1 5 rfl))
  refine CT.sub .u1 (CT.region (TL.m m2 (TL.m m4 (TL.m m2 (TL.perm p1 (TL.perm p3 (TL.call (r_call ce_55 (.cons T2 (.cons T1 (.cons T0 (.cons .c .nil))))) (fun w hS => t55 p b9 (.slice (some ⟨b36, 0, none⟩) 1 1) [It.mat y28 dd] true b (0 + 4294967296 + 1 + (15480 - (h).length) + 1 + 1 + 1 + 1) 32768 itok (show 1 ≤ 4096 by decide) (by omega) (by omega) hS) ?_)))))))
  rintro _ w46 ⟨rfl, hd, b1, ls, ds, hhd, hib, hbl, hS⟩
  refine TW.at hS (TL.x .u4 (EX.perm p1 (EX.conv (fun _ h => h.tail) ?_)))
  refine EX.perm p1 (EX.conv (fun _ h => h.tail) ?_)
  exact EX.perm p1 (EX.meet (hd ++ (b1 ++ symB ls 256)) (⟨by rw [Nat.zero_add]; exact too_far hhd hib (by omega), hbl⟩) (.refl _) (.sl 1 5 rfl))
 rintro d ⟨hd1, hd2⟩
 show CT _ _ _ [(6, v), (5, (pt p 0)), (4, (pt b9 0)), (3, (.slice none 0 0)), (2, (.slice none 0 0))] _ _ (slc 1 v ((h).length) ((h).map u8) :: Wr p (b ++ d) :: R)
 refine CT.seq (CT.perm p1 (CT.wr ?_))
 intro vs
 refine CT.region (TL.m m1 (TL.c m0 (TL.f 0 fo_39_0 m0 (TL.val (r_ld (v := vs) Tryz.isAgg22 m0 T0 (by decide) rfl) (TL.m m4 (TL.rm .h9 (TL.a m1 (TL.rm .h9 (TL.a m1 (TL.b (.hd (.hd .u5)) (CT.ret (EX.perm p2 (EX.perm p2 (EX.perm p2 (EX.conv (fun _ h => h.tail) ?_)))))))))))))))
 exact EX.perm p1 (EX.perm p1 (EX.end_ (.inl rfl) (res2 Tryz.results33 m1 m0) (fun _ hS => ⟨vs, v, (b ++ d), h, rfl, ⟨b, d, h, rfl, hbk, .inr ⟨rfl, hd1⟩⟩, by omega, by rw [List.length_append]; omega, hS⟩)))
end Go.Eng
namespace Go.Eng
open Go Go.Proofs Go.Infl
theorem exw1 {p : Program} {f : FuncId} {a : Array Value} {w : World} {P : World → Prop} (h : CallsR p f a w (fun v w' => ∃ (c : Nat), v = i64 c ∧ (false = true ∧ c = 1 ∨ false = false ∧ c = 2) ∧ P w')) :
 CallsR p f a w (fun v w' => v = i64 2 ∧ P w') := by
 refine CallsR.mono h ?_
 rintro v w' ⟨c, e, hc, hS⟩
 rcases hc with ⟨h, _⟩ | ⟨_, rfl⟩
 ·
  cases h
 exact ⟨e, hS⟩
theorem exw2 {p : Program} {f : FuncId} {a : Array Value} {w : World} {P : Value → World → Prop} (h : CallsR p f a w (fun v w' => ∃ (v1 : Value) (c : Nat), v = .tuple #[v1, i64 c] ∧ (false = true ∧ c = 1 ∨ false = false ∧ c = 3) ∧ P v1 w')) :
 CallsR p f a w (fun v w' => ∃ (v1 : Value), v = .tuple #[v1, i64 3] ∧ P v1 w') := by
 refine CallsR.mono h ?_
 rintro v w' ⟨v1, c, e, hc, hS⟩
 rcases hc with ⟨h, _⟩ | ⟨_, rfl⟩
 ·
  cases h
 exact ⟨v1, e, hS⟩
theorem exg3 {p : Program} {f : FuncId} {a : Array Value} {w : World} {P : Value → World → Prop} (h : CallsR p f a w (fun v w' => ∃ (v1 : Value) (c u : Nat), v = .tuple #[v1, i64 c, i64 u] ∧ (true = true ∧ c = 1 ∨ true = false ∧ c = 2) ∧ P v1 w')) :
 CallsR p f a w (fun v w' => ∃ (v1 : Value) (u : Nat), v = .tuple #[v1, i64 1, i64 u] ∧ P v1 w') := by
 refine CallsR.mono h ?_
 rintro v w' ⟨v1, c, u, e, hc, hS⟩
 rcases hc with ⟨_, rfl⟩ | ⟨h, _⟩
 ·
  exact ⟨v1, u, e, hS⟩
 cases h
theorem exg2 {p : Program} {f : FuncId} {a : Array Value} {w : World} {P : Value → World → Prop} (h : CallsR p f a w (fun v w' => ∃ (v1 : Value) (c : Nat), v = .tuple #[v1, i64 c] ∧ (true = true ∧ c = 1 ∨ true = false ∧ c = 3) ∧ P v1 w')) :
 CallsR p f a w (fun v w' => ∃ (v1 : Value), v = .tuple #[v1, i64 1] ∧ P v1 w') := by
 refine CallsR.mono h ?_
 rintro v w' ⟨v1, c, e, hc, hS⟩
 rcases hc with ⟨_, rfl⟩ | ⟨h, _⟩
 ·
  exact ⟨v1, e, hS⟩
 cases h
theorem t19 {va vb : Value} {xs ys zs : List Nat} (hp : xs = ys ++ zs) (hl : xs.length < 9223372036854775807) {G : World} {R : List HProp} {w : World} (hS : Sat G w (slc 1 va xs.length (xs.map u8) :: slc 1 vb ys.length (ys.map u8) :: R)) :
 CallsR Tryz.prog 19 #[va, vb] w (fun v w' => v = .bool true ∧ Sat G w' (slc 1 va xs.length (xs.map u8) :: slc 1 vb ys.length (ys.map u8) :: R)) := by
 have hlen := congrArg List.length hp
 rw [List.length_append] at hlen
 refine calls_in (n := 26) [(0, va), (1, vb)] Tryz.func19 rfl rfl hS args2 ?_
 refine CT.q (TL.val (r_asg .c) (TL.e (CT.seq (CT.q (TL.m m2 (TL.val (r_lens Tryz.underlying22 T0 m1) (TL.m m3 (TL.val (r_lens Tryz.underlying22 T0 m0) (TL.val (n_gtr ys.length xs.length T2 T0) (TL.b (.hd .u4) (CT.ifd m0 (fun c10 => ?_) (fun c10 => ?_))))))))))))
 ·
  exfalso; omega
 refine CT.z (EX.seq (CT.seq (CT.q (TL.m m2 (TL.val (r_lens Tryz.underlying22 T0 m1) (TL.val (r_move .c) (TL.b (.hd (.hd .u1)) (CT.block (CT.loop (X := Nat) (fun gx => [(13, (i64 gx)), (12, (i64 ys.length)), (0, va), (1, vb)]) (fun gx => (slc 1 va xs.length (xs.map u8)) :: slc 1 vb ys.length (ys.map u8) :: R) (fun gx => gx ≤ ys.length) (fun gx => ys.length - gx) 0 (Nat.zero_le _) (.refl _) (.cons m0 (.cons m1 (.cons m3 (.cons m4 .nil)))) ?_)))))))))
 rintro k hI
 refine CT.q (TL.val (n_lss k ys.length T0 T1) (TL.e (CT.seq (CT.ifd m0 (fun c14 => ?_) (fun c14 => ?_)))))
 ·
  refine CT.z (EX.seq (CT.seq (CT.block (CT.q (TL.m m0 (TL.a m0 (TL.b (.hd .u1) (CT.seq ?_))))))))
  obtain ⟨x1, hx1⟩ : ∃ x1, ys[k]? = some x1 := ⟨_, List.getElem?_eq_getElem c14⟩
  have hx2 : xs[k]? = some x1 := by rw [hp, List.getElem?_append_left c14]; exact hx1
  refine CT.peek m0 (by omega) ?_
  intro d d_c d_v d_k d_l
  refine CT.peek m1 (by omega) ?_
  intro e e_c e_v e_k e_l
  refine CT.still fm (by kernel_rfl) ?_
  refine TS.m m3 (TS.m m1 (TS.val (r_ia (i := k) (off' := k) Tryz.underlying22 Tryz.sizeOf5 (.te m1 d_v) T0 rfl (by omega) (by omega)) (TS.val (r_lds (u := (u8 x1)) Tryz.isAgg5 m0 d_v T0 (by rw [List.getElem?_map, hx2]; rfl)) ?_)))
  refine TS.m m8 (TS.m m5 (TS.val (r_ia (i := k) (off' := k) Tryz.underlying22 Tryz.sizeOf5 (.te m1 e_v) T0 rfl (by omega) (by omega)) (TS.val (r_lds (u := (u8 x1)) Tryz.isAgg5 m1 e_v T0 (by rw [List.getElem?_map, hx1]; rfl)) ?_)))
  refine TS.val (n_neq x1 x1 T4 T0) (TS.nil (TL.b (.hd .u8) (CT.ifd m0 (fun c24 => ?_) (fun c24 => ?_))))
  ·
   exfalso; omega
  exact CT.z (EX.bnormal (EX.seq (CT.region (TL.val (n_add k 1 9223372036854775808 T1 .c) (TL.rm .h2 (TL.m m0 (TL.x (.hd .u1) (EX.again (k + 1) (by omega) (by omega) (.refl _) (.eq m0 (by first | rfl | (congr 1 <;> omega)) (.sl 2 3 rfl))))))))))
 exact CT.sub .u1 (CT.exit (EX.then_exit (EX.then_exit (EX.out (EX.q (TL.val (r_asg .c) (TL.e (CT.ret (EX.end_ (.inl rfl) (res1 Tryz.results19 m0) (fun _ hS => ⟨rfl, hS⟩))))))))))
theorem t23 {va vb : Value} {xs : List Nat} (hl : xs.length < 9223372036854775807) {G : World} {R : List HProp} {w : World} (hS : Sat G w (slc 1 va xs.length (xs.map u8) :: slc 1 vb xs.length (xs.map u8) :: R)) :
 CallsR Tryz.prog 23 #[va, vb] w (fun v w' => v = .bool true ∧ Sat G w' (slc 1 va xs.length (xs.map u8) :: slc 1 vb xs.length (xs.map u8) :: R)) := by
 refine calls_in (n := 15) [(0, va), (1, vb)] Tryz.func23 rfl rfl hS args2 ?_
 refine CT.q (TL.val (r_asg .c) (TL.q (TL.m m1 (TL.val (r_lens Tryz.underlying22 T0 m0) (TL.m m4 (TL.val (r_lens Tryz.underlying22 T0 m1) (TL.val (n_eql xs.length xs.length T2 T0) (TL.m m0 ?_))))))))
 by_cases g10 : xs.length = xs.length
 ·
  refine TL.sub (.eq m0 (congrArg Value.bool (decide_eq_true g10)) (.eq m1 (congrArg Value.bool (decide_eq_true g10)) (.cons m2 (.cons m3 (.cons m4 (.cons m5 (.cons m6 (.cons m7 (.cons m8 .nil))))))))) (TL.gv m0 (r_move T7) (TL.gv m1 (r_move T9) (TL.perm p1 (TL.perm p1 (TL.gcall m2 (r_call ce_19 (.cons T1 (.cons T0 .nil))) (fun w hS => t19 (ys := xs) (zs := []) (by simp) (by omega) hS) ?_)))))
  rintro _ w13 ⟨rfl, hS⟩
  exact TW.at hS (TL.val (r_pickt T3 T0) (TL.rm .h10 (TL.a m0 (TL.b (.hd .u12) (CT.ret (EX.end_ (.inl rfl) (res1 Tryz.results23 m0) (fun _ hS => ⟨rfl, hS⟩)))))))
 exfalso; omega
theorem t14 {G w : World} {cv : Value} {ea eb : Addr} (hc : CodeOf G cv) (hL : LaidIs G ea eb) (hS : Sat G w []) :
 CallsR Tryz.prog 14 #[cv] w (fun v w' => v = .bool true ∧ Sat G w' []) := by
 have hc0 := hc
 obtain rfl | ⟨b, off, c, xs, rfl, hlc, hxs, hx⟩ := hc0
 ·
  refine calls_in (n := 37) [(0, (.slice none 0 0))] Tryz.func14 rfl rfl hS args1 ?_
  refine CT.q (TL.val (r_asg .c) (TL.e (CT.seq (CT.q (TL.m m1 (TL.val (r_len Tryz.underlying22 T0) (TL.val (show Run _ _ _ _ _ _ (.bool false) from n_gtr 0 2147483647 T0 .c rfl rfl) (TL.b (.hd .u2) (CT.iff_ m0 ?_)))))))))
  refine CT.z (EX.seq (CT.seq (CT.q (TL.m m1 (TL.val (r_len Tryz.underlying22 T0) (TL.val (show Run _ _ _ _ _ _ (.bool false) from n_gtr 0 16777216 T0 .c rfl rfl) (TL.b (.hd .u2) (CT.iff_ m0 ?_))))))))
  refine CT.z (EX.q (TL.m m1 (TL.call (r_call ce_33 (.cons T0 .nil)) (fun w hS => t33 _ hc hS) ?_)))
  rintro _ w15 ⟨v1, v2, bits, h, rfl, hst, hhl, hbl, hS⟩
  refine TW.at hS (TL.m m0 (TL.val (r_ext T0) (TL.val (r_ext T1) (TL.a m1 (TL.a m1 (TL.b (.hd (.hd .u5)) (CT.seq (CT.q (TL.m m1 (TL.call (r_call ce_17 (.cons T0 .nil)) (fun w hS => exw1 (t17 (B := bits) (st0 := bits) (tail0 := []) (outF := h) (gd := false) (by omega) (List.append_nil _).symm hst (by omega) hS)) ?_))))))))))
  rintro _ w19 ⟨rfl, hS⟩
  refine TW.at hS (TL.val (show Run _ _ _ _ _ _ (.bool false) from n_neq 2 2 T0 .c rfl rfl) (TL.b (.hd .u2) (CT.iff_ m0 ?_)))
  refine CT.z (EX.q (TL.m m1 (TL.call (r_call ce_18 (.cons T0 (.cons .c .nil))) (fun w hS => exw2 (t18 (B := bits) (st := bits) (tail := []) (out := h) (gd := false) hL (by omega) (List.append_nil _).symm hst (by omega) hS)) ?_)))
  rintro _ w23 ⟨o1, rfl, hS⟩
  refine TW.at hS (TL.m m0 (TL.val (r_ext T0) (TL.val (r_ext T1) (TL.a m1 (TL.a m1 (TL.r (.hd (.hd .u5)) (TL.m m0 (TL.val (show Run _ _ _ _ _ _ (.bool true) from n_neq 3 0 T0 .c rfl rfl) (TL.m m0 (TL.gv m0 (r_move T3) (TL.gv m1 (show Run _ _ _ _ _ _ (.bool true) from n_neq 3 1 T0 .c rfl rfl) (TL.val (r_pickt T2 T0) (TL.m m0 (TL.gv m0 (r_move T9) (TL.gv m1 (r_move T9) (TL.perm p2 (TL.gcall m2 (r_call ce_19 (.cons T1 (.cons T0 .nil))) (fun w hS => t19 (ys := h) (zs := []) (List.append_nil _).symm (by omega) hS) ?_)))))))))))))))))
  rintro _ w35 ⟨rfl, hS⟩
  exact TW.at hS (TL.val (r_pickt T3 T0) (TL.rm .h15 (TL.a m0 (TL.b (.hd .u14) (CT.ret (EX.end_ (.inl rfl) (res1 Tryz.results14 m0) (fun _ hS => ⟨rfl, hS.nil⟩)))))))
 refine calls_in (n := 37) [(0, (.slice (some ⟨b, off, none⟩) xs.length c))] Tryz.func14 rfl rfl hS args1 ?_
 refine CT.q (TL.val (r_asg .c) (TL.e (CT.seq (CT.q (TL.m m1 (TL.val (r_len Tryz.underlying22 T0) (TL.val (n_gtr xs.length 2147483647 T0 .c) (TL.b (.hd .u2) (CT.ifd m0 (fun c9 => ?_) (fun c9 => ?_))))))))))
 ·
  exact CT.y (TL.rm .here (TL.val (r_asg .c) (TL.e (CT.ret (EX.then_ret (EX.end_ (.inl rfl) (res1 Tryz.results14 m0) (fun _ hS => ⟨rfl, hS.nil⟩)))))))
 refine CT.z (EX.seq (CT.seq (CT.q (TL.m m1 (TL.val (r_len Tryz.underlying22 T0) (TL.val (n_gtr xs.length 16777216 T0 .c) (TL.b (.hd .u2) (CT.ifd m0 (fun c12 => ?_) (fun c12 => ?_)))))))))
 ·
  exact CT.y (TL.rm .here (TL.val (r_asg .c) (TL.e (CT.ret (EX.then_ret (EX.end_ (.inl rfl) (res1 Tryz.results14 m0) (fun _ hS => ⟨rfl, hS.nil⟩)))))))
 refine CT.z (EX.q (TL.m m1 (TL.call (r_call ce_33 (.cons T0 .nil)) (fun w hS => t33 _ hc hS) ?_)))
 rintro _ w15 ⟨v1, v2, bits, h, rfl, hst, hhl, hbl, hS⟩
 refine TW.at hS (TL.m m0 (TL.val (r_ext T0) (TL.val (r_ext T1) (TL.a m1 (TL.a m1 (TL.b (.hd (.hd .u5)) (CT.seq (CT.q (TL.m m1 (TL.call (r_call ce_17 (.cons T0 .nil)) (fun w hS => exw1 (t17 (B := bits) (st0 := bits) (tail0 := []) (outF := h) (gd := false) (by omega) (List.append_nil _).symm hst (by omega) hS)) ?_))))))))))
 rintro _ w19 ⟨rfl, hS⟩
 refine TW.at hS (TL.val (show Run _ _ _ _ _ _ (.bool false) from n_neq 2 2 T0 .c rfl rfl) (TL.b (.hd .u2) (CT.iff_ m0 ?_)))
 refine CT.z (EX.q (TL.m m1 (TL.call (r_call ce_18 (.cons T0 (.cons .c .nil))) (fun w hS => exw2 (t18 (B := bits) (st := bits) (tail := []) (out := h) (gd := false) hL (by omega) (List.append_nil _).symm hst (by omega) hS)) ?_)))
 rintro _ w23 ⟨o1, rfl, hS⟩
 refine TW.at hS (TL.m m0 (TL.val (r_ext T0) (TL.val (r_ext T1) (TL.a m1 (TL.a m1 (TL.r (.hd (.hd .u5)) (TL.m m0 (TL.val (show Run _ _ _ _ _ _ (.bool true) from n_neq 3 0 T0 .c rfl rfl) (TL.m m0 (TL.gv m0 (r_move T3) (TL.gv m1 (show Run _ _ _ _ _ _ (.bool true) from n_neq 3 1 T0 .c rfl rfl) (TL.val (r_pickt T2 T0) (TL.m m0 (TL.gv m0 (r_move T9) (TL.gv m1 (r_move T9) (TL.perm p2 (TL.gcall m2 (r_call ce_19 (.cons T1 (.cons T0 .nil))) (fun w hS => t19 (ys := h) (zs := []) (List.append_nil _).symm (by omega) hS) ?_)))))))))))))))))
 rintro _ w35 ⟨rfl, hS⟩
 exact TW.at hS (TL.val (r_pickt T3 T0) (TL.rm .h15 (TL.a m0 (TL.b (.hd .u14) (CT.ret (EX.end_ (.inl rfl) (res1 Tryz.results14 m0) (fun _ hS => ⟨rfl, hS.nil⟩)))))))
end Go.Eng
