/- Parts of the proof of the card: Jc La -/
import Derived.Test.YtkpadembffdepaaGreatDoorK5
import Derived.Test.YtkpadembffdepaaGreatDoorK4
set_option maxRecDepth 100000
set_option maxHeartbeats 4000000
set_option linter.unusedVariables false
set_option linter.unusedSimpArgs false
namespace Go.Eng
open Go Go.Proofs Go.Infl
theorem blkC_12 {y : Nat} (h : y = 0 ∨ y = 1) : BlkC (1 + y) 20 (258 * 20) := by
 rcases h with rfl | rfl
 ·
  intro G w R r p N vo h bs f be h1 h2 h3 h4 hS
  exact t46_1 r p N vo h bs f be 20 (by decide) h1 h2 h3 h4 hS
 intro G w R r p N vo h bs f be h1 h2 h3 h4 hS
 exact t46_2 r p N vo h bs f be 20 (by decide) h1 h2 h3 h4 hS
theorem t28 {G : World} (cv : Value) (hc : CodeOf G cv) {R : List HProp} {w : World} (hS : Sat G w (R)) :
 CallsR Tryz.prog 28 #[cv] w (fun v w' => ∃ (v1 v2 : Value) (bits st tl : List Bool) (h : List Nat), v = .tuple #[v1, v2] ∧ bits = st ++ tl ∧ Strm 0 st [] (h, true) ∧ h.length ≤ 131072 ∧ bits.length ≤ 8589934592 ∧ Sat G w' (slc 1 v1 (pack bits).length ((pack bits).map u8) :: slc 1 v2 h.length (h.map u8) :: R)) := by
 refine calls_in (n := 38) [(0, cv)] Tryz.func28 rfl rfl hS args1 ?_
 refine CT.q (TL.val (r_asg .c) (TL.val (r_asg .c) (TL.q (TL.m m2 (TL.call (r_call ce_35 (.cons T0 .nil)) (fun w hS => t35 _ hc hS) ?_)))))
 rintro _ w9 ⟨b9, rfl, hS⟩
 refine TW.at hS (TL.a m0 (TL.r (.hd (.tl (.tl (.hd (.hd .u1))))) (TL.val (r_build (v := (.agg #[(.slice none 0 0), (.int .i64 0)])) .nil (fun _ => by kernel_rfl)) (TL.w (r_box (F := lst [(.slice none 0 0), (.int .i64 0)]) T0 rfl rfl lst_ok) ?_))))
 rintro _ w11 ⟨b11, rfl, hS⟩
 refine TW.at hS (TL.a m0 (TL.r (.hd .u2) (TL.val (r_asg .c) (TL.e (CT.seq (CT.q (TL.m m2 (TL.perm p1 (TL.call (r_call ce_39 (.cons T0 (.cons .c .nil))) (fun w hS => t39 b9 3 0 (by omega) (by omega) hS) ?_)))))))))
 rintro _ w13 ⟨y13, rfl, y13_l, hS⟩
 refine TW.at hS (TL.a m0 (TL.b (.hd .u2) (CT.block (CT.nilslc 1 ?_))))
 refine CT.perm p2 (CT.conv (fun _ h => h.newWr) ?_)
 refine CT.fold (A' := (Rdr G b9 (0 + 1 + 1073741824 * 0))) a2 (Rdr_mono (by first | (show _ ≤ _; omega) | (show _ ≤ 0 + 1 + 1073741824 * (k + 1); omega))) (CT.perm p2 (CT.perm p1 (CT.perm p2 (CT.loop (X := Nat × Value × List Nat × List Bool) (fun gx => [(7, (i64 (y13 - gx.1))), (6, gx.2.1), (5, (pt b11 0)), (4, (pt b9 0)), (3, (.slice none 0 0)), (2, (.slice none 0 0))]) (fun gx => (slc 1 gx.2.1 ((gx.2.2.1).length) ((gx.2.2.1).map u8)) :: Wr b11 gx.2.2.2 :: Rdr G b9 (0 + 1 + 1073741824 * gx.1) :: R) (fun gx => gx.1 ≤ y13 ∧ Blks 0 gx.2.2.2 [] gx.2.2.1 ∧ (gx.2.2.1).length ≤ gx.1 * 5160 ∧ (gx.2.2.2).length ≤ gx.1 * 1073741824) (fun gx => y13 - gx.1) ((0, (.slice none 0 0), ([] : List Nat), ([] : List Bool))) (⟨Nat.zero_le _, .nil, Nat.zero_le _, Nat.zero_le _⟩) (.refl _) (.eq m0 (by first | rfl | (congr 1 <;> omega)) (.sl 1 5 rfl)) ?_))))
 rintro ⟨k, v, h, bits⟩ ⟨hI1, hI2, hI3, hI4⟩
 replace hI1 : k ≤ y13 := hI1
 replace hI2 : Blks 0 bits [] h := hI2
 replace hI3 : h.length ≤ k * 5160 := hI3
 replace hI4 : bits.length ≤ k * 1073741824 := hI4
 refine CT.seq (CT.q (TL.m m0 (TL.val (n_gtr ((y13 - k)) 0 T0 .c) (TL.b (.hd .u1) (CT.ifd m0 (fun c15 => ?_) (fun c15 => ?_))))))
 ·
  refine CT.z (EX.seq (CT.seq (CT.block (CT.region (TL.m m3 (TL.m m3 (TL.m m3 (TL.perm p2 (TL.perm p2 (TL.perm p2 (TL.call (r_call ce_46 (.cons T2 (.cons T1 (.cons T0 (.cons .c (.cons .c (.cons .c (.cons .c .nil)))))))) (fun w hS => (blkC_3 (most := 20) (by decide)) b9 b11 (0 + 1 + 1073741824 * k) v h bits false 0 (Nat.zero_le _) (by omega) (by omega) (by omega) hS) ?_)))))))))))
  rintro v21 w21 ⟨h21, d21, h21_b, h21_l, d21_l, hS⟩
  replace h21_b : IsBlk (bits).length false h d21 h21 := h21_b
  replace h21_l : h21.length ≤ (h).length + 258 * 20 := h21_l
  exact TW.at hS (TL.rm .h5 (TL.a m0 (TL.x (.hd .u4) (EX.bnormal (EX.seq (CT.region (TL.m m1 (TL.val (n_sub ((y13 - k)) 1 9223372036854775808 T0 .c) (TL.rm .h3 (TL.a m0 (TL.x (.hd .u2) (EX.fold (A' := (Rdr G b9 (0 + 1 + 1073741824 * (k + 1)))) a2 (Rdr_mono (by first | (show _ ≤ _; omega) | (show _ ≤ 0 + 1 + 1073741824 * (k + 1); omega))) (EX.again ((k + 1, v21, h21, bits ++ d21)) (⟨by omega, hI2.snoc (by rw [Nat.zero_add]; exact h21_b), by show h21.length ≤ (k + 1) * 5160; rw [Nat.succ_mul]; omega, by show (bits ++ d21).length ≤ (k + 1) * _; rw [List.length_append]; omega⟩) (by show y13 - (k + 1) < y13 - k; omega) (.refl _) (.eq m0 (by first | rfl | (congr 1 <;> omega)) (.sl 1 5 rfl)))))))))))))))
 refine CT.sub .u1 (CT.exit (EX.then_exit (EX.then_exit (EX.out (EX.q (TL.m m3 (TL.m m3 (TL.m m3 (TL.m m6 (TL.perm p2 (TL.call (r_call ce_39 (.cons T0 (.cons .c .nil))) (fun w hS => t39 b9 2 (0 + 1 + 1073741824 * k) (by omega) (by omega) hS) ?_)))))))))))
 rintro _ w26 ⟨y26, rfl, y26_l, hS⟩
 refine TW.at hS ?_
 have hB2 : BlkC (1 + y26) 20 (258 * 20) := @blkC_12 y26 (by omega)
 refine TL.val (n_add 1 y26 9223372036854775808 .c T0) (TL.perm p2 (TL.perm p2 (TL.call (r_call ce_46 (.cons T5 (.cons T4 (.cons T3 (.cons .c (.cons T0 (.cons .c (.cons .c .nil)))))))) (fun w hS => hB2 b9 b11 (0 + 1 + 1073741824 * k + 1) v h bits true 0 (Nat.zero_le _) (by omega) (by omega) (by omega) hS) ?_)))
 rintro v28 w28 ⟨h28, d28, h28_b, h28_l, d28_l, hS⟩
 replace h28_b : IsBlk (bits).length true h d28 h28 := h28_b
 replace h28_l : h28.length ≤ (h).length + 258 * 20 := h28_l
 refine TW.at hS (TL.rm .h8 (TL.a m0 (TL.r (.hd .u7) (TL.m m2 (TL.m m4 (TL.perm p2 (TL.call (r_call ce_39 (.cons T0 (.cons .c .nil))) (fun w hS => t39 b9 256 (0 + 1 + 1073741824 * k + 1 + 1073741824) (by omega) (by omega) hS) ?_)))))))
 rintro _ w31 ⟨y31, rfl, y31_l, hS⟩
 refine TW.at hS (TL.perm p2 (TL.call (r_call ce_57 (.cons T2 (.cons T0 .nil))) (fun w hS => t57 b11 y31 (bits ++ d28) (by rw [List.length_append]; omega) (by omega) hS) ?_))
 rintro _ w32 ⟨rfl, ps32, ps32_l, ps32_m, hS⟩
 refine TW.at hS (TL.b .u4 (CT.seq (CT.wr ?_)))
 intro vs
 refine CT.region (TL.m m2 (TL.c m0 (TL.f 0 fo_39_0 m0 (TL.val (r_ld (v := vs) Tryz.isAgg22 m0 T0 (by decide) rfl) (TL.m m4 (TL.rm .h10 (TL.a m1 (TL.rm .h10 (TL.a m1 (TL.b (.hd (.hd .u5)) (CT.ret (EX.perm p3 (EX.perm p2 (EX.perm p2 (EX.conv (fun _ h => h.tail) ?_)))))))))))))))
 refine EX.perm p2 (EX.conv (fun _ h => h.tail) ?_)
 exact EX.perm p1 (EX.perm p1 (EX.end_ (.inl rfl) (res2 Tryz.results28 m1 m0) (fun _ hS => ⟨vs, v28, (bits ++ d28) ++ ps32, bits ++ d28, ps32, h28, rfl, rfl, ⟨bits, d28, h, rfl, hI2, .inl ⟨rfl, by rw [Nat.zero_add]; exact h28_b⟩⟩, by omega, by simp only [List.length_append]; omega, hS⟩)))
end Go.Eng
namespace Go.Eng
open Go Go.Proofs Go.Infl
theorem exw1 {p : Program} {f : FuncId} {a : Array Value} {w : World} {P : World → Prop} (h : CallsR p f a w (fun v w' => ∃ (c : Nat), v = i64 c ∧ (false = true ∧ c = 1 ∨ false = false ∧ c = 2) ∧ P w')) :
 CallsR p f a w (fun v w' => v = i64 2 ∧ P w') := by
 refine CallsR.mono h ?_
 rintro v w' ⟨c, e, hc, hS⟩
 rcases hc with ⟨h, _⟩ | ⟨_, rfl⟩
 ·
  cases h
 exact ⟨e, hS⟩
theorem exw2 {p : Program} {f : FuncId} {a : Array Value} {w : World} {P : Value → World → Prop} (h : CallsR p f a w (fun v w' => ∃ (v1 : Value) (c : Nat), v = .tuple #[v1, i64 c] ∧ (false = true ∧ c = 1 ∨ false = false ∧ c = 3) ∧ P v1 w')) :
 CallsR p f a w (fun v w' => ∃ (v1 : Value), v = .tuple #[v1, i64 3] ∧ P v1 w') := by
 refine CallsR.mono h ?_
 rintro v w' ⟨v1, c, e, hc, hS⟩
 rcases hc with ⟨h, _⟩ | ⟨_, rfl⟩
 ·
  cases h
 exact ⟨v1, e, hS⟩
theorem exg3 {p : Program} {f : FuncId} {a : Array Value} {w : World} {P : Value → World → Prop} (h : CallsR p f a w (fun v w' => ∃ (v1 : Value) (c u : Nat), v = .tuple #[v1, i64 c, i64 u] ∧ (true = true ∧ c = 1 ∨ true = false ∧ c = 2) ∧ P v1 w')) :
 CallsR p f a w (fun v w' => ∃ (v1 : Value) (u : Nat), v = .tuple #[v1, i64 1, i64 u] ∧ P v1 w') := by
 refine CallsR.mono h ?_
 rintro v w' ⟨v1, c, u, e, hc, hS⟩
 rcases hc with ⟨_, rfl⟩ | ⟨h, _⟩
 ·
  exact ⟨v1, u, e, hS⟩
 cases h
theorem exg2 {p : Program} {f : FuncId} {a : Array Value} {w : World} {P : Value → World → Prop} (h : CallsR p f a w (fun v w' => ∃ (v1 : Value) (c : Nat), v = .tuple #[v1, i64 c] ∧ (true = true ∧ c = 1 ∨ true = false ∧ c = 3) ∧ P v1 w')) :
 CallsR p f a w (fun v w' => ∃ (v1 : Value), v = .tuple #[v1, i64 1] ∧ P v1 w') := by
 refine CallsR.mono h ?_
 rintro v w' ⟨v1, c, e, hc, hS⟩
 rcases hc with ⟨_, rfl⟩ | ⟨h, _⟩
 ·
  exact ⟨v1, e, hS⟩
 cases h
theorem t19 {va vb : Value} {xs ys zs : List Nat} (hp : xs = ys ++ zs) (hl : xs.length < 9223372036854775807) {G : World} {R : List HProp} {w : World} (hS : Sat G w (slc 1 va xs.length (xs.map u8) :: slc 1 vb ys.length (ys.map u8) :: R)) :
 CallsR Tryz.prog 19 #[va, vb] w (fun v w' => v = .bool true ∧ Sat G w' (slc 1 va xs.length (xs.map u8) :: slc 1 vb ys.length (ys.map u8) :: R)) := by
 have hlen := congrArg List.length hp
 rw [List.length_append] at hlen
 refine calls_in (n := 26) [(0, va), (1, vb)] Tryz.func19 rfl rfl hS args2 ?_
 refine CT.q (TL.val (r_asg .c) (TL.e (CT.seq (CT.q (TL.m m2 (TL.val (r_lens Tryz.underlying22 T0 m1) (TL.m m3 (TL.val (r_lens Tryz.underlying22 T0 m0) (TL.val (n_gtr ys.length xs.length T2 T0) (TL.b (.hd .u4) (CT.ifd m0 (fun c10 => ?_) (fun c10 => ?_))))))))))))
 ·
  exfalso; omega
 refine CT.z (EX.seq (CT.seq (CT.q (TL.m m2 (TL.val (r_lens Tryz.underlying22 T0 m1) (TL.val (r_move .c) (TL.b (.hd (.hd .u1)) (CT.block (CT.loop (X := Nat) (fun gx => [(13, (i64 gx)), (12, (i64 ys.length)), (0, va), (1, vb)]) (fun gx => (slc 1 va xs.length (xs.map u8)) :: slc 1 vb ys.length (ys.map u8) :: R) (fun gx => gx ≤ ys.length) (fun gx => ys.length - gx) 0 (Nat.zero_le _) (.refl _) (.cons m0 (.cons m1 (.cons m3 (.cons m4 .nil)))) ?_)))))))))
 rintro k hI
 refine CT.q (TL.val (n_lss k ys.length T0 T1) (TL.e (CT.seq (CT.ifd m0 (fun c14 => ?_) (fun c14 => ?_)))))
 ·
  refine CT.z (EX.seq (CT.seq (CT.block (CT.q (TL.m m0 (TL.a m0 (TL.b (.hd .u1) (CT.seq ?_))))))))
  obtain ⟨x1, hx1⟩ : ∃ x1, ys[k]? = some x1 := ⟨_, List.getElem?_eq_getElem c14⟩
  have hx2 : xs[k]? = some x1 := by rw [hp, List.getElem?_append_left c14]; exact hx1
  refine CT.peek m0 (by omega) ?_
  intro d d_c d_v d_k d_l
  refine CT.peek m1 (by omega) ?_
  intro e e_c e_v e_k e_l
  refine CT.still fm (by kernel_rfl) ?_
  refine TS.m m3 (TS.m m1 (TS.val (r_ia (i := k) (off' := k) Tryz.underlying22 Tryz.sizeOf5 (.te m1 d_v) T0 rfl (by omega) (by omega)) (TS.val (r_lds (u := (u8 x1)) Tryz.isAgg5 m0 d_v T0 (by rw [List.getElem?_map, hx2]; rfl)) ?_)))
  refine TS.m m8 (TS.m m5 (TS.val (r_ia (i := k) (off' := k) Tryz.underlying22 Tryz.sizeOf5 (.te m1 e_v) T0 rfl (by omega) (by omega)) (TS.val (r_lds (u := (u8 x1)) Tryz.isAgg5 m1 e_v T0 (by rw [List.getElem?_map, hx1]; rfl)) ?_)))
  refine TS.val (n_neq x1 x1 T4 T0) (TS.nil (TL.b (.hd .u8) (CT.ifd m0 (fun c24 => ?_) (fun c24 => ?_))))
  ·
   exfalso; omega
  exact CT.z (EX.bnormal (EX.seq (CT.region (TL.val (n_add k 1 9223372036854775808 T1 .c) (TL.rm .h2 (TL.m m0 (TL.x (.hd .u1) (EX.again (k + 1) (by omega) (by omega) (.refl _) (.eq m0 (by first | rfl | (congr 1 <;> omega)) (.sl 2 3 rfl))))))))))
 exact CT.sub .u1 (CT.exit (EX.then_exit (EX.then_exit (EX.out (EX.q (TL.val (r_asg .c) (TL.e (CT.ret (EX.end_ (.inl rfl) (res1 Tryz.results19 m0) (fun _ hS => ⟨rfl, hS⟩))))))))))
theorem t23 {va vb : Value} {xs : List Nat} (hl : xs.length < 9223372036854775807) {G : World} {R : List HProp} {w : World} (hS : Sat G w (slc 1 va xs.length (xs.map u8) :: slc 1 vb xs.length (xs.map u8) :: R)) :
 CallsR Tryz.prog 23 #[va, vb] w (fun v w' => v = .bool true ∧ Sat G w' (slc 1 va xs.length (xs.map u8) :: slc 1 vb xs.length (xs.map u8) :: R)) := by
 refine calls_in (n := 15) [(0, va), (1, vb)] Tryz.func23 rfl rfl hS args2 ?_
 refine CT.q (TL.val (r_asg .c) (TL.q (TL.m m1 (TL.val (r_lens Tryz.underlying22 T0 m0) (TL.m m4 (TL.val (r_lens Tryz.underlying22 T0 m1) (TL.val (n_eql xs.length xs.length T2 T0) (TL.m m0 ?_))))))))
 by_cases g10 : xs.length = xs.length
 ·
  refine TL.sub (.eq m0 (congrArg Value.bool (decide_eq_true g10)) (.eq m1 (congrArg Value.bool (decide_eq_true g10)) (.cons m2 (.cons m3 (.cons m4 (.cons m5 (.cons m6 (.cons m7 (.cons m8 .nil))))))))) (TL.gv m0 (r_move T7) (TL.gv m1 (r_move T9) (TL.perm p1 (TL.perm p1 (TL.gcall m2 (r_call ce_19 (.cons T1 (.cons T0 .nil))) (fun w hS => t19 (ys := xs) (zs := []) (by simp) (by omega) hS) ?_)))))
  rintro _ w13 ⟨rfl, hS⟩
  exact TW.at hS (TL.val (r_pickt T3 T0) (TL.rm .h10 (TL.a m0 (TL.b (.hd .u12) (CT.ret (EX.end_ (.inl rfl) (res1 Tryz.results23 m0) (fun _ hS => ⟨rfl, hS⟩)))))))
 exfalso; omega
theorem t9 {G w : World} {cv : Value} {ea eb : Addr} (hc : CodeOf G cv) (hL : LaidIs G ea eb) (hS : Sat G w []) :
 CallsR Tryz.prog 9 #[cv] w (fun v w' => v = .bool true ∧ Sat G w' []) := by
 have hc0 := hc
 obtain rfl | ⟨b, off, c, xs, rfl, hlc, hxs, hx⟩ := hc0
 ·
  refine calls_in (n := 48) [(0, (.slice none 0 0))] Tryz.func9 rfl rfl hS args1 ?_
  refine CT.q (TL.val (r_asg .c) (TL.e (CT.seq (CT.q (TL.m m1 (TL.val (r_len Tryz.underlying22 T0) (TL.val (show Run _ _ _ _ _ _ (.bool false) from n_gtr 0 2147483647 T0 .c rfl rfl) (TL.b (.hd .u2) (CT.iff_ m0 ?_)))))))))
  refine CT.z (EX.seq (CT.seq (CT.q (TL.m m1 (TL.val (r_len Tryz.underlying22 T0) (TL.val (show Run _ _ _ _ _ _ (.bool false) from n_gtr 0 16777216 T0 .c rfl rfl) (TL.b (.hd .u2) (CT.iff_ m0 ?_))))))))
  refine CT.z (EX.q (TL.m m1 (TL.call (r_call ce_28 (.cons T0 .nil)) (fun w hS => t28 _ hc hS) ?_)))
  rintro _ w18 ⟨v1, v2, bits, st, tl, h, rfl, hB, hst, hhl, hbl, hS⟩
  refine TW.at hS (TL.m m0 (TL.val (r_ext T0) (TL.val (r_ext T1) (TL.a m1 (TL.a m1 (TL.r (.hd (.hd .u5)) (TL.m m1 (TL.call (r_call ce_21 (.cons T0 (.cons .c .nil))) (fun w hS => exg3 (t21 (B := bits) (st0 := st) (tail0 := tl) (outF := h) (gd := true) (by omega) hB hst (by omega) hS)) ?_))))))))
  rintro _ w23 ⟨r1, u, rfl, hS⟩
  refine TW.at hS (TL.m m0 (TL.val (r_ext T0) (TL.val (r_ext T1) (TL.val (r_ext T2) (TL.a m2 (TL.a m2 (TL.a m2 (TL.r (.tl (.hd (.hd .u6))) (TL.m m3 (TL.perm p1 (TL.call (r_call ce_18 (.cons T0 (.cons .c .nil))) (fun w hS => exg2 (t18 (B := bits) (st := st) (tail := tl) (out := h) (gd := true) hL (by omega) hB hst (by omega) hS)) ?_)))))))))))
  rintro _ w29 ⟨o1, rfl, hS⟩
  refine TW.at hS (TL.m m0 (TL.val (r_ext T0) (TL.val (r_ext T1) (TL.a m1 (TL.a m1 (TL.r (.hd (.hd .u5)) (TL.m m2 (TL.val (show Run _ _ _ _ _ _ (.bool true) from n_eql 1 1 T0 .c rfl rfl) (TL.m m0 (TL.gv m0 (r_move T6) (TL.gv m1 (r_move T8) (TL.perm p3 (TL.perm p3 (TL.gcall m2 (r_call ce_23 (.cons T1 (.cons T0 .nil))) (fun w hS => t23 (xs := h) (by omega) hS) ?_))))))))))))))
  rintro _ w37 ⟨rfl, hS⟩
  refine TW.at hS (TL.val (r_pickt T3 T0) (TL.m m0 (TL.gv m0 (r_move T8) (TL.gv m1 (show Run _ _ _ _ _ _ (.bool true) from n_eql 1 1 T0 .c rfl rfl) (TL.val (r_pickt T2 T0) (TL.m m0 (TL.gv m0 (r_move T13) (TL.gv m1 (r_move T17) (TL.perm p1 (TL.perm p2 (TL.gcall m2 (r_call ce_23 (.cons T1 (.cons T0 .nil))) (fun w hS => t23 (xs := h) (by omega) hS) ?_)))))))))))
  rintro _ w46 ⟨rfl, hS⟩
  exact TW.at hS (TL.val (r_pickt T3 T0) (TL.rm .h22 (TL.a m0 (TL.b (.hd .u21) (CT.ret (EX.end_ (.inl rfl) (res1 Tryz.results9 m0) (fun _ hS => ⟨rfl, hS.nil⟩)))))))
 refine calls_in (n := 48) [(0, (.slice (some ⟨b, off, none⟩) xs.length c))] Tryz.func9 rfl rfl hS args1 ?_
 refine CT.q (TL.val (r_asg .c) (TL.e (CT.seq (CT.q (TL.m m1 (TL.val (r_len Tryz.underlying22 T0) (TL.val (n_gtr xs.length 2147483647 T0 .c) (TL.b (.hd .u2) (CT.ifd m0 (fun c12 => ?_) (fun c12 => ?_))))))))))
 ·
  exact CT.y (TL.rm .here (TL.val (r_asg .c) (TL.e (CT.ret (EX.then_ret (EX.end_ (.inl rfl) (res1 Tryz.results9 m0) (fun _ hS => ⟨rfl, hS.nil⟩)))))))
 refine CT.z (EX.seq (CT.seq (CT.q (TL.m m1 (TL.val (r_len Tryz.underlying22 T0) (TL.val (n_gtr xs.length 16777216 T0 .c) (TL.b (.hd .u2) (CT.ifd m0 (fun c15 => ?_) (fun c15 => ?_)))))))))
 ·
  exact CT.y (TL.rm .here (TL.val (r_asg .c) (TL.e (CT.ret (EX.then_ret (EX.end_ (.inl rfl) (res1 Tryz.results9 m0) (fun _ hS => ⟨rfl, hS.nil⟩)))))))
 refine CT.z (EX.q (TL.m m1 (TL.call (r_call ce_28 (.cons T0 .nil)) (fun w hS => t28 _ hc hS) ?_)))
 rintro _ w18 ⟨v1, v2, bits, st, tl, h, rfl, hB, hst, hhl, hbl, hS⟩
 refine TW.at hS (TL.m m0 (TL.val (r_ext T0) (TL.val (r_ext T1) (TL.a m1 (TL.a m1 (TL.r (.hd (.hd .u5)) (TL.m m1 (TL.call (r_call ce_21 (.cons T0 (.cons .c .nil))) (fun w hS => exg3 (t21 (B := bits) (st0 := st) (tail0 := tl) (outF := h) (gd := true) (by omega) hB hst (by omega) hS)) ?_))))))))
 rintro _ w23 ⟨r1, u, rfl, hS⟩
 refine TW.at hS (TL.m m0 (TL.val (r_ext T0) (TL.val (r_ext T1) (TL.val (r_ext T2) (TL.a m2 (TL.a m2 (TL.a m2 (TL.r (.tl (.hd (.hd .u6))) (TL.m m3 (TL.perm p1 (TL.call (r_call ce_18 (.cons T0 (.cons .c .nil))) (fun w hS => exg2 (t18 (B := bits) (st := st) (tail := tl) (out := h) (gd := true) hL (by omega) hB hst (by omega) hS)) ?_)))))))))))
 rintro _ w29 ⟨o1, rfl, hS⟩
 refine TW.at hS (TL.m m0 (TL.val (r_ext T0) (TL.val (r_ext T1) (TL.a m1 (TL.a m1 (TL.r (.hd (.hd .u5)) (TL.m m2 (TL.val (show Run _ _ _ _ _ _ (.bool true) from n_eql 1 1 T0 .c rfl rfl) (TL.m m0 (TL.gv m0 (r_move T6) (TL.gv m1 (r_move T8) (TL.perm p3 (TL.perm p3 (TL.gcall m2 (r_call ce_23 (.cons T1 (.cons T0 .nil))) (fun w hS => t23 (xs := h) (by omega) hS) ?_))))))))))))))
 rintro _ w37 ⟨rfl, hS⟩
 refine TW.at hS (TL.val (r_pickt T3 T0) (TL.m m0 (TL.gv m0 (r_move T8) (TL.gv m1 (show Run _ _ _ _ _ _ (.bool true) from n_eql 1 1 T0 .c rfl rfl) (TL.val (r_pickt T2 T0) (TL.m m0 (TL.gv m0 (r_move T13) (TL.gv m1 (r_move T17) (TL.perm p1 (TL.perm p2 (TL.gcall m2 (r_call ce_23 (.cons T1 (.cons T0 .nil))) (fun w hS => t23 (xs := h) (by omega) hS) ?_)))))))))))
 rintro _ w46 ⟨rfl, hS⟩
 exact TW.at hS (TL.val (r_pickt T3 T0) (TL.rm .h22 (TL.a m0 (TL.b (.hd .u21) (CT.ret (EX.end_ (.inl rfl) (res1 Tryz.results9 m0) (fun _ hS => ⟨rfl, hS.nil⟩)))))))
end Go.Eng
