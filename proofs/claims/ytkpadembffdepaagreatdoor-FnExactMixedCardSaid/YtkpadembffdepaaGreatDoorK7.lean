/- Parts of the proof of the card: La -/
import Derived.Test.YtkpadembffdepaaGreatDoorK4
import Derived.Test.YtkpadembffdepaaGreatDoorK5
set_option maxRecDepth 100000
set_option maxHeartbeats 4000000
set_option linter.unusedVariables false
set_option linter.unusedSimpArgs false
namespace Go.Eng
open Go Go.Proofs Go.Infl
theorem exw1 {p : Program} {f : FuncId} {a : Array Value} {w : World} {P : World → Prop} (h : CallsR p f a w (fun v w' => ∃ (c : Nat), v = i64 c ∧ (false = true ∧ c = 1 ∨ false = false ∧ c = 2) ∧ P w')) :
 CallsR p f a w (fun v w' => v = i64 2 ∧ P w') := by
 refine CallsR.mono h ?_
 rintro v w' ⟨c, e, hc, hS⟩
 rcases hc with ⟨h, _⟩ | ⟨_, rfl⟩
 ·
  cases h
 exact ⟨e, hS⟩
theorem exw2 {p : Program} {f : FuncId} {a : Array Value} {w : World} {P : Value → World → Prop} (h : CallsR p f a w (fun v w' => ∃ (v1 : Value) (c : Nat), v = .tuple #[v1, i64 c] ∧ (false = true ∧ c = 1 ∨ false = false ∧ c = 3) ∧ P v1 w')) :
 CallsR p f a w (fun v w' => ∃ (v1 : Value), v = .tuple #[v1, i64 3] ∧ P v1 w') := by
 refine CallsR.mono h ?_
 rintro v w' ⟨v1, c, e, hc, hS⟩
 rcases hc with ⟨h, _⟩ | ⟨_, rfl⟩
 ·
  cases h
 exact ⟨v1, e, hS⟩
theorem exg3 {p : Program} {f : FuncId} {a : Array Value} {w : World} {P : Value → World → Prop} (h : CallsR p f a w (fun v w' => ∃ (v1 : Value) (c u : Nat), v = .tuple #[v1, i64 c, i64 u] ∧ (true = true ∧ c = 1 ∨ true = false ∧ c = 2) ∧ P v1 w')) :
 CallsR p f a w (fun v w' => ∃ (v1 : Value) (u : Nat), v = .tuple #[v1, i64 1, i64 u] ∧ P v1 w') := by
 refine CallsR.mono h ?_
 rintro v w' ⟨v1, c, u, e, hc, hS⟩
 rcases hc with ⟨_, rfl⟩ | ⟨h, _⟩
 ·
  exact ⟨v1, u, e, hS⟩
 cases h
theorem exg2 {p : Program} {f : FuncId} {a : Array Value} {w : World} {P : Value → World → Prop} (h : CallsR p f a w (fun v w' => ∃ (v1 : Value) (c : Nat), v = .tuple #[v1, i64 c] ∧ (true = true ∧ c = 1 ∨ true = false ∧ c = 3) ∧ P v1 w')) :
 CallsR p f a w (fun v w' => ∃ (v1 : Value), v = .tuple #[v1, i64 1] ∧ P v1 w') := by
 refine CallsR.mono h ?_
 rintro v w' ⟨v1, c, e, hc, hS⟩
 rcases hc with ⟨_, rfl⟩ | ⟨h, _⟩
 ·
  exact ⟨v1, e, hS⟩
 cases h
theorem t19 {va vb : Value} {xs ys zs : List Nat} (hp : xs = ys ++ zs) (hl : xs.length < 9223372036854775807) {G : World} {R : List HProp} {w : World} (hS : Sat G w (slc 1 va xs.length (xs.map u8) :: slc 1 vb ys.length (ys.map u8) :: R)) :
 CallsR Tryz.prog 19 #[va, vb] w (fun v w' => v = .bool true ∧ Sat G w' (slc 1 va xs.length (xs.map u8) :: slc 1 vb ys.length (ys.map u8) :: R)) := by
 have hlen := congrArg List.length hp
 rw [List.length_append] at hlen
 refine calls_in (n := 26) [(0, va), (1, vb)] Tryz.func19 rfl rfl hS args2 ?_
 refine CT.q (TL.val (r_asg .c) (TL.e (CT.seq (CT.q (TL.m m2 (TL.val (r_lens Tryz.underlying22 T0 m1) (TL.m m3 (TL.val (r_lens Tryz.underlying22 T0 m0) (TL.val (n_gtr ys.length xs.length T2 T0) (TL.b (.hd .u4) (CT.ifd m0 (fun c10 => ?_) (fun c10 => ?_))))))))))))
 ·
  exfalso; omega
 refine CT.z (EX.seq (CT.seq (CT.q (TL.m m2 (TL.val (r_lens Tryz.underlying22 T0 m1) (TL.val (r_move .c) (TL.b (.hd (.hd .u1)) (CT.block (CT.loop (X := Nat) (fun gx => [(13, (i64 gx)), (12, (i64 ys.length)), (0, va), (1, vb)]) (fun gx => (slc 1 va xs.length (xs.map u8)) :: slc 1 vb ys.length (ys.map u8) :: R) (fun gx => gx ≤ ys.length) (fun gx => ys.length - gx) 0 (Nat.zero_le _) (.refl _) (.cons m0 (.cons m1 (.cons m3 (.cons m4 .nil)))) ?_)))))))))
 rintro k hI
 refine CT.q (TL.val (n_lss k ys.length T0 T1) (TL.e (CT.seq (CT.ifd m0 (fun c14 => ?_) (fun c14 => ?_)))))
 ·
  refine CT.z (EX.seq (CT.seq (CT.block (CT.q (TL.m m0 (TL.a m0 (TL.b (.hd .u1) (CT.seq ?_))))))))
  obtain ⟨x1, hx1⟩ : ∃ x1, ys[k]? = some x1 := ⟨_, List.getElem?_eq_getElem c14⟩
  have hx2 : xs[k]? = some x1 := by rw [hp, List.getElem?_append_left c14]; exact hx1
  refine CT.peek m0 (by omega) ?_
  intro d d_c d_v d_k d_l
  refine CT.peek m1 (by omega) ?_
  intro e e_c e_v e_k e_l
  refine CT.still fm (by kernel_rfl) ?_
  refine TS.m m3 (TS.m m1 (TS.val (r_ia (i := k) (off' := k) Tryz.underlying22 Tryz.sizeOf5 (.te m1 d_v) T0 rfl (by omega) (by omega)) (TS.val (r_lds (u := (u8 x1)) Tryz.isAgg5 m0 d_v T0 (by rw [List.getElem?_map, hx2]; rfl)) ?_)))
  refine TS.m m8 (TS.m m5 (TS.val (r_ia (i := k) (off' := k) Tryz.underlying22 Tryz.sizeOf5 (.te m1 e_v) T0 rfl (by omega) (by omega)) (TS.val (r_lds (u := (u8 x1)) Tryz.isAgg5 m1 e_v T0 (by rw [List.getElem?_map, hx1]; rfl)) ?_)))
  refine TS.val (n_neq x1 x1 T4 T0) (TS.nil (TL.b (.hd .u8) (CT.ifd m0 (fun c24 => ?_) (fun c24 => ?_))))
  ·
   exfalso; omega
  exact CT.z (EX.bnormal (EX.seq (CT.region (TL.val (n_add k 1 9223372036854775808 T1 .c) (TL.rm .h2 (TL.m m0 (TL.x (.hd .u1) (EX.again (k + 1) (by omega) (by omega) (.refl _) (.eq m0 (by first | rfl | (congr 1 <;> omega)) (.sl 2 3 rfl))))))))))
 exact CT.sub .u1 (CT.exit (EX.then_exit (EX.then_exit (EX.out (EX.q (TL.val (r_asg .c) (TL.e (CT.ret (EX.end_ (.inl rfl) (res1 Tryz.results19 m0) (fun _ hS => ⟨rfl, hS⟩))))))))))
theorem t23 {va vb : Value} {xs : List Nat} (hl : xs.length < 9223372036854775807) {G : World} {R : List HProp} {w : World} (hS : Sat G w (slc 1 va xs.length (xs.map u8) :: slc 1 vb xs.length (xs.map u8) :: R)) :
 CallsR Tryz.prog 23 #[va, vb] w (fun v w' => v = .bool true ∧ Sat G w' (slc 1 va xs.length (xs.map u8) :: slc 1 vb xs.length (xs.map u8) :: R)) := by
 refine calls_in (n := 15) [(0, va), (1, vb)] Tryz.func23 rfl rfl hS args2 ?_
 refine CT.q (TL.val (r_asg .c) (TL.q (TL.m m1 (TL.val (r_lens Tryz.underlying22 T0 m0) (TL.m m4 (TL.val (r_lens Tryz.underlying22 T0 m1) (TL.val (n_eql xs.length xs.length T2 T0) (TL.m m0 ?_))))))))
 by_cases g10 : xs.length = xs.length
 ·
  refine TL.sub (.eq m0 (congrArg Value.bool (decide_eq_true g10)) (.eq m1 (congrArg Value.bool (decide_eq_true g10)) (.cons m2 (.cons m3 (.cons m4 (.cons m5 (.cons m6 (.cons m7 (.cons m8 .nil))))))))) (TL.gv m0 (r_move T7) (TL.gv m1 (r_move T9) (TL.perm p1 (TL.perm p1 (TL.gcall m2 (r_call ce_19 (.cons T1 (.cons T0 .nil))) (fun w hS => t19 (ys := xs) (zs := []) (by simp) (by omega) hS) ?_)))))
  rintro _ w13 ⟨rfl, hS⟩
  exact TW.at hS (TL.val (r_pickt T3 T0) (TL.rm .h10 (TL.a m0 (TL.b (.hd .u12) (CT.ret (EX.end_ (.inl rfl) (res1 Tryz.results23 m0) (fun _ hS => ⟨rfl, hS⟩)))))))
 exfalso; omega
theorem t8 {G w : World} {cv : Value} {ea eb : Addr} (hc : CodeOf G cv) (hL : LaidIs G ea eb) (hS : Sat G w []) :
 CallsR Tryz.prog 8 #[cv] w (fun v w' => v = .bool true ∧ Sat G w' []) := by
 have hc0 := hc
 obtain rfl | ⟨b, off, c, xs, rfl, hlc, hxs, hx⟩ := hc0
 ·
  refine calls_in (n := 48) [(0, (.slice none 0 0))] Tryz.func8 rfl rfl hS args1 ?_
  refine CT.q (TL.val (r_asg .c) (TL.e (CT.seq (CT.q (TL.m m1 (TL.val (r_len Tryz.underlying22 T0) (TL.val (show Run _ _ _ _ _ _ (.bool false) from n_gtr 0 2147483647 T0 .c rfl rfl) (TL.b (.hd .u2) (CT.iff_ m0 ?_)))))))))
  refine CT.z (EX.seq (CT.seq (CT.q (TL.m m1 (TL.val (r_len Tryz.underlying22 T0) (TL.val (show Run _ _ _ _ _ _ (.bool false) from n_gtr 0 16777216 T0 .c rfl rfl) (TL.b (.hd .u2) (CT.iff_ m0 ?_))))))))
  refine CT.z (EX.q (TL.m m1 (TL.call (r_call ce_27 (.cons T0 .nil)) (fun w hS => t27 _ hc hS) ?_)))
  rintro _ w18 ⟨v1, v2, bits, h, rfl, hst, hhl, hbl, hS⟩
  refine TW.at hS (TL.m m0 (TL.val (r_ext T0) (TL.val (r_ext T1) (TL.a m1 (TL.a m1 (TL.r (.hd (.hd .u5)) (TL.m m1 (TL.call (r_call ce_21 (.cons T0 (.cons .c .nil))) (fun w hS => exg3 (t21 (B := bits) (st0 := bits) (tail0 := []) (outF := h) (gd := true) (by omega) (List.append_nil _).symm hst (by omega) hS)) ?_))))))))
  rintro _ w23 ⟨r1, u, rfl, hS⟩
  refine TW.at hS (TL.m m0 (TL.val (r_ext T0) (TL.val (r_ext T1) (TL.val (r_ext T2) (TL.a m2 (TL.a m2 (TL.a m2 (TL.r (.tl (.hd (.hd .u6))) (TL.m m3 (TL.perm p1 (TL.call (r_call ce_18 (.cons T0 (.cons .c .nil))) (fun w hS => exg2 (t18 (B := bits) (st := bits) (tail := []) (out := h) (gd := true) hL (by omega) (List.append_nil _).symm hst (by omega) hS)) ?_)))))))))))
  rintro _ w29 ⟨o1, rfl, hS⟩
  refine TW.at hS (TL.m m0 (TL.val (r_ext T0) (TL.val (r_ext T1) (TL.a m1 (TL.a m1 (TL.r (.hd (.hd .u5)) (TL.m m2 (TL.val (show Run _ _ _ _ _ _ (.bool true) from n_eql 1 1 T0 .c rfl rfl) (TL.m m0 (TL.gv m0 (r_move T6) (TL.gv m1 (r_move T8) (TL.perm p3 (TL.perm p3 (TL.gcall m2 (r_call ce_23 (.cons T1 (.cons T0 .nil))) (fun w hS => t23 (xs := h) (by omega) hS) ?_))))))))))))))
  rintro _ w37 ⟨rfl, hS⟩
  refine TW.at hS (TL.val (r_pickt T3 T0) (TL.m m0 (TL.gv m0 (r_move T8) (TL.gv m1 (show Run _ _ _ _ _ _ (.bool true) from n_eql 1 1 T0 .c rfl rfl) (TL.val (r_pickt T2 T0) (TL.m m0 (TL.gv m0 (r_move T13) (TL.gv m1 (r_move T17) (TL.perm p1 (TL.perm p2 (TL.gcall m2 (r_call ce_23 (.cons T1 (.cons T0 .nil))) (fun w hS => t23 (xs := h) (by omega) hS) ?_)))))))))))
  rintro _ w46 ⟨rfl, hS⟩
  exact TW.at hS (TL.val (r_pickt T3 T0) (TL.rm .h22 (TL.a m0 (TL.b (.hd .u21) (CT.ret (EX.end_ (.inl rfl) (res1 Tryz.results8 m0) (fun _ hS => ⟨rfl, hS.nil⟩)))))))
 refine calls_in (n := 48) [(0, (.slice (some ⟨b, off, none⟩) xs.length c))] Tryz.func8 rfl rfl hS args1 ?_
 refine CT.q (TL.val (r_asg .c) (TL.e (CT.seq (CT.q (TL.m m1 (TL.val (r_len Tryz.underlying22 T0) (TL.val (n_gtr xs.length 2147483647 T0 .c) (TL.b (.hd .u2) (CT.ifd m0 (fun c12 => ?_) (fun c12 => ?_))))))))))
 ·
  exact CT.y (TL.rm .here (TL.val (r_asg .c) (TL.e (CT.ret (EX.then_ret (EX.end_ (.inl rfl) (res1 Tryz.results8 m0) (fun _ hS => ⟨rfl, hS.nil⟩)))))))
 refine CT.z (EX.seq (CT.seq (CT.q (TL.m m1 (TL.val (r_len Tryz.underlying22 T0) (TL.val (n_gtr xs.length 16777216 T0 .c) (TL.b (.hd .u2) (CT.ifd m0 (fun c15 => ?_) (fun c15 => ?_)))))))))
 ·
  exact CT.y (TL.rm .here (TL.val (r_asg .c) (TL.e (CT.ret (EX.then_ret (EX.end_ (.inl rfl) (res1 Tryz.results8 m0) (fun _ hS => ⟨rfl, hS.nil⟩)))))))
 refine CT.z (EX.q (TL.m m1 (TL.call (r_call ce_27 (.cons T0 .nil)) (fun w hS => t27 _ hc hS) ?_)))
 rintro _ w18 ⟨v1, v2, bits, h, rfl, hst, hhl, hbl, hS⟩
 refine TW.at hS (TL.m m0 (TL.val (r_ext T0) (TL.val (r_ext T1) (TL.a m1 (TL.a m1 (TL.r (.hd (.hd .u5)) (TL.m m1 (TL.call (r_call ce_21 (.cons T0 (.cons .c .nil))) (fun w hS => exg3 (t21 (B := bits) (st0 := bits) (tail0 := []) (outF := h) (gd := true) (by omega) (List.append_nil _).symm hst (by omega) hS)) ?_))))))))
 rintro _ w23 ⟨r1, u, rfl, hS⟩
 refine TW.at hS (TL.m m0 (TL.val (r_ext T0) (TL.val (r_ext T1) (TL.val (r_ext T2) (TL.a m2 (TL.a m2 (TL.a m2 (TL.r (.tl (.hd (.hd .u6))) (TL.m m3 (TL.perm p1 (TL.call (r_call ce_18 (.cons T0 (.cons .c .nil))) (fun w hS => exg2 (t18 (B := bits) (st := bits) (tail := []) (out := h) (gd := true) hL (by omega) (List.append_nil _).symm hst (by omega) hS)) ?_)))))))))))
 rintro _ w29 ⟨o1, rfl, hS⟩
 refine TW.at hS (TL.m m0 (TL.val (r_ext T0) (TL.val (r_ext T1) (TL.a m1 (TL.a m1 (TL.r (.hd (.hd .u5)) (TL.m m2 (TL.val (show Run _ _ _ _ _ _ (.bool true) from n_eql 1 1 T0 .c rfl rfl) (TL.m m0 (TL.gv m0 (r_move T6) (TL.gv m1 (r_move T8) (TL.perm p3 (TL.perm p3 (TL.gcall m2 (r_call ce_23 (.cons T1 (.cons T0 .nil))) (fun w hS => t23 (xs := h) (by omega) hS) ?_))))))))))))))
 rintro _ w37 ⟨rfl, hS⟩
 refine TW.at hS (TL.val (r_pickt T3 T0) (TL.m m0 (TL.gv m0 (r_move T8) (TL.gv m1 (show Run _ _ _ _ _ _ (.bool true) from n_eql 1 1 T0 .c rfl rfl) (TL.val (r_pickt T2 T0) (TL.m m0 (TL.gv m0 (r_move T13) (TL.gv m1 (r_move T17) (TL.perm p1 (TL.perm p2 (TL.gcall m2 (r_call ce_23 (.cons T1 (.cons T0 .nil))) (fun w hS => t23 (xs := h) (by omega) hS) ?_)))))))))))
 rintro _ w46 ⟨rfl, hS⟩
 exact TW.at hS (TL.val (r_pickt T3 T0) (TL.rm .h22 (TL.a m0 (TL.b (.hd .u21) (CT.ret (EX.end_ (.inl rfl) (res1 Tryz.results8 m0) (fun _ hS => ⟨rfl, hS.nil⟩)))))))
end Go.Eng
