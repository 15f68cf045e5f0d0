/- The walks of laws. -/
import Derived.Test.YtkpadembffdepaaGreatDoorGp
namespace Go.Eng
open Go Go.Proofs Go.Infl
set_option maxRecDepth 20000
set_option linter.unusedSimpArgs false
set_option linter.unusedVariables false

theorem t19 {va vb : Value} {xs ys zs : List Nat} (hp : xs = ys ++ zs) (hl : xs.length < 9223372036854775807) {G : World} {R : List HProp} {w : World} (hS : Sat G w ((slc 1 va (xs.length) (xs.map u8)) :: (slc 1 vb (ys.length) (ys.map u8)) :: R)) :
    CallsR Tryz.prog 19 #[va, vb] w (fun v w' => v = .bool true ∧ Sat G w' (slc 1 va xs.length (xs.map u8) :: slc 1 vb ys.length (ys.map u8) :: R)) := by
  have hlen := congrArg List.length hp
  rw [List.length_append] at hlen
  refine calls_in (n := 26) [(0, va), (1, vb)] Tryz.func19 rfl rfl hS args2 ?_
  refine CT.seq ?_
  refine CT.region ?_
  refine TL.val (r_asg .c) ?_
  refine TL.nil ?_
  refine EX.seq ?_
  refine CT.seq ?_
  refine CT.seq ?_
  refine CT.region ?_
  refine TL.val (r_move (.t m2)) ?_
  refine TL.val (r_lens Tryz.underlying22 (.t m0) m1) ?_
  refine TL.val (r_move (.t m3)) ?_
  refine TL.val (r_lens Tryz.underlying22 (.t m0) m0) ?_
  refine TL.val (n_gtr (ys.length) (xs.length) (.t m2) (.t m0) rfl rfl) ?_
  refine TL.sub (.hd (.tl (.tl (.tl (.tl .refl))))) ?_
  refine TL.nil ?_
  refine EX.seq ?_
  refine CT.ifd m0 (fun c10 => ?_) (fun c10 => ?_)
  ·
    exfalso; omega
  ·
    refine CT.sub (.tl .refl) ?_
    refine CT.skip ?_
    refine EX.seq ?_
    refine CT.seq ?_
    refine CT.seq ?_
    refine CT.region ?_
    refine TL.val (r_move (.t m2)) ?_
    refine TL.val (r_lens Tryz.underlying22 (.t m0) m1) ?_
    refine TL.val (r_move .c) ?_
    refine TL.sub (.hd (.hd (.tl .refl))) ?_
    refine TL.nil ?_
    refine EX.seq ?_
    refine CT.block ?_
    refine CT.loop (X := Nat) (fun gx => [(13, (.int .i64 ((gx : Nat) : Int))), (12, (.int .i64 ((ys.length : Nat) : Int))), (0, va), (1, vb)]) (fun gx => (slc 1 va (xs.length) (xs.map u8)) :: (slc 1 vb (ys.length) (ys.map u8)) :: R) (fun gx => gx ≤ ys.length) (fun gx => ys.length - (gx)) (0) (Nat.zero_le _) (.refl _) (.cons m0 (.cons m1 (.cons m3 (.cons m4 .nil)))) ?_
    rintro k hI
    show CT _ _ _ [(13, (.int .i64 ((k : Nat) : Int))), (12, (.int .i64 ((ys.length : Nat) : Int))), (0, va), (1, vb)] _ _ ((slc 1 va (xs.length) (xs.map u8)) :: (slc 1 vb (ys.length) (ys.map u8)) :: R)
    refine CT.seq ?_
    refine CT.region ?_
    refine TL.val (n_lss (k) (ys.length) (.t m0) (.t m1) rfl rfl) ?_
    refine TL.nil ?_
    refine EX.seq ?_
    refine CT.seq ?_
    refine CT.ifd m0 (fun c14 => ?_) (fun c14 => ?_)
    ·
      refine CT.sub (.tl .refl) ?_
      refine CT.skip ?_
      refine EX.seq ?_
      refine CT.seq ?_
      refine CT.block ?_
      refine CT.seq ?_
      refine CT.region ?_
      refine TL.val (r_move (.t m0)) ?_
      refine TL.val (r_asg (.t m0)) ?_
      refine TL.sub (.hd (.tl .refl)) ?_
      refine TL.nil ?_
      refine EX.seq ?_
      refine CT.seq ?_
      obtain ⟨x1, hx1⟩ : ∃ x1, ys[k]? = some x1 := ⟨_, List.getElem?_eq_getElem c14⟩
      have hx2 : xs[k]? = some x1 := by rw [hp, List.getElem?_append_left c14]; exact hx1
      refine CT.peek m0 (by omega) ?_
      intro d d_c d_v d_k d_l
      refine CT.peek m1 (by omega) ?_
      intro e e_c e_v e_k e_l
      refine CT.still fm (by kernel_rfl) ?_
      refine TS.val (r_move (.t m3)) ?_
      refine TS.val (r_move (.t m1)) ?_
      refine TS.val (r_ia (i := k) (off' := k) Tryz.underlying22 Tryz.sizeOf5 (.te m1 d_v) (.t m0) (rfl) (by omega) (by omega)) ?_
      refine TS.val (r_lds (u := (.int .u8 ((x1 : Nat) : Int))) Tryz.isAgg5 m0 d_v (.t m0) (by rw [List.getElem?_map, hx2]; rfl)) ?_
      refine TS.val (r_move (.t m8)) ?_
      refine TS.val (r_move (.t m5)) ?_
      refine TS.val (r_ia (i := k) (off' := k) Tryz.underlying22 Tryz.sizeOf5 (.te m1 e_v) (.t m0) (rfl) (by omega) (by omega)) ?_
      refine TS.val (r_lds (u := (.int .u8 ((x1 : Nat) : Int))) Tryz.isAgg5 m1 e_v (.t m0) (by rw [List.getElem?_map, hx1]; rfl)) ?_
      refine TS.val (n_neq (x1) (x1) (.t m4) (.t m0) rfl rfl) ?_
      refine TS.nil ?_
      refine TL.sub (.hd (.tl (.tl (.tl (.tl (.tl (.tl (.tl (.tl .refl))))))))) ?_
      refine TL.nil ?_
      refine EX.seq ?_
      refine CT.ifd m0 (fun c24 => ?_) (fun c24 => ?_)
      ·
        exfalso; omega
      ·
        refine CT.sub (.tl .refl) ?_
        refine CT.skip ?_
        refine EX.bnormal ?_
        refine EX.seq ?_
        refine CT.region ?_
        refine TL.val (n_add (k) (1) 9223372036854775808 (.t m1) .c rfl rfl (by omega)) ?_
        refine TL.rm (.there (.there .here)) ?_
        refine TL.val (r_move (.t m0)) ?_
        refine TL.sub (.hd (.tl .refl)) ?_
        refine TL.nil ?_
        exact EX.again (k + 1) (by omega) (by omega) (.refl _) (.eq m0 (by first | rfl | (congr 1; omega)) (.cons m2 (.cons m3 (.cons m4 .nil))))
    ·
      refine CT.sub (.tl .refl) ?_
      refine CT.exit ?_
      refine EX.then_exit ?_
      refine EX.then_exit ?_
      refine EX.out ?_
      refine EX.seq ?_
      refine CT.seq ?_
      refine CT.region ?_
      refine TL.val (r_asg .c) ?_
      refine TL.nil ?_
      refine EX.seq ?_
      refine CT.ret ?_
      exact EX.end_ (.inl rfl) (res1 Tryz.results19 m0) (fun _ hS => ⟨rfl, hS⟩)
theorem t23 {va vb : Value} {xs : List Nat} (hl : xs.length < 9223372036854775807) {G : World} {R : List HProp} {w : World} (hS : Sat G w ((slc 1 va (xs.length) (xs.map u8)) :: (slc 1 vb (xs.length) (xs.map u8)) :: R)) :
    CallsR Tryz.prog 23 #[va, vb] w (fun v w' => v = .bool true ∧ Sat G w' (slc 1 va xs.length (xs.map u8) :: slc 1 vb xs.length (xs.map u8) :: R)) := by
  refine calls_in (n := 15) [(0, va), (1, vb)] Tryz.func23 rfl rfl hS args2 ?_
  refine CT.seq ?_
  refine CT.region ?_
  refine TL.val (r_asg .c) ?_
  refine TL.nil ?_
  refine EX.seq ?_
  refine CT.seq ?_
  refine CT.region ?_
  refine TL.val (r_move (.t m1)) ?_
  refine TL.val (r_lens Tryz.underlying22 (.t m0) m0) ?_
  refine TL.val (r_move (.t m4)) ?_
  refine TL.val (r_lens Tryz.underlying22 (.t m0) m1) ?_
  refine TL.val (n_eql (xs.length) (xs.length) (.t m2) (.t m0) rfl rfl) ?_
  refine TL.val (r_move (.t m0)) ?_
  by_cases g10 : xs.length = xs.length
  ·
    refine TL.sub (ρ' := [(10, (.bool true)), (9, (.bool true)), (8, (.int .i64 ((xs.length : Nat) : Int))), (7, vb), (6, (.int .i64 ((xs.length : Nat) : Int))), (5, va), (4, (.bool false)), (0, va), (1, vb)]) (.eq m0 (congrArg Value.bool (decide_eq_true g10)) (.eq m1 (congrArg Value.bool (decide_eq_true g10)) (.cons m2 (.cons m3 (.cons m4 (.cons m5 (.cons m6 (.cons m7 (.cons m8 .nil))))))))) ?_
    refine TL.gv m0 (r_move (.t m7)) ?_
    refine TL.gv m1 (r_move (.t m9)) ?_
    refine TL.perm p1 ?_
    refine TL.perm p1 ?_
    refine TL.gcall m2 (r_call ce_19 (.cons (.t m1) (.cons (.t m0) .nil))) (fun w hS => t19 (ys := xs) (zs := []) (by simp) (by omega) hS) ?_
    rintro _ w13 ⟨rfl, hS⟩
    refine TW.at hS ?_
    refine TL.val (r_pickt (.t m3) (.t m0)) ?_
    refine TL.rm (.there (.there (.there (.there (.there (.there (.there (.there (.there (.there .here)))))))))) ?_
    refine TL.val (r_asg (.t m0)) ?_
    refine TL.sub (.hd (.tl (.tl (.tl (.tl (.tl (.tl (.tl (.tl (.tl (.tl (.tl (.tl .refl))))))))))))) ?_
    refine TL.nil ?_
    refine EX.seq ?_
    refine CT.ret ?_
    exact EX.end_ (.inl rfl) (res1 Tryz.results23 m0) (fun _ hS => ⟨rfl, hS⟩)
  ·
    exfalso; omega
theorem t10 {G w : World} {cv : Value} {ea : Addr} (hc : CodeOf G cv) (hE : EOFIs G ea) (hS : Sat G w []) :
    CallsR Tryz.prog 10 #[cv] w (fun v w' => v = .bool true ∧ Sat G w' []) := by
  have hc0 := hc
  obtain rfl | ⟨b, off, c, xs, rfl, hlc, hxs, hx⟩ := hc0
  ·
    refine calls_in (n := 48) [(0, (.slice none 0 0))] Tryz.func10 rfl rfl hS args1 ?_
    refine CT.seq ?_
    refine CT.region ?_
    refine TL.val (r_asg .c) ?_
    refine TL.nil ?_
    refine EX.seq ?_
    refine CT.seq ?_
    refine CT.seq ?_
    refine CT.region ?_
    refine TL.val (r_move (.t m1)) ?_
    refine TL.val (r_len Tryz.underlying22 (.t m0)) ?_
    refine TL.val (show Run _ _ _ _ _ _ (.bool false) from n_gtr (0) (2147483647) (.t m0) .c rfl rfl) ?_
    refine TL.sub (.hd (.tl (.tl .refl))) ?_
    refine TL.nil ?_
    refine EX.seq ?_
    refine CT.iff_ m0 ?_
    refine CT.sub (.tl .refl) ?_
    refine CT.skip ?_
    refine EX.seq ?_
    refine CT.seq ?_
    refine CT.seq ?_
    refine CT.region ?_
    refine TL.val (r_move (.t m1)) ?_
    refine TL.val (r_len Tryz.underlying22 (.t m0)) ?_
    refine TL.val (show Run _ _ _ _ _ _ (.bool false) from n_gtr (0) (16777216) (.t m0) .c rfl rfl) ?_
    refine TL.sub (.hd (.tl (.tl .refl))) ?_
    refine TL.nil ?_
    refine EX.seq ?_
    refine CT.iff_ m0 ?_
    refine CT.sub (.tl .refl) ?_
    refine CT.skip ?_
    refine EX.seq ?_
    refine CT.seq ?_
    refine CT.region ?_
    refine TL.val (r_move (.t m1)) ?_
    refine TL.call (r_call ce_29 (.cons (.t m0) .nil)) (fun w hS => t29 _ hc hS) ?_
    rintro _ w18 ⟨v1, v2, bits, h, rfl, hst, hhl, hbl, hS⟩
    refine TW.at hS ?_
    refine TL.val (r_move (.t m0)) ?_
    refine TL.val (r_ext (.t m0)) ?_
    refine TL.val (r_ext (.t m1)) ?_
    refine TL.val (r_asg (.t m1)) ?_
    refine TL.val (r_asg (.t m1)) ?_
    refine TL.sub (.hd (.hd (.tl (.tl (.tl (.tl (.tl .refl))))))) ?_
    refine TL.nil ?_
    refine EX.seq ?_
    refine CT.seq ?_
    refine CT.region ?_
    refine TL.val (r_move (.t m1)) ?_
    refine TL.call (r_call ce_21 (.cons (.t m0) (.cons .c .nil))) (fun w hS => t21 (B := bits) (h := h) (by omega) hst (by omega) hS) ?_
    rintro _ w23 ⟨r1, rfl, hS⟩
    refine TW.at hS ?_
    refine TL.val (r_move (.t m0)) ?_
    refine TL.val (r_ext (.t m0)) ?_
    refine TL.val (r_ext (.t m1)) ?_
    refine TL.val (r_ext (.t m2)) ?_
    refine TL.val (r_asg (.t m2)) ?_
    refine TL.val (r_asg (.t m2)) ?_
    refine TL.val (r_asg (.t m2)) ?_
    refine TL.sub (.tl (.hd (.hd (.tl (.tl (.tl (.tl (.tl (.tl .refl))))))))) ?_
    refine TL.nil ?_
    refine EX.seq ?_
    refine CT.seq ?_
    refine CT.region ?_
    refine TL.val (r_move (.t m3)) ?_
    refine TL.perm p1 ?_
    refine TL.call (r_call ce_18 (.cons (.t m0) (.cons .c .nil))) (fun w hS => t18 (B := bits) (st := bits) (tail := []) (out := h) hE (by omega) (by simp) hst (by omega) hS) ?_
    rintro _ w29 ⟨o1, rfl, hS⟩
    refine TW.at hS ?_
    refine TL.val (r_move (.t m0)) ?_
    refine TL.val (r_ext (.t m0)) ?_
    refine TL.val (r_ext (.t m1)) ?_
    refine TL.val (r_asg (.t m1)) ?_
    refine TL.val (r_asg (.t m1)) ?_
    refine TL.sub (.hd (.hd (.tl (.tl (.tl (.tl (.tl .refl))))))) ?_
    refine TL.nil ?_
    refine EX.seq ?_
    refine CT.seq ?_
    refine CT.region ?_
    refine TL.val (r_move (.t m2)) ?_
    refine TL.val (show Run _ _ _ _ _ _ (.bool true) from n_eql (1) (1) (.t m0) .c rfl rfl) ?_
    refine TL.val (r_move (.t m0)) ?_
    refine TL.gv m0 (r_move (.t m6)) ?_
    refine TL.gv m1 (r_move (.t m8)) ?_
    refine TL.perm p3 ?_
    refine TL.perm p3 ?_
    refine TL.gcall m2 (r_call ce_23 (.cons (.t m1) (.cons (.t m0) .nil))) (fun w hS => t23 (xs := h) (by omega) hS) ?_
    rintro _ w37 ⟨rfl, hS⟩
    refine TW.at hS ?_
    refine TL.val (r_pickt (.t m3) (.t m0)) ?_
    refine TL.val (r_move (.t m0)) ?_
    refine TL.gv m0 (r_move (.t m8)) ?_
    refine TL.gv m1 (show Run _ _ _ _ _ _ (.bool true) from n_eql (1) (1) (.t m0) .c rfl rfl) ?_
    refine TL.val (r_pickt (.t m2) (.t m0)) ?_
    refine TL.val (r_move (.t m0)) ?_
    refine TL.gv m0 (r_move (.t m13)) ?_
    refine TL.gv m1 (r_move (.t m17)) ?_
    refine TL.perm p1 ?_
    refine TL.perm p2 ?_
    refine TL.gcall m2 (r_call ce_23 (.cons (.t m1) (.cons (.t m0) .nil))) (fun w hS => t23 (xs := h) (by omega) hS) ?_
    rintro _ w46 ⟨rfl, hS⟩
    refine TW.at hS ?_
    refine TL.val (r_pickt (.t m3) (.t m0)) ?_
    refine TL.rm (.there (.there (.there (.there (.there (.there (.there (.there (.there (.there (.there (.there (.there (.there (.there (.there (.there (.there (.there (.there (.there (.there .here)))))))))))))))))))))) ?_
    refine TL.val (r_asg (.t m0)) ?_
    refine TL.sub (.hd (.tl (.tl (.tl (.tl (.tl (.tl (.tl (.tl (.tl (.tl (.tl (.tl (.tl (.tl (.tl (.tl (.tl (.tl (.tl (.tl (.tl .refl)))))))))))))))))))))) ?_
    refine TL.nil ?_
    refine EX.seq ?_
    refine CT.ret ?_
    exact EX.end_ (.inl rfl) (res1 Tryz.results10 m0) (fun _ hS => ⟨rfl, hS.nil⟩)
  ·
    refine calls_in (n := 48) [(0, (.slice (some ⟨b, off, none⟩) (xs.length) (c)))] Tryz.func10 rfl rfl hS args1 ?_
    refine CT.seq ?_
    refine CT.region ?_
    refine TL.val (r_asg .c) ?_
    refine TL.nil ?_
    refine EX.seq ?_
    refine CT.seq ?_
    refine CT.seq ?_
    refine CT.region ?_
    refine TL.val (r_move (.t m1)) ?_
    refine TL.val (r_len Tryz.underlying22 (.t m0)) ?_
    refine TL.val (n_gtr (xs.length) (2147483647) (.t m0) .c rfl rfl) ?_
    refine TL.sub (.hd (.tl (.tl .refl))) ?_
    refine TL.nil ?_
    refine EX.seq ?_
    refine CT.ifd m0 (fun c12 => ?_) (fun c12 => ?_)
    ·
      refine CT.sub (.tl .refl) ?_
      refine CT.seq ?_
      refine CT.region ?_
      refine TL.rm .here ?_
      refine TL.val (r_asg .c) ?_
      refine TL.nil ?_
      refine EX.seq ?_
      refine CT.ret ?_
      refine EX.then_ret ?_
      exact EX.end_ (.inl rfl) (res1 Tryz.results10 m0) (fun _ hS => ⟨rfl, hS.nil⟩)
    ·
      refine CT.sub (.tl .refl) ?_
      refine CT.skip ?_
      refine EX.seq ?_
      refine CT.seq ?_
      refine CT.seq ?_
      refine CT.region ?_
      refine TL.val (r_move (.t m1)) ?_
      refine TL.val (r_len Tryz.underlying22 (.t m0)) ?_
      refine TL.val (n_gtr (xs.length) (16777216) (.t m0) .c rfl rfl) ?_
      refine TL.sub (.hd (.tl (.tl .refl))) ?_
      refine TL.nil ?_
      refine EX.seq ?_
      refine CT.ifd m0 (fun c15 => ?_) (fun c15 => ?_)
      ·
        refine CT.sub (.tl .refl) ?_
        refine CT.seq ?_
        refine CT.region ?_
        refine TL.rm .here ?_
        refine TL.val (r_asg .c) ?_
        refine TL.nil ?_
        refine EX.seq ?_
        refine CT.ret ?_
        refine EX.then_ret ?_
        exact EX.end_ (.inl rfl) (res1 Tryz.results10 m0) (fun _ hS => ⟨rfl, hS.nil⟩)
      ·
        refine CT.sub (.tl .refl) ?_
        refine CT.skip ?_
        refine EX.seq ?_
        refine CT.seq ?_
        refine CT.region ?_
        refine TL.val (r_move (.t m1)) ?_
        refine TL.call (r_call ce_29 (.cons (.t m0) .nil)) (fun w hS => t29 _ hc hS) ?_
        rintro _ w18 ⟨v1, v2, bits, h, rfl, hst, hhl, hbl, hS⟩
        refine TW.at hS ?_
        refine TL.val (r_move (.t m0)) ?_
        refine TL.val (r_ext (.t m0)) ?_
        refine TL.val (r_ext (.t m1)) ?_
        refine TL.val (r_asg (.t m1)) ?_
        refine TL.val (r_asg (.t m1)) ?_
        refine TL.sub (.hd (.hd (.tl (.tl (.tl (.tl (.tl .refl))))))) ?_
        refine TL.nil ?_
        refine EX.seq ?_
        refine CT.seq ?_
        refine CT.region ?_
        refine TL.val (r_move (.t m1)) ?_
        refine TL.call (r_call ce_21 (.cons (.t m0) (.cons .c .nil))) (fun w hS => t21 (B := bits) (h := h) (by omega) hst (by omega) hS) ?_
        rintro _ w23 ⟨r1, rfl, hS⟩
        refine TW.at hS ?_
        refine TL.val (r_move (.t m0)) ?_
        refine TL.val (r_ext (.t m0)) ?_
        refine TL.val (r_ext (.t m1)) ?_
        refine TL.val (r_ext (.t m2)) ?_
        refine TL.val (r_asg (.t m2)) ?_
        refine TL.val (r_asg (.t m2)) ?_
        refine TL.val (r_asg (.t m2)) ?_
        refine TL.sub (.tl (.hd (.hd (.tl (.tl (.tl (.tl (.tl (.tl .refl))))))))) ?_
        refine TL.nil ?_
        refine EX.seq ?_
        refine CT.seq ?_
        refine CT.region ?_
        refine TL.val (r_move (.t m3)) ?_
        refine TL.perm p1 ?_
        refine TL.call (r_call ce_18 (.cons (.t m0) (.cons .c .nil))) (fun w hS => t18 (B := bits) (st := bits) (tail := []) (out := h) hE (by omega) (by simp) hst (by omega) hS) ?_
        rintro _ w29 ⟨o1, rfl, hS⟩
        refine TW.at hS ?_
        refine TL.val (r_move (.t m0)) ?_
        refine TL.val (r_ext (.t m0)) ?_
        refine TL.val (r_ext (.t m1)) ?_
        refine TL.val (r_asg (.t m1)) ?_
        refine TL.val (r_asg (.t m1)) ?_
        refine TL.sub (.hd (.hd (.tl (.tl (.tl (.tl (.tl .refl))))))) ?_
        refine TL.nil ?_
        refine EX.seq ?_
        refine CT.seq ?_
        refine CT.region ?_
        refine TL.val (r_move (.t m2)) ?_
        refine TL.val (show Run _ _ _ _ _ _ (.bool true) from n_eql (1) (1) (.t m0) .c rfl rfl) ?_
        refine TL.val (r_move (.t m0)) ?_
        refine TL.gv m0 (r_move (.t m6)) ?_
        refine TL.gv m1 (r_move (.t m8)) ?_
        refine TL.perm p3 ?_
        refine TL.perm p3 ?_
        refine TL.gcall m2 (r_call ce_23 (.cons (.t m1) (.cons (.t m0) .nil))) (fun w hS => t23 (xs := h) (by omega) hS) ?_
        rintro _ w37 ⟨rfl, hS⟩
        refine TW.at hS ?_
        refine TL.val (r_pickt (.t m3) (.t m0)) ?_
        refine TL.val (r_move (.t m0)) ?_
        refine TL.gv m0 (r_move (.t m8)) ?_
        refine TL.gv m1 (show Run _ _ _ _ _ _ (.bool true) from n_eql (1) (1) (.t m0) .c rfl rfl) ?_
        refine TL.val (r_pickt (.t m2) (.t m0)) ?_
        refine TL.val (r_move (.t m0)) ?_
        refine TL.gv m0 (r_move (.t m13)) ?_
        refine TL.gv m1 (r_move (.t m17)) ?_
        refine TL.perm p1 ?_
        refine TL.perm p2 ?_
        refine TL.gcall m2 (r_call ce_23 (.cons (.t m1) (.cons (.t m0) .nil))) (fun w hS => t23 (xs := h) (by omega) hS) ?_
        rintro _ w46 ⟨rfl, hS⟩
        refine TW.at hS ?_
        refine TL.val (r_pickt (.t m3) (.t m0)) ?_
        refine TL.rm (.there (.there (.there (.there (.there (.there (.there (.there (.there (.there (.there (.there (.there (.there (.there (.there (.there (.there (.there (.there (.there (.there .here)))))))))))))))))))))) ?_
        refine TL.val (r_asg (.t m0)) ?_
        refine TL.sub (.hd (.tl (.tl (.tl (.tl (.tl (.tl (.tl (.tl (.tl (.tl (.tl (.tl (.tl (.tl (.tl (.tl (.tl (.tl (.tl (.tl (.tl .refl)))))))))))))))))))))) ?_
        refine TL.nil ?_
        refine EX.seq ?_
        refine CT.ret ?_
        exact EX.end_ (.inl rfl) (res1 Tryz.results10 m0) (fun _ hS => ⟨rfl, hS.nil⟩)
end Go.Eng
