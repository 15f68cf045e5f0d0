/- Parts of the proof of the card: Ji La -/
import Derived.Test.YtkpadembffdepaaGreatDoorK7
import Derived.Test.YtkpadembffdepaaGreatDoorK5
import Derived.Test.YtkpadembffdepaaGreatDoorK8
import Derived.Test.YtkpadembffdepaaGreatDoorK4
set_option maxRecDepth 100000
set_option maxHeartbeats 4000000
set_option linter.unusedVariables false
set_option linter.unusedSimpArgs false
namespace Go.Eng
open Go Go.Proofs Go.Infl
theorem t62o {ls : List Nat} {vl : Value} (hl : 0 < ls.length) (hls : ls.length ≤ 1024) (h15 : ∀ x ∈ ls, x ≤ 15) {G : World} {R : List HProp} {w : World} (hS : Sat G w (slc 1 vl ls.length (ls.map i64) :: R)) :
 CallsR Tryz.prog 62 #[vl] w (fun v w' => v = .int .i64 (32768 - ((kraft ls : Nat) : Int)) ∧ Sat G w' (slc 1 vl ls.length (ls.map i64) :: R)) := by
 obtain ⟨_, ⟨_, h0⟩ | ⟨b, c, rfl, hc⟩⟩ := hS.slc_shape (List.mem_cons_self ..)
 ·
  omega
 exact t62 _ ls b 0 c (fun hm hS j x hj => by rw [Nat.zero_add]; exact hS.slc_cell hm rfl (by rw [List.getElem?_map, hj]; rfl)) hls h15 hS
theorem t32 {G : World} (cv : Value) (hc : CodeOf G cv) {R : List HProp} {w : World} (hS : Sat G w (R)) :
 CallsR Tryz.prog 32 #[cv] w (fun v w' => ∃ (v1 v2 : Value) (bits : List Bool) (h : List Nat), v = .tuple #[v1, v2] ∧ Strm 0 bits [] (h, false) ∧ h.length ≤ 131072 ∧ bits.length ≤ 8589934592 ∧ Sat G w' (slc 1 v1 (pack bits).length ((pack bits).map u8) :: slc 1 v2 h.length (h.map u8) :: R)) := by
 refine calls_in (n := 121) [(0, cv)] Tryz.func32 rfl rfl hS args1 ?_
 refine CT.q (TL.val (r_asg .c) (TL.val (r_asg .c) (TL.q (TL.m m2 (TL.call (r_call ce_35 (.cons T0 .nil)) (fun w hS => t35 _ hc hS) ?_)))))
 rintro _ w16 ⟨b16, rfl, hS⟩
 refine TW.at hS (TL.a m0 (TL.r (.hd (.tl (.tl (.hd (.hd .u1))))) (TL.val (r_build (v := (.agg #[(.slice none 0 0), (.int .i64 0)])) .nil (fun _ => by kernel_rfl)) (TL.w (r_box (F := lst [(.slice none 0 0), (.int .i64 0)]) T0 rfl rfl lst_ok) ?_))))
 rintro _ w18 ⟨b18, rfl, hS⟩
 refine TW.at hS (TL.a m0 (TL.b (.hd .u2) (CT.seq (CT.conv (fun _ h => h.newWr) ?_))))
 refine CT.region (TL.m m1 (TL.m m1 (TL.perm p1 (TL.call (r_call ce_36 (.cons T1 (.cons T0 .nil))) (fun w hS => t36 b16 b18 0 (by decide) hS) ?_))))
 rintro v21 w21 ⟨h, b, hbk, hhl, hbl, hS⟩
 refine TW.at hS (TL.a m0 (TL.r (.hd .u3) (TL.m m2 (TL.m m1 (TL.val (r_lens Tryz.underlying22 T0 m0) (TL.perm p2 (TL.call (r_call ce_59 (.cons T2 (.cons T0 (.cons .c .nil)))) (fun w hS => t59 b16 h.length 12 (0 + 4294967296) (by omega) (by omega) (by omega) hS) ?_)))))))
 rintro v25 w25 ⟨its, itl, itok, hS⟩
 refine TW.at hS (TL.a m0 (TL.r (.hd .u4) (TL.m m0 (TL.call (r_call ce_60 (.cons T0 .nil)) (fun w hS => t60 v25 its _ itok (by omega) hS) ?_))))
 rintro _ w28 ⟨lb, db, l, d, rfl, hI, hS⟩
 refine TW.at hS ?_
 have hll := hI.ll; have hdl := hI.dl
 refine TL.m m0 (TL.val (r_ext T0) (TL.val (r_ext T1) (TL.a m1 (TL.a m1 (TL.r (.hd (.hd .u5)) (TL.m m5 (TL.m m2 (TL.perm p3 (TL.call (r_call ce_61 (.cons T1 (.cons T0 (.cons .c .nil)))) (fun w hS => t61' b16 lb 15 (0 + 4294967296 + 1 + 8 * 12) 286 l hll (by decide) (by decide) (by decide) (by decide) (by decide) (by omega) hS) ?_)))))))))
 rintro v33 w33 ⟨ol, ol_l, ol_le, ol_f, ol_n, hS⟩
 refine TW.at hS (TL.a m0 (TL.r (.hd (.tl (.tl (.tl (.hd .u1))))) (TL.m m5 (TL.m m2 (TL.perm p3 (TL.perm p3 (TL.call (r_call ce_61 (.cons T1 (.cons T0 (.cons .c .nil)))) (fun w hS => t61' b16 db 15 (0 + 4294967296 + 1 + 8 * 12 + 3 * 286) 30 d hdl (by decide) (by decide) (by decide) (by decide) (by decide) (by omega) hS) ?_)))))))
 rintro v36 w36 ⟨od, od_l, od_le, od_f, od_n, hS⟩
 refine TW.at hS (TL.a m0 (TL.r (.hd (.tl (.tl (.tl (.hd .u1))))) (TL.m m4 (TL.perm p7 (TL.call (r_call ce_37 (.cons T0 (.cons .c (.cons .c .nil)))) (fun w hS => t37 b18 5 3 b (by (try simp only [List.length_append, nbits_length, cbits_length, bits8_length, List.length_take, List.length_singleton, List.length_nil] at *); omega) (by omega) (by omega) hS) ?_)))))
 rintro _ w38 ⟨rfl, hS⟩
 refine TW.at hS (TL.b .u2 (CT.seq (CT.q (TL.m m5 (TL.perm p3 (TL.call (r_call ce_39 (.cons T0 (.cons .c .nil))) (fun w hS => t39 b16 3 (0 + 4294967296 + 1 + 8 * 12 + 3 * 286 + 3 * 30) (by omega) (by omega) hS) ?_))))))
 rintro _ w40 ⟨y40, rfl, y40_l, hS⟩
 refine TW.at hS (TL.val (n_eql y40 0 T0 .c) (TL.b (.hd .u2) (CT.ifd m0 (fun c41 => ?_) (fun c41 => ?_))))
 ·
  refine CT.y (TL.m m4 (TL.perm p1 (TL.call (r_call ce_37 (.cons T0 (.cons .c (.cons .c .nil)))) (fun w hS => t37 b18 29 5 (b ++ nbits 3 5) (by (try simp only [List.length_append, nbits_length, cbits_length, bits8_length, List.length_take, List.length_singleton, List.length_nil] at *); omega) (by omega) (by omega) hS) ?_)))
  rintro _ w43 ⟨rfl, hS⟩
  refine TW.at hS (TL.r .u2 (TL.m m4 (TL.call (r_call ce_37 (.cons T0 (.cons .c (.cons .c .nil)))) (fun w hS => t37 b18 29 5 ((b ++ nbits 3 5) ++ nbits 5 29) (by (try simp only [List.length_append, nbits_length, cbits_length, bits8_length, List.length_take, List.length_singleton, List.length_nil] at *); omega) (by omega) (by omega) hS) ?_)))
  rintro _ w45 ⟨rfl, hS⟩
  refine TW.at hS (TL.r .u2 (TL.m m4 (TL.m m6 (TL.perm p1 (TL.call (r_call ce_39 (.cons T0 (.cons .c .nil))) (fun w hS => t39 b16 15 (0 + 4294967296 + 1 + 8 * 12 + 3 * 286 + 3 * 30 + 1) (by omega) (by omega) hS) ?_)))))
  rintro _ w48 ⟨y48, rfl, y48_l, hS⟩
  refine TW.at hS (TL.val (n_add 1 y48 9223372036854775808 .c T0) (TL.perm p1 (TL.call (r_call ce_37 (.cons T3 (.cons T0 (.cons .c .nil)))) (fun w hS => t37 b18 ((1 + y48)) 4 (((b ++ nbits 3 5) ++ nbits 5 29) ++ nbits 5 29) (by (try simp only [List.length_append, nbits_length, cbits_length, bits8_length, List.length_take, List.length_singleton, List.length_nil] at *); omega) (by omega) (by omega) hS) ?_)))
  rintro _ w50 ⟨rfl, hS⟩
  refine TW.at hS (TL.b .u5 (CT.seq (CT.q (TL.val (r_move .c) (TL.e (CT.block (CT.fold (A' := (Rdr G b16 (0 + 4294967296 + 1 + 8 * 12 + 3 * 286 + 3 * 30 + 1 + 1 + 0))) a1 (Rdr_mono (by omega)) (CT.fold (A' := (Wr b18 ((((b ++ nbits 3 5) ++ nbits 5 29) ++ nbits 5 29) ++ nbits 4 ((1 + y48)) ++ []))) a0 (Wr_eq (by simp only [List.append_nil])) (CT.perm p2 (CT.conv (fun _ h => h.tail) ?_))))))))))
  refine CT.perm p2 (CT.conv (fun _ h => h.tail) ?_)
  refine CT.perm p2 (CT.conv (fun _ h => h.tail) ?_)
  refine CT.perm p2 (CT.conv (fun _ h => h.tail) ?_)
  refine CT.perm p2 (CT.conv (fun _ h => h.tail) ?_)
  refine CT.loop (X := Nat × List Bool) (fun gx => [(51, (i64 gx.1)), (6, v21), (5, (pt b18 0)), (4, (pt b16 0)), (3, (.slice none 0 0)), (2, (.slice none 0 0))]) (fun gx => (Wr b18 ((((b ++ nbits 3 5) ++ nbits 5 29) ++ nbits 5 29) ++ nbits 4 ((1 + y48)) ++ gx.2)) :: Rdr G b16 (0 + 4294967296 + 1 + 8 * 12 + 3 * 286 + 3 * 30 + 1 + 1 + gx.1) :: slc 1 v21 h.length (h.map u8) :: R) (fun gx => gx.1 ≤ 19 ∧ OwnX (5 + y48) gx.1 gx.2 ∧ (gx.2).length ≤ 3 * gx.1) (fun gx => 19 - gx.1) ((0, [])) (⟨Nat.zero_le _, .start, Nat.zero_le _⟩) (.refl _) (.cons m0 (.sl 4 5 rfl)) ?_
  rintro ⟨k, x⟩ ⟨hI1, hx, hxl⟩
  replace hI1 : k ≤ 19 := hI1
  replace hx : OwnX (5 + y48) k x := hx
  replace hxl : x.length ≤ 3 * k := hxl
  refine CT.q (TL.val (n_lss k 19 T0 .c) (TL.e (CT.seq (CT.ifd m0 (fun c52 => ?_) (fun c52 => ?_)))))
  ·
   refine CT.z (EX.seq (CT.seq (CT.block (CT.region (TL.m m2 (TL.m m4 (TL.perm p1 (TL.call (r_call ce_39 (.cons T0 (.cons .c .nil))) (fun w hS => t39 b16 2 (0 + 4294967296 + 1 + 8 * 12 + 3 * 286 + 3 * 30 + 1 + 1 + k) (by omega) (by omega) hS) ?_))))))))
   rintro _ w55 ⟨y55, rfl, y55_l, hS⟩
   refine TW.at hS (TL.val (n_add 1 y55 9223372036854775808 .c T0) (TL.perm p1 (TL.call (r_call ce_37 (.cons T3 (.cons T0 (.cons .c .nil)))) (fun w hS => t37 b18 ((1 + y55)) 3 ((((b ++ nbits 3 5) ++ nbits 5 29) ++ nbits 5 29) ++ nbits 4 ((1 + y48)) ++ x) (by (try simp only [List.length_append, nbits_length, cbits_length, bits8_length, List.length_take, List.length_singleton, List.length_nil] at *); omega) (by omega) (by omega) hS) ?_)))
   rintro _ w57 ⟨rfl, hS⟩
   exact TW.at hS (TL.x .u5 (EX.bnormal (EX.seq (CT.region (TL.val (n_add k 1 9223372036854775808 T0 .c) (TL.rm .h1 (TL.m m0 (TL.x (.hd .u1) (EX.fold (A' := (Wr b18 ((((b ++ nbits 3 5) ++ nbits 5 29) ++ nbits 5 29) ++ nbits 4 ((1 + y48)) ++ (x ++ nbits 3 (1 + y55))))) a0 (Wr_eq (by simp only [List.append_assoc])) (EX.fold (A' := (Rdr G b16 (0 + 4294967296 + 1 + 8 * 12 + 3 * 286 + 3 * 30 + 1 + 1 + (k + 1)))) a1 (Rdr_mono (by omega)) (EX.again ((k + 1, x ++ nbits 3 (1 + y55))) (⟨(show k + 1 ≤ 19 by omega), hx.step (by omega) (by omega) (by omega), (by show (x ++ nbits 3 (1 + y55)).length ≤ 3 * (k + 1); rw [List.length_append, nbits_length]; omega)⟩) (by show 19 - (k + 1) < 19 - k; omega) (.refl _) (.eq m0 (by first | rfl | (congr 1 <;> omega)) (.sl 1 5 rfl)))))))))))))
  refine CT.sub .u1 (CT.exit (EX.then_exit (EX.then_exit (EX.out (EX.q (TL.m m2 (TL.m m4 (TL.perm p1 (TL.call (r_call ce_39 (.cons T0 (.cons .c .nil))) (fun w hS => t39 b16 256 (0 + 4294967296 + 1 + 8 * 12 + 3 * 286 + 3 * 30 + 1 + 1 + k) (by omega) (by omega) hS) ?_)))))))))
  rintro _ w61 ⟨y61, rfl, y61_l, hS⟩
  refine TW.at hS (TL.perm p1 (TL.call (r_call ce_37 (.cons T2 (.cons T0 (.cons .c .nil)))) (fun w hS => t37 b18 y61 8 ((((b ++ nbits 3 5) ++ nbits 5 29) ++ nbits 5 29) ++ nbits 4 ((1 + y48)) ++ x) (by (try simp only [List.length_append, nbits_length, cbits_length, bits8_length, List.length_take, List.length_singleton, List.length_nil] at *); omega) (by omega) (by omega) hS) ?_))
  rintro _ w62 ⟨rfl, hS⟩
  refine TW.at hS (TL.b .u4 (CT.seq ?_))
  obtain rfl : k = 19 := by omega
  refine CT.fold (A' := (Wr b18 (b ++ (nbits 3 5 ++ (nbits 5 29 ++ (nbits 5 29 ++ (nbits 4 (1 + y48) ++ (x ++ nbits 8 y61)))))))) a0 (Wr_eq (by simp only [List.append_assoc])) (CT.wr ?_)
  intro vs
  refine CT.region (TL.m m2 (TL.c m0 (TL.f 0 fo_39_0 m0 (TL.val (r_ld (v := vs) Tryz.isAgg22 m0 T0 (by decide) rfl) (TL.m m5 (TL.rm .h10 (TL.a m1 (TL.rm .h10 (TL.a m1 (TL.b (.hd (.hd .u5)) (CT.ret (EX.then_ret (EX.perm p3 (EX.perm p2 (EX.perm p2 (EX.conv (fun _ h => h.tail) ?_))))))))))))))))
  refine EX.perm p2 (EX.conv (fun _ h => h.tail) ?_)
  exact EX.perm p1 (EX.perm p1 (EX.end_ (.inl rfl) (res2 Tryz.results32 m1 m0) (fun _ hS => ⟨vs, v21, (b ++ (nbits 3 5 ++ (nbits 5 29 ++ (nbits 5 29 ++ (nbits 4 (1 + y48) ++ (x ++ nbits 8 y61)))))), h, rfl, ⟨b, _, h, rfl, hbk, .inr ⟨rfl, hx.bad (by omega)⟩⟩, by omega, by (try simp only [List.length_append, nbits_length, cbits_length, bits8_length, List.length_take, List.length_singleton, List.length_nil] at *); omega, hS⟩)))
 refine CT.z (EX.q (TL.m m1 (TL.a m0 (TL.b (.hd .u1) (CT.seq (CT.q (TL.m m6 (TL.call (r_call ce_39 (.cons T0 (.cons .c .nil))) (fun w hS => t39 b16 2 (0 + 4294967296 + 1 + 8 * 12 + 3 * 286 + 3 * 30 + 1) (by omega) (by omega) hS) ?_))))))))
 rintro _ w70 ⟨y70, rfl, y70_l, hS⟩
 refine TW.at hS (TL.val (n_eql y70 0 T0 .c) (TL.b (.hd .u2) (CT.ifd m0 (fun c71 => ?_) (fun c71 => ?_))))
 ·
  refine CT.sub .u1 (CT.region (TL.m m1 (TL.rm .h1 (TL.a m0 (TL.b (.hd .u1) (CT.perm p2 (CT.open1 (by omega) ?_)))))))
  rintro wb wb_c wb_F rfl wb_k wb_l wb_h
  refine CT.fold (A' := (blk wb wb_c (ovf od wb_F))) a0 (blk_eq rfl (ovf_open wb_h)) (CT.cut (X := List Nat) (fun gx => [(12, (.slice (some ⟨wb, 0, none⟩) od.length wb_c)), (11, (.slice (some ⟨wb, 0, none⟩) od.length wb_c)), (10, v33), (7, v25), (6, v21), (5, (pt b18 0)), (4, (pt b16 0)), (3, (.slice none 0 0)), (2, (.slice none 0 0))]) (fun gx => (slc 1 (.slice (some ⟨wb, 0, none⟩) od.length wb_c) ((gx).length) ((gx).map i64)) :: Rdr G b16 (0 + 4294967296 + 1 + 8 * 12 + 3 * 286 + 3 * 30 + 1 + 1 + 1) :: Wr b18 (b ++ nbits 3 5) :: slc 1 v33 ol.length (ol.map i64) :: slc 3 v25 its.length (itC its) :: slc 1 v21 h.length (h.map u8) :: R) (fun gx => (gx).length = od.length ∧ (∀ x ∈ gx, x ≤ 15) ∧ Over gx ∧ ∀ i, 1 ≤ od.getD i 0 → 1 ≤ (gx).getD i 0) ?_ ?_)
  ·
   refine CT.q (TL.m m0 (TL.val (r_len Tryz.underlying42 T0) (TL.val (r_move .c) (TL.e (CT.block (CT.perm p3 (CT.conv (fun _ h => h.tail) ?_)))))))
   refine CT.perm p4 (CT.conv (fun _ h => h.tail) ?_)
   refine CT.loop (X := Nat) (fun gx => [(75, (i64 gx)), (74, (i64 od.length)), (73, (.slice (some ⟨wb, 0, none⟩) od.length wb_c)), (12, (.slice (some ⟨wb, 0, none⟩) od.length wb_c)), (11, (.slice (some ⟨wb, 0, none⟩) od.length wb_c)), (10, v33), (7, v25), (6, v21), (5, (pt b18 0)), (4, (pt b16 0)), (3, (.slice none 0 0)), (2, (.slice none 0 0))]) (fun gx => (blk wb wb_c (ovf od wb_F)) :: Rdr G b16 (0 + 4294967296 + 1 + 8 * 12 + 3 * 286 + 3 * 30 + 1 + 1) :: Wr b18 (b ++ nbits 3 5) :: slc 1 v33 ol.length (ol.map i64) :: slc 3 v25 its.length (itC its) :: slc 1 v21 h.length (h.map u8) :: R) (fun gx => gx ≤ od.length ∧ ∀ j, j < gx → od.getD j 0 = 1) (fun gx => od.length - gx) 0 (⟨Nat.zero_le _, fun j hj => by omega⟩) (.refl _) (.sl 0 12 rfl) ?_
   rintro i ⟨hi, hone⟩
   replace hi : i ≤ od.length := hi
   replace hone : ∀ j, j < i → od.getD j 0 = 1 := hone
   refine CT.q (TL.val (n_lss i od.length T0 T1) (TL.e (CT.seq (CT.ifd m0 (fun c76 => ?_) (fun c76 => ?_)))))
   ·
    refine CT.z (EX.seq (CT.seq (CT.block (CT.seq ?_))))
    obtain ⟨x1, hx1⟩ : ∃ x1, od[i]? = some x1 := ⟨_, List.getElem?_eq_getElem c76⟩
    have hx15 := od_le x1 (List.mem_of_getElem? hx1)
    refine CT.region (TL.m m0 (TL.val (r_ia (i := i) (off' := i) Tryz.underlying42 Tryz.sizeOf3 T3 T1 rfl (by omega) (by omega)) (TL.val (r_ld (v := (i64 x1)) Tryz.isAgg3 m0 T0 (by omega) (ovf_get hx1)) (TL.a m2 (TL.a m1 (TL.b (.hd (.hd .u3)) (CT.seq (CT.q (TL.m m0 (TL.val (n_gtr x1 1 T0 .c) (TL.b (.hd .u1) (CT.ifd m0 (fun c81 => ?_) (fun c81 => ?_)))))))))))))
    ·
     refine CT.y (TL.m m5 (TL.m m2 (TL.val (r_ia (i := i) (off' := i) Tryz.underlying42 Tryz.sizeOf3 T1 T0 rfl (by omega) (by omega)) (TL.val (r_ld (v := (i64 x1)) Tryz.isAgg3 m0 T0 (by omega) (ovf_get hx1)) (TL.val (n_sub x1 1 9223372036854775808 T0 .c) (TL.val (r_ia (i := i) (off' := i) Tryz.underlying42 Tryz.sizeOf3 T4 T3 rfl (by omega) (by omega)) (TL.s (r_st (F' := ovf ((od).set i (x1 - 1)) wb_F) Tryz.sizeOf3 (ovf_upd (by omega)) a0 T0 T1 (by omega)) (TL.b .u6 (CT.exit (EX.then_exit (EX.past ?_)))))))))))
     exact EX.then_exit (EX.then_exit (EX.out (EX.fold (A' := (slc 1 (.slice (some ⟨wb, 0, none⟩) od.length wb_c) ((od.set i (x1 - 1)).length) ((od.set i (x1 - 1)).map i64))) a0 (fun m h => slc_eq (by rw [List.length_set]) rfl m (mk_slc1 (k := od.length) (by rw [List.length_map, List.length_set]) wb_k ovf_slc m h)) (EX.fold (A' := (Rdr G b16 (0 + 4294967296 + 1 + 8 * 12 + 3 * 286 + 3 * 30 + 1 + 1 + 1))) a1 (Rdr_mono (by omega)) (EX.meet (od.set i (x1 - 1)) (⟨List.length_set, fun y hy => (List.mem_or_eq_of_mem_set hy).elim (od_le y) (fun e => by omega), over_dec od_f od_le hx1 c81, fun j hj => set_ge (by omega) hj⟩) (.refl _) (.sl 5 9 rfl))))))
    refine CT.z (EX.q (TL.m m0 (TL.val (n_eql x1 0 T0 .c) (TL.b (.hd .u1) (CT.ifd m0 (fun c89 => ?_) (fun c89 => ?_))))))
    ·
     refine CT.y (TL.m m5 (TL.m m2 (TL.m m13 (TL.perm p1 (TL.call (r_call ce_39 (.cons T0 (.cons .c .nil))) (fun w hS => t39 b16 15 (0 + 4294967296 + 1 + 8 * 12 + 3 * 286 + 3 * 30 + 1 + 1) (by omega) (by omega) hS) ?_)))))
     rintro _ w93 ⟨y93, rfl, y93_l, hS⟩
     refine TW.at hS (TL.val (n_add 1 y93 9223372036854775808 .c T0) (TL.val (r_ia (i := i) (off' := i) Tryz.underlying42 Tryz.sizeOf3 T4 T3 rfl (by omega) (by omega)) (TL.s (r_st (F' := ovf ((od).set i (1 + y93)) wb_F) Tryz.sizeOf3 (ovf_upd (by omega)) a1 T0 T1 (by omega)) (TL.b .u6 (CT.exit (EX.past ?_))))))
     exact EX.then_exit (EX.then_exit (EX.out (EX.fold (A' := (slc 1 (.slice (some ⟨wb, 0, none⟩) od.length wb_c) ((od.set i (1 + y93)).length) ((od.set i (1 + y93)).map i64))) a1 (fun m h => slc_eq (by rw [List.length_set]) rfl m (mk_slc1 (k := od.length) (by rw [List.length_map, List.length_set]) wb_k ovf_slc m h)) (EX.perm p5 (EX.perm p5 (EX.perm p5 (EX.perm p5 (EX.perm p4 (EX.perm p5 (EX.meet (od.set i (1 + y93)) (⟨List.length_set, fun y hy => (List.mem_or_eq_of_mem_set hy).elim (od_le y) (fun e => by omega), over_new od_f od_le (by rw [hx1, c89]) (by omega) (by omega), fun j hj => set_ge (by omega) hj⟩) (.refl _) (.sl 5 9 rfl)))))))))))
    exact CT.z (EX.bnormal (EX.seq (CT.region (TL.val (n_add i 1 9223372036854775808 T2 .c) (TL.rm .h3 (TL.m m0 (TL.x (.hd .u1) (EX.again (i + 1) (⟨by omega, fun j hj => by rcases Nat.lt_succ_iff_lt_or_eq.1 hj with h | rfl; exact hone j h; rw [List.getD_eq_getElem?_getD, hx1]; show x1 = 1; omega⟩) (by omega) (.refl _) (.eq m0 (by first | rfl | (congr 1 <;> omega)) (.sl 3 11 rfl))))))))))
   exact absurd (not_ones od_f od_le (by omega) (fun j hj => hone j (by omega))) id
  rintro m ⟨hml, hm15, hmo, hmk⟩
  replace hml : m.length = od.length := hml
  replace hm15 : ∀ x ∈ m, x ≤ 15 := hm15
  replace hmo : Over m := hmo
  replace hmk : ∀ i, 1 ≤ od.getD i 0 → 1 ≤ m.getD i 0 := hmk
  refine CT.seq (CT.q (TL.m m0 ?_))
  have hov := Over.kraft hmo hm15
  refine TL.call (r_call ce_62 (.cons T0 .nil)) (fun w hS => t62o (ls := m) (by omega) (by omega) hm15 hS) ?_
  rintro _ w98 ⟨rfl, hS⟩
  refine TW.at hS (TL.val (r_geq T0 .c) (TL.b (.hd .u2) (CT.ifd m0 (fun c99 => ?_) (fun c99 => ?_))))
  ·
   exfalso; omega
  refine CT.z (EX.seq (CT.seq ?_))
  have h15 : ∀ x ∈ ol ++ m, x ≤ 15 := fun x hx => (List.mem_append.1 hx).elim (ol_le x) (hm15 x)
  have h256 : LOk ol 256 := lok_mk (ol_n _ hI.eob) ol_le
  have hneed : ∀ x ∈ its, Needs ol m x := hI.needs (fun i hi => lok_mk (ol_n i hi) ol_le) (.inr fun i hi => lok_mk (hmk _ (od_n i hi)) hm15)
  refine CT.region (TL.m m5 (TL.m m7 (TL.m m4 (TL.m m4 (TL.perm p1 (TL.perm p1 (TL.perm p3 (TL.perm p3 (TL.call (r_call ce_63 (.cons T3 (.cons T2 (.cons T1 (.cons T0 .nil))))) (fun w hS => t63 b18 b16 (0 + 4294967296 + 1 + 8 * 12 + 3 * 286 + 3 * 30 + 1 + 1 + 1) v33 (.slice (some ⟨wb, 0, none⟩) od.length wb_c) ol (m) (b ++ nbits 3 5) (by omega) (by omega) (by omega) (by omega) h15 h256 (by (try simp only [List.length_append, nbits_length, cbits_length, bits8_length, List.length_take, List.length_singleton, List.length_nil] at *); omega) (by omega) hS) ?_)))))))))
  rintro _ w110 ⟨rfl, hb, htold, hbl3, hS⟩
  refine TW.at hS (TL.r .u5 (TL.m m5 (TL.m m4 (TL.m m4 (TL.m m4 (TL.perm p2 (TL.perm p2 (TL.perm p4 (TL.perm p3 (TL.call (r_call ce_64 (.cons T3 (.cons T2 (.cons T1 (.cons T0 .nil))))) (fun w hS => t64 b18 v25 v33 (.slice (some ⟨wb, 0, none⟩) od.length wb_c) its ol (m) ((b ++ nbits 3 5) ++ hb) _ itok (by omega) (by omega) (by omega) (by omega) h256 hneed (by (try simp only [List.length_append, nbits_length, cbits_length, bits8_length, List.length_take, List.length_singleton, List.length_nil] at *); omega) hS) ?_))))))))))
  rintro _ w115 ⟨rfl, b2, -, hbl2, hS⟩
  refine TW.at hS (TL.b .u5 (CT.seq (CT.fold (A' := (Wr b18 (b ++ (nbits 3 5 ++ (hb ++ b2))))) a0 (Wr_eq (by simp only [List.append_assoc])) (CT.wr ?_))))
  intro vs
  refine CT.region (TL.m m5 (TL.c m0 (TL.f 0 fo_39_0 m0 (TL.val (r_ld (v := vs) Tryz.isAgg22 m0 T0 (by decide) rfl) (TL.m m8 (TL.rm .h13 (TL.a m1 (TL.rm .h13 (TL.a m1 (TL.b (.hd (.hd .u5)) (CT.ret (EX.perm p6 (EX.perm p2 (EX.perm p2 (EX.conv (fun _ h => h.tail) ?_)))))))))))))))
  refine EX.perm p2 (EX.conv (fun _ h => h.tail) ?_)
  refine EX.perm p2 (EX.conv (fun _ h => h.tail) ?_)
  refine EX.perm p2 (EX.conv (fun _ h => h.tail) ?_)
  refine EX.perm p2 (EX.conv (fun _ h => h.tail) ?_)
  exact EX.perm p1 (EX.perm p1 (EX.end_ (.inl rfl) (res2 Tryz.results32 m1 m0) (fun _ hS => ⟨vs, v21, (b ++ (nbits 3 5 ++ (hb ++ b2))), h, rfl, ⟨b, _, h, rfl, hbk, .inr ⟨rfl, .over (f := true) htold (.inr ⟨ol_f, hmo⟩)⟩⟩, by omega, by (try simp only [List.length_append, nbits_length, cbits_length, bits8_length, List.length_take, List.length_singleton, List.length_nil] at *); omega, hS⟩)))
 refine CT.z (EX.seq (CT.perm p4 (CT.open1 (by omega) ?_)))
 rintro wb wb_c wb_F rfl wb_k wb_l wb_h
 refine CT.fold (A' := (blk wb wb_c (ovf ol wb_F))) a0 (blk_eq rfl (ovf_open wb_h)) (CT.cut (X := List Nat) (fun gx => [(12, (.slice (some ⟨wb, 0, none⟩) ol.length wb_c)), (11, v36), (10, (.slice (some ⟨wb, 0, none⟩) ol.length wb_c)), (7, v25), (6, v21), (5, (pt b18 0)), (4, (pt b16 0)), (3, (.slice none 0 0)), (2, (.slice none 0 0))]) (fun gx => (slc 1 (.slice (some ⟨wb, 0, none⟩) ol.length wb_c) ((gx).length) ((gx).map i64)) :: Rdr G b16 (0 + 4294967296 + 1 + 8 * 12 + 3 * 286 + 3 * 30 + 1 + 1 + 1) :: Wr b18 (b ++ nbits 3 5) :: slc 1 v36 od.length (od.map i64) :: slc 3 v25 its.length (itC its) :: slc 1 v21 h.length (h.map u8) :: R) (fun gx => (gx).length = ol.length ∧ (∀ x ∈ gx, x ≤ 15) ∧ Over gx ∧ ∀ i, 1 ≤ ol.getD i 0 → 1 ≤ (gx).getD i 0) ?_ ?_)
 ·
  refine CT.q (TL.m m0 (TL.val (r_len Tryz.underlying42 T0) (TL.val (r_move .c) (TL.e (CT.block (CT.perm p4 (CT.conv (fun _ h => h.tail) ?_)))))))
  refine CT.perm p4 (CT.conv (fun _ h => h.tail) ?_)
  refine CT.loop (X := Nat) (fun gx => [(75, (i64 gx)), (74, (i64 ol.length)), (73, (.slice (some ⟨wb, 0, none⟩) ol.length wb_c)), (12, (.slice (some ⟨wb, 0, none⟩) ol.length wb_c)), (11, v36), (10, (.slice (some ⟨wb, 0, none⟩) ol.length wb_c)), (7, v25), (6, v21), (5, (pt b18 0)), (4, (pt b16 0)), (3, (.slice none 0 0)), (2, (.slice none 0 0))]) (fun gx => (blk wb wb_c (ovf ol wb_F)) :: Rdr G b16 (0 + 4294967296 + 1 + 8 * 12 + 3 * 286 + 3 * 30 + 1 + 1) :: Wr b18 (b ++ nbits 3 5) :: slc 1 v36 od.length (od.map i64) :: slc 3 v25 its.length (itC its) :: slc 1 v21 h.length (h.map u8) :: R) (fun gx => gx ≤ ol.length ∧ ∀ j, j < gx → ol.getD j 0 = 1) (fun gx => ol.length - gx) 0 (⟨Nat.zero_le _, fun j hj => by omega⟩) (.refl _) (.sl 0 12 rfl) ?_
  rintro i ⟨hi, hone⟩
  replace hi : i ≤ ol.length := hi
  replace hone : ∀ j, j < i → ol.getD j 0 = 1 := hone
  refine CT.q (TL.val (n_lss i ol.length T0 T1) (TL.e (CT.seq (CT.ifd m0 (fun c76 => ?_) (fun c76 => ?_)))))
  ·
   refine CT.z (EX.seq (CT.seq (CT.block (CT.seq ?_))))
   obtain ⟨x1, hx1⟩ : ∃ x1, ol[i]? = some x1 := ⟨_, List.getElem?_eq_getElem c76⟩
   have hx15 := ol_le x1 (List.mem_of_getElem? hx1)
   refine CT.region (TL.m m0 (TL.val (r_ia (i := i) (off' := i) Tryz.underlying42 Tryz.sizeOf3 T3 T1 rfl (by omega) (by omega)) (TL.val (r_ld (v := (i64 x1)) Tryz.isAgg3 m0 T0 (by omega) (ovf_get hx1)) (TL.a m2 (TL.a m1 (TL.b (.hd (.hd .u3)) (CT.seq (CT.q (TL.m m0 (TL.val (n_gtr x1 1 T0 .c) (TL.b (.hd .u1) (CT.ifd m0 (fun c81 => ?_) (fun c81 => ?_)))))))))))))
   ·
    refine CT.y (TL.m m5 (TL.m m2 (TL.val (r_ia (i := i) (off' := i) Tryz.underlying42 Tryz.sizeOf3 T1 T0 rfl (by omega) (by omega)) (TL.val (r_ld (v := (i64 x1)) Tryz.isAgg3 m0 T0 (by omega) (ovf_get hx1)) (TL.val (n_sub x1 1 9223372036854775808 T0 .c) (TL.val (r_ia (i := i) (off' := i) Tryz.underlying42 Tryz.sizeOf3 T4 T3 rfl (by omega) (by omega)) (TL.s (r_st (F' := ovf ((ol).set i (x1 - 1)) wb_F) Tryz.sizeOf3 (ovf_upd (by omega)) a0 T0 T1 (by omega)) (TL.b .u6 (CT.exit (EX.then_exit (EX.past ?_)))))))))))
    exact EX.then_exit (EX.then_exit (EX.out (EX.fold (A' := (slc 1 (.slice (some ⟨wb, 0, none⟩) ol.length wb_c) ((ol.set i (x1 - 1)).length) ((ol.set i (x1 - 1)).map i64))) a0 (fun m h => slc_eq (by rw [List.length_set]) rfl m (mk_slc1 (k := ol.length) (by rw [List.length_map, List.length_set]) wb_k ovf_slc m h)) (EX.fold (A' := (Rdr G b16 (0 + 4294967296 + 1 + 8 * 12 + 3 * 286 + 3 * 30 + 1 + 1 + 1))) a1 (Rdr_mono (by omega)) (EX.meet (ol.set i (x1 - 1)) (⟨List.length_set, fun y hy => (List.mem_or_eq_of_mem_set hy).elim (ol_le y) (fun e => by omega), over_dec ol_f ol_le hx1 c81, fun j hj => set_ge (by omega) hj⟩) (.refl _) (.sl 5 9 rfl))))))
   refine CT.z (EX.q (TL.m m0 (TL.val (n_eql x1 0 T0 .c) (TL.b (.hd .u1) (CT.ifd m0 (fun c89 => ?_) (fun c89 => ?_))))))
   ·
    refine CT.y (TL.m m5 (TL.m m2 (TL.m m13 (TL.perm p1 (TL.call (r_call ce_39 (.cons T0 (.cons .c .nil))) (fun w hS => t39 b16 15 (0 + 4294967296 + 1 + 8 * 12 + 3 * 286 + 3 * 30 + 1 + 1) (by omega) (by omega) hS) ?_)))))
    rintro _ w93 ⟨y93, rfl, y93_l, hS⟩
    refine TW.at hS (TL.val (n_add 1 y93 9223372036854775808 .c T0) (TL.val (r_ia (i := i) (off' := i) Tryz.underlying42 Tryz.sizeOf3 T4 T3 rfl (by omega) (by omega)) (TL.s (r_st (F' := ovf ((ol).set i (1 + y93)) wb_F) Tryz.sizeOf3 (ovf_upd (by omega)) a1 T0 T1 (by omega)) (TL.b .u6 (CT.exit (EX.past ?_))))))
    exact EX.then_exit (EX.then_exit (EX.out (EX.fold (A' := (slc 1 (.slice (some ⟨wb, 0, none⟩) ol.length wb_c) ((ol.set i (1 + y93)).length) ((ol.set i (1 + y93)).map i64))) a1 (fun m h => slc_eq (by rw [List.length_set]) rfl m (mk_slc1 (k := ol.length) (by rw [List.length_map, List.length_set]) wb_k ovf_slc m h)) (EX.perm p5 (EX.perm p5 (EX.perm p5 (EX.perm p5 (EX.perm p4 (EX.perm p5 (EX.meet (ol.set i (1 + y93)) (⟨List.length_set, fun y hy => (List.mem_or_eq_of_mem_set hy).elim (ol_le y) (fun e => by omega), over_new ol_f ol_le (by rw [hx1, c89]) (by omega) (by omega), fun j hj => set_ge (by omega) hj⟩) (.refl _) (.sl 5 9 rfl)))))))))))
   exact CT.z (EX.bnormal (EX.seq (CT.region (TL.val (n_add i 1 9223372036854775808 T2 .c) (TL.rm .h3 (TL.m m0 (TL.x (.hd .u1) (EX.again (i + 1) (⟨by omega, fun j hj => by rcases Nat.lt_succ_iff_lt_or_eq.1 hj with h | rfl; exact hone j h; rw [List.getD_eq_getElem?_getD, hx1]; show x1 = 1; omega⟩) (by omega) (.refl _) (.eq m0 (by first | rfl | (congr 1 <;> omega)) (.sl 3 11 rfl))))))))))
  exact absurd (not_ones ol_f ol_le (by omega) (fun j hj => hone j (by omega))) id
 rintro m ⟨hml, hm15, hmo, hmk⟩
 replace hml : m.length = ol.length := hml
 replace hm15 : ∀ x ∈ m, x ≤ 15 := hm15
 replace hmo : Over m := hmo
 replace hmk : ∀ i, 1 ≤ ol.getD i 0 → 1 ≤ m.getD i 0 := hmk
 refine CT.seq (CT.q (TL.m m0 ?_))
 have hov := Over.kraft hmo hm15
 refine TL.call (r_call ce_62 (.cons T0 .nil)) (fun w hS => t62o (ls := m) (by omega) (by omega) hm15 hS) ?_
 rintro _ w98 ⟨rfl, hS⟩
 refine TW.at hS (TL.val (r_geq T0 .c) (TL.b (.hd .u2) (CT.ifd m0 (fun c99 => ?_) (fun c99 => ?_))))
 ·
  exfalso; omega
 refine CT.z (EX.seq (CT.seq ?_))
 have h15 : ∀ x ∈ m ++ od, x ≤ 15 := fun x hx => (List.mem_append.1 hx).elim (hm15 x) (od_le x)
 have h256 : LOk m 256 := lok_mk (hmk _ (ol_n _ hI.eob)) hm15
 have hneed : ∀ x ∈ its, Needs m od x := hI.needs (fun i hi => lok_mk (hmk _ (ol_n i hi)) hm15) (.inr fun i hi => lok_mk (od_n i hi) od_le)
 refine CT.region (TL.m m5 (TL.m m7 (TL.m m4 (TL.m m4 (TL.perm p1 (TL.perm p3 (TL.perm p2 (TL.perm p3 (TL.call (r_call ce_63 (.cons T3 (.cons T2 (.cons T1 (.cons T0 .nil))))) (fun w hS => t63 b18 b16 (0 + 4294967296 + 1 + 8 * 12 + 3 * 286 + 3 * 30 + 1 + 1 + 1) (.slice (some ⟨wb, 0, none⟩) ol.length wb_c) v36 (m) od (b ++ nbits 3 5) (by omega) (by omega) (by omega) (by omega) h15 h256 (by (try simp only [List.length_append, nbits_length, cbits_length, bits8_length, List.length_take, List.length_singleton, List.length_nil] at *); omega) (by omega) hS) ?_)))))))))
 rintro _ w110 ⟨rfl, hb, htold, hbl3, hS⟩
 refine TW.at hS (TL.r .u5 (TL.m m5 (TL.m m4 (TL.m m4 (TL.m m4 (TL.perm p2 (TL.perm p2 (TL.perm p4 (TL.perm p3 (TL.call (r_call ce_64 (.cons T3 (.cons T2 (.cons T1 (.cons T0 .nil))))) (fun w hS => t64 b18 v25 (.slice (some ⟨wb, 0, none⟩) ol.length wb_c) v36 its (m) od ((b ++ nbits 3 5) ++ hb) _ itok (by omega) (by omega) (by omega) (by omega) h256 hneed (by (try simp only [List.length_append, nbits_length, cbits_length, bits8_length, List.length_take, List.length_singleton, List.length_nil] at *); omega) hS) ?_))))))))))
 rintro _ w115 ⟨rfl, b2, -, hbl2, hS⟩
 refine TW.at hS (TL.b .u5 (CT.seq (CT.fold (A' := (Wr b18 (b ++ (nbits 3 5 ++ (hb ++ b2))))) a0 (Wr_eq (by simp only [List.append_assoc])) (CT.wr ?_))))
 intro vs
 refine CT.region (TL.m m5 (TL.c m0 (TL.f 0 fo_39_0 m0 (TL.val (r_ld (v := vs) Tryz.isAgg22 m0 T0 (by decide) rfl) (TL.m m8 (TL.rm .h13 (TL.a m1 (TL.rm .h13 (TL.a m1 (TL.b (.hd (.hd .u5)) (CT.ret (EX.perm p6 (EX.perm p2 (EX.perm p2 (EX.conv (fun _ h => h.tail) ?_)))))))))))))))
 refine EX.perm p2 (EX.conv (fun _ h => h.tail) ?_)
 refine EX.perm p2 (EX.conv (fun _ h => h.tail) ?_)
 refine EX.perm p2 (EX.conv (fun _ h => h.tail) ?_)
 refine EX.perm p2 (EX.conv (fun _ h => h.tail) ?_)
 exact EX.perm p1 (EX.perm p1 (EX.end_ (.inl rfl) (res2 Tryz.results32 m1 m0) (fun _ hS => ⟨vs, v21, (b ++ (nbits 3 5 ++ (hb ++ b2))), h, rfl, ⟨b, _, h, rfl, hbk, .inr ⟨rfl, .over (f := true) htold (.inl hmo)⟩⟩, by omega, by (try simp only [List.length_append, nbits_length, cbits_length, bits8_length, List.length_take, List.length_singleton, List.length_nil] at *); omega, hS⟩)))
end Go.Eng
namespace Go.Eng
open Go Go.Proofs Go.Infl
theorem exw1 {p : Program} {f : FuncId} {a : Array Value} {w : World} {P : World → Prop} (h : CallsR p f a w (fun v w' => ∃ (c : Nat), v = i64 c ∧ (false = true ∧ c = 1 ∨ false = false ∧ c = 2) ∧ P w')) :
 CallsR p f a w (fun v w' => v = i64 2 ∧ P w') := by
 refine CallsR.mono h ?_
 rintro v w' ⟨c, e, hc, hS⟩
 rcases hc with ⟨h, _⟩ | ⟨_, rfl⟩
 ·
  cases h
 exact ⟨e, hS⟩
theorem exw2 {p : Program} {f : FuncId} {a : Array Value} {w : World} {P : Value → World → Prop} (h : CallsR p f a w (fun v w' => ∃ (v1 : Value) (c : Nat), v = .tuple #[v1, i64 c] ∧ (false = true ∧ c = 1 ∨ false = false ∧ c = 3) ∧ P v1 w')) :
 CallsR p f a w (fun v w' => ∃ (v1 : Value), v = .tuple #[v1, i64 3] ∧ P v1 w') := by
 refine CallsR.mono h ?_
 rintro v w' ⟨v1, c, e, hc, hS⟩
 rcases hc with ⟨h, _⟩ | ⟨_, rfl⟩
 ·
  cases h
 exact ⟨v1, e, hS⟩
theorem exg3 {p : Program} {f : FuncId} {a : Array Value} {w : World} {P : Value → World → Prop} (h : CallsR p f a w (fun v w' => ∃ (v1 : Value) (c u : Nat), v = .tuple #[v1, i64 c, i64 u] ∧ (true = true ∧ c = 1 ∨ true = false ∧ c = 2) ∧ P v1 w')) :
 CallsR p f a w (fun v w' => ∃ (v1 : Value) (u : Nat), v = .tuple #[v1, i64 1, i64 u] ∧ P v1 w') := by
 refine CallsR.mono h ?_
 rintro v w' ⟨v1, c, u, e, hc, hS⟩
 rcases hc with ⟨_, rfl⟩ | ⟨h, _⟩
 ·
  exact ⟨v1, u, e, hS⟩
 cases h
theorem exg2 {p : Program} {f : FuncId} {a : Array Value} {w : World} {P : Value → World → Prop} (h : CallsR p f a w (fun v w' => ∃ (v1 : Value) (c : Nat), v = .tuple #[v1, i64 c] ∧ (true = true ∧ c = 1 ∨ true = false ∧ c = 3) ∧ P v1 w')) :
 CallsR p f a w (fun v w' => ∃ (v1 : Value), v = .tuple #[v1, i64 1] ∧ P v1 w') := by
 refine CallsR.mono h ?_
 rintro v w' ⟨v1, c, e, hc, hS⟩
 rcases hc with ⟨_, rfl⟩ | ⟨h, _⟩
 ·
  exact ⟨v1, e, hS⟩
 cases h
theorem t19 {va vb : Value} {xs ys zs : List Nat} (hp : xs = ys ++ zs) (hl : xs.length < 9223372036854775807) {G : World} {R : List HProp} {w : World} (hS : Sat G w (slc 1 va xs.length (xs.map u8) :: slc 1 vb ys.length (ys.map u8) :: R)) :
 CallsR Tryz.prog 19 #[va, vb] w (fun v w' => v = .bool true ∧ Sat G w' (slc 1 va xs.length (xs.map u8) :: slc 1 vb ys.length (ys.map u8) :: R)) := by
 have hlen := congrArg List.length hp
 rw [List.length_append] at hlen
 refine calls_in (n := 26) [(0, va), (1, vb)] Tryz.func19 rfl rfl hS args2 ?_
 refine CT.q (TL.val (r_asg .c) (TL.e (CT.seq (CT.q (TL.m m2 (TL.val (r_lens Tryz.underlying22 T0 m1) (TL.m m3 (TL.val (r_lens Tryz.underlying22 T0 m0) (TL.val (n_gtr ys.length xs.length T2 T0) (TL.b (.hd .u4) (CT.ifd m0 (fun c10 => ?_) (fun c10 => ?_))))))))))))
 ·
  exfalso; omega
 refine CT.z (EX.seq (CT.seq (CT.q (TL.m m2 (TL.val (r_lens Tryz.underlying22 T0 m1) (TL.val (r_move .c) (TL.b (.hd (.hd .u1)) (CT.block (CT.loop (X := Nat) (fun gx => [(13, (i64 gx)), (12, (i64 ys.length)), (0, va), (1, vb)]) (fun gx => (slc 1 va xs.length (xs.map u8)) :: slc 1 vb ys.length (ys.map u8) :: R) (fun gx => gx ≤ ys.length) (fun gx => ys.length - gx) 0 (Nat.zero_le _) (.refl _) (.cons m0 (.cons m1 (.cons m3 (.cons m4 .nil)))) ?_)))))))))
 rintro k hI
 refine CT.q (TL.val (n_lss k ys.length T0 T1) (TL.e (CT.seq (CT.ifd m0 (fun c14 => ?_) (fun c14 => ?_)))))
 ·
  refine CT.z (EX.seq (CT.seq (CT.block (CT.q (TL.m m0 (TL.a m0 (TL.b (.hd .u1) (CT.seq ?_))))))))
  obtain ⟨x1, hx1⟩ : ∃ x1, ys[k]? = some x1 := ⟨_, List.getElem?_eq_getElem c14⟩
  have hx2 : xs[k]? = some x1 := by rw [hp, List.getElem?_append_left c14]; exact hx1
  refine CT.peek m0 (by omega) ?_
  intro d d_c d_v d_k d_l
  refine CT.peek m1 (by omega) ?_
  intro e e_c e_v e_k e_l
  refine CT.still fm (by kernel_rfl) ?_
  refine TS.m m3 (TS.m m1 (TS.val (r_ia (i := k) (off' := k) Tryz.underlying22 Tryz.sizeOf5 (.te m1 d_v) T0 rfl (by omega) (by omega)) (TS.val (r_lds (u := (u8 x1)) Tryz.isAgg5 m0 d_v T0 (by rw [List.getElem?_map, hx2]; rfl)) ?_)))
  refine TS.m m8 (TS.m m5 (TS.val (r_ia (i := k) (off' := k) Tryz.underlying22 Tryz.sizeOf5 (.te m1 e_v) T0 rfl (by omega) (by omega)) (TS.val (r_lds (u := (u8 x1)) Tryz.isAgg5 m1 e_v T0 (by rw [List.getElem?_map, hx1]; rfl)) ?_)))
  refine TS.val (n_neq x1 x1 T4 T0) (TS.nil (TL.b (.hd .u8) (CT.ifd m0 (fun c24 => ?_) (fun c24 => ?_))))
  ·
   exfalso; omega
  exact CT.z (EX.bnormal (EX.seq (CT.region (TL.val (n_add k 1 9223372036854775808 T1 .c) (TL.rm .h2 (TL.m m0 (TL.x (.hd .u1) (EX.again (k + 1) (by omega) (by omega) (.refl _) (.eq m0 (by first | rfl | (congr 1 <;> omega)) (.sl 2 3 rfl))))))))))
 exact CT.sub .u1 (CT.exit (EX.then_exit (EX.then_exit (EX.out (EX.q (TL.val (r_asg .c) (TL.e (CT.ret (EX.end_ (.inl rfl) (res1 Tryz.results19 m0) (fun _ hS => ⟨rfl, hS⟩))))))))))
theorem t23 {va vb : Value} {xs : List Nat} (hl : xs.length < 9223372036854775807) {G : World} {R : List HProp} {w : World} (hS : Sat G w (slc 1 va xs.length (xs.map u8) :: slc 1 vb xs.length (xs.map u8) :: R)) :
 CallsR Tryz.prog 23 #[va, vb] w (fun v w' => v = .bool true ∧ Sat G w' (slc 1 va xs.length (xs.map u8) :: slc 1 vb xs.length (xs.map u8) :: R)) := by
 refine calls_in (n := 15) [(0, va), (1, vb)] Tryz.func23 rfl rfl hS args2 ?_
 refine CT.q (TL.val (r_asg .c) (TL.q (TL.m m1 (TL.val (r_lens Tryz.underlying22 T0 m0) (TL.m m4 (TL.val (r_lens Tryz.underlying22 T0 m1) (TL.val (n_eql xs.length xs.length T2 T0) (TL.m m0 ?_))))))))
 by_cases g10 : xs.length = xs.length
 ·
  refine TL.sub (.eq m0 (congrArg Value.bool (decide_eq_true g10)) (.eq m1 (congrArg Value.bool (decide_eq_true g10)) (.cons m2 (.cons m3 (.cons m4 (.cons m5 (.cons m6 (.cons m7 (.cons m8 .nil))))))))) (TL.gv m0 (r_move T7) (TL.gv m1 (r_move T9) (TL.perm p1 (TL.perm p1 (TL.gcall m2 (r_call ce_19 (.cons T1 (.cons T0 .nil))) (fun w hS => t19 (ys := xs) (zs := []) (by simp) (by omega) hS) ?_)))))
  rintro _ w13 ⟨rfl, hS⟩
  exact TW.at hS (TL.val (r_pickt T3 T0) (TL.rm .h10 (TL.a m0 (TL.b (.hd .u12) (CT.ret (EX.end_ (.inl rfl) (res1 Tryz.results23 m0) (fun _ hS => ⟨rfl, hS⟩)))))))
 exfalso; omega
theorem t13 {G w : World} {cv : Value} {ea eb : Addr} (hc : CodeOf G cv) (hL : LaidIs G ea eb) (hS : Sat G w []) :
 CallsR Tryz.prog 13 #[cv] w (fun v w' => v = .bool true ∧ Sat G w' []) := by
 have hc0 := hc
 obtain rfl | ⟨b, off, c, xs, rfl, hlc, hxs, hx⟩ := hc0
 ·
  refine calls_in (n := 37) [(0, (.slice none 0 0))] Tryz.func13 rfl rfl hS args1 ?_
  refine CT.q (TL.val (r_asg .c) (TL.e (CT.seq (CT.q (TL.m m1 (TL.val (r_len Tryz.underlying22 T0) (TL.val (show Run _ _ _ _ _ _ (.bool false) from n_gtr 0 2147483647 T0 .c rfl rfl) (TL.b (.hd .u2) (CT.iff_ m0 ?_)))))))))
  refine CT.z (EX.seq (CT.seq (CT.q (TL.m m1 (TL.val (r_len Tryz.underlying22 T0) (TL.val (show Run _ _ _ _ _ _ (.bool false) from n_gtr 0 16777216 T0 .c rfl rfl) (TL.b (.hd .u2) (CT.iff_ m0 ?_))))))))
  refine CT.z (EX.q (TL.m m1 (TL.call (r_call ce_32 (.cons T0 .nil)) (fun w hS => t32 _ hc hS) ?_)))
  rintro _ w15 ⟨v1, v2, bits, h, rfl, hst, hhl, hbl, hS⟩
  refine TW.at hS (TL.m m0 (TL.val (r_ext T0) (TL.val (r_ext T1) (TL.a m1 (TL.a m1 (TL.b (.hd (.hd .u5)) (CT.seq (CT.q (TL.m m1 (TL.call (r_call ce_17 (.cons T0 .nil)) (fun w hS => exw1 (t17 (B := bits) (st0 := bits) (tail0 := []) (outF := h) (gd := false) (by omega) (List.append_nil _).symm hst (by omega) hS)) ?_))))))))))
  rintro _ w19 ⟨rfl, hS⟩
  refine TW.at hS (TL.val (show Run _ _ _ _ _ _ (.bool false) from n_neq 2 2 T0 .c rfl rfl) (TL.b (.hd .u2) (CT.iff_ m0 ?_)))
  refine CT.z (EX.q (TL.m m1 (TL.call (r_call ce_18 (.cons T0 (.cons .c .nil))) (fun w hS => exw2 (t18 (B := bits) (st := bits) (tail := []) (out := h) (gd := false) hL (by omega) (List.append_nil _).symm hst (by omega) hS)) ?_)))
  rintro _ w23 ⟨o1, rfl, hS⟩
  refine TW.at hS (TL.m m0 (TL.val (r_ext T0) (TL.val (r_ext T1) (TL.a m1 (TL.a m1 (TL.r (.hd (.hd .u5)) (TL.m m0 (TL.val (show Run _ _ _ _ _ _ (.bool true) from n_neq 3 0 T0 .c rfl rfl) (TL.m m0 (TL.gv m0 (r_move T3) (TL.gv m1 (show Run _ _ _ _ _ _ (.bool true) from n_neq 3 1 T0 .c rfl rfl) (TL.val (r_pickt T2 T0) (TL.m m0 (TL.gv m0 (r_move T9) (TL.gv m1 (r_move T9) (TL.perm p2 (TL.gcall m2 (r_call ce_19 (.cons T1 (.cons T0 .nil))) (fun w hS => t19 (ys := h) (zs := []) (List.append_nil _).symm (by omega) hS) ?_)))))))))))))))))
  rintro _ w35 ⟨rfl, hS⟩
  exact TW.at hS (TL.val (r_pickt T3 T0) (TL.rm .h15 (TL.a m0 (TL.b (.hd .u14) (CT.ret (EX.end_ (.inl rfl) (res1 Tryz.results13 m0) (fun _ hS => ⟨rfl, hS.nil⟩)))))))
 refine calls_in (n := 37) [(0, (.slice (some ⟨b, off, none⟩) xs.length c))] Tryz.func13 rfl rfl hS args1 ?_
 refine CT.q (TL.val (r_asg .c) (TL.e (CT.seq (CT.q (TL.m m1 (TL.val (r_len Tryz.underlying22 T0) (TL.val (n_gtr xs.length 2147483647 T0 .c) (TL.b (.hd .u2) (CT.ifd m0 (fun c9 => ?_) (fun c9 => ?_))))))))))
 ·
  exact CT.y (TL.rm .here (TL.val (r_asg .c) (TL.e (CT.ret (EX.then_ret (EX.end_ (.inl rfl) (res1 Tryz.results13 m0) (fun _ hS => ⟨rfl, hS.nil⟩)))))))
 refine CT.z (EX.seq (CT.seq (CT.q (TL.m m1 (TL.val (r_len Tryz.underlying22 T0) (TL.val (n_gtr xs.length 16777216 T0 .c) (TL.b (.hd .u2) (CT.ifd m0 (fun c12 => ?_) (fun c12 => ?_)))))))))
 ·
  exact CT.y (TL.rm .here (TL.val (r_asg .c) (TL.e (CT.ret (EX.then_ret (EX.end_ (.inl rfl) (res1 Tryz.results13 m0) (fun _ hS => ⟨rfl, hS.nil⟩)))))))
 refine CT.z (EX.q (TL.m m1 (TL.call (r_call ce_32 (.cons T0 .nil)) (fun w hS => t32 _ hc hS) ?_)))
 rintro _ w15 ⟨v1, v2, bits, h, rfl, hst, hhl, hbl, hS⟩
 refine TW.at hS (TL.m m0 (TL.val (r_ext T0) (TL.val (r_ext T1) (TL.a m1 (TL.a m1 (TL.b (.hd (.hd .u5)) (CT.seq (CT.q (TL.m m1 (TL.call (r_call ce_17 (.cons T0 .nil)) (fun w hS => exw1 (t17 (B := bits) (st0 := bits) (tail0 := []) (outF := h) (gd := false) (by omega) (List.append_nil _).symm hst (by omega) hS)) ?_))))))))))
 rintro _ w19 ⟨rfl, hS⟩
 refine TW.at hS (TL.val (show Run _ _ _ _ _ _ (.bool false) from n_neq 2 2 T0 .c rfl rfl) (TL.b (.hd .u2) (CT.iff_ m0 ?_)))
 refine CT.z (EX.q (TL.m m1 (TL.call (r_call ce_18 (.cons T0 (.cons .c .nil))) (fun w hS => exw2 (t18 (B := bits) (st := bits) (tail := []) (out := h) (gd := false) hL (by omega) (List.append_nil _).symm hst (by omega) hS)) ?_)))
 rintro _ w23 ⟨o1, rfl, hS⟩
 refine TW.at hS (TL.m m0 (TL.val (r_ext T0) (TL.val (r_ext T1) (TL.a m1 (TL.a m1 (TL.r (.hd (.hd .u5)) (TL.m m0 (TL.val (show Run _ _ _ _ _ _ (.bool true) from n_neq 3 0 T0 .c rfl rfl) (TL.m m0 (TL.gv m0 (r_move T3) (TL.gv m1 (show Run _ _ _ _ _ _ (.bool true) from n_neq 3 1 T0 .c rfl rfl) (TL.val (r_pickt T2 T0) (TL.m m0 (TL.gv m0 (r_move T9) (TL.gv m1 (r_move T9) (TL.perm p2 (TL.gcall m2 (r_call ce_19 (.cons T1 (.cons T0 .nil))) (fun w hS => t19 (ys := h) (zs := []) (List.append_nil _).symm (by omega) hS) ?_)))))))))))))))))
 rintro _ w35 ⟨rfl, hS⟩
 exact TW.at hS (TL.val (r_pickt T3 T0) (TL.rm .h15 (TL.a m0 (TL.b (.hd .u14) (CT.ret (EX.end_ (.inl rfl) (res1 Tryz.results13 m0) (fun _ hS => ⟨rfl, hS.nil⟩)))))))
end Go.Eng
