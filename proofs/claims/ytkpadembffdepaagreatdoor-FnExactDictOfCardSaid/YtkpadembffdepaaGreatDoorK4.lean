/- Parts of the proof of the card: Hl Bq Hm Hn Hp Hq Hr Ht Hs Ha Hb Sd Br Se Sf -/
import Derived.Test.YtkpadembffdepaaGreatDoorK3
import Derived.Test.YtkpadembffdepaaGreatDoorProg
import Derived.WalkKit
import Derived.LaidEql
import Derived.Stop.Asserts
import Derived.RowKitTokens
import Derived.Test.YtkpadembffdepaaGreatDoorK2
import Derived.Test.YtkpadembffdepaaGreatDoorK1
set_option maxRecDepth 100000
set_option maxHeartbeats 4000000
set_option linter.unusedVariables false
set_option linter.unusedSimpArgs false
namespace Go.Eng
open Go Go.Proofs Go.Infl
theorem flat3_length {g : Nat → Nat} : ∀ {l : List Nat}, (l.flatMap (fun o => nbits 3 (g o))).length = 3 * l.length
 | [] => rfl
 | x :: l => by rw [List.flatMap_cons, List.length_append, nbits_length, flat3_length (l := l), List.length_cons]; omega
theorem t90 {G : World} {R : List HProp} {w : World} {bb cb f r i k nl nd : Nat} {B hb0 bits : List Bool} {own : List Nat} {o : Option (List Nat × List Nat × List Bool)} {s : DS} (hO : OrdIs G) (hBl : B.length < 1099511627776) (hh : OwnHd hb0 own nl nd) (hH : HdrR own nl nd bits o)
 (hd : B.drop k = hb0 ++ bits) (hk : Held B k i s.b s.nb) (hnb : s.nb ≤ 7) (hil : i ≤ (pack B).length) (hkB : k ≤ B.length) (hro : s.roff = i) (hr : s.r = rif r) (hbits : s.bits = pt bb 0) (hcb : s.cbits = pt cb 0) (hHO : HOk s.H)
 (hS : Sat G w (blk f 1054 (D s) :: Br r B i :: AnyB bb 316 :: AnyB cb 19 :: R)) : CallsR Tryz.prog 90 #[pt f 0] w (fun v w' => ∃ (i' b' nb' : Nat) (H' : Nat → Value), i' ≤ (pack B).length ∧ HOk H' ∧
  ((o = none ∧ ∃ z : Int, v = .iface 121 (.int .i64 z) ∧ Sat G w' (blk f 1054 (D { s with r := rif r, roff := i', b := b', nb := nb', H := H', bits := pt bb 0, cbits := pt cb 0 }) :: Br r B i' :: AnyB bb 316 :: AnyB cb 19 :: R)) ∨
   (∃ (lit dist : List Nat) (rest : List Bool) (t td : TD) (k' : Nat), o = some (lit, dist, rest) ∧ v = .nilIface ∧ k' ≤ B.length ∧ B.drop k' = rest ∧ Held B k' i' b' nb' ∧ nb' ≤ 7 ∧ LOk lit 256 ∧ TDok lit t H' ∧ t.mn = lit.getD 256 0 ∧ ((TDok dist td (fun j => H' (515 + j)) ∧ ∀ q, LOk dist q → td.mn ≤ dist.getD q 0) ∨ ∀ y ∈ dist, y = 0) ∧
    Sat G w' (blk f 1054 (D { s with r := rif r, roff := i', b := b', nb := nb', H := H', bits := pt bb 0, cbits := pt cb 0 }) :: Br r B i' :: AnyB bb 316 :: AnyB cb 19 :: Lnks t :: Lnks td :: R)))) := by
 obtain ⟨many, h19, h7, hm4, hm19, hz, hnl1, hnl2, hnd1, hnd2, rfl⟩ := hh.bits3
 simp only [List.append_assoc] at hd
 have hd1 := drop_app hd
 rw [nbits_length] at hd1
 have hd2 := drop_app hd1
 rw [nbits_length] at hd2
 have hd3 := drop_app hd2
 rw [nbits_length] at hd3
 have hlen := congrArg List.length hd
 simp only [List.length_drop, List.length_append, nbits_length] at hlen
 have hpl := pack_length B
 have hlo : ordr.length = 19 := rfl
 have hfl3 : (((ordr.take many).drop 0).flatMap (fun o => nbits 3 (own.getD o 0))).length = 3 * many := by
  rw [List.drop_zero, flat3_length, List.length_take, hlo, Nat.min_eq_left hm19]
 obtain ⟨acc0, hacc0⟩ : ∃ a : List Nat, a = [] := ⟨_, rfl⟩
 have hal0 : acc0.length = 0 := by rw [hacc0]; rfl
 have hs : s = { s with r := rif r, roff := i, bits := pt bb 0, cbits := pt cb 0 } := by cases s; simp_all
 replace hS := hS.D hs
 obtain ⟨Fb, hS⟩ := Sat.ex (hS.perm p2)
 replace hS := hS.imp (blk_eq rfl (bbf_nil (F := Fb) hacc0))
 obtain ⟨Fc, hS⟩ := Sat.ex (hS.perm p3)
 replace hS := hS.imp (blk_eq rfl (cbf_nil (own := own) (F := Fc)))
 refine calls_in (n := 340) [(0, (pt f 0))] Tryz.func90 rfl rfl hS args1 ?_
 refine CT.q (TL.val (r_asg .c) (TL.e (CT.seq (CT.block (CT.perm p1 (CT.perm p3 (CT.perm p3 (CT.loop (X := Nat × Nat × Nat) (fun gx => [(0, (pt f 0))]) (fun gx => (blk f 1054 (D { s with r := rif r, roff := gx.1, b := gx.2.1, nb := gx.2.2, bits := pt bb 0, cbits := pt cb 0 })) :: Br r B gx.1 :: blk bb 316 (bbf acc0 Fb) :: blk cb 19 (cbf own 0 Fc) :: R) (fun gx => Held B k gx.1 gx.2.1 gx.2.2 ∧ NB 0 14 gx.2.2 ∧ gx.1 ≤ (pack B).length) (fun gx => 14 - gx.2.2) ((i, s.b, s.nb)) (⟨hk, .of (by omega), hil⟩) (.refl _) (.cons m1 .nil) ?_))))))))
 rintro ⟨i2, b2, n2⟩ ⟨hheld2, hnb2, hib2⟩
 replace hheld2 : Held B k i2 b2 n2 := hheld2
 replace hnb2 : NB 0 14 n2 := hnb2
 replace hib2 : i2 ≤ (pack B).length := hib2
 have hn2b : n2 ≤ 22 := hnb2.le (by decide) (by omega)
 have hb2 : b2 < 4294967296 := Nat.lt_of_lt_of_le hheld2.lt (Nat.pow_le_pow_right (by decide) (show n2 ≤ 32 from Nat.le_trans hn2b (by decide)))
 refine CT.seq (CT.q (TL.m m0 (TL.c m0 (TL.f 4 fo_103_4 m0 (TL.val (r_ld (v := (u64 n2)) Tryz.isAgg90 m0 T0 (by decide) (Dget_nb _)) (TL.val (n_lss n2 14 T0 .c) (TL.b (.hd .u4) (CT.ifd m0 (fun c23 => ?_) (fun c23 => ?_)))))))))
 ·
  have hlt2 : n2 < 14 := by omega
  have hbyte2 := byte_ok hheld2 hlt2 (show k + 14 ≤ B.length by omega)
  refine CT.z (EX.seq (CT.block (CT.q (TL.m m0 (TL.perm p1 (TL.perm p1 (TL.call (r_call ce_86 (.cons T0 .nil)) (fun w hS => t86 f r i2 B { s with r := rif r, roff := i2, b := b2, nb := n2, bits := pt bb 0, cbits := pt cb 0 } hbyte2.2 (by omega) (by show i2 < 9223372036854775807; omega) (by show b2 < 4294967296; omega) (by show n2 ≤ 24; omega) hS) ?_)))))))
  rintro z25 w25 ⟨hz25, hS⟩
  replace hz25 : z25 = .nilIface := hz25
  subst hz25
  replace hS : Sat G w25 (blk f 1054 (D { s with r := rif r, roff := i2 + 1, b := b2 ||| byteAt B i2 * 2 ^ n2, nb := n2 + 8, bits := pt bb 0, cbits := pt cb 0 }) :: Br r B (i2 + 1) :: blk bb 316 (bbf acc0 Fb) :: blk cb 19 (cbf own 0 Fc) :: R) := hS
  refine TW.at hS (TL.a m0 (TL.r (.hd .u2) (TL.m m0 (TL.val (r_nen Tryz.underlying82 T0) (TL.b (.hd .u1) (CT.iff_ m0 ?_))))))
  exact CT.z (EX.bnormal (EX.again ((i2 + 1, b2 ||| byteAt B i2 * 2 ^ n2, n2 + 8)) (⟨hheld2.more hbyte2.1, hnb2.more hlt2, hbyte2.2⟩) (by show 14 - (n2 + 8) < 14 - n2; omega) (.refl _) (.cons m1 .nil)))
 have hge2 : 14 ≤ n2 := by omega
 have hhA := hheld2.take (m := 5) (by omega)
 have hhB := hhA.take (m := 5) (by omega)
 have hhC := hhB.take (m := 4) (by omega)
 have hq1 := Nat.div_le_self b2 (2 ^ 5)
 have hq2 := Nat.div_le_self (b2 / 2 ^ 5) (2 ^ 5)
 rw [show n2 - 5 - 5 - 4 = n2 - 14 by omega] at hhC
 refine CT.sub .u1 (CT.exit (EX.then_exit (EX.then_exit (EX.out (EX.q (TL.m m0 (TL.c m0 (TL.f 3 fo_103_3 m0 (TL.val (r_ld (v := (u32 b2)) Tryz.isAgg89 m0 T0 (by decide) (Dget_b _)) (TL.val (n_and b2 31 4294967296 T0 .c rfl rfl (by omega) (by omega)) (TL.sub (.eq m0 (congrArg (fun z : Nat => Value.int .u32 (z : Int)) (hheld2.and (m := 5) (by omega) (by omega) hd)) (.cons m1 (.cons m2 (.cons m3 (.cons m4 (.cons m5 .nil)))))) (TL.val (n_conv ((nl - 257)) 9223372036854775808 ⟨_, Tryz.underlying89⟩ Tryz.underlying3 T0 rfl (by omega)) (TL.val (n_add ((nl - 257)) 257 9223372036854775808 T0 .c) (TL.a m0 (TL.sub (.hd .u7) (TL.b (.eq m0 (congrArg (fun z : Nat => Value.int .i64 (z : Int)) (show nl - 257 + 257 = nl by omega)) (.cons m1 .nil)) (CT.seq (CT.q (TL.m m0 (TL.val (n_gtr nl 286 T0 .c) (TL.b (.hd .u1) (CT.ifd m0 (fun c37 => ?_) (fun c37 => ?_)))))))))))))))))))))))
 ·
  exfalso; omega
 refine CT.z (EX.q (TL.m m1 (TL.c m0 (TL.f 3 fo_103_3 m0 (TL.val (r_ld (v := (u32 b2)) Tryz.isAgg89 m0 T0 (by decide) (Dget_b _)) (TL.val (n_shr b2 5 T0 .c rfl rfl (by decide)) (TL.c m4 (TL.f 3 fo_103_3 m0 (TL.s (r_st (F' := D { s with r := rif r, roff := i2, b := b2 / 2 ^ 5, nb := n2, bits := pt bb 0, cbits := pt cb 0 }) Tryz.sizeOf89 (Dsat_b ((b2 / 2 ^ 5))) a0 T0 T2 (by decide)) (TL.r .u7 (TL.m m1 (TL.c m0 (TL.f 3 fo_103_3 m0 (TL.val (r_ld (v := (u32 (b2 / 2 ^ 5))) Tryz.isAgg89 m0 T0 (by decide) (Dget_b _)) (TL.val (n_and ((b2 / 2 ^ 5)) 31 4294967296 T0 .c rfl rfl (by omega) (by omega)) (TL.sub (.eq m0 (congrArg (fun z : Nat => Value.int .u32 (z : Int)) (hhA.and (m := 5) (by omega) (by omega) hd1)) (.cons m1 (.cons m2 (.cons m3 (.cons m4 (.cons m5 (.cons m6 .nil))))))) (TL.val (n_conv ((nd - 1)) 9223372036854775808 ⟨_, Tryz.underlying89⟩ Tryz.underlying3 T0 rfl (by omega)) (TL.val (n_add ((nd - 1)) 1 9223372036854775808 T0 .c) (TL.a m0 (TL.sub (.hd .u7) (TL.b (.eq m0 (congrArg (fun z : Nat => Value.int .i64 (z : Int)) (show nd - 1 + 1 = nd by omega)) (.cons m1 (.cons m2 .nil))) (CT.seq (CT.q (TL.m m0 (TL.val (n_gtr nd 30 T0 .c) (TL.b (.hd .u1) (CT.ifd m0 (fun c58 => ?_) (fun c58 => ?_))))))))))))))))))))))))))))
 ·
  exfalso; omega
 refine CT.z (EX.q (TL.m m2 (TL.c m0 (TL.f 3 fo_103_3 m0 (TL.val (r_ld (v := (u32 (b2 / 2 ^ 5))) Tryz.isAgg89 m0 T0 (by decide) (Dget_b _)) (TL.val (n_shr ((b2 / 2 ^ 5)) 5 T0 .c rfl rfl (by decide)) (TL.c m4 (TL.f 3 fo_103_3 m0 (TL.s (r_st (F' := D { s with r := rif r, roff := i2, b := (b2 / 2 ^ 5) / 2 ^ 5, nb := n2, bits := pt bb 0, cbits := pt cb 0 }) Tryz.sizeOf89 (Dsat_b (((b2 / 2 ^ 5) / 2 ^ 5))) a0 T0 T2 (by decide)) (TL.sub .u7 (TL.fold (A' := (blk f 1054 (D { s with r := rif r, roff := i2, b := b2 / 2 ^ 5 / 2 ^ 5, nb := n2, bits := pt bb 0, cbits := pt cb 0 }))) a0 (D_eq rfl) ?_)))))))))))
 refine TL.q (TL.m m2 (TL.c m0 (TL.f 3 fo_103_3 m0 (TL.val (r_ld (v := (u32 (b2 / 2 ^ 5 / 2 ^ 5))) Tryz.isAgg89 m0 T0 (by decide) (Dget_b _)) (TL.val (n_and ((b2 / 2 ^ 5 / 2 ^ 5)) 15 4294967296 T0 .c rfl rfl (by omega) (by omega)) (TL.sub (.eq m0 (congrArg (fun z : Nat => Value.int .u32 (z : Int)) (hhB.and (m := 4) (by omega) (by omega) hd2)) (.cons m1 (.cons m2 (.cons m3 (.cons m4 (.cons m5 (.cons m6 (.cons m7 .nil)))))))) (TL.val (n_conv ((many - 4)) 9223372036854775808 ⟨_, Tryz.underlying89⟩ Tryz.underlying3 T0 rfl (by omega)) (TL.val (n_add ((many - 4)) 4 9223372036854775808 T0 .c) (TL.a m0 (TL.sub (.hd .u7) (TL.r (.eq m0 (congrArg (fun z : Nat => Value.int .i64 (z : Int)) (show many - 4 + 4 = many by omega)) (.cons m1 (.cons m2 (.cons m3 .nil)))) (TL.m m3 (TL.c m0 (TL.f 3 fo_103_3 m0 (TL.val (r_ld (v := (u32 (b2 / 2 ^ 5 / 2 ^ 5))) Tryz.isAgg89 m0 T0 (by decide) (Dget_b _)) (TL.val (n_shr ((b2 / 2 ^ 5 / 2 ^ 5)) 4 T0 .c rfl rfl (by decide)) (TL.c m4 (TL.f 3 fo_103_3 m0 (TL.s (r_st (F' := D { s with r := rif r, roff := i2, b := (b2 / 2 ^ 5 / 2 ^ 5) / 2 ^ 4, nb := n2, bits := pt bb 0, cbits := pt cb 0 }) Tryz.sizeOf89 (Dsat_b (((b2 / 2 ^ 5 / 2 ^ 5) / 2 ^ 4))) a0 T0 T2 (by decide)) (TL.sub .u7 (TL.fold (A' := (blk f 1054 (D { s with r := rif r, roff := i2, b := b2 / 2 ^ 5 / 2 ^ 5 / 2 ^ 4, nb := n2, bits := pt bb 0, cbits := pt cb 0 }))) a0 (D_eq rfl) ?_)))))))))))))))))))))
 refine TL.q (TL.m m3 (TL.c m0 (TL.f 4 fo_103_4 m0 (TL.val (r_ld (v := (u64 n2)) Tryz.isAgg90 m0 T0 (by decide) (Dget_nb _)) (TL.val (n_sub n2 14 18446744073709551616 T0 .c) (TL.c m4 (TL.f 4 fo_103_4 m0 (TL.s (r_st (F' := D { s with r := rif r, roff := i2, b := b2 / 2 ^ 5 / 2 ^ 5 / 2 ^ 4, nb := n2 - 14, bits := pt bb 0, cbits := pt cb 0 }) Tryz.sizeOf90 (Dsat_nb ((n2 - 14))) a0 T0 T2 (by decide)) (TL.b .u7 (CT.seq (CT.q (TL.val (r_asg .c) (TL.e (CT.block (CT.loop (X := Nat × Nat × Nat × Nat) (fun gx => [(7, (i64 gx.1)), (6, (i64 many)), (5, (i64 nd)), (4, (i64 nl)), (0, (pt f 0))]) (fun gx => (blk f 1054 (D { s with r := rif r, roff := gx.2.1, b := gx.2.2.1, nb := gx.2.2.2, bits := pt bb 0, cbits := pt cb 0 })) :: Br r B gx.2.1 :: blk bb 316 (bbf acc0 Fb) :: blk cb 19 (cbf own gx.1 Fc) :: R) (fun gx => Held B (k + 5 + 5 + 4 + 3 * gx.1) gx.2.1 gx.2.2.1 gx.2.2.2 ∧ gx.2.2.2 ≤ 7 ∧ gx.2.1 ≤ (pack B).length ∧ gx.1 ≤ many ∧ B.drop (k + 5 + 5 + 4 + 3 * gx.1) = ((ordr.take many).drop gx.1).flatMap (fun o => nbits 3 (own.getD o 0)) ++ bits) (fun gx => many - gx.1) ((0, i2, (b2 / 2 ^ 5 / 2 ^ 5 / 2 ^ 4), n2 - 14)) (⟨hhC, (by show n2 - 14 ≤ 7; have := hnb2.take; omega), hib2, Nat.zero_le _, hd3⟩) (.refl _) (.sl 0 5 rfl) ?_)))))))))))))))
 rintro ⟨j, i3, b3, n3⟩ ⟨hJ1, hJ2, hJ3, hJ4, hJ5⟩
 replace hJ1 : Held B (k + 5 + 5 + 4 + 3 * j) i3 b3 n3 := hJ1
 replace hJ2 : n3 ≤ 7 := hJ2
 replace hJ3 : i3 ≤ (pack B).length := hJ3
 replace hJ4 : j ≤ many := hJ4
 replace hJ5 : B.drop (k + 5 + 5 + 4 + 3 * j) = ((ordr.take many).drop j).flatMap (fun o => nbits 3 (own.getD o 0)) ++ bits := hJ5
 have hol := own7 h7 (ordr.getD j 0)
 refine CT.seq (CT.q (TL.m m0 (TL.m m2 (TL.val (n_lss j many T1 T0) (TL.b (.hd .u2) (CT.ifd m0 (fun c94 => ?_) (fun c94 => ?_)))))))
 ·
  have hd4 : B.drop (k + 5 + 5 + 4 + 3 * j) = nbits 3 (own.getD (ordr.getD j 0) 0) ++ (((ordr.take many).drop (j + 1)).flatMap (fun o => nbits 3 (own.getD o 0)) ++ bits) := by rw [hJ5, ordr_drop (g := (fun o => nbits 3 (own.getD o 0))) c94 hm19, List.append_assoc]
  have hd5 := drop_app hd4
  rw [nbits_length] at hd5
  have hl4 := congrArg List.length hd4
  rw [List.length_drop, List.length_append, nbits_length] at hl4
  refine CT.z (EX.seq (CT.seq (CT.block (CT.seq (CT.block (CT.loop (X := Nat × Nat × Nat) (fun gx => [(7, (i64 j)), (6, (i64 many)), (5, (i64 nd)), (4, (i64 nl)), (0, (pt f 0))]) (fun gx => (blk f 1054 (D { s with r := rif r, roff := gx.1, b := gx.2.1, nb := gx.2.2, bits := pt bb 0, cbits := pt cb 0 })) :: Br r B gx.1 :: blk bb 316 (bbf acc0 Fb) :: blk cb 19 (cbf own j Fc) :: R) (fun gx => Held B (k + 5 + 5 + 4 + 3 * j) gx.1 gx.2.1 gx.2.2 ∧ NB 0 3 gx.2.2 ∧ gx.1 ≤ (pack B).length) (fun gx => 3 - gx.2.2) ((i3, b3, n3)) (⟨hJ1, .of (by omega), hJ3⟩) (.refl _) (.sl 0 5 rfl) ?_))))))
  rintro ⟨i5, b5, n5⟩ ⟨hheld5, hnb5, hib5⟩
  replace hheld5 : Held B (k + 5 + 5 + 4 + 3 * j) i5 b5 n5 := hheld5
  replace hnb5 : NB 0 3 n5 := hnb5
  replace hib5 : i5 ≤ (pack B).length := hib5
  have hn5b : n5 ≤ 22 := hnb5.le (by decide) (by omega)
  have hb5 : b5 < 4294967296 := Nat.lt_of_lt_of_le hheld5.lt (Nat.pow_le_pow_right (by decide) (show n5 ≤ 32 from Nat.le_trans hn5b (by decide)))
  refine CT.seq (CT.q (TL.m m4 (TL.c m0 (TL.f 4 fo_103_4 m0 (TL.val (r_ld (v := (u64 n5)) Tryz.isAgg90 m0 T0 (by decide) (Dget_nb _)) (TL.val (n_lss n5 3 T0 .c) (TL.b (.hd .u4) (CT.ifd m0 (fun c101 => ?_) (fun c101 => ?_)))))))))
  ·
   have hlt5 : n5 < 3 := by omega
   have hbyte5 := byte_ok hheld5 hlt5 (show k + 5 + 5 + 4 + 3 * j + 3 ≤ B.length by omega)
   refine CT.z (EX.seq (CT.block (CT.q (TL.m m4 (TL.perm p1 (TL.perm p1 (TL.call (r_call ce_86 (.cons T0 .nil)) (fun w hS => t86 f r i5 B { s with r := rif r, roff := i5, b := b5, nb := n5, bits := pt bb 0, cbits := pt cb 0 } hbyte5.2 (by omega) (by show i5 < 9223372036854775807; omega) (by show b5 < 4294967296; omega) (by show n5 ≤ 24; omega) hS) ?_)))))))
   rintro z103 w103 ⟨hz103, hS⟩
   replace hz103 : z103 = .nilIface := hz103
   subst hz103
   replace hS : Sat G w103 (blk f 1054 (D { s with r := rif r, roff := i5 + 1, b := b5 ||| byteAt B i5 * 2 ^ n5, nb := n5 + 8, bits := pt bb 0, cbits := pt cb 0 }) :: Br r B (i5 + 1) :: blk bb 316 (bbf acc0 Fb) :: blk cb 19 (cbf own j Fc) :: R) := hS
   refine TW.at hS (TL.a m0 (TL.r (.hd .u2) (TL.m m0 (TL.val (r_nen Tryz.underlying82 T0) (TL.b (.hd .u1) (CT.iff_ m0 ?_))))))
   exact CT.z (EX.bnormal (EX.again ((i5 + 1, b5 ||| byteAt B i5 * 2 ^ n5, n5 + 8)) (⟨hheld5.more hbyte5.1, hnb5.more hlt5, hbyte5.2⟩) (by show 3 - (n5 + 8) < 3 - n5; omega) (.refl _) (.sl 1 5 rfl)))
  have hge5 : 3 ≤ n5 := by omega
  refine CT.sub .u1 (CT.exit (EX.then_exit (EX.then_exit (EX.out (EX.seq (CT.seq (CT.draw 15 fm (by kernel_rfl) ?_)))))))
  refine TS.m m4 (TS.c m0 (TS.f 1036 fo_103_8 m0 (TS.val (r_ld (v := (pt cb 0)) Tryz.isAgg96 m0 T0 (by decide) (Dget_cbits _)) (TS.m m4 (TS.val (r_iaa (i := j) (off' := j) Tryz.underlying106 Tryz.sizeOf3 .g T0 rfl (by omega) (by omega)) (TS.val (r_ldc (v := (i64 (ordr.getD j 0))) Tryz.isAgg3 T0 (fun w hS => hS.base_some (hO j (by omega)))) (TS.m m11 (TS.c m0 (TS.f 3 fo_103_3 m0 (TS.val (r_ld (v := (u32 b5)) Tryz.isAgg89 m0 T0 (by decide) (Dget_b _)) (TS.val (n_and b5 7 4294967296 T0 .c rfl rfl (by omega) (by omega)) (TS.sub (ρ' := [(118, (u32 (own.getD (ordr.getD j 0) 0))), (117, (u32 b5)), (116, (pt f 3)), (115, (pt f 0)), (114, (pt f 0)), (113, (i64 (ordr.getD j 0))), (112, (pt 3 j)), (111, (i64 j)), (110, (pt cb 0)), (109, (pt f 1036)), (108, (pt f 0)), (107, (pt f 0)), (7, (i64 j)), (6, (i64 many)), (5, (i64 nd)), (4, (i64 nl)), (0, (pt f 0))]) (.eq m0 (congrArg (fun z : Nat => Value.int .u32 (z : Int)) (hheld5.and (m := 3) (by omega) (by omega) hd4)) (.sl 1 16 rfl)) (TS.val (n_conv ((own.getD (ordr.getD j 0) 0)) 9223372036854775808 ⟨_, Tryz.underlying89⟩ Tryz.underlying3 T0 rfl (by omega)) (TS.c m9 (TS.val (r_iaa (i := (ordr.getD j 0)) (off' := (ordr.getD j 0)) Tryz.underlying106 Tryz.sizeOf3 T0 T7 rfl (ordr_lt j (by omega)) (by omega)) (TS.nil (TL.s (r_st (F' := cbf own (j + 1) Fc) Tryz.sizeOf3 (cbf_put (by omega) rfl) a3 T0 T2 (ordr_lt j (by omega))) (TL.r .u15 (TL.m m4 (TL.c m0 (TL.f 3 fo_103_3 m0 (TL.val (r_ld (v := (u32 b5)) Tryz.isAgg89 m0 T0 (by decide) (Dget_b _)) (TL.val (n_shr b5 3 T0 .c rfl rfl (by decide)) (TL.c m4 (TL.f 3 fo_103_3 m0 (TL.s (r_st (F' := D { s with r := rif r, roff := i5, b := b5 / 2 ^ 3, nb := n5, bits := pt bb 0, cbits := pt cb 0 }) Tryz.sizeOf89 (Dsat_b ((b5 / 2 ^ 3))) a0 T0 T2 (by decide)) (TL.b .u7 (CT.region (TL.m m4 (TL.c m0 (TL.f 4 fo_103_4 m0 (TL.val (r_ld (v := (u64 n5)) Tryz.isAgg90 m0 T0 (by decide) (Dget_nb _)) (TL.val (n_sub n5 3 18446744073709551616 T0 .c) ?_)))))))))))))))))))))))))))))))))
  exact TL.c m4 (TL.f 4 fo_103_4 m0 (TL.s (r_st (F' := D { s with r := rif r, roff := i5, b := b5 / 2 ^ 3, nb := n5 - 3, bits := pt bb 0, cbits := pt cb 0 }) Tryz.sizeOf90 (Dsat_nb ((n5 - 3))) a0 T0 T2 (by decide)) (TL.x .u7 (EX.bnormal (EX.seq (CT.region (TL.m m0 (TL.val (n_add j 1 9223372036854775808 T0 .c) (TL.rm .h2 (TL.a m0 (TL.x (.hd .u2) (EX.again ((j + 1, i5, b5 / 2 ^ 3, n5 - 3)) (⟨by have := hheld5.take (m := 3) (by omega); rwa [show k + 5 + 5 + 4 + 3 * j + 3 = k + 5 + 5 + 4 + 3 * (j + 1) by omega] at this, by show n5 - 3 ≤ 7; have := hnb5.take; omega, hib5, (show j + 1 ≤ many by omega), by show B.drop (k + 5 + 5 + 4 + 3 * (j + 1)) = _; rw [show k + 5 + 5 + 4 + 3 * (j + 1) = k + 5 + 5 + 4 + 3 * j + 3 by omega]; exact hd5⟩) (by show many - (j + 1) < many - j; omega) (.refl _) (.eq m0 (congrArg (fun z : Nat => Value.int .i64 (z : Int)) (show ((j + 1) : Nat) = j + 1 by omega)) (.sl 1 4 rfl))))))))))))))
 have hjm : j = many := by omega
 refine CT.sub .u1 (CT.exit (EX.then_exit (EX.then_exit (EX.out (EX.seq (CT.seq (CT.q (TL.m m1 (TL.a m0 (TL.b (.hd .u1) (CT.block (CT.fold (A' := (blk cb 19 (cbf own many Fc))) a3 (blk_eq rfl (by rw [hjm])) (CT.loop (X := Nat) (fun gx => [(9, (i64 gx)), (6, (i64 many)), (5, (i64 nd)), (4, (i64 nl)), (0, (pt f 0))]) (fun gx => (blk f 1054 (D { s with r := rif r, roff := i3, b := b3, nb := n3, bits := pt bb 0, cbits := pt cb 0 })) :: Br r B i3 :: blk bb 316 (bbf acc0 Fb) :: blk cb 19 (cbf own gx Fc) :: R) (fun gx => many ≤ gx ∧ gx ≤ 19) (fun gx => 19 - gx) many (⟨Nat.le_refl _, hm19⟩) (.refl _) (.cons m0 (.sl 2 4 rfl)) ?_)))))))))))))
 rintro j2 ⟨hK1, hK2⟩
 refine CT.seq (CT.q (TL.m m0 (TL.val (n_lss j2 19 T0 .c) (TL.b (.hd .u1) (CT.ifd m0 (fun c138 => ?_) (fun c138 => ?_))))))
 ·
  refine CT.z (EX.seq (CT.seq (CT.block (CT.draw 9 fm (by kernel_rfl) ?_))))
  exact TS.m m4 (TS.c m0 (TS.f 1036 fo_103_8 m0 (TS.val (r_ld (v := (pt cb 0)) Tryz.isAgg96 m0 T0 (by decide) (Dget_cbits _)) (TS.m m4 (TS.val (r_iaa (i := j2) (off' := j2) Tryz.underlying106 Tryz.sizeOf3 .g T0 rfl (by omega) (by omega)) (TS.val (r_ldc (v := (i64 (ordr.getD j2 0))) Tryz.isAgg3 T0 (fun w hS => hS.base_some (hO j2 (by omega)))) (TS.c m3 (TS.val (r_iaa (i := (ordr.getD j2 0)) (off' := (ordr.getD j2 0)) Tryz.underlying106 Tryz.sizeOf3 T0 T1 rfl (ordr_lt j2 (by omega)) (by omega)) (TS.nil (TL.s (r_st (F' := cbf own (j2 + 1) Fc) Tryz.sizeOf3 (cbf_put (by omega) (hz j2 (by omega) (by omega)).symm) a3 T0 .c (ordr_lt j2 (by omega))) (TL.x .u9 (EX.bnormal (EX.seq (CT.region (TL.m m0 (TL.val (n_add j2 1 9223372036854775808 T0 .c) (TL.rm .h2 (TL.a m0 (TL.x (.hd .u2) (EX.again (j2 + 1) (⟨by omega, by omega⟩) (by omega) (.refl _) (.eq m0 (congrArg (fun z : Nat => Value.int .i64 (z : Int)) (show ((j2 + 1) : Nat) = j2 + 1 by omega)) (.sl 1 4 rfl))))))))))))))))))))))
 refine CT.fold (A' := (blk cb 19 (cbf own 19 Fc))) a3 (blk_eq rfl (by rw [show j2 = 19 by omega])) (CT.sub .u1 (CT.exit (EX.then_exit (EX.then_exit (EX.out (EX.seq (CT.seq (CT.seq ?_))))))))
 rcases hH with ⟨hov, ho⟩ | ⟨hfu, hrr⟩
 ·
  refine CT.draw 9 fm (by kernel_rfl) ?_
  refine TS.m m4 (TS.c m0 (TS.f 5 fo_103_5 m0 (TS.m m7 (TS.c m0 (TS.f 1036 fo_103_8 m0 (TS.val (r_ld (v := (pt cb 0)) Tryz.isAgg96 m0 T0 (by decide) (Dget_cbits _)) (TS.c m0 (TS.val (r_slicea (off' := 0) (m := 19) (c' := 19) Tryz.underlying106 Tryz.sizeOf3 T0 (.so (j := 0) .c rfl) .no (by (try simp) <;> omega) (by (try simp) <;> omega) (by simp) (by simp) (by simp)) (TS.nil (TL.sub (ρ' := [(158, (.slice (some ⟨cb, 0, none⟩) own.length 19)), (157, (pt cb 0)), (156, (pt cb 0)), (155, (pt f 1036)), (154, (pt f 0)), (153, (pt f 0)), (152, (pt f 5)), (151, (pt f 0)), (150, (pt f 0)), (9, (i64 j2)), (6, (i64 many)), (5, (i64 nd)), (4, (i64 nl)), (0, (pt f 0))]) (.eq m0 (by rw [h19]) (.sl 1 13 rfl)) (TL.perm p3 (TL.perm p1 (TL.call (r_call ce_111 (.cons T6 (.cons T0 .nil))) (fun w hS => t111a_over (s := { s with r := rif r, roff := i3, b := b3, nb := n3, bits := pt bb 0, cbits := pt cb 0 }) hHO (blk cb 19 (cbf own 19 Fc)) own cb 0 19 (cbf_rd h19) (by omega) (fun x hx => Nat.le_trans (h7 x hx) (by decide)) hov hS) ?_)))))))))))))
  rintro _ w159 ⟨H1, rfl, hHO1, hS⟩
  refine TW.at hS (TL.val (r_notf T0) (TL.b (.hd .u10) (CT.ift m0 ?_)))
  exact CT.y (TL.m m4 (TL.c m0 (TL.f 2 fo_103_2 m0 (TL.val (r_ld (v := (i64 i3)) Tryz.isAgg2 m0 T0 (by decide) (Dget_roff _)) (TL.val (r_mki Tryz.underlying121 T0) (TL.a m0 (TL.b (.hd .u5) (CT.ret (EX.then_ret (EX.perm p1 (EX.perm p3 (EX.perm p3 (EX.perm p3 (EX.end_ (.inl rfl) (res1 Tryz.results90 m0) (fun _ hS => ⟨i3, b3, n3, H1, hJ3, hHO1, .inl ⟨ho, _, rfl, any2 hS⟩⟩)))))))))))))))
 refine CT.draw 9 fm (by kernel_rfl) ?_
 refine TS.m m4 (TS.c m0 (TS.f 5 fo_103_5 m0 (TS.m m7 (TS.c m0 (TS.f 1036 fo_103_8 m0 (TS.val (r_ld (v := (pt cb 0)) Tryz.isAgg96 m0 T0 (by decide) (Dget_cbits _)) (TS.c m0 (TS.val (r_slicea (off' := 0) (m := 19) (c' := 19) Tryz.underlying106 Tryz.sizeOf3 T0 (.so (j := 0) .c rfl) .no (by (try simp) <;> omega) (by (try simp) <;> omega) (by simp) (by simp) (by simp)) (TS.nil (TL.sub (ρ' := [(158, (.slice (some ⟨cb, 0, none⟩) own.length 19)), (157, (pt cb 0)), (156, (pt cb 0)), (155, (pt f 1036)), (154, (pt f 0)), (153, (pt f 0)), (152, (pt f 5)), (151, (pt f 0)), (150, (pt f 0)), (9, (i64 j2)), (6, (i64 many)), (5, (i64 nd)), (4, (i64 nl)), (0, (pt f 0))]) (.eq m0 (by rw [h19]) (.sl 1 13 rfl)) (TL.perm p3 (TL.perm p1 (TL.call (r_call ce_111 (.cons T6 (.cons T0 .nil))) (fun w hS => t111a (s := { s with r := rif r, roff := i3, b := b3, nb := n3, bits := pt bb 0, cbits := pt cb 0 }) hHO (blk cb 19 (cbf own 19 Fc)) own cb 0 19 (cbf_rd h19) (by omega) (fun x hx => Nat.le_trans (h7 x hx) (by decide)) hfu hS) ?_)))))))))))))
 rintro _ w159 ⟨t1, H1, rfl, ht1, ⟨hmn1, hmn2, hmn3⟩, hHO1, hS⟩
 refine TW.at hS (TL.val (r_nott T0) (TL.b (.hd .u10) (CT.iff_ m0 ?_)))
 refine CT.z (EX.seq (CT.seq (CT.q (TL.m m3 (TL.m m3 (TL.val (n_add nl nd 9223372036854775808 T1 T0) (TL.val (r_asg .c) (TL.a m1 (TL.b (.hd (.hd .u3)) (CT.block ?_))))))))))
 have hJ6 : B.drop (k + 5 + 5 + 4 + 3 * j) = bits := by rw [hJ5, List.drop_of_length_le (by rw [List.length_take]; omega)]; rfl
 have hkB2 : k + 5 + 5 + 4 + 3 * j ≤ B.length := by omega
 refine CT.perm p2 (CT.perm p2 (CT.perm p4 (CT.perm p4 (CT.perm p4 (CT.loop (X := List Nat × Nat × Nat × Nat × Nat) (fun gx => [(10, (i64 ((gx.1).length))), (11, (i64 (nl + nd))), (6, (i64 many)), (5, (i64 nd)), (4, (i64 nl)), (0, (pt f 0))]) (fun gx => (blk f 1054 (D { s with r := rif r, roff := gx.2.2.1, b := gx.2.2.2.1, nb := gx.2.2.2.2, H := H1, bits := pt bb 0, cbits := pt cb 0 })) :: Br r B gx.2.2.1 :: blk bb 316 (bbf gx.1 Fb) :: blk cb 19 (cbf own 19 Fc) :: Lnks t1 :: R) (fun gx => Held B gx.2.1 gx.2.2.1 gx.2.2.2.1 gx.2.2.2.2 ∧ gx.2.2.2.2 ≤ 7 ∧ gx.2.2.1 ≤ (pack B).length ∧ (gx.1).length ≤ nl + nd ∧ gx.2.1 ≤ B.length ∧ RunR own nl nd gx.1 (B.drop gx.2.1) o) (fun gx => nl + nd - (gx.1).length) ((acc0, k + 5 + 5 + 4 + 3 * j, i3, b3, n3)) (⟨hJ1, hJ2, hJ3, by show acc0.length ≤ nl + nd; omega, hkB2, by rw [hacc0]; show RunR own nl nd [] (B.drop (k + 5 + 5 + 4 + 3 * j)) o; rw [hJ6]; exact hrr⟩) (.refl _) (.eq m1 (congrArg (fun z : Nat => Value.int .i64 (z : Int)) (show (0 : Nat) = acc0.length by omega)) (.cons m0 (.sl 3 4 rfl))) ?_)))))
 rintro ⟨acc, kk, i6, b6, n6⟩ ⟨hI1, hI2, hI3, hI4, hI5, hI6⟩
 replace hI1 : Held B kk i6 b6 n6 := hI1
 replace hI2 : n6 ≤ 7 := hI2
 replace hI3 : i6 ≤ (pack B).length := hI3
 replace hI4 : acc.length ≤ nl + nd := hI4
 replace hI5 : kk ≤ B.length := hI5
 replace hI6 : RunR own nl nd acc (B.drop kk) o := hI6
 refine CT.seq (CT.q (TL.m m0 (TL.m m2 (TL.val (n_lss acc.length ((nl + nd)) T1 T0) (TL.b (.hd .u2) (CT.ifd m0 (fun c171 => ?_) (fun c171 => ?_)))))))
 ·
  obtain ⟨x, v, rest, hbx, hok, hv, hcs⟩ := hI6.step c171
  have hlx := congrArg List.length hbx
  simp only [List.length_drop, List.length_append, symB_length, nbits_length] at hlx
  have hx18 : x < 19 := by have := hok.1; omega
  have hlk1 := hok.2.1; have hlk2 := hok.2.2
  have hmx := hmn3 x hok
  have hdr := drop_app hbx
  rw [symB_length] at hdr
  refine CT.z (EX.seq (CT.block (CT.q (TL.m m5 (TL.m m6 (TL.c m0 (TL.f 5 fo_103_5 m0 (TL.perm p4 (TL.perm p3 (TL.perm p3 (TL.perm p3 (TL.call (r_call ce_112 (.cons T3 (.cons T0 .nil))) (fun w hS => t112 (s := { s with r := rif r, roff := i6, b := b6, nb := n6, H := H1, bits := pt bb 0, cbits := pt cb 0 }) (k := x) (at_ := kk) trd_h1 ht1 hok hbx hI1 (by show n6 ≤ 22; omega) (by omega) hBl hI3 rfl rfl hS) ?_))))))))))))
  rintro _ w177 ⟨i7, b7, n7, rfl, hheld7, hn7, hil7, hS⟩
  replace hS : Sat G w177 (blk f 1054 (D { s with r := rif r, roff := i7, b := b7, nb := n7, H := H1, bits := pt bb 0, cbits := pt cb 0 }) :: Br r B i7 :: blk bb 316 (bbf acc Fb) :: Lnks t1 :: blk cb 19 (cbf own 19 Fc) :: R) := hS
  refine TW.at hS ?_
  replace hn7 : n7 + own.getD x 0 ≤ max n6 (max t1.mn (own.getD x 0) + 7) := hn7
  have hn77 : n7 ≤ 7 := by omega
  refine TL.m m0 (TL.val (r_ext T0) (TL.val (r_ext T1) (TL.a m1 (TL.a m1 (TL.b (.hd (.hd .u8)) (CT.seq (CT.q (TL.m m0 (TL.val (r_nen Tryz.underlying82 T0) (TL.b (.hd .u1) (CT.iff_ m0 ?_)))))))))))
  refine CT.z (EX.seq (CT.seq (CT.q (TL.m m1 (TL.val (n_lss x 16 T0 .c) (TL.b (.hd .u1) (CT.ifd m0 (fun c184 => ?_) (fun c184 => ?_))))))))
  ·
   have hr1 := (rn16 c184 v).1
   have hdr2 : B.drop (kk + own.getD x 0) = rest := by rw [hdr, hr1]; rfl
   have hal : (acc ++ [x]).length = acc.length + 1 := by rw [List.length_append]; rfl
   have hnx : RunR own nl nd (acc ++ [x]) rest o := by rcases hcs with ⟨_, h, _⟩ | ⟨_, ⟨_, h⟩ | ⟨h1, h2⟩⟩ <;> first | omega | (rw [rnExp16 c184, hal] at h; omega) | (rw [rnExp16 c184] at h2; exact h2)
   exact CT.y (TL.m m7 (TL.c m0 (TL.f 1035 fo_103_7 m0 (TL.val (r_ld (v := (pt bb 0)) Tryz.isAgg95 m0 T0 (by decide) (Dget_bits _)) (TL.m m6 (TL.m m6 (TL.c m2 (TL.val (r_iaa (i := acc.length) (off' := acc.length) Tryz.underlying105 Tryz.sizeOf3 T0 T2 rfl (by omega) (by omega)) (TL.s (r_st (F' := bbf (acc ++ [x]) Fb) Tryz.sizeOf3 (bbf_put2 rfl) a2 T0 T2 (by omega)) (TL.r .u8 (TL.m m2 (TL.val (n_add acc.length 1 9223372036854775808 T0 .c) (TL.rm .h4 (TL.a m0 (TL.b (.hd .u2) (CT.exit (EX.then_exit (EX.out (EX.perm p3 (EX.perm p4 (EX.perm p4 (EX.perm p4 (EX.perm p4 (EX.again ((acc ++ [x], kk + own.getD x 0, i7, b7, n7)) (⟨hheld7, hn77, hil7, by show (acc ++ [x]).length ≤ nl + nd; omega, (by show kk + own.getD x 0 ≤ B.length; omega), by show RunR own nl nd (acc ++ [x]) (B.drop (kk + own.getD x 0)) o; rw [hdr2]; exact hnx⟩) (by show nl + nd - (acc ++ [x]).length < nl + nd - acc.length; omega) (.refl _) (.eq m0 (congrArg (fun z : Nat => Value.int .i64 (z : Int)) (show ((acc.length + 1) : Nat) = (acc ++ [x]).length by omega)) (.sl 3 5 rfl))))))))))))))))))))))))))
  have hge : 16 ≤ x := by omega
  obtain ⟨hrm, hrm0, hrb⟩ := rnMany_ge hge hx18 v
  refine CT.z (EX.q (TL.val (r_asg .c) (TL.q (TL.val (r_asg .c) (TL.q (TL.val (r_asg .c) (TL.e (CT.cut (X := Unit) (fun gx => [(16, (i64 (rnVal acc x))), (15, (u64 (rnBits x))), (14, (i64 (rnMany x 0))), (13, .nilIface), (12, (i64 x)), (10, (i64 acc.length)), (11, (i64 (nl + nd))), (6, (i64 many)), (5, (i64 nd)), (4, (i64 nl)), (0, (pt f 0))]) (fun gx => (blk f 1054 (D { s with r := rif r, roff := i7, b := b7, nb := n7, H := H1, bits := pt bb 0, cbits := pt cb 0 })) :: Br r B i7 :: blk bb 316 (bbf acc Fb) :: blk cb 19 (cbf own 19 Fc) :: Lnks t1 :: R) (fun gx => x = 16 → acc ≠ []) ?_ ?_))))))))
  ·
   refine CT.q (TL.m m4 (TL.e (CT.block (CT.q (TL.val (n_eql x 16 T0 .c) (TL.a m0 (TL.b (.hd .u1) (CT.ifd m0 (fun c197 => ?_) (fun c197 => ?_)))))))))
   ·
    obtain ⟨hq1, hq2, hq3⟩ : rnMany x 0 = 3 ∧ rnBits x = 2 ∧ rnVal acc x = acc.getD (acc.length - 1) 0 := by rw [c197]; exact ⟨rfl, rfl, rfl⟩
    refine CT.y (TL.rm .h3 (TL.val (r_asg .c) (TL.q (TL.rm .h3 (TL.val (r_asg .c) (TL.e (CT.seq (CT.q (TL.m m6 (TL.val (n_eql acc.length 0 T0 .c) (TL.b (.hd .u1) (CT.ifd m0 (fun c200 => ?_) (fun c200 => ?_)))))))))))))
    ·
     have ho : o = none := by rcases hcs with ⟨h, _⟩ | ⟨h, _⟩ <;> first | exact h | exact absurd (List.length_eq_zero_iff.1 c200) (h c197)
     refine CT.y (TL.m m11 (TL.c m0 (TL.f 2 fo_103_2 m0 (TL.val (r_ld (v := (i64 i7)) Tryz.isAgg2 m0 T0 (by decide) (Dget_roff _)) (TL.val (r_mki Tryz.underlying121 T0) (TL.a m0 (TL.b (.hd .u5) (CT.ret (EX.then_ret (EX.bret (EX.then_ret (EX.bret (EX.then_ret (EX.bret (EX.then_ret (EX.perm p3 (EX.conv (fun _ h => h.tail) ?_)))))))))))))))))
     exact EX.perm p3 (EX.perm p3 (EX.perm p3 (EX.perm p3 (EX.end_ (.inl rfl) (res1 Tryz.results90 m0) (fun _ hS => ⟨i7, b7, n7, H1, hil7, hHO1, .inl ⟨ho, _, rfl, any2 hS⟩⟩)))))
    exact CT.z (EX.seq (CT.region (TL.m m11 (TL.c m0 (TL.f 1035 fo_103_7 m0 (TL.val (r_ld (v := (pt bb 0)) Tryz.isAgg95 m0 T0 (by decide) (Dget_bits _)) (TL.m m10 (TL.val (n_sub acc.length 1 9223372036854775808 T0 .c) (TL.c m2 (TL.val (r_iaa (i := (acc.length - 1)) (off' := (acc.length - 1)) Tryz.underlying105 Tryz.sizeOf3 T0 T1 rfl (by omega) (by omega)) (TL.val (r_ld (v := (i64 ((acc).getD ((acc.length - 1)) 0))) Tryz.isAgg3 m2 T0 (by omega) (bbf_get (by omega))) (TL.rm .h12 (TL.a m0 (TL.x (.hd .u9) (EX.bnormal (EX.perm p3 (EX.perm p4 (EX.perm p4 (EX.perm p4 (EX.perm p4 (EX.meet () (fun _ h => by rw [h] at c200; exact c200 rfl) (.refl _) (.eq m0 (congrArg (fun z : Nat => Value.int .i64 (z : Int)) (show (((acc).getD ((acc.length - 1)) 0) : Nat) = (rnVal acc x) by omega)) (.eq m1 (congrArg (fun z : Nat => Value.int .u64 (z : Int)) (show (2 : Nat) = (rnBits x) by omega)) (.eq m2 (congrArg (fun z : Nat => Value.int .i64 (z : Int)) (show (3 : Nat) = (rnMany x 0) by omega)) (.sl 4 8 rfl)))))))))))))))))))))))))
   refine CT.y (TL.val (n_eql x 17 T0 .c) (TL.a m0 (TL.b (.hd .u1) (CT.ifd m0 (fun c215 => ?_) (fun c215 => ?_)))))
   ·
    obtain ⟨hq1, hq2, hq3⟩ : rnMany x 0 = 3 ∧ rnBits x = 3 ∧ rnVal acc x = 0 := by rw [c215]; exact ⟨rfl, rfl, rfl⟩
    exact CT.y (TL.rm .h3 (TL.val (r_asg .c) (TL.q (TL.rm .h3 (TL.val (r_asg .c) (TL.e (CT.region (TL.rm .h3 (TL.val (r_asg .c) (TL.nil (EX.bnormal (EX.perm p3 (EX.perm p4 (EX.perm p4 (EX.perm p4 (EX.perm p4 (EX.meet () (fun h => absurd h (by omega)) (.refl _) (.eq m0 (congrArg (fun z : Nat => Value.int .i64 (z : Int)) (show (0 : Nat) = (rnVal acc x) by omega)) (.eq m1 (congrArg (fun z : Nat => Value.int .u64 (z : Int)) (show (3 : Nat) = (rnBits x) by omega)) (.eq m2 (congrArg (fun z : Nat => Value.int .i64 (z : Int)) (show (3 : Nat) = (rnMany x 0) by omega)) (.sl 4 8 rfl)))))))))))))))))))))
   refine CT.y (TL.val (n_eql x 18 T0 .c) (TL.a m0 (TL.b (.hd .u1) (CT.ifd m0 (fun c217 => ?_) (fun c217 => ?_)))))
   ·
    obtain ⟨hq1, hq2, hq3⟩ : rnMany x 0 = 11 ∧ rnBits x = 7 ∧ rnVal acc x = 0 := by rw [c217]; exact ⟨rfl, rfl, rfl⟩
    exact CT.y (TL.rm .h3 (TL.val (r_asg .c) (TL.q (TL.rm .h3 (TL.val (r_asg .c) (TL.e (CT.region (TL.rm .h3 (TL.val (r_asg .c) (TL.nil (EX.bnormal (EX.perm p3 (EX.perm p4 (EX.perm p4 (EX.perm p4 (EX.perm p4 (EX.meet () (fun h => absurd h (by omega)) (.refl _) (.eq m0 (congrArg (fun z : Nat => Value.int .i64 (z : Int)) (show (0 : Nat) = (rnVal acc x) by omega)) (.eq m1 (congrArg (fun z : Nat => Value.int .u64 (z : Int)) (show (7 : Nat) = (rnBits x) by omega)) (.eq m2 (congrArg (fun z : Nat => Value.int .i64 (z : Int)) (show (11 : Nat) = (rnMany x 0) by omega)) (.sl 4 8 rfl)))))))))))))))))))))
   exfalso; omega
  rintro ⟨⟩ hne
  replace hne : x = 16 → acc ≠ [] := hne
  have hrl := rnExp_length acc x v
  have hcs2 : (o = none ∧ nl + nd < (rnExp acc x v).length) ∨ ((rnExp acc x v).length ≤ nl + nd ∧ RunR own nl nd (rnExp acc x v) rest o) := by rcases hcs with ⟨_, h1, h2⟩ | ⟨_, h⟩ <;> first | exact absurd h2 (hne h1) | exact h
  have hp7 : 2 ^ rnBits x ≤ 2 ^ 7 := Nat.pow_le_pow_right (by decide) hrb
  have hpp := Nat.two_pow_pos (rnBits x)
  have hdr2 := drop_app hdr
  rw [nbits_length] at hdr2
  refine CT.seq (CT.block (CT.loop (X := Nat × Nat × Nat) (fun gx => [(16, (i64 (rnVal acc x))), (15, (u64 (rnBits x))), (14, (i64 (rnMany x 0))), (13, .nilIface), (12, (i64 x)), (10, (i64 acc.length)), (11, (i64 (nl + nd))), (6, (i64 many)), (5, (i64 nd)), (4, (i64 nl)), (0, (pt f 0))]) (fun gx => (blk f 1054 (D { s with r := rif r, roff := gx.1, b := gx.2.1, nb := gx.2.2, H := H1, bits := pt bb 0, cbits := pt cb 0 })) :: Br r B gx.1 :: blk bb 316 (bbf acc Fb) :: blk cb 19 (cbf own 19 Fc) :: Lnks t1 :: R) (fun gx => Held B (kk + own.getD x 0) gx.1 gx.2.1 gx.2.2 ∧ NB 0 (rnBits x) gx.2.2 ∧ gx.1 ≤ (pack B).length) (fun gx => rnBits x - gx.2.2) ((i7, b7, n7)) (⟨hheld7, .of (by omega), hil7⟩) (.refl _) (.sl 0 11 rfl) ?_))
  rintro ⟨i8, b8, n8⟩ ⟨hheld8, hnb8, hib8⟩
  replace hheld8 : Held B (kk + own.getD x 0) i8 b8 n8 := hheld8
  replace hnb8 : NB 0 (rnBits x) n8 := hnb8
  replace hib8 : i8 ≤ (pack B).length := hib8
  have hn8b : n8 ≤ 22 := hnb8.le (by decide) (by omega)
  have hb8 : b8 < 4294967296 := Nat.lt_of_lt_of_le hheld8.lt (Nat.pow_le_pow_right (by decide) (show n8 ≤ 32 from Nat.le_trans hn8b (by decide)))
  refine CT.seq (CT.q (TL.m m10 (TL.c m0 (TL.f 4 fo_103_4 m0 (TL.val (r_ld (v := (u64 n8)) Tryz.isAgg90 m0 T0 (by decide) (Dget_nb _)) (TL.m m5 (TL.val (n_lss n8 ((rnBits x)) T1 T0) (TL.b (.hd .u5) (CT.ifd m0 (fun c224 => ?_) (fun c224 => ?_))))))))))
  ·
   have hlt8 : n8 < rnBits x := by omega
   have hbyte8 := byte_ok hheld8 hlt8 (show kk + own.getD x 0 + rnBits x ≤ B.length by omega)
   refine CT.z (EX.seq (CT.block (CT.q (TL.m m10 (TL.perm p1 (TL.perm p1 (TL.call (r_call ce_86 (.cons T0 .nil)) (fun w hS => t86 f r i8 B { s with r := rif r, roff := i8, b := b8, nb := n8, H := H1, bits := pt bb 0, cbits := pt cb 0 } hbyte8.2 (by omega) (by show i8 < 9223372036854775807; omega) (by show b8 < 4294967296; omega) (by show n8 ≤ 24; omega) hS) ?_)))))))
   rintro z226 w226 ⟨hz226, hS⟩
   replace hz226 : z226 = .nilIface := hz226
   subst hz226
   replace hS : Sat G w226 (blk f 1054 (D { s with r := rif r, roff := i8 + 1, b := b8 ||| byteAt B i8 * 2 ^ n8, nb := n8 + 8, H := H1, bits := pt bb 0, cbits := pt cb 0 }) :: Br r B (i8 + 1) :: blk bb 316 (bbf acc Fb) :: blk cb 19 (cbf own 19 Fc) :: Lnks t1 :: R) := hS
   refine TW.at hS (TL.a m0 (TL.r (.hd .u2) (TL.m m0 (TL.val (r_nen Tryz.underlying82 T0) (TL.b (.hd .u1) (CT.iff_ m0 ?_))))))
   exact CT.z (EX.bnormal (EX.again ((i8 + 1, b8 ||| byteAt B i8 * 2 ^ n8, n8 + 8)) (⟨hheld8.more hbyte8.1, hnb8.more hlt8, hbyte8.2⟩) (by show rnBits x - (n8 + 8) < rnBits x - n8; omega) (.refl _) (.sl 1 11 rfl)))
  have hge8 : rnBits x ≤ n8 := by omega
  refine CT.sub .u1 (CT.exit (EX.then_exit (EX.then_exit (EX.out (EX.q (TL.m m2 (TL.m m11 (TL.c m0 (TL.f 3 fo_103_3 m0 (TL.val (r_ld (v := (u32 b8)) Tryz.isAgg89 m0 T0 (by decide) (Dget_b _)) (TL.m m6 (TL.val (n_shl 1 ((rnBits x)) 4294967296 .c T0 rfl rfl (show _ ≤ 32 by omega) (by omega)) (TL.val (n_sub ((1 * 2 ^ (rnBits x))) 1 4294967296 T0 .c) (TL.val (n_and b8 (1 * 2 ^ rnBits x - 1) 4294967296 T3 T0 rfl rfl (by omega) (by omega)) (TL.sub (.eq m0 (congrArg (fun z : Nat => Value.int .u32 (z : Int)) (hheld8.and (by omega) hv hdr)) (.cons m1 (.cons m2 (.cons m3 (.cons m4 (.cons m5 (.cons m6 (.cons m7 (.cons m8 (.cons m9 (.cons m10 (.cons m11 (.cons m12 (.cons m13 (.cons m14 (.cons m15 (.cons m16 (.cons m17 (.cons m18 (.cons m19 .nil)))))))))))))))))))) (TL.val (n_conv v 9223372036854775808 ⟨_, Tryz.underlying89⟩ Tryz.underlying3 T0 rfl (by omega)) (TL.val (n_add ((rnMany x 0)) v 9223372036854775808 T9 T0) (TL.rm .h13 (TL.a m0 (TL.r (.hd .u11) (TL.m m10 (TL.c m0 (TL.f 3 fo_103_3 m0 (TL.val (r_ld (v := (u32 b8)) Tryz.isAgg89 m0 T0 (by decide) (Dget_b _)) (TL.m m6 (TL.val (n_shr b8 ((rnBits x)) T1 T0 rfl rfl (show _ ≤ 32 by omega)) (TL.c m5 (TL.f 3 fo_103_3 m0 (TL.s (r_st (F' := D { s with r := rif r, roff := i8, b := b8 / 2 ^ (rnBits x), nb := n8, H := H1, bits := pt bb 0, cbits := pt cb 0 }) Tryz.sizeOf89 (Dsat_b ((b8 / 2 ^ (rnBits x)))) a0 T0 T2 (by decide)) (TL.b .u8 (CT.seq ?_)))))))))))))))))))))))))))))))
  refine CT.region (TL.m m10 (TL.c m0 (TL.f 4 fo_103_4 m0 (TL.val (r_ld (v := (u64 n8)) Tryz.isAgg90 m0 T0 (by decide) (Dget_nb _)) (TL.m m6 (TL.val (n_sub n8 ((rnBits x)) 18446744073709551616 T1 T0) (TL.c m5 (TL.f 4 fo_103_4 m0 (TL.s (r_st (F' := D { s with r := rif r, roff := i8, b := b8 / 2 ^ (rnBits x), nb := n8 - (rnBits x), H := H1, bits := pt bb 0, cbits := pt cb 0 }) Tryz.sizeOf90 (Dsat_nb ((n8 - (rnBits x)))) a0 T0 T2 (by decide)) (TL.b .u8 (CT.seq (CT.q (TL.m m5 (TL.m m1 (TL.val (n_add acc.length (((rnMany x 0) + v)) 9223372036854775808 T1 T0) (TL.m m9 (TL.val (n_gtr ((acc.length + ((rnMany x 0) + v))) ((nl + nd)) T1 T0) (TL.b (.hd .u4) (CT.ifd m0 (fun c261 => ?_) (fun c261 => ?_))))))))))))))))))))
  ·
   have ho : o = none := by rcases hcs2 with ⟨h, _⟩ | ⟨h, _⟩ <;> first | exact h | omega
   refine CT.y (TL.m m10 (TL.c m0 (TL.f 2 fo_103_2 m0 (TL.val (r_ld (v := (i64 i8)) Tryz.isAgg2 m0 T0 (by decide) (Dget_roff _)) (TL.val (r_mki Tryz.underlying121 T0) (TL.a m0 (TL.b (.hd .u5) (CT.ret (EX.then_ret (EX.bret (EX.then_ret (EX.bret (EX.then_ret (EX.perm p4 (EX.conv (fun _ h => h.tail) ?_)))))))))))))))
   exact EX.perm p3 (EX.perm p3 (EX.perm p3 (EX.perm p3 (EX.end_ (.inl rfl) (res1 Tryz.results90 m0) (fun _ hS => ⟨i8, b8 / 2 ^ rnBits x, n8 - rnBits x, H1, hib8, hHO1, .inl ⟨ho, _, rfl, any2 hS⟩⟩)))))
  have hcs3 : RunR own nl nd (rnExp acc x v) rest o := by rcases hcs2 with ⟨_, h⟩ | ⟨_, h⟩ <;> first | exact h | omega
  refine CT.z (EX.q (TL.val (r_asg .c) (TL.e (CT.block (CT.fold (A' := (blk bb 316 (bbf (acc ++ List.replicate 0 (rnVal acc x)) Fb))) a2 (blk_eq rfl (by rw [List.replicate_zero, List.append_nil])) (CT.fold (A' := (blk f 1054 (D { s with r := rif r, roff := i8, b := b8 / 2 ^ rnBits x, nb := n8 - rnBits x, H := H1, bits := pt bb 0, cbits := pt cb 0 }))) a0 (D_eq rfl) (CT.loop (X := Nat) (fun gx => [(18, (i64 gx)), (10, (i64 (acc.length + gx))), (14, (i64 ((rnMany x 0) + v))), (16, (i64 (rnVal acc x))), (11, (i64 (nl + nd))), (6, (i64 many)), (5, (i64 nd)), (4, (i64 nl)), (0, (pt f 0))]) (fun gx => (blk f 1054 (D { s with r := rif r, roff := i8, b := b8 / 2 ^ rnBits x, nb := n8 - rnBits x, H := H1, bits := pt bb 0, cbits := pt cb 0 })) :: Br r B i8 :: blk bb 316 (bbf (acc ++ List.replicate gx (rnVal acc x)) Fb) :: blk cb 19 (cbf own 19 Fc) :: Lnks t1 :: R) (fun gx => gx ≤ rnMany x 0 + v) (fun gx => rnMany x 0 + v - gx) 0 (Nat.zero_le _) (.refl _) (.cons m0 (.eq m6 (congrArg (fun z : Nat => Value.int .i64 (z : Int)) (show (acc.length : Nat) = (acc.length + 0) by omega)) (.cons m1 (.cons m2 (.sl 7 5 rfl))))) ?_)))))))
  rintro c hL
  replace hL : c ≤ rnMany x 0 + v := hL
  refine CT.seq (CT.q (TL.m m0 (TL.m m3 (TL.val (n_lss c (((rnMany x 0) + v)) T1 T0) (TL.b (.hd .u2) (CT.ifd m0 (fun c269 => ?_) (fun c269 => ?_)))))))
  ·
   exact CT.z (EX.seq (CT.seq (CT.block (CT.q (TL.m m8 (TL.c m0 (TL.f 1035 fo_103_7 m0 (TL.val (r_ld (v := (pt bb 0)) Tryz.isAgg95 m0 T0 (by decide) (Dget_bits _)) (TL.m m5 (TL.m m8 (TL.c m2 (TL.val (r_iaa (i := (acc.length + c)) (off' := (acc.length + c)) Tryz.underlying105 Tryz.sizeOf3 T0 T2 rfl (by omega) (by omega)) (TL.s (r_st (F' := bbf (acc ++ List.replicate c (rnVal acc x) ++ [(rnVal acc x)]) Fb) Tryz.sizeOf3 (bbf_put2 (by rw [List.length_append, List.length_replicate])) a2 T0 T2 (by omega)) (TL.b .u8 (CT.region (TL.m m1 (TL.val (n_add ((acc.length + c)) 1 9223372036854775808 T0 .c) (TL.rm .h3 (TL.a m0 (TL.x (.hd .u2) (EX.bnormal (EX.seq (CT.region (TL.m m1 (TL.val (n_add c 1 9223372036854775808 T0 .c) (TL.rm .h3 (TL.a m0 (TL.x (.hd .u2) (EX.fold (A' := (blk bb 316 (bbf (acc ++ List.replicate (c + 1) (rnVal acc x)) Fb))) a2 (blk_eq rfl (by rw [List.append_assoc, ← List.replicate_succ'])) (EX.again (c + 1) (by show c + 1 ≤ rnMany x 0 + v; omega) (by show rnMany x 0 + v - (c + 1) < rnMany x 0 + v - c; omega) (.refl _) (.eq m0 (congrArg (fun z : Nat => Value.int .i64 (z : Int)) (show ((c + 1) : Nat) = c + 1 by omega)) (.eq m1 (congrArg (fun z : Nat => Value.int .i64 (z : Int)) (show (((acc.length + c) + 1) : Nat) = (acc.length + c + 1) by omega)) (.sl 2 7 rfl)))))))))))))))))))))))))))))))))
  have hce : c = rnMany x v := by omega
  have hmp := rnMany_pos x v
  exact CT.sub .u1 (CT.exit (EX.then_exit (EX.then_exit (EX.out (EX.bnormal (EX.fold (A' := (blk bb 316 (bbf (rnExp acc x v) Fb))) a2 (blk_eq rfl (by rw [hce]; rfl)) (EX.again ((rnExp acc x v, kk + own.getD x 0 + rnBits x, i8, b8 / 2 ^ rnBits x, n8 - rnBits x)) (⟨hheld8.take hge8, (by show n8 - rnBits x ≤ 7; have := hnb8.take; omega), hib8, (by show (rnExp acc x v).length ≤ nl + nd; omega), (by show kk + own.getD x 0 + rnBits x ≤ B.length; omega), by show RunR own nl nd (rnExp acc x v) (B.drop (kk + own.getD x 0 + rnBits x)) o; rw [hdr2]; exact hcs3⟩) (by show nl + nd - (rnExp acc x v).length < nl + nd - acc.length; omega) (.refl _) (.eq m1 (congrArg (fun z : Nat => Value.int .i64 (z : Int)) (show ((acc.length + c) : Nat) = (rnExp acc x v).length by omega)) (.sl 4 5 rfl)))))))))
 obtain ⟨lit, dist, hacc, hl1, hl2, h15, h256, hfin⟩ := hI6.fin (by omega)
 have hll : (lit ++ dist).length ≤ 316 := by rw [List.length_append]; omega
 have h15l : ∀ x ∈ lit, x ≤ 15 := fun x hx => h15 x (List.mem_append_left _ hx)
 have h15d : ∀ x ∈ dist, x ≤ 15 := fun x hx => h15 x (List.mem_append_right _ hx)
 have hx256 := h256.1
 refine CT.fold (A' := (blk bb 316 (bbf (lit ++ dist) Fb))) a2 (blk_eq rfl (by rw [hacc])) (CT.sub .u1 (CT.exit (EX.then_exit (EX.then_exit (EX.out (EX.seq (CT.seq (CT.seq ?_))))))))
 rcases hfin with ⟨ho, hfl, hfd | hz0⟩ | ⟨ho, hovl | ⟨hfl, hovd⟩⟩
 ·
  refine CT.any fm ?_
  refine TA.t 0 rfl (fun G L => r_move T5) (TA.t 1 rfl (fun G L => r_nil T0) (TA.t 2 rfl (fun G L => r_fa (off' := 5) fo_103_5 T0) (TA.t 3 rfl (fun G L => r_move T8) (TA.t 4 rfl (fun G L => r_nil T0) (TA.t 5 rfl (fun G L => r_fa (off' := 1035) fo_103_7 T0) (TA.t 8 rfl (fun G L => r_move T10) (TA.one 6 (by kernel_rfl) (TO.val rfl (r_ld (v := (pt bb 0)) Tryz.isAgg95 m0 T1 (by decide) (Dget_bits _)) (TA.t 7 rfl (fun G L => r_nil T0) (TA.t 9 rfl (fun G L => r_slicea (off' := 0) (m := nl) (c' := 316) Tryz.underlying105 Tryz.sizeOf3 T0 (.so (j := 0) .c rfl) (.so (j := nl) T2 rfl) (by (try simp) <;> omega) (by (try simp) <;> omega) (by simp) (by simp) (by simp)) (TA.sub (ρ' := [(291, (.slice (some ⟨bb, 0, none⟩) lit.length 316)), (289, (pt bb 0)), (288, (pt bb 0)), (290, (i64 nl)), (287, (pt f 1035)), (286, (pt f 0)), (285, (pt f 0)), (284, (pt f 5)), (283, (pt f 0)), (282, (pt f 0)), (10, (i64 acc.length)), (11, (i64 (nl + nd))), (6, (i64 many)), (5, (i64 nd)), (4, (i64 nl)), (0, (pt f 0))]) (.eq m0 (by rw [hl1]) (.sl 1 15 rfl)) (TA.one 10 (by kernel_rfl) (TO.perm p2 ?_)))))))))))))
  refine TO.perm p1 ?_
  refine TO.call rfl (r_call ce_111 (.cons T7 (.cons T0 .nil))) (fun w hS => t111a (s := { s with r := rif r, roff := i6, b := b6, nb := n6, H := H1, bits := pt bb 0, cbits := pt cb 0 }) hHO1 (blk bb 316 (bbf (lit ++ dist) Fb)) lit bb 0 316 (bbf_rd0 hll) (by omega) h15l hfl hS) ?_
  rintro _ w292 ⟨tl, H2, rfl, htl, ⟨hml1, hml2, hml3⟩, hHO2, hS⟩
  refine TB.at hS (TA.t 11 rfl (fun G L => r_nott T0) (TA.t 12 rfl (fun G L => r_move T0) (TA.g 13 rfl m0 (fun G L => r_move T18) ?_ rfl)))
  refine TA.g 14 rfl m1 (fun G L => r_nil T0) ?_ rfl
  refine TA.g 15 rfl m2 (fun G L => r_fa (off' := 520) fo_103_6 T0) ?_ rfl
  refine TA.g 16 rfl m3 (fun G L => r_move T21) ?_ rfl
  refine TA.g 17 rfl m4 (fun G L => r_nil T0) ?_ rfl
  refine TA.g 18 rfl m5 (fun G L => r_fa (off' := 1035) fo_103_7 T0) ?_ rfl
  refine TA.g 21 rfl m6 (fun G L => r_move T23) ?_ rfl
  refine TA.g 22 rfl m7 (fun G L => r_move T24) ?_ rfl
  refine TA.g 23 rfl m8 (fun G L => r_move T24) ?_ rfl
  refine TA.g 24 rfl m9 (fun G L => n_add nl nd 9223372036854775808 T1 T0 rfl rfl (by omega)) ?_ rfl
  refine TA.one 19 (by kernel_rfl) (TO.gval rfl m10 (r_ld (v := (pt bb 0)) Tryz.isAgg95 m0 T4 (by decide) (Dget_bits _)) ?_ rfl)
  refine TA.g 20 rfl m11 (fun G L => r_nil T0) ?_ rfl
  refine TA.g 25 rfl m12 (fun G L => r_slicea (off' := nl) (m := (nl + nd) - nl) (c' := 316 - nl) Tryz.underlying105 Tryz.sizeOf3 T0 (.so (j := nl) T5 rfl) (.so (j := (nl + nd)) T2 rfl) (by first | (show nl ≤ nl + nd; omega) | (show nl + nd ≤ 316; omega)) (by first | (show nl ≤ nl + nd; omega) | (show nl + nd ≤ 316; omega)) (by show (if 316 = nl then 0 else 0 + nl * 1) = nl; rw [if_neg (by omega)]; omega) (by simp) (by simp)) ?_ rfl
  refine TA.sub (ρ' := [(307, (.slice (some ⟨bb, nl, none⟩) dist.length ((316 - nl)))), (302, (pt bb 0)), (301, (pt bb 0)), (306, (i64 (nl + nd))), (305, (i64 nd)), (304, (i64 nl)), (303, (i64 nl)), (300, (pt f 1035)), (299, (pt f 0)), (298, (pt f 0)), (297, (pt f 520)), (296, (pt f 0)), (295, (pt f 0)), (294, (.bool false)), (293, (.bool false)), (292, (.bool true)), (291, (.slice (some ⟨bb, 0, none⟩) lit.length 316)), (289, (pt bb 0)), (288, (pt bb 0)), (290, (i64 nl)), (287, (pt f 1035)), (286, (pt f 0)), (285, (pt f 0)), (284, (pt f 5)), (283, (pt f 0)), (282, (pt f 0)), (10, (i64 acc.length)), (11, (i64 (nl + nd))), (6, (i64 many)), (5, (i64 nd)), (4, (i64 nl)), (0, (pt f 0))]) (.eq m0 (congrArg (fun z : Nat => Value.slice (some ⟨bb, nl, none⟩) z _) (show nl + nd - nl = dist.length by omega)) (.sl 1 31 rfl)) (TA.one 26 (by kernel_rfl) (TO.perm p1 ?_))
  refine TO.perm p1 ?_
  refine TO.gcall rfl m13 (r_call ce_111 (.cons T10 (.cons T0 .nil))) (fun w hS => t111b (s := { s with r := rif r, roff := i6, b := b6, nb := n6, H := H2, bits := pt bb 0, cbits := pt cb 0 }) hHO2 (blk bb 316 (bbf (lit ++ dist) Fb)) dist bb nl (316 - nl) (bbf_rd hll hl1) (by omega) h15d hfd hS) ?_ rfl
  rintro _ w308 ⟨td, H3, rfl, htd, hmd, hHO3, hH3, hS⟩
  refine TB.at hS (TA.g 27 rfl m14 (fun G L => r_nott T0) ?_ rfl)
  refine TA.t 28 rfl (fun G L => r_pickf T15 T0) (TA.done (by kernel_rfl) (EX.sub (.hd (.tl (.tl (.tl (.tl .u24))))) (EX.seq (CT.iff_ m0 ?_))))
  refine CT.z (EX.seq (CT.seq (CT.seq ?_)))
  have htl3 := htl.ext hH3
  have hm256 := hml3 256 h256
  have he15 := h256.2.2
  have he1 := h256.2.1
  refine CT.still fm (by kernel_rfl) ?_
  refine TS.m m5 (TS.c m0 (TS.f 5 fo_103_5 m0 (TS.f 5 fo_94_0 m0 (TS.val (r_ldc (v := (i64 tl.mn)) Tryz.isAgg3 T0 (fun w hS => (hS.cell m0 (i := 5) (by decide)).trans (congrArg some ((D_H _ (j := 0) (by decide)).trans (htl3.cells 0 (by decide)))))) (TS.m m10 (TS.c m0 (TS.f 1035 fo_103_7 m0 (TS.val (r_ld (v := (pt bb 0)) Tryz.isAgg95 m0 T0 (by decide) (Dget_bits _)) (TS.c m0 (TS.val (r_iaa (i := 256) (off' := 256) Tryz.underlying105 Tryz.sizeOf3 T0 .c rfl (by decide) rfl) (TS.val (r_ld (v := (i64 (lit.getD 256 0))) Tryz.isAgg3 m1 T0 (by decide) (bbf_lit (by omega))) (TS.val (n_lss tl.mn ((lit.getD 256 0)) T7 T0) (TS.nil (TL.b (.hd .u12) (CT.ifd m0 (fun c328 => ?_) (fun c328 => ?_))))))))))))))))
  ·
   refine CT.sub .u1 (CT.region (TL.m m5 (TL.m m6 (TL.c m0 (TL.f 1035 fo_103_7 m0 (TL.val (r_ld (v := (pt bb 0)) Tryz.isAgg95 m0 T0 (by decide) (Dget_bits _)) (TL.c m0 (TL.val (r_iaa (i := 256) (off' := 256) Tryz.underlying105 Tryz.sizeOf3 T0 .c rfl (by decide) rfl) (TL.val (r_ld (v := (i64 (lit.getD 256 0))) Tryz.isAgg3 m1 T0 (by decide) (bbf_lit (by omega))) (TL.c m7 (TL.f 5 fo_103_5 m0 (TL.f 5 fo_94_0 m0 (TL.s (r_st (F' := D { s with r := rif r, roff := i6, b := b6, nb := n6, H := upd H3 0 (i64 (lit.getD 256 0)), bits := pt bb 0, cbits := pt cb 0 }) Tryz.sizeOf3 (D_min _ _) a0 T0 T3 (by decide)) (TL.r .u11 (TL.val (r_asg .c) (TL.e (CT.ret (EX.perm p6 (EX.conv (fun _ h => h.tail) ?_)))))))))))))))))))
   exact EX.perm p2 (EX.perm p3 (EX.perm p5 (EX.perm p4 (EX.perm p5 (EX.perm p5 (EX.end_ (.inl rfl) (res1 Tryz.results90 m0) (fun _ hS => ⟨i6, b6, n6, (upd H3 0 (i64 (lit.getD 256 0))), hI3, hHO3.min (by omega), .inr ⟨lit, dist, B.drop kk, { tl with mn := lit.getD 256 0 }, td, kk, ho, rfl, hI5, rfl, hI1, hI2, h256, htl3.min he15, rfl, .inl ⟨htd.ext fun j hj => if_neg (by omega), hmd⟩, any2 hS⟩⟩)))))))
  refine CT.z (EX.q (TL.val (r_asg .c) (TL.e (CT.ret (EX.perm p6 (EX.conv (fun _ h => h.tail) ?_))))))
  exact EX.perm p2 (EX.perm p3 (EX.perm p5 (EX.perm p4 (EX.perm p5 (EX.perm p5 (EX.end_ (.inl rfl) (res1 Tryz.results90 m0) (fun _ hS => ⟨i6, b6, n6, H3, hI3, hHO3, .inr ⟨lit, dist, B.drop kk, tl, td, kk, ho, rfl, hI5, rfl, hI1, hI2, h256, htl3, (by omega), .inl ⟨htd.ext fun j hj => rfl, hmd⟩, any2 hS⟩⟩)))))))
 ·
  refine CT.any fm ?_
  refine TA.t 0 rfl (fun G L => r_move T5) (TA.t 1 rfl (fun G L => r_nil T0) (TA.t 2 rfl (fun G L => r_fa (off' := 5) fo_103_5 T0) (TA.t 3 rfl (fun G L => r_move T8) (TA.t 4 rfl (fun G L => r_nil T0) (TA.t 5 rfl (fun G L => r_fa (off' := 1035) fo_103_7 T0) (TA.t 8 rfl (fun G L => r_move T10) (TA.one 6 (by kernel_rfl) (TO.val rfl (r_ld (v := (pt bb 0)) Tryz.isAgg95 m0 T1 (by decide) (Dget_bits _)) (TA.t 7 rfl (fun G L => r_nil T0) (TA.t 9 rfl (fun G L => r_slicea (off' := 0) (m := nl) (c' := 316) Tryz.underlying105 Tryz.sizeOf3 T0 (.so (j := 0) .c rfl) (.so (j := nl) T2 rfl) (by (try simp) <;> omega) (by (try simp) <;> omega) (by simp) (by simp) (by simp)) (TA.sub (ρ' := [(291, (.slice (some ⟨bb, 0, none⟩) lit.length 316)), (289, (pt bb 0)), (288, (pt bb 0)), (290, (i64 nl)), (287, (pt f 1035)), (286, (pt f 0)), (285, (pt f 0)), (284, (pt f 5)), (283, (pt f 0)), (282, (pt f 0)), (10, (i64 acc.length)), (11, (i64 (nl + nd))), (6, (i64 many)), (5, (i64 nd)), (4, (i64 nl)), (0, (pt f 0))]) (.eq m0 (by rw [hl1]) (.sl 1 15 rfl)) (TA.one 10 (by kernel_rfl) (TO.perm p2 ?_)))))))))))))
  refine TO.perm p1 ?_
  refine TO.call rfl (r_call ce_111 (.cons T7 (.cons T0 .nil))) (fun w hS => t111a (s := { s with r := rif r, roff := i6, b := b6, nb := n6, H := H1, bits := pt bb 0, cbits := pt cb 0 }) hHO1 (blk bb 316 (bbf (lit ++ dist) Fb)) lit bb 0 316 (bbf_rd0 hll) (by omega) h15l hfl hS) ?_
  rintro _ w292 ⟨tl, H2, rfl, htl, ⟨hml1, hml2, hml3⟩, hHO2, hS⟩
  refine TB.at hS (TA.t 11 rfl (fun G L => r_nott T0) (TA.t 12 rfl (fun G L => r_move T0) (TA.g 13 rfl m0 (fun G L => r_move T18) ?_ rfl)))
  refine TA.g 14 rfl m1 (fun G L => r_nil T0) ?_ rfl
  refine TA.g 15 rfl m2 (fun G L => r_fa (off' := 520) fo_103_6 T0) ?_ rfl
  refine TA.g 16 rfl m3 (fun G L => r_move T21) ?_ rfl
  refine TA.g 17 rfl m4 (fun G L => r_nil T0) ?_ rfl
  refine TA.g 18 rfl m5 (fun G L => r_fa (off' := 1035) fo_103_7 T0) ?_ rfl
  refine TA.g 21 rfl m6 (fun G L => r_move T23) ?_ rfl
  refine TA.g 22 rfl m7 (fun G L => r_move T24) ?_ rfl
  refine TA.g 23 rfl m8 (fun G L => r_move T24) ?_ rfl
  refine TA.g 24 rfl m9 (fun G L => n_add nl nd 9223372036854775808 T1 T0 rfl rfl (by omega)) ?_ rfl
  refine TA.one 19 (by kernel_rfl) (TO.gval rfl m10 (r_ld (v := (pt bb 0)) Tryz.isAgg95 m0 T4 (by decide) (Dget_bits _)) ?_ rfl)
  refine TA.g 20 rfl m11 (fun G L => r_nil T0) ?_ rfl
  refine TA.g 25 rfl m12 (fun G L => r_slicea (off' := nl) (m := (nl + nd) - nl) (c' := 316 - nl) Tryz.underlying105 Tryz.sizeOf3 T0 (.so (j := nl) T5 rfl) (.so (j := (nl + nd)) T2 rfl) (by first | (show nl ≤ nl + nd; omega) | (show nl + nd ≤ 316; omega)) (by first | (show nl ≤ nl + nd; omega) | (show nl + nd ≤ 316; omega)) (by show (if 316 = nl then 0 else 0 + nl * 1) = nl; rw [if_neg (by omega)]; omega) (by simp) (by simp)) ?_ rfl
  refine TA.sub (ρ' := [(307, (.slice (some ⟨bb, nl, none⟩) dist.length ((316 - nl)))), (302, (pt bb 0)), (301, (pt bb 0)), (306, (i64 (nl + nd))), (305, (i64 nd)), (304, (i64 nl)), (303, (i64 nl)), (300, (pt f 1035)), (299, (pt f 0)), (298, (pt f 0)), (297, (pt f 520)), (296, (pt f 0)), (295, (pt f 0)), (294, (.bool false)), (293, (.bool false)), (292, (.bool true)), (291, (.slice (some ⟨bb, 0, none⟩) lit.length 316)), (289, (pt bb 0)), (288, (pt bb 0)), (290, (i64 nl)), (287, (pt f 1035)), (286, (pt f 0)), (285, (pt f 0)), (284, (pt f 5)), (283, (pt f 0)), (282, (pt f 0)), (10, (i64 acc.length)), (11, (i64 (nl + nd))), (6, (i64 many)), (5, (i64 nd)), (4, (i64 nl)), (0, (pt f 0))]) (.eq m0 (congrArg (fun z : Nat => Value.slice (some ⟨bb, nl, none⟩) z _) (show nl + nd - nl = dist.length by omega)) (.sl 1 31 rfl)) (TA.one 26 (by kernel_rfl) (TO.perm p1 ?_))
  refine TO.perm p1 ?_
  refine TO.gcall rfl m13 (r_call ce_111 (.cons T10 (.cons T0 .nil))) (fun w hS => t111b_z (s := { s with r := rif r, roff := i6, b := b6, nb := n6, H := H2, bits := pt bb 0, cbits := pt cb 0 }) hHO2 (blk bb 316 (bbf (lit ++ dist) Fb)) dist bb nl (316 - nl) (bbf_rd hll hl1) (by omega) h15d hz0 hS) ?_ rfl
  rintro _ w308 ⟨H3, rfl, hHO3, hH3, hS⟩
  refine TB.at hS (TA.g 27 rfl m14 (fun G L => r_nott T0) ?_ rfl)
  refine TA.t 28 rfl (fun G L => r_pickf T15 T0) (TA.done (by kernel_rfl) (EX.sub (.hd (.tl (.tl (.tl (.tl .u24))))) (EX.seq (CT.iff_ m0 ?_))))
  refine CT.z (EX.seq (CT.seq (CT.seq ?_)))
  have htl3 := htl.ext hH3
  have hm256 := hml3 256 h256
  have he15 := h256.2.2
  have he1 := h256.2.1
  refine CT.still fm (by kernel_rfl) ?_
  refine TS.m m5 (TS.c m0 (TS.f 5 fo_103_5 m0 (TS.f 5 fo_94_0 m0 (TS.val (r_ldc (v := (i64 tl.mn)) Tryz.isAgg3 T0 (fun w hS => (hS.cell m0 (i := 5) (by decide)).trans (congrArg some ((D_H _ (j := 0) (by decide)).trans (htl3.cells 0 (by decide)))))) (TS.m m10 (TS.c m0 (TS.f 1035 fo_103_7 m0 (TS.val (r_ld (v := (pt bb 0)) Tryz.isAgg95 m0 T0 (by decide) (Dget_bits _)) (TS.c m0 (TS.val (r_iaa (i := 256) (off' := 256) Tryz.underlying105 Tryz.sizeOf3 T0 .c rfl (by decide) rfl) (TS.val (r_ld (v := (i64 (lit.getD 256 0))) Tryz.isAgg3 m1 T0 (by decide) (bbf_lit (by omega))) (TS.val (n_lss tl.mn ((lit.getD 256 0)) T7 T0) (TS.nil (TL.b (.hd .u12) (CT.ifd m0 (fun c328 => ?_) (fun c328 => ?_))))))))))))))))
  ·
   refine CT.sub .u1 (CT.region (TL.m m5 (TL.m m6 (TL.c m0 (TL.f 1035 fo_103_7 m0 (TL.val (r_ld (v := (pt bb 0)) Tryz.isAgg95 m0 T0 (by decide) (Dget_bits _)) (TL.c m0 (TL.val (r_iaa (i := 256) (off' := 256) Tryz.underlying105 Tryz.sizeOf3 T0 .c rfl (by decide) rfl) (TL.val (r_ld (v := (i64 (lit.getD 256 0))) Tryz.isAgg3 m1 T0 (by decide) (bbf_lit (by omega))) (TL.c m7 (TL.f 5 fo_103_5 m0 (TL.f 5 fo_94_0 m0 (TL.s (r_st (F' := D { s with r := rif r, roff := i6, b := b6, nb := n6, H := upd H3 0 (i64 (lit.getD 256 0)), bits := pt bb 0, cbits := pt cb 0 }) Tryz.sizeOf3 (D_min _ _) a0 T0 T3 (by decide)) (TL.r .u11 (TL.val (r_asg .c) (TL.e (CT.ret (EX.perm p5 (EX.conv (fun _ h => h.tail) ?_)))))))))))))))))))
   refine EX.conv (fun _ h => h.emp (A := Lnks ⟨0, fun _ => 0, fun _ _ => 0, 0, 0, .nilFunc⟩) (.inl rfl)) ?_
   exact EX.perm p3 (EX.perm p5 (EX.perm p4 (EX.perm p5 (EX.perm p5 (EX.end_ (.inl rfl) (res1 Tryz.results90 m0) (fun _ hS => ⟨i6, b6, n6, (upd H3 0 (i64 (lit.getD 256 0))), hI3, hHO3.min (by omega), .inr ⟨lit, dist, B.drop kk, { tl with mn := lit.getD 256 0 }, ⟨0, fun _ => 0, fun _ _ => 0, 0, 0, .nilFunc⟩, kk, ho, rfl, hI5, rfl, hI1, hI2, h256, htl3.min he15, rfl, .inr hz0, any2 hS⟩⟩))))))
  refine CT.z (EX.q (TL.val (r_asg .c) (TL.e (CT.ret (EX.perm p5 (EX.conv (fun _ h => h.tail) ?_))))))
  refine EX.conv (fun _ h => h.emp (A := Lnks ⟨0, fun _ => 0, fun _ _ => 0, 0, 0, .nilFunc⟩) (.inl rfl)) ?_
  exact EX.perm p3 (EX.perm p5 (EX.perm p4 (EX.perm p5 (EX.perm p5 (EX.end_ (.inl rfl) (res1 Tryz.results90 m0) (fun _ hS => ⟨i6, b6, n6, H3, hI3, hHO3, .inr ⟨lit, dist, B.drop kk, tl, ⟨0, fun _ => 0, fun _ _ => 0, 0, 0, .nilFunc⟩, kk, ho, rfl, hI5, rfl, hI1, hI2, h256, htl3, (by omega), .inr hz0, any2 hS⟩⟩))))))
 ·
  refine CT.any fm ?_
  refine TA.t 0 rfl (fun G L => r_move T5) (TA.t 1 rfl (fun G L => r_nil T0) (TA.t 2 rfl (fun G L => r_fa (off' := 5) fo_103_5 T0) (TA.t 3 rfl (fun G L => r_move T8) (TA.t 4 rfl (fun G L => r_nil T0) (TA.t 5 rfl (fun G L => r_fa (off' := 1035) fo_103_7 T0) (TA.t 8 rfl (fun G L => r_move T10) (TA.one 6 (by kernel_rfl) (TO.val rfl (r_ld (v := (pt bb 0)) Tryz.isAgg95 m0 T1 (by decide) (Dget_bits _)) (TA.t 7 rfl (fun G L => r_nil T0) (TA.t 9 rfl (fun G L => r_slicea (off' := 0) (m := nl) (c' := 316) Tryz.underlying105 Tryz.sizeOf3 T0 (.so (j := 0) .c rfl) (.so (j := nl) T2 rfl) (by (try simp) <;> omega) (by (try simp) <;> omega) (by simp) (by simp) (by simp)) (TA.sub (ρ' := [(291, (.slice (some ⟨bb, 0, none⟩) lit.length 316)), (289, (pt bb 0)), (288, (pt bb 0)), (290, (i64 nl)), (287, (pt f 1035)), (286, (pt f 0)), (285, (pt f 0)), (284, (pt f 5)), (283, (pt f 0)), (282, (pt f 0)), (10, (i64 acc.length)), (11, (i64 (nl + nd))), (6, (i64 many)), (5, (i64 nd)), (4, (i64 nl)), (0, (pt f 0))]) (.eq m0 (by rw [hl1]) (.sl 1 15 rfl)) (TA.one 10 (by kernel_rfl) (TO.perm p2 ?_)))))))))))))
  refine TO.perm p1 ?_
  refine TO.call rfl (r_call ce_111 (.cons T7 (.cons T0 .nil))) (fun w hS => t111a_over (s := { s with r := rif r, roff := i6, b := b6, nb := n6, H := H1, bits := pt bb 0, cbits := pt cb 0 }) hHO1 (blk bb 316 (bbf (lit ++ dist) Fb)) lit bb 0 316 (bbf_rd0 hll) (by omega) h15l hovl hS) ?_
  rintro _ w292 ⟨H2, rfl, hHO2, hS⟩
  refine TB.at hS (TA.t 11 rfl (fun G L => r_notf T0) (TA.t 12 rfl (fun G L => r_move T0) (TA.takegu 13 rfl (by kernel_rfl) (by kernel_rfl) (by kernel_rfl) (NP.then_ (NP.then_ NP.body)) m0 rfl ?_ rfl)))
  refine TA.takegu 14 rfl (by kernel_rfl) (by kernel_rfl) (by kernel_rfl) (NP.then_ (NP.then_ NP.body)) m1 rfl ?_ rfl
  refine TA.takegu 15 rfl (by kernel_rfl) (by kernel_rfl) (by kernel_rfl) (NP.then_ (NP.then_ NP.body)) m2 rfl ?_ rfl
  refine TA.takegu 16 rfl (by kernel_rfl) (by kernel_rfl) (by kernel_rfl) (NP.then_ (NP.then_ NP.body)) m3 rfl ?_ rfl
  refine TA.takegu 17 rfl (by kernel_rfl) (by kernel_rfl) (by kernel_rfl) (NP.then_ (NP.then_ NP.body)) m4 rfl ?_ rfl
  refine TA.takegu 18 rfl (by kernel_rfl) (by kernel_rfl) (by kernel_rfl) (NP.then_ (NP.then_ NP.body)) m5 rfl ?_ rfl
  refine TA.takegu 19 rfl (by kernel_rfl) (by kernel_rfl) (by kernel_rfl) (NP.then_ (NP.then_ NP.body)) m6 rfl ?_ rfl
  refine TA.takegu 20 rfl (by kernel_rfl) (by kernel_rfl) (by kernel_rfl) (NP.then_ (NP.then_ NP.body)) m7 rfl ?_ rfl
  refine TA.takegu 21 rfl (by kernel_rfl) (by kernel_rfl) (by kernel_rfl) (NP.then_ (NP.then_ NP.body)) m8 rfl ?_ rfl
  refine TA.takegu 22 rfl (by kernel_rfl) (by kernel_rfl) (by kernel_rfl) (NP.then_ (NP.then_ NP.body)) m9 rfl ?_ rfl
  refine TA.takegu 23 rfl (by kernel_rfl) (by kernel_rfl) (by kernel_rfl) (NP.then_ (NP.then_ NP.body)) m10 rfl ?_ rfl
  refine TA.takegu 24 rfl (by kernel_rfl) (by kernel_rfl) (by kernel_rfl) (NP.then_ (NP.then_ NP.body)) m11 rfl ?_ rfl
  refine TA.takegu 25 rfl (by kernel_rfl) (by kernel_rfl) (by kernel_rfl) (NP.then_ (NP.then_ NP.body)) m12 rfl ?_ rfl
  refine TA.takegu 26 rfl (by kernel_rfl) (by kernel_rfl) (by kernel_rfl) (NP.then_ (NP.then_ NP.body)) m13 rfl ?_ rfl
  refine TA.takegu 27 rfl (by kernel_rfl) (by kernel_rfl) (by kernel_rfl) (NP.then_ (NP.then_ NP.body)) m14 rfl ?_ rfl
  refine TA.t 28 rfl (fun G L => r_pickt T15 .c) (TA.done (by kernel_rfl) (EX.sub (.hd (.tl (.tl (.tl (.tl .u24))))) (EX.seq (CT.ift m0 ?_))))
  refine CT.y (TL.m m5 (TL.c m0 (TL.f 2 fo_103_2 m0 (TL.val (r_ld (v := (i64 i6)) Tryz.isAgg2 m0 T0 (by decide) (Dget_roff _)) (TL.val (r_mki Tryz.underlying121 T0) (TL.a m0 (TL.b (.hd .u5) (CT.ret (EX.then_ret (EX.perm p4 (EX.conv (fun _ h => h.tail) ?_)))))))))))
  exact EX.perm p3 (EX.perm p2 (EX.perm p3 (EX.perm p3 (EX.end_ (.inl rfl) (res1 Tryz.results90 m0) (fun _ hS => ⟨i6, b6, n6, H2, hI3, hHO2, .inl ⟨ho, _, rfl, any2 hS⟩⟩)))))
 refine CT.any fm ?_
 refine TA.t 0 rfl (fun G L => r_move T5) (TA.t 1 rfl (fun G L => r_nil T0) (TA.t 2 rfl (fun G L => r_fa (off' := 5) fo_103_5 T0) (TA.t 3 rfl (fun G L => r_move T8) (TA.t 4 rfl (fun G L => r_nil T0) (TA.t 5 rfl (fun G L => r_fa (off' := 1035) fo_103_7 T0) (TA.t 8 rfl (fun G L => r_move T10) (TA.one 6 (by kernel_rfl) (TO.val rfl (r_ld (v := (pt bb 0)) Tryz.isAgg95 m0 T1 (by decide) (Dget_bits _)) (TA.t 7 rfl (fun G L => r_nil T0) (TA.t 9 rfl (fun G L => r_slicea (off' := 0) (m := nl) (c' := 316) Tryz.underlying105 Tryz.sizeOf3 T0 (.so (j := 0) .c rfl) (.so (j := nl) T2 rfl) (by (try simp) <;> omega) (by (try simp) <;> omega) (by simp) (by simp) (by simp)) (TA.sub (ρ' := [(291, (.slice (some ⟨bb, 0, none⟩) lit.length 316)), (289, (pt bb 0)), (288, (pt bb 0)), (290, (i64 nl)), (287, (pt f 1035)), (286, (pt f 0)), (285, (pt f 0)), (284, (pt f 5)), (283, (pt f 0)), (282, (pt f 0)), (10, (i64 acc.length)), (11, (i64 (nl + nd))), (6, (i64 many)), (5, (i64 nd)), (4, (i64 nl)), (0, (pt f 0))]) (.eq m0 (by rw [hl1]) (.sl 1 15 rfl)) (TA.one 10 (by kernel_rfl) (TO.perm p2 ?_)))))))))))))
 refine TO.perm p1 ?_
 refine TO.call rfl (r_call ce_111 (.cons T7 (.cons T0 .nil))) (fun w hS => t111a (s := { s with r := rif r, roff := i6, b := b6, nb := n6, H := H1, bits := pt bb 0, cbits := pt cb 0 }) hHO1 (blk bb 316 (bbf (lit ++ dist) Fb)) lit bb 0 316 (bbf_rd0 hll) (by omega) h15l hfl hS) ?_
 rintro _ w292 ⟨tl, H2, rfl, htl, ⟨hml1, hml2, hml3⟩, hHO2, hS⟩
 refine TB.at hS (TA.t 11 rfl (fun G L => r_nott T0) (TA.t 12 rfl (fun G L => r_move T0) (TA.g 13 rfl m0 (fun G L => r_move T18) ?_ rfl)))
 refine TA.g 14 rfl m1 (fun G L => r_nil T0) ?_ rfl
 refine TA.g 15 rfl m2 (fun G L => r_fa (off' := 520) fo_103_6 T0) ?_ rfl
 refine TA.g 16 rfl m3 (fun G L => r_move T21) ?_ rfl
 refine TA.g 17 rfl m4 (fun G L => r_nil T0) ?_ rfl
 refine TA.g 18 rfl m5 (fun G L => r_fa (off' := 1035) fo_103_7 T0) ?_ rfl
 refine TA.g 21 rfl m6 (fun G L => r_move T23) ?_ rfl
 refine TA.g 22 rfl m7 (fun G L => r_move T24) ?_ rfl
 refine TA.g 23 rfl m8 (fun G L => r_move T24) ?_ rfl
 refine TA.g 24 rfl m9 (fun G L => n_add nl nd 9223372036854775808 T1 T0 rfl rfl (by omega)) ?_ rfl
 refine TA.one 19 (by kernel_rfl) (TO.gval rfl m10 (r_ld (v := (pt bb 0)) Tryz.isAgg95 m0 T4 (by decide) (Dget_bits _)) ?_ rfl)
 refine TA.g 20 rfl m11 (fun G L => r_nil T0) ?_ rfl
 refine TA.g 25 rfl m12 (fun G L => r_slicea (off' := nl) (m := (nl + nd) - nl) (c' := 316 - nl) Tryz.underlying105 Tryz.sizeOf3 T0 (.so (j := nl) T5 rfl) (.so (j := (nl + nd)) T2 rfl) (by first | (show nl ≤ nl + nd; omega) | (show nl + nd ≤ 316; omega)) (by first | (show nl ≤ nl + nd; omega) | (show nl + nd ≤ 316; omega)) (by show (if 316 = nl then 0 else 0 + nl * 1) = nl; rw [if_neg (by omega)]; omega) (by simp) (by simp)) ?_ rfl
 refine TA.sub (ρ' := [(307, (.slice (some ⟨bb, nl, none⟩) dist.length ((316 - nl)))), (302, (pt bb 0)), (301, (pt bb 0)), (306, (i64 (nl + nd))), (305, (i64 nd)), (304, (i64 nl)), (303, (i64 nl)), (300, (pt f 1035)), (299, (pt f 0)), (298, (pt f 0)), (297, (pt f 520)), (296, (pt f 0)), (295, (pt f 0)), (294, (.bool false)), (293, (.bool false)), (292, (.bool true)), (291, (.slice (some ⟨bb, 0, none⟩) lit.length 316)), (289, (pt bb 0)), (288, (pt bb 0)), (290, (i64 nl)), (287, (pt f 1035)), (286, (pt f 0)), (285, (pt f 0)), (284, (pt f 5)), (283, (pt f 0)), (282, (pt f 0)), (10, (i64 acc.length)), (11, (i64 (nl + nd))), (6, (i64 many)), (5, (i64 nd)), (4, (i64 nl)), (0, (pt f 0))]) (.eq m0 (congrArg (fun z : Nat => Value.slice (some ⟨bb, nl, none⟩) z _) (show nl + nd - nl = dist.length by omega)) (.sl 1 31 rfl)) (TA.one 26 (by kernel_rfl) (TO.perm p1 ?_))
 refine TO.perm p1 ?_
 refine TO.gcall rfl m13 (r_call ce_111 (.cons T10 (.cons T0 .nil))) (fun w hS => t111b_over (s := { s with r := rif r, roff := i6, b := b6, nb := n6, H := H2, bits := pt bb 0, cbits := pt cb 0 }) hHO2 (blk bb 316 (bbf (lit ++ dist) Fb)) dist bb nl (316 - nl) (bbf_rd hll hl1) (by omega) h15d hovd hS) ?_ rfl
 rintro _ w308 ⟨H3, rfl, hHO3, hS⟩
 refine TB.at hS (TA.g 27 rfl m14 (fun G L => r_notf T0) ?_ rfl)
 refine TA.t 28 rfl (fun G L => r_pickf T15 T0) (TA.done (by kernel_rfl) (EX.sub (.hd (.tl (.tl (.tl (.tl .u24))))) (EX.seq (CT.ift m0 ?_))))
 refine CT.y (TL.m m5 (TL.c m0 (TL.f 2 fo_103_2 m0 (TL.val (r_ld (v := (i64 i6)) Tryz.isAgg2 m0 T0 (by decide) (Dget_roff _)) (TL.val (r_mki Tryz.underlying121 T0) (TL.a m0 (TL.b (.hd .u5) (CT.ret (EX.then_ret (EX.perm p2 (EX.conv (fun _ h => h.tail) ?_)))))))))))
 refine EX.perm p4 (EX.conv (fun _ h => h.tail) ?_)
 exact EX.perm p3 (EX.perm p2 (EX.perm p3 (EX.perm p3 (EX.end_ (.inl rfl) (res1 Tryz.results90 m0) (fun _ hS => ⟨i6, b6, n6, H3, hI3, hHO3, .inl ⟨ho, _, rfl, any2 hS⟩⟩)))))
end Go.Eng
namespace Go.Infl
inductive Blk3 (fin : Bool) (k : Nat) (h : List Nat) (hF : List Nat × Bool) : Nat → List Bool → Prop
 | stored {ps rest : List Bool} {xs : List Nat} : ps.length < 8 → (k + 3 + ps.length) % 8 = 0 → xs.length ≤ 65535 → (∀ x ∈ xs, x < 256) → (h ++ xs).length ≤ hF.1.length → After fin (k + 3 + ps.length + 32 + 8 * xs.length) rest (h ++ xs) hF →
  Blk3 fin k h hF 0 (ps ++ (nbits 16 xs.length ++ (nbits 16 (65535 - xs.length) ++ (xs.flatMap (nbits 8) ++ rest))))
 | notLen {ps rest : List Bool} {n m : Nat} : ps.length < 8 → (k + 3 + ps.length) % 8 = 0 → n < 65536 → m < 65536 → n + m ≠ 65535 → hF = (h, false) → Blk3 fin k h hF 0 (ps ++ (nbits 16 n ++ (nbits 16 m ++ rest)))
 | fixed {rest : List Bool} : HTail fixLit fixDist fin (k + 3) rest h hF → Blk3 fin k h hF 1 rest
 | dyn {own : List Nat} {nl nd : Nat} {hb bits : List Bool} {o : Option (List Nat × List Nat × List Bool)} : OwnHd hb own nl nd → HdrR own nl nd bits o → (o = none → hF = (h, false)) →
  (∀ lit dist r kk, o = some (lit, dist, r) → kk + r.length = k + 3 + hb.length + bits.length → HTail lit dist fin kk r h hF) → Blk3 fin k h hF 2 (hb ++ bits)
 | type3 {rest : List Bool} : hF = (h, false) → Blk3 fin k h hF 3 rest
theorem BadSym.app {ls ds : List Nat} {n : Nat} {tl : List Bool} (H : BadSym ls ds n tl) (tail : List Bool) : BadSym ls ds n (tl ++ tail) := by
 cases H with
 | never a b => rw [List.append_assoc]; exact .never a b
 | neverD a b c d => simp only [List.append_assoc]; exact .neverD a b c d
 | far a b c d e => simp only [List.append_assoc]; exact .far a b c d e
theorem after_of {fin : Bool} {pos : Nat} {rest tail : List Bool} {h : List Nat} {hF : List Nat × Bool} (h1 : fin = true → rest = [] ∧ h = hF.1 ∧ hF.2 = true) (h2 : fin = false → Strm pos rest h hF) : After fin pos (rest ++ tail) h hF :=
 ⟨fun e => (h1 e).2, fun e => ⟨rest, tail, rfl, h2 e⟩⟩
theorem IsBad.blk3 {k : Nat} {st : List Bool} {h hg : List Nat} (hb : IsBad k h st hg) (tail : List Bool) : ∃ fin typ rest, st ++ tail = nbits 3 (Bool.toNat fin + 2 * typ) ++ rest ∧ typ ≤ 3 ∧ Blk3 fin k h (hg, false) typ rest := by
 cases hb with
 | @type3 _ f rest => exact ⟨f, 3, rest ++ tail, by simp only [List.append_assoc], by decide, .type3 rfl⟩
 | @notLen n m _ f ps rest a1 a2 a3 a4 a5 => exact ⟨f, 0, ps ++ (nbits 16 n ++ (nbits 16 m ++ (rest ++ tail))), by simp only [List.append_assoc]; rfl, by decide, .notLen a1 a2 a3 a4 a5 rfl⟩
 | @huff _ f hd b1 tl ls ds its a1 a2 a3 a4 a5 =>
  have ht : ∀ kk, HTail ls ds f kk (b1 ++ (tl ++ tail)) h (gives h its, false) := fun kk =>
   ⟨its, b1, tl ++ tail, rfl, a2, a3, .inr ⟨rfl, a4.app tail, by rw [List.length_append]; omega⟩⟩
  cases a1 with
  | fixed => exact ⟨f, 1, b1 ++ (tl ++ tail), by simp only [List.append_assoc], by decide, .fixed (ht _)⟩
  | @dyn hb _ _ c1 c2 c3 =>
   obtain ⟨own, hb0, bits, e1, e2, e3⟩ := HdrR.good (rest := b1 ++ (tl ++ tail)) c1 c2 c3
   refine ⟨f, 2, hb0 ++ bits, by rw [← e1]; simp only [List.append_assoc], by decide, .dyn e2 e3 (fun h => by cases h) fun lit dist r kk ho hk => ?_⟩
   cases ho
   exact ht kk
 | @own nl nd _ f hb rest own a1 a2 => exact ⟨f, 2, hb ++ (rest ++ tail), by simp only [List.append_assoc], by decide, .dyn a1 (.inl ⟨a2, rfl⟩) (fun _ => rfl) (fun _ _ _ _ h => by cases h)⟩
 | @run nl nd kq v _ f hb rb rest own acc a1 a2 a3 a4 a5 a6 a7 =>
  refine ⟨f, 2, hb ++ (rb ++ (symB own kq ++ (nbits (rnBits kq) v ++ (rest ++ tail)))), by simp only [List.append_assoc], by decide, .dyn a1 (.inr ⟨a2, .inr ⟨rfl, rb, acc, kq, v, rest ++ tail, rfl, a3, a4, a5, a6, a7⟩⟩) (fun _ => rfl) (fun _ _ _ _ h => by cases h)⟩
 | @over _ f hb rest lit dist a1 a2 =>
  obtain ⟨own, hb0, bits, e1, e2, e3⟩ := HdrR.over (rest := rest ++ tail) a1 a2
  exact ⟨f, 2, hb0 ++ bits, by rw [← e1]; simp only [List.append_assoc], by decide, .dyn e2 e3 (fun _ => rfl) (fun _ _ _ _ h => by cases h)⟩
theorem Strm.blk3 {k : Nat} {st : List Bool} {h : List Nat} {hF : List Nat × Bool} (H : Strm k st h hF) (tail : List Bool) : ∃ fin typ rest, st ++ tail = nbits 3 (Bool.toNat fin + 2 * typ) ++ rest ∧ typ ≤ 3 ∧ Blk3 fin k h hF typ rest := by
 rcases H.head with ⟨fin, b, rest, h1, rfl, hb, hle, hf1, hf2⟩ | ⟨hbad, hb⟩
 ·
  cases hb with
  | @stored ps xs a1 a2 a3 a4 =>
   refine ⟨fin, 0, ps ++ (nbits 16 xs.length ++ (nbits 16 (65535 - xs.length) ++ (xs.flatMap (nbits 8) ++ (rest ++ tail)))), by unfold storedBits; simp only [List.append_assoc]; rfl, by decide, .stored a1 a2 a3 a4 hle ?_⟩
   refine after_of hf1 fun e => ?_
   have := hf2 e
   rwa [storedBits_length, show k + (35 + ps.length + 8 * xs.length) = k + 3 + ps.length + 32 + 8 * xs.length by omega] at this
  | @huff hd b1 ls ds its a1 a2 a3 =>
   have ht : ∀ kk, kk = k + hd.length → HTail ls ds fin kk (b1 ++ (symB ls 256 ++ (rest ++ tail))) h hF := fun kk hk => by
    refine ⟨its, b1, symB ls 256 ++ (rest ++ tail), rfl, a2, a3, .inl ⟨rest ++ tail, rfl, after_of hf1 fun e => ?_⟩⟩
    have := hf2 e
    rwa [List.length_append, List.length_append, symB_length, ← Nat.add_assoc, ← Nat.add_assoc, ← hk] at this
   cases a1 with
   | fixed =>
    refine ⟨fin, 1, b1 ++ (symB fixLit 256 ++ (rest ++ tail)), by simp only [List.append_assoc], by decide, .fixed (ht _ (by rw [nbits_length]))⟩
   | @dyn hb _ _ c1 c2 c3 =>
    obtain ⟨own, hb0, bits, e1, e2, e3⟩ := HdrR.good (rest := b1 ++ (symB ls 256 ++ (rest ++ tail))) c1 c2 c3
    refine ⟨fin, 2, hb0 ++ bits, by rw [← e1]; simp only [List.append_assoc], by decide, .dyn e2 e3 (fun h => by cases h) fun lit dist r kk ho hk => ?_⟩
    cases ho
    refine ht kk ?_
    have := congrArg List.length e1
    simp only [List.length_append, nbits_length] at this hk ⊢
    omega
 obtain ⟨hg, gd⟩ := hF
 obtain rfl : gd = false := hbad
 exact hb.blk3 tail
end Go.Infl
namespace Go.Eng
open Go Go.Proofs Go.Infl
theorem fix_l256 : LOk fixLit 256 := fix_lit (by decide)
theorem ent_of {B : List Bool} {hF : List Nat × Bool} {del h : List Nat} {s s' : DS} {ls ds : List Nat} {mu0 : Nat} {x : HX} (hz : s.ss = 1 → s.cl = 0) (hsd : SSd s h) (hx : HI B del s' (ls.getD 256 0) x) (ht : HTail ls ds s'.final x.k (B.drop x.k) x.h hF) (hmu : 1000 * (B.length - x.k) + 2 ≤ mu0)
 (e1 : s'.ss = s.ss := by rfl) (e2 : x.cl = s.cl := by rfl) (e3 : x.cd = s.cd := by rfl) (e4 : x.h = h := by rfl) : (s'.ss = 0 ∧ HI0 B hF del s' ls ds mu0 x) ∨ (s'.ss = 1 ∧ HI1 B hF del s' ls ds mu0 x) := by
 rcases hsd with h0 | ⟨h0, h1, h2, h3⟩
 ·
  exact .inl ⟨by omega, ⟨hx, ht, by omega, fun e => by omega⟩⟩
 have hc : x.cl = 0 := by rw [e2]; exact hz h0
 exact .inr ⟨by omega, ⟨hx, by rw [hc]; exact ht, by omega, by omega, by rw [e4]; omega, by omega, by omega⟩⟩
theorem data_zero {G w : World} {R : List HProp} {bb cb f r hb i : Nat} {B : List Bool} {hF : List Nat × Bool} {del un xs : List Nat} {ea : Addr} {s : DS} {hist : Nat → Nat} {rest : List Bool} {mu0 c0 c1 c2 c3 : Nat}
 (H : Base bb cb r hb B s i hist (del ++ un)) (hu : un.length = s.wr - s.rd) (herr : s.err = .nilIface) (hsz : s.ss = 1 → s.cl = 0) (hd : B.drop (8 * (i + 4)) = xs.flatMap (nbits 8) ++ rest) (hx0 : xs = []) (ha : After s.final (8 * (i + 4) + 8 * xs.length) rest (del ++ un ++ xs) hF) (hl : 8 * i + 32 ≤ B.length) (hmu : 1000 * (B.length - 8 * i) ≤ mu0)
 (hS : Sat G w (blk f 1054 (D (finS { s with r := rif r, hist := Hw hb, err := .nilIface, roff := s.roff + 4, b := 0, nb := 0, b0 := c0, b1 := c1, b2 := c2, b3 := c3, wr := s.wr % 32768, rd := s.wr % 32768, full := s.full || decide (s.wr = 32768), toRead := .slice (some ⟨hb, s.rd, none⟩) (s.wr - s.rd) (32768 - s.rd) } hb (.iface 187 (.pointer (some ea))))) ::
  Br r B (i + 4) :: blk hb 32768 (fun j => u8 (hist j)) :: R)) : RS true G R bb cb f r hb B hF (.iface 187 (.pointer (some ea))) del (· < mu0) w := by
 subst hx0
 rw [List.append_nil, List.length_nil, Nat.mul_zero, Nat.add_zero] at ha
 have h1 := H.rw_; have h2 := H.wl; have h3 := H.ro; have h4 := H.il
 have hpl := pack_length B
 have htr : TR hb hist (.slice (some ⟨hb, s.rd, none⟩) (s.wr - s.rd) (32768 - s.rd)) un := .inr ⟨s.rd, 32768 - s.rd, by rw [hu], by omega, by omega, H.win.tail H.rw_ hu⟩
 cases hfin : s.final with
 | false =>
  rw [show finS _ hb _ = _ from if_neg (by simp [hfin])] at hS
  obtain ⟨st, tail, e1, e2⟩ := ha.2 hfin
  refine ⟨_, i + 4, hist, del ++ un, un, [], ⟨rfl, rfl, H.win.flush, Nat.le_refl _, Nat.mod_lt _ (by decide), by show s.roff + 4 = i + 4; omega, by omega, (by exact H.ex), (by exact H.sd)⟩, by rw [List.append_nil], (Nat.sub_self _).symm, htr, .inl ⟨rfl, 1000 * (B.length - 8 * (i + 4)), by show _ < mu0; omega, plEmp ?_ hS⟩⟩
  intro m'
  exact .blk (k := 8 * (i + 4)) (st := st) (tail := tail) rfl (Nat.zero_le _) (Held.zero (i := i + 4)) (by rw [hd]; exact e1) e2 rfl hsz
 | true =>
  rw [show finS _ hb _ = _ from if_pos (by simp [hfin])] at hS
  rw [if_neg (Nat.lt_irrefl _)] at hS
  exact ⟨_, i + 4, hist, del ++ un, un, [], ⟨rfl, rfl, H.win.flush, Nat.le_refl _, Nat.mod_lt _ (by decide), by show s.roff + 4 = i + 4; omega, by omega, (by exact H.ex), (by exact H.sd)⟩, by rw [List.append_nil], (Nat.sub_self _).symm, htr, .inr ⟨.inl ⟨(ha.1 hfin).2, rfl⟩, (ha.1 hfin).1, .inl rfl, hS⟩⟩
theorem t87 {G : World} {R : List HProp} {w : World} {bb cb f r hb i : Nat} {B : List Bool} {hF : List Nat × Bool} {del un : List Nat} {ea : Addr} {s : DS} {hist : Nat → Nat} {mu0 : Nat} (hE : EOFIs G ea) (hBl : B.length < 1099511627776) (H : Base bb cb r hb B s i hist (del ++ un)) (hu : un.length = s.wr - s.rd) (htr : TR hb hist s.toRead []) (herr : s.err = .nilIface) (hsz : s.ss = 1 → s.cl = 0) {n m : Nat} {tl : List Bool} (hn : n < 65536) (hm : m < 65536) (hd : B.drop (8 * i) = nbits 16 n ++ (nbits 16 m ++ tl)) (hc : (n + m ≠ 65535 ∧ hF = (del ++ un, false)) ∨ (n + m = 65535 ∧ ∃ (xs : List Nat) (rest : List Bool), n = xs.length ∧ tl = xs.flatMap (nbits 8) ++ rest ∧ (∀ x ∈ xs, x < 256) ∧ After s.final (8 * (i + 4) + 8 * xs.length) rest (del ++ un ++ xs) hF)) (hmu : 1000 * (B.length - 8 * i) ≤ mu0)
 (hS : Sat G w (blk f 1054 (D s) :: Br r B i :: blk hb 32768 (fun j => u8 (hist j)) :: R)) : CallsR Tryz.prog 87 #[pt f 0] w (fun _ w' => Sat G w' (RSA true bb cb f r hb B hF (.iface 187 (.pointer (some ea))) del (· < mu0) :: R)) := by
 have hlen := congrArg List.length hd
 simp only [List.length_drop, List.length_append, nbits_length] at hlen
 have hpl := pack_length B
 have h1 := H.rw_; have h2 := H.wl; have h3 := H.ro; have h4 := H.il
 have hd4 : B.drop (8 * (i + 4)) = tl := by
  have e1 := drop_app hd
  have e2 := drop_app e1
  rw [nbits_length, nbits_length] at e2
  exact e2
 have h4b : ((pack B).drop i).take 4 = [(n % 256), (n / 256), (m % 256), (m / 256)] := by
  refine bytes_at (xs := [(n % 256), (n / 256), (m % 256), (m / 256)]) (m := 4) (rest := tl) ?_ ?_ (Nat.le_refl 4)
  ·
   rw [hd, nbits16 n, nbits16 m]; simp [List.flatMap]
  intro x hx; simp only [List.mem_cons, List.not_mem_nil, or_false] at hx; omega
 have hs : s = { s with r := rif r, hist := Hw hb, err := .nilIface } := by have h5 := H.r_; have h6 := H.hi; cases s; simp_all
 replace hS := hS.D hs
 refine calls_in (n := 98) [(0, (pt f 0))] Tryz.func87 rfl rfl hS args1 ?_
 refine CT.q (TL.m m0 (TL.c m0 (TL.f 4 fo_103_4 m0 (TL.s (r_st (F' := D { s with r := rif r, nb := 0, hist := Hw hb, err := .nilIface }) Tryz.sizeOf90 (Dsat_nb 0) a0 T0 .c (by decide)) (TL.r .u3 (TL.m m0 (TL.c m0 (TL.f 3 fo_103_3 m0 (TL.s (r_st (F' := D { s with r := rif r, b := 0, nb := 0, hist := Hw hb, err := .nilIface }) Tryz.sizeOf89 (Dsat_b 0) a0 T0 .c (by decide)) (TL.b .u3 (CT.seq (CT.any fm ?_))))))))))))
 refine TA.t 0 rfl (fun G L => r_move T0) (TA.t 1 rfl (fun G L => r_nil T0) (TA.t 2 rfl (fun G L => r_fa (off' := 0) fo_103_0 T0) (TA.t 4 rfl (fun G L => r_move T3) (TA.t 5 rfl (fun G L => r_nil T0) (TA.t 6 rfl (fun G L => r_fa (off' := 1041) fo_103_10 T0) (TA.t 7 rfl (fun G L => r_slicea (off' := 1041) (m := 4) (c' := 4) Tryz.underlying99 Tryz.sizeOf5 T0 (.so (j := 0) .c rfl) (.so (j := 4) .c rfl) (by decide) (by decide) (by simp) (by simp) (by simp)) (TA.one 3 (by kernel_rfl) (TO.val rfl (r_ld (v := (rif r)) Tryz.isAgg87 m0 T4 (by decide) (Dget_r _)) (TA.one 8 (by kernel_rfl) (TO.perm p1 ?_))))))))))
 refine TO.call rfl (r_call ce_107 (.cons T0 (.cons T1 .nil))) (fun w hS => t107 r i f 1041 1054 4 4 (D { s with r := rif r, b := 0, nb := 0, hist := Hw hb, err := .nilIface }) B (by omega) (by omega) (by decide) (by omega) hS) ?_
 rintro _ w21 ⟨rfl, hS⟩
 refine TB.at hS (TA.t 9 rfl (fun G L => r_move T0) (TA.t 10 rfl (fun G L => r_ext T0) (TA.t 11 rfl (fun G L => r_ext T1) (TA.t 12 rfl (fun G L => r_asg T1) (TA.t 13 rfl (fun G L => r_asg T1) (TA.done (by kernel_rfl) (EX.sub (.hd (.hd .u12)) (EX.seq (CT.seq (CT.fold (A' := (blk f 1054 (D { s with r := rif r, b := 0, nb := 0, hist := Hw hb, b0 := n % 256, b1 := n / 256, b2 := m % 256, b3 := m / 256, err := .nilIface }))) a1 (blk_eq rfl (by rw [h4b]; exact buf4)) (CT.region (TL.m m2 (TL.c m0 (TL.f 2 fo_103_2 m0 (TL.val (r_ld (v := (i64 s.roff)) Tryz.isAgg2 m1 T0 (by decide) (Dget_roff _)) (TL.m m5 (TL.val (n_add s.roff 4 9223372036854775808 T1 T0) (TL.c m5 (TL.f 2 fo_103_2 m0 (TL.s (r_st (F' := D { s with r := rif r, roff := s.roff + 4, b := 0, nb := 0, hist := Hw hb, b0 := n % 256, b1 := n / 256, b2 := m % 256, b3 := m / 256, err := .nilIface }) Tryz.sizeOf2 (Dsat_roff ((s.roff + 4))) a1 T0 T2 (by decide)) (TL.b (.tl (.tl (.tl (.tl (.tl (.tl (.tl (.tl (.hd .u1))))))))) (CT.seq (CT.q (TL.m m0 (TL.val (r_nen Tryz.underlying82 T0) (TL.b (.hd .u1) (CT.iff_ m0 ?_)))))))))))))))))))))))))))
 refine CT.z (EX.seq (CT.seq (CT.still fm (by kernel_rfl) ?_)))
 refine TS.m m1 (TS.c m0 (TS.f 1041 fo_103_10 m0 (TS.val (r_iaa (i := 0) (off' := 1041) Tryz.underlying99 Tryz.sizeOf5 T0 .c rfl (by omega) rfl) (TS.val (r_ld (v := (u8 (n % 256))) Tryz.isAgg5 m1 T0 (by decide) (Dget_b0 _)) (TS.val (n_conv ((n % 256)) 9223372036854775808 ⟨_, Tryz.underlying5⟩ Tryz.underlying3 T0 rfl (by omega)) (TS.m m7 (TS.c m0 (TS.f 1041 fo_103_10 m0 (TS.val (r_iaa (i := 1) (off' := 1042) Tryz.underlying99 Tryz.sizeOf5 T0 .c rfl (by omega) rfl) (TS.val (r_ld (v := (u8 (n / 256))) Tryz.isAgg5 m1 T0 (by decide) (Dget_b1 _)) (TS.val (n_conv ((n / 256)) 9223372036854775808 ⟨_, Tryz.underlying5⟩ Tryz.underlying3 T0 rfl (by omega)) (TS.val (n_shl ((n / 256)) 8 9223372036854775808 T0 .c rfl rfl (by decide) (by omega)) (TS.val (n_or ((n % 256)) (((n / 256) * 2 ^ 8)) 9223372036854775808 T7 T0 rfl rfl (by omega) (by omega)) (TS.val (r_asg T0) (TS.nil (TL.sub (.hd .u14) (TL.b (.eq m0 (congrArg (fun z : Nat => Value.int .i64 (z : Int)) or16) (.cons m1 (.cons m2 .nil))) (CT.seq (CT.still fm (by kernel_rfl) ?_)))))))))))))))))))
 refine TS.m m2 (TS.c m0 (TS.f 1041 fo_103_10 m0 (TS.val (r_iaa (i := 2) (off' := 1043) Tryz.underlying99 Tryz.sizeOf5 T0 .c rfl (by omega) rfl) (TS.val (r_ld (v := (u8 (m % 256))) Tryz.isAgg5 m1 T0 (by decide) (Dget_b2 _)) (TS.val (n_conv ((m % 256)) 9223372036854775808 ⟨_, Tryz.underlying5⟩ Tryz.underlying3 T0 rfl (by omega)) (TS.m m8 (TS.c m0 (TS.f 1041 fo_103_10 m0 (TS.val (r_iaa (i := 3) (off' := 1044) Tryz.underlying99 Tryz.sizeOf5 T0 .c rfl (by omega) rfl) (TS.val (r_ld (v := (u8 (m / 256))) Tryz.isAgg5 m1 T0 (by decide) (Dget_b3 _)) (TS.val (n_conv ((m / 256)) 9223372036854775808 ⟨_, Tryz.underlying5⟩ Tryz.underlying3 T0 rfl (by omega)) (TS.val (n_shl ((m / 256)) 8 9223372036854775808 T0 .c rfl rfl (by decide) (by omega)) (TS.val (n_or ((m % 256)) (((m / 256) * 2 ^ 8)) 9223372036854775808 T7 T0 rfl rfl (by omega) (by omega)) (TS.val (r_asg T0) (TS.nil (TL.sub (.hd .u14) (TL.b (.eq m0 (congrArg (fun z : Nat => Value.int .i64 (z : Int)) or16) (.cons m1 (.cons m2 (.cons m3 .nil)))) (CT.seq (CT.q (TL.m m0 (TL.val (n_conv m 65536 ⟨_, Tryz.underlying3⟩ Tryz.underlying159 T0 rfl (by omega)) (TL.m m3 (TL.val (r_compl T0 (by omega)) (TL.val (r_conv (z := (((65535 - n) : Nat) : Int)) ⟨_, Tryz.underlying3⟩ Tryz.underlying159 T0 (conv16 (by omega))) (TL.val (n_neq m ((65535 - n)) T3 T0) (TL.b (.hd .u6) (CT.ifd m0 (fun c72 => ?_) (fun c72 => ?_))))))))))))))))))))))))))))
 ·
  have he : hF = (del ++ un, false) := by rcases hc with ⟨_, h⟩ | ⟨h, _⟩ <;> first | exact h | omega
  exact CT.y (TL.m m2 (TL.m m3 (TL.c m0 (TL.f 2 fo_103_2 m0 (TL.val (r_ld (v := (i64 (s.roff + 4))) Tryz.isAgg2 m1 T0 (by decide) (Dget_roff _)) (TL.val (r_mki Tryz.underlying121 T0) (TL.c m5 (TL.f 1048 fo_103_14 m0 (TL.s (r_st (F' := D { s with r := rif r, roff := s.roff + 4, b := 0, nb := 0, hist := Hw hb, b0 := n % 256, b1 := n / 256, b2 := m % 256, b3 := m / 256, err := .iface 121 (i64 (s.roff + 4)) }) Tryz.sizeOf82 (Dsat_err (.iface 121 (i64 (s.roff + 4)))) a1 T0 T2 (by decide)) (TL.b .u8 (CT.ret (EX.then_ret (EX.perm p2 (EX.perm p1 (EX.perm p2 (EX.end_ (.inl rfl) (res0 Tryz.results87) (fun _ hS => hb_err (ea := ea) (R := R) (s' := { s with r := rif r, roff := s.roff + 4, b := 0, nb := 0, hist := Hw hb, b0 := n % 256, b1 := n / 256, b2 := m % 256, b3 := m / 256, err := .iface 121 (i64 (s.roff + 4)) }) (TB := []) rfl rfl htr rfl (by show s.roff + 4 = i + 4; omega) H.ex H.win H.rw_ H.wl ⟨un, rfl, hu⟩ (by omega) (H.sd.mono (Nat.le_refl _)) he hS)))))))))))))))))
 obtain ⟨xs, rest, hxn, htl, hx, ha⟩ : ∃ (xs : List Nat) (rest : List Bool), n = xs.length ∧ tl = xs.flatMap (nbits 8) ++ rest ∧ (∀ x ∈ xs, x < 256) ∧ After s.final (8 * (i + 4) + 8 * xs.length) rest (del ++ un ++ xs) hF := by rcases hc with ⟨h, _⟩ | ⟨_, h⟩ <;> first | exact h | omega
 rw [htl] at hd4
 refine CT.z (EX.seq (CT.seq (CT.q (TL.m m0 (TL.val (n_eql n 0 T0 .c) (TL.b (.hd .u1) (CT.ifd m0 (fun c82 => ?_) (fun c82 => ?_))))))))
 ·
  have hx0 : xs = [] := List.length_eq_zero_iff.1 (by omega)
  refine CT.y (TL.m m2 (TL.m m3 (TL.c m0 (TL.f 1037 fo_103_9 m0 (TL.perm p1 (TL.call (r_call ce_108 (.cons T0 .nil)) (fun w hS => t108 f hb { s with r := rif r, roff := s.roff + 4, b := 0, nb := 0, hist := Hw hb, b0 := n % 256, b1 := n / 256, b2 := m % 256, b3 := m / 256, err := .nilIface } (by show s.rd ≤ s.wr; omega) (by show s.wr ≤ 32768; omega) (by show s.rd < 32768; omega) hS) ?_))))))
  rintro z87 w87 ⟨hz87, hS⟩
  replace hz87 : z87 = (.slice (some ⟨hb, s.rd, none⟩) ((s.wr - s.rd)) ((32768 - s.rd))) := hz87
  subst hz87
  refine TW.at hS (TL.c m4 (TL.f 1049 fo_103_15 m0 (TL.s (r_st (F' := D { s with r := rif r, roff := s.roff + 4, b := 0, nb := 0, hist := Hw hb, wr := s.wr % 32768, rd := s.wr % 32768, full := s.full || decide (s.wr = 32768), b0 := n % 256, b1 := n / 256, b2 := m % 256, b3 := m / 256, err := .nilIface, toRead := .slice (some ⟨hb, s.rd, none⟩) ((s.wr - s.rd)) ((32768 - s.rd)) }) Tryz.sizeOf22 (Dsat_toRead (.slice (some ⟨hb, s.rd, none⟩) ((s.wr - s.rd)) ((32768 - s.rd)))) a0 T0 T2 (by decide)) (TL.r .u7 (TL.m m2 (TL.call (r_call ce_109 (.cons T0 .nil)) (fun w hS => t109 f hb { s with r := rif r, roff := s.roff + 4, b := 0, nb := 0, hist := Hw hb, wr := s.wr % 32768, rd := s.wr % 32768, full := s.full || decide (s.wr = 32768), b0 := n % 256, b1 := n / 256, b2 := m % 256, b3 := m / 256, err := .nilIface, toRead := .slice (some ⟨hb, s.rd, none⟩) ((s.wr - s.rd)) ((32768 - s.rd)) } (by show (s.wr % 32768) ≤ (s.wr % 32768); omega) (by show (s.wr % 32768) < 32768; omega) hE hS) ?_))))))
  rintro _ w91 ⟨rfl, hS⟩
  exact TW.at hS (TL.b .u2 (CT.ret (EX.then_ret (EX.perm p2 (EX.perm p2 (EX.perm p2 (EX.end_ (.inl rfl) (res0 Tryz.results87) (fun _ hS => (data_zero H hu herr hsz hd4 hx0 ha (by omega) (by omega) hS).toA))))))))
 refine CT.z (EX.q (TL.m m2 (TL.m m1 (TL.c m1 (TL.f 1052 fo_103_18 m0 (TL.s (r_st (F' := D { s with r := rif r, roff := s.roff + 4, b := 0, nb := 0, hist := Hw hb, b0 := n % 256, b1 := n / 256, b2 := m % 256, b3 := m / 256, err := .nilIface, cl := n }) Tryz.sizeOf3 (Dsat_cl n) a1 T0 T2 (by decide)) (TL.b .u4 (CT.region (TL.m m2 (TL.perm p2 (TL.perm p1 (TL.perm p2 (TL.call (r_call ce_110 (.cons T0 .nil)) (fun w hS => CallsR.mono (t110 (s := { s with r := rif r, roff := s.roff + 4, b := 0, nb := 0, hist := Hw hb, b0 := n % 256, b1 := n / 256, b2 := m % 256, b3 := m / 256, err := .nilIface, cl := n }) (i := i + 4) (mu0 := mu0) hE hBl ⟨rfl, rfl, H.win, H.rw_, H.wl, by show s.roff + 4 = i + 4; omega, by omega, H.ex, H.sd.mono (Nat.le_refl _)⟩ hu htr rfl (xs := xs) (rest := rest) hxn rfl rfl hx hd4 ha (by omega) hS) fun _ _ h => h.toA) ?_)))))))))))))
 rintro v97 w97 hS
 exact TW.at hS (TL.x .u2 (EX.end_ (.inr rfl) (res0 Tryz.results87) (fun _ hS => hS)))
theorem t68 {G : World} {R : List HProp} {w : World} {bb cb f r hb i : Nat} {B : List Bool} {hF : List Nat × Bool} {del un : List Nat} {ea : Addr} {s : DS} {hist : Nat → Nat} {mu0 : Nat} (hE : EOFIs G ea) (hBl : B.length < 1099511627776) (hO : OrdIs G) (H : Base bb cb r hb B s i hist (del ++ un)) (hu : un.length = s.wr - s.rd) (htr : TR hb hist s.toRead []) (herr : s.err = .nilIface) (hsz : s.ss = 1 → s.cl = 0) {k typ : Nat} {fin : Bool} {rest3 : List Bool} (hk : Held B k i s.b s.nb) (hn : s.nb ≤ 7) (hd0 : B.drop k = nbits 3 (Bool.toNat fin + 2 * typ) ++ rest3) (htyp : typ ≤ 3) (hb3 : Blk3 fin k (del ++ un) hF typ rest3) (hmu : 1000 * (B.length - k) ≤ mu0)
 (hS : Sat G w (blk f 1054 (D s) :: Br r B i :: blk hb 32768 (fun j => u8 (hist j)) :: AnyB bb 316 :: AnyB cb 19 :: R)) : CallsR Tryz.prog 68 #[pt f 0] w (fun _ w' => Sat G w' (RSA true bb cb f r hb B hF (.iface 187 (.pointer (some ea))) del (· < mu0) :: AnyB bb 316 :: AnyB cb 19 :: R)) := by
 have hlen := congrArg List.length hd0
 rw [List.length_drop, List.length_append, nbits_length] at hlen
 have hpl := pack_length B
 have h1 := H.rw_; have h2 := H.wl; have h3 := H.ro; have h4 := H.il
 have hs : s = { s with r := rif r, roff := i, bits := pt bb 0, cbits := pt cb 0, hist := Hw hb, err := .nilIface } := by have h5 := H.r_; have h6 := H.hi; have h7 := H.ex.1; have h8 := H.ex.2.1; cases s; simp_all
 replace hS := hS.D hs
 refine calls_in (n := 103) [(0, (pt f 0))] Tryz.func68 rfl rfl hS args1 ?_
 refine CT.seq (CT.block (CT.loop (X := Nat × Nat × Nat) (fun gx => [(0, (pt f 0))]) (fun gx => (blk f 1054 (D { s with r := rif r, roff := gx.1, b := gx.2.1, nb := gx.2.2, bits := pt bb 0, cbits := pt cb 0, hist := Hw hb, err := .nilIface })) :: Br r B gx.1 :: blk hb 32768 (fun jj => u8 (hist jj)) :: AnyB bb 316 :: AnyB cb 19 :: R) (fun gx => Held B k gx.1 gx.2.1 gx.2.2 ∧ gx.2.2 ≤ 10) (fun gx => 3 - gx.2.2) ((i, s.b, s.nb)) (⟨hk, by show s.nb ≤ 10; omega⟩) (.refl _) (.cons m0 .nil) ?_))
 rintro ⟨i2, b2, n2⟩ ⟨hI1, hI2⟩
 replace hI1 : Held B k i2 b2 n2 := hI1
 replace hI2 : n2 ≤ 10 := hI2
 have hh1 := hI1.1
 have hb2 : b2 < 4294967296 := Nat.lt_of_lt_of_le hI1.lt (Nat.pow_le_pow_right (by decide) (show n2 ≤ 32 by omega))
 refine CT.seq (CT.q (TL.m m0 (TL.c m0 (TL.f 4 fo_103_4 m0 (TL.val (r_ld (v := (u64 n2)) Tryz.isAgg90 m0 T0 (by decide) (Dget_nb _)) (TL.val (n_lss n2 3 T0 .c) (TL.b (.hd .u4) (CT.ifd m0 (fun c7 => ?_) (fun c7 => ?_)))))))))
 ·
  refine CT.z (EX.seq (CT.block (CT.q (TL.m m0 (TL.m m1 (TL.perm p1 (TL.perm p1 (TL.call (r_call ce_86 (.cons T0 .nil)) (fun w hS => t86 f r i2 B { s with r := rif r, roff := i2, b := b2, nb := n2, bits := pt bb 0, cbits := pt cb 0, hist := Hw hb, err := .nilIface } (by omega) (by omega) (by show i2 < 9223372036854775807; omega) (by show b2 < 4294967296; omega) (by show n2 ≤ 24; omega) hS) ?_))))))))
  rintro z10 w10 ⟨hz10, hS⟩
  replace hz10 : z10 = .nilIface := hz10
  subst hz10
  refine TW.at hS (TL.c m2 (TL.f 1048 fo_103_14 m0 (TL.s (r_st (F' := D { s with r := rif r, roff := i2 + 1, b := b2 ||| byteAt B i2 * 2 ^ n2, nb := n2 + 8, bits := pt bb 0, cbits := pt cb 0, hist := Hw hb, err := .nilIface }) Tryz.sizeOf82 (Dsat_err .nilIface) a0 T0 T2 (by decide)) (TL.r .u5 (TL.m m0 (TL.c m0 (TL.f 1048 fo_103_14 m0 (TL.val (r_ld (v := .nilIface) Tryz.isAgg82 m0 T0 (by decide) (Dget_err _)) (TL.val (r_nen Tryz.underlying82 T0) (TL.b (.hd .u4) (CT.iff_ m0 ?_)))))))))))
  exact CT.z (EX.bnormal (EX.again ((i2 + 1, b2 ||| byteAt B i2 * 2 ^ n2, n2 + 8)) (⟨hI1.more (by have := hI1.1; omega), by show n2 + 8 ≤ 10; omega⟩) (by show 3 - (n2 + 8) < 3 - n2; omega) (.refl _) (.cons m0 .nil)))
 have hfl := flag_lt fin
 have hlow := hI1.low (m := 3) (by omega) (by omega) hd0
 have hf : decide ((b2 &&& 1) = 1) = fin := by rw [Nat.and_one_is_mod]; cases fin <;> simp only [Bool.toNat, cond_true, cond_false, Bool.toNat_true, Bool.toNat_false] at hlow <;> simp <;> omega
 have ht : b2 / 2 ^ 1 &&& 3 = typ := by rw [show (3 : Nat) = 2 ^ 2 - 1 from rfl, Nat.and_two_pow_sub_one_eq_mod]; omega
 have hil2 : i2 ≤ (pack B).length := by omega
 have hk3 := hI1.take (m := 3) (by omega)
 have hq1 : b2 / 2 ^ 1 / 2 ^ 2 = b2 / 2 ^ 3 := by rw [Nat.div_div_eq_div_mul]
 refine CT.sub .u1 (CT.exit (EX.then_exit (EX.then_exit (EX.out (EX.q (TL.m m0 (TL.m m1 (TL.c m0 (TL.f 3 fo_103_3 m0 (TL.val (r_ld (v := (u32 b2)) Tryz.isAgg89 m0 T0 (by decide) (Dget_b _)) (TL.val (n_and b2 1 4294967296 T0 .c rfl rfl (by omega) (by omega)) (TL.val (n_eql ((b2 &&& 1)) 1 T0 .c) (TL.c m6 (TL.f 1047 fo_103_13 m0 (TL.s (r_st (F' := D { s with r := rif r, roff := i2, b := b2, nb := n2, bits := pt bb 0, cbits := pt cb 0, hist := Hw hb, final := decide ((b2 &&& 1) = 1), err := .nilIface }) Tryz.sizeOf4 (Dsat_final (decide ((b2 &&& 1) = 1))) a0 T0 T2 (by decide)) (TL.sub .u9 (TL.fold (A' := (blk f 1054 (D { s with r := rif r, roff := i2, b := b2, nb := n2, bits := pt bb 0, cbits := pt cb 0, hist := Hw hb, final := fin, err := .nilIface }))) a0 (D_eq (by rw [hf])) ?_)))))))))))))))))
 refine TL.q (TL.m m0 (TL.c m0 (TL.f 3 fo_103_3 m0 (TL.val (r_ld (v := (u32 b2)) Tryz.isAgg89 m0 T0 (by decide) (Dget_b _)) (TL.val (n_shr b2 1 T0 .c rfl rfl (by decide)) (TL.c m4 (TL.f 3 fo_103_3 m0 (TL.s (r_st (F' := D { s with r := rif r, roff := i2, b := b2 / 2 ^ 1, nb := n2, bits := pt bb 0, cbits := pt cb 0, hist := Hw hb, final := fin, err := .nilIface }) Tryz.sizeOf89 (Dsat_b ((b2 / 2 ^ 1))) a0 T0 T2 (by decide)) (TL.r .u7 (TL.m m0 (TL.c m0 (TL.f 3 fo_103_3 m0 (TL.val (r_ld (v := (u32 (b2 / 2 ^ 1))) Tryz.isAgg89 m0 T0 (by decide) (Dget_b _)) (TL.val (n_and ((b2 / 2 ^ 1)) 3 4294967296 T0 .c rfl rfl (by omega) (by omega)) (TL.a m0 (TL.sub (.hd .u5) (TL.r (.eq m0 (congrArg (fun z : Nat => Value.int .u32 (z : Int)) ht) (.cons m1 .nil)) (TL.m m1 (TL.c m0 (TL.f 3 fo_103_3 m0 (TL.val (r_ld (v := (u32 (b2 / 2 ^ 1))) Tryz.isAgg89 m0 T0 (by decide) (Dget_b _)) (TL.val (n_shr ((b2 / 2 ^ 1)) 2 T0 .c rfl rfl (by decide)) (TL.c m4 (TL.f 3 fo_103_3 m0 (TL.s (r_st (F' := D { s with r := rif r, roff := i2, b := (b2 / 2 ^ 1) / 2 ^ 2, nb := n2, bits := pt bb 0, cbits := pt cb 0, hist := Hw hb, final := fin, err := .nilIface }) Tryz.sizeOf89 (Dsat_b (((b2 / 2 ^ 1) / 2 ^ 2))) a0 T0 T2 (by decide)) (TL.sub .u7 (TL.fold (A' := (blk f 1054 (D { s with r := rif r, roff := i2, b := b2 / 2 ^ 3, nb := n2, bits := pt bb 0, cbits := pt cb 0, hist := Hw hb, final := fin, err := .nilIface }))) a0 (D_eq (by rw [hq1])) ?_)))))))))))))))))))))))))))
 refine TL.q (TL.m m1 (TL.c m0 (TL.f 4 fo_103_4 m0 (TL.val (r_ld (v := (u64 n2)) Tryz.isAgg90 m0 T0 (by decide) (Dget_nb _)) (TL.val (n_sub n2 3 18446744073709551616 T0 .c) (TL.c m4 (TL.f 4 fo_103_4 m0 (TL.s (r_st (F' := D { s with r := rif r, roff := i2, b := b2 / 2 ^ 3, nb := n2 - 3, bits := pt bb 0, cbits := pt cb 0, hist := Hw hb, final := fin, err := .nilIface }) Tryz.sizeOf90 (Dsat_nb ((n2 - 3))) a0 T0 T2 (by decide)) (TL.b .u7 (CT.seq ?_))))))))))
 rcases hb3 with @⟨ps, rest, xs, hps, hal, hxl, hx, -, ha⟩ | @⟨ps, rest, n, m, hps, hal, hn1, hm1, hnm, he⟩ | ⟨ht⟩ | @⟨own, nl, nd, hb0, bits, o, hoh, hhr, he, hgo⟩ | ⟨he⟩
 ·
  refine CT.sub (ρ' := [(2, (.int .u32 0)), (0, (pt f 0))]) (.eq m0 rfl (.cons m1 .nil)) (CT.region (TL.m m0 (TL.b (.hd .u1) (CT.block (CT.q (TL.val (show Run _ _ _ _ _ _ (.bool true) from n_eql 0 0 T0 .c rfl rfl) (TL.a m0 (TL.b (.hd .u1) (CT.ift m0 ?_)))))))))
  refine CT.sub .u1 (CT.region (TL.m m1 ?_))
  have hd1 := drop_app hd0
  rw [nbits_length] at hd1
  have hd2 := drop_app hd1
  have hnb : n2 - 3 = ps.length := by omega
  have h8i : 8 * i2 = k + 3 + ps.length := by omega
  refine TL.perm p2 (TL.perm p2 (TL.perm p2 (TL.perm p2 (TL.perm p2 (TL.perm p2 (TL.call (r_call ce_87 (.cons T0 .nil)) (fun w hS => t87 (s := { s with r := rif r, roff := i2, b := b2 / 2 ^ 3, nb := n2 - 3, bits := pt bb 0, cbits := pt cb 0, hist := Hw hb, final := fin, err := .nilIface }) (i := i2) (mu0 := mu0) hE hBl ⟨rfl, rfl, H.win, H.rw_, H.wl, rfl, hil2, ⟨rfl, rfl, H.ex.2.2⟩, H.sd.mono (Nat.le_refl _)⟩ hu htr rfl hsz (n := xs.length) (m := 65535 - xs.length) (tl := xs.flatMap (nbits 8) ++ rest) (by omega) (by omega) (by rw [h8i]; exact hd2) (.inr ⟨by omega, xs, rest, rfl, rfl, hx, by rw [show 8 * (i2 + 4) + 8 * xs.length = k + 3 + ps.length + 32 + 8 * xs.length by omega]; exact ha⟩) (by omega) hS) ?_))))))
  rintro v65 w65 hS
  exact TW.at hS (TL.x .u2 (EX.bnormal (EX.perm p2 (EX.perm p2 (EX.perm p2 (EX.end_ (.inr rfl) (res0 Tryz.results68) (fun _ hS => hS)))))))
 ·
  refine CT.sub (ρ' := [(2, (.int .u32 0)), (0, (pt f 0))]) (.eq m0 rfl (.cons m1 .nil)) (CT.region (TL.m m0 (TL.b (.hd .u1) (CT.block (CT.q (TL.val (show Run _ _ _ _ _ _ (.bool true) from n_eql 0 0 T0 .c rfl rfl) (TL.a m0 (TL.b (.hd .u1) (CT.ift m0 ?_)))))))))
  refine CT.sub .u1 (CT.region (TL.m m1 ?_))
  have hd1 := drop_app hd0
  rw [nbits_length] at hd1
  have hd2 := drop_app hd1
  have hnb : n2 - 3 = ps.length := by omega
  have h8i : 8 * i2 = k + 3 + ps.length := by omega
  refine TL.perm p2 (TL.perm p2 (TL.perm p2 (TL.perm p2 (TL.perm p2 (TL.perm p2 (TL.call (r_call ce_87 (.cons T0 .nil)) (fun w hS => t87 (s := { s with r := rif r, roff := i2, b := b2 / 2 ^ 3, nb := n2 - 3, bits := pt bb 0, cbits := pt cb 0, hist := Hw hb, final := fin, err := .nilIface }) (i := i2) (mu0 := mu0) hE hBl ⟨rfl, rfl, H.win, H.rw_, H.wl, rfl, hil2, ⟨rfl, rfl, H.ex.2.2⟩, H.sd.mono (Nat.le_refl _)⟩ hu htr rfl hsz (n := n) (m := m) (tl := rest) hn1 hm1 (by rw [h8i]; exact hd2) (.inl ⟨hnm, he⟩) (by omega) hS) ?_))))))
  rintro v65 w65 hS
  exact TW.at hS (TL.x .u2 (EX.bnormal (EX.perm p2 (EX.perm p2 (EX.perm p2 (EX.end_ (.inr rfl) (res0 Tryz.results68) (fun _ hS => hS)))))))
 ·
  refine CT.sub (ρ' := [(2, (.int .u32 1)), (0, (pt f 0))]) (.eq m0 rfl (.cons m1 .nil)) (CT.region (TL.m m0 (TL.b (.hd .u1) (CT.block (CT.q (TL.val (show Run _ _ _ _ _ _ (.bool false) from n_eql 1 0 T0 .c rfl rfl) (TL.a m0 (TL.b (.hd .u1) (CT.iff_ m0 ?_)))))))))
  refine CT.y (TL.val (show Run _ _ _ _ _ _ (.bool true) from n_eql 1 1 T0 .c rfl rfl) (TL.a m0 (TL.b (.hd .u1) (CT.ift m0 ?_))))
  refine CT.y (TL.m m1 (TL.call (r_call ce_88 .nil) (fun w hS => t88 hS) ?_))
  rintro _ w69 ⟨tb, T, t, rfl, htd, hmn, hS⟩
  refine TW.at hS (TL.c m1 (TL.f 1050 fo_103_16 m0 (TL.s (r_st (F' := D { s with r := rif r, roff := i2, b := b2 / 2 ^ 3, nb := n2 - 3, bits := pt bb 0, cbits := pt cb 0, hist := Hw hb, final := fin, err := .nilIface, hl := pt tb 0 }) Tryz.sizeOf101 (Dsat_hl (pt tb 0)) a2 T0 T2 (by decide)) (TL.r .u4 (TL.m m1 (TL.c m0 (TL.f 1051 fo_103_17 m0 (TL.s (r_st (F' := D { s with r := rif r, roff := i2, b := b2 / 2 ^ 3, nb := n2 - 3, bits := pt bb 0, cbits := pt cb 0, hist := Hw hb, final := fin, err := .nilIface, hl := pt tb 0, hd := .pointer none }) Tryz.sizeOf101 (Dsat_hd (.pointer none)) a2 T0 .c (by decide)) (TL.b .u3 (CT.region (TL.m m1 ?_)))))))))))
  have hd1 := drop_app hd0
  rw [nbits_length] at hd1
  have h7 : fixLit.getD 256 0 = 7 := fix_256
  have hs01 : s.ss = 0 ∨ s.ss = 1 := H.sd.imp id (fun h => h.1)
  refine TL.perm p1 (TL.perm p1 (TL.perm p4 (TL.perm p4 (TL.perm p4 (TL.call (r_call ce_89 (.cons T0 .nil)) (fun w hS => t89_F (s := { s with r := rif r, roff := i2, b := b2 / 2 ^ 3, nb := n2 - 3, bits := pt bb 0, cbits := pt cb 0, hist := Hw hb, final := fin, err := .nilIface, hl := pt tb 0, hd := .pointer none }) (i := i2) (k := k + 3) (mu0 := mu0) (un := un) hE hBl ⟨rfl, rfl, H.win, H.rw_, H.wl, rfl, hil2, ⟨rfl, rfl, H.ex.2.2⟩, H.sd.mono (Nat.le_refl _)⟩ htr rfl fix_l256 rfl rfl rfl rfl htd hmn (ent_of (x := ⟨i2, b2 / 2 ^ 3, n2 - 3, s.wr, k + 3, s.cl, s.cd, hist, del ++ un⟩) hsz H.sd ⟨H.win, H.rw_, H.wl, hk3, (by show n2 - 3 ≤ _; omega), ⟨un, rfl, hu⟩, hil2, (by show s.ss ≤ 1; omega)⟩ (by show HTail fixLit fixDist fin (k + 3) (B.drop (k + 3)) (del ++ un) hF; rw [hd1]; exact ht) (by show 1000 * (B.length - (k + 3)) + 2 ≤ mu0; omega)) hS) ?_)))))
  rintro v76 w76 hS
  exact TW.at hS (TL.x .u2 (EX.bnormal (EX.perm p2 (EX.perm p2 (EX.perm p2 (EX.end_ (.inr rfl) (res0 Tryz.results68) (fun _ hS => hS)))))))
 ·
  refine CT.sub (ρ' := [(2, (.int .u32 2)), (0, (pt f 0))]) (.eq m0 rfl (.cons m1 .nil)) (CT.region (TL.m m0 (TL.b (.hd .u1) (CT.block (CT.q (TL.val (show Run _ _ _ _ _ _ (.bool false) from n_eql 2 0 T0 .c rfl rfl) (TL.a m0 (TL.b (.hd .u1) (CT.iff_ m0 ?_)))))))))
  refine CT.y (TL.val (show Run _ _ _ _ _ _ (.bool false) from n_eql 2 1 T0 .c rfl rfl) (TL.a m0 (TL.b (.hd .u1) (CT.iff_ m0 ?_))))
  refine CT.y (TL.val (show Run _ _ _ _ _ _ (.bool true) from n_eql 2 2 T0 .c rfl rfl) (TL.a m0 (TL.b (.hd .u1) (CT.ift m0 ?_))))
  refine CT.sub .u1 (CT.seq (CT.q (TL.m m1 (TL.m m2 ?_))))
  have hd1 := drop_app hd0
  rw [nbits_length] at hd1
  have hd1l := congrArg List.length hd1
  simp only [List.length_drop, List.length_append] at hd1l
  have hs01 : s.ss = 0 ∨ s.ss = 1 := H.sd.imp id (fun h => h.1)
  refine TL.perm p4 (TL.perm p4 (TL.perm p3 (TL.perm p3 (TL.call (r_call ce_90 (.cons T0 .nil)) (fun w hS => t90 (s := { s with r := rif r, roff := i2, b := b2 / 2 ^ 3, nb := n2 - 3, bits := pt bb 0, cbits := pt cb 0, hist := Hw hb, final := fin, err := .nilIface }) (k := k + 3) hO hBl hoh hhr hd1 hk3 (by show n2 - 3 ≤ 7; omega) hil2 (by omega) rfl rfl rfl rfl H.ex.2.2 hS) ?_))))
  rintro v81 w81 ⟨i3, b3, n3, H3, hil3, hHO, ⟨ho, z, rfl, hS⟩ | ⟨lit, dist, rest, t, td, k', ho, rfl, hkB', hdr, hk4, hn7, h256, htb, hmn, htdb, hS⟩⟩
  ·
   replace he := he ho
   refine TW.at hS (TL.c m2 (TL.f 1048 fo_103_14 m0 (TL.s (r_st (F' := D { s with r := rif r, roff := i3, b := b3, nb := n3, H := H3, bits := pt bb 0, cbits := pt cb 0, hist := Hw hb, final := fin, err := .iface 121 (.int .i64 z) }) Tryz.sizeOf82 (Dsat_err (.iface 121 (.int .i64 z))) a0 T0 T2 (by decide)) (TL.r .u5 (TL.m m1 (TL.c m0 (TL.f 1048 fo_103_14 m0 (TL.val (r_ld (v := (.iface 121 (.int .i64 z))) Tryz.isAgg82 m0 T0 (by decide) (Dget_err _)) (TL.val (r_nei Tryz.underlying82 T0) (TL.b (.hd .u4) (CT.ift m0 ?_)))))))))))
   exact CT.sub .u1 (CT.exit (EX.then_exit (EX.out (EX.perm p3 (EX.perm p3 (EX.perm p4 (EX.perm p4 (EX.perm p4 (EX.end_ (.inr rfl) (res0 Tryz.results68) (fun _ hS => hb_err (ea := ea) (R := AnyB bb 316 :: AnyB cb 19 :: R) (s' := { s with r := rif r, roff := i3, b := b3, nb := n3, H := H3, bits := pt bb 0, cbits := pt cb 0, hist := Hw hb, final := fin, err := .iface 121 (.int .i64 z) }) (TB := []) rfl rfl htr rfl rfl ⟨rfl, rfl, hHO⟩ H.win H.rw_ H.wl ⟨un, rfl, hu⟩ hil3 (H.sd.mono (Nat.le_refl _)) he hS))))))))))
  subst ho
  have hrl := hhr.len
  have hdrl := congrArg List.length hdr
  rw [List.length_drop] at hdrl
  refine TW.at hS (TL.c m2 (TL.f 1048 fo_103_14 m0 (TL.s (r_st (F' := D { s with r := rif r, roff := i3, b := b3, nb := n3, H := H3, bits := pt bb 0, cbits := pt cb 0, hist := Hw hb, final := fin, err := .nilIface }) Tryz.sizeOf82 (Dsat_err .nilIface) a0 T0 T2 (by decide)) (TL.r .u5 (TL.m m1 (TL.c m0 (TL.f 1048 fo_103_14 m0 (TL.val (r_ld (v := .nilIface) Tryz.isAgg82 m0 T0 (by decide) (Dget_err _)) (TL.val (r_nen Tryz.underlying82 T0) (TL.b (.hd .u4) (CT.iff_ m0 ?_)))))))))))
  refine CT.z (EX.q (TL.m m1 (TL.m m2 (TL.c m0 (TL.f 5 fo_103_5 m0 (TL.c m3 (TL.f 1050 fo_103_16 m0 (TL.s (r_st (F' := D { s with r := rif r, roff := i3, b := b3, nb := n3, H := H3, bits := pt bb 0, cbits := pt cb 0, hist := Hw hb, final := fin, err := .nilIface, hl := pt f 5 }) Tryz.sizeOf101 (Dsat_hl (pt f 5)) a0 T0 T2 (by decide)) (TL.r .u6 (TL.m m1 (TL.m m2 (TL.c m0 (TL.f 520 fo_103_6 m0 (TL.c m3 (TL.f 1051 fo_103_17 m0 (TL.s (r_st (F' := D { s with r := rif r, roff := i3, b := b3, nb := n3, H := H3, bits := pt bb 0, cbits := pt cb 0, hist := Hw hb, final := fin, err := .nilIface, hl := pt f 5, hd := pt f 520 }) Tryz.sizeOf101 (Dsat_hd (pt f 520)) a0 T0 T2 (by decide)) (TL.b .u6 (CT.region (TL.m m1 (TL.perm p5 (TL.perm p5 (TL.perm p6 (TL.perm p4 (TL.perm p4 (TL.call (r_call ce_89 (.cons T0 .nil)) (fun w hS => t89_D (s := { s with r := rif r, roff := i3, b := b3, nb := n3, H := H3, bits := pt bb 0, cbits := pt cb 0, hist := Hw hb, final := fin, err := .nilIface, hl := pt f 5, hd := pt f 520 }) (i := i3) (k := k') (mu0 := mu0) (un := un) hE hBl ⟨rfl, rfl, H.win, H.rw_, H.wl, rfl, hil3, ⟨rfl, rfl, hHO⟩, H.sd.mono (Nat.le_refl _)⟩ htr rfl h256 rfl rfl htb hmn htdb (ent_of (x := ⟨i3, b3, n3, s.wr, k', s.cl, s.cd, hist, del ++ un⟩) hsz H.sd ⟨H.win, H.rw_, H.wl, hk4, (by show n3 ≤ _; omega), ⟨un, rfl, hu⟩, hil3, (by show s.ss ≤ 1; omega)⟩ (by show HTail lit dist fin k' (B.drop k') (del ++ un) hF; rw [hdr]; exact hgo _ _ _ _ rfl (by omega)) (by show 1000 * (B.length - k') + 2 ≤ mu0; omega)) hS) ?_)))))))))))))))))))))))))
  rintro v102 w102 hS
  exact TW.at hS (TL.x .u2 (EX.bnormal (EX.perm p2 (EX.perm p2 (EX.perm p2 (EX.end_ (.inr rfl) (res0 Tryz.results68) (fun _ hS => hS)))))))
 refine CT.sub (ρ' := [(2, (.int .u32 3)), (0, (pt f 0))]) (.eq m0 rfl (.cons m1 .nil)) (CT.region (TL.m m0 (TL.b (.hd .u1) (CT.block (CT.q (TL.val (show Run _ _ _ _ _ _ (.bool false) from n_eql 3 0 T0 .c rfl rfl) (TL.a m0 (TL.b (.hd .u1) (CT.iff_ m0 ?_)))))))))
 refine CT.y (TL.val (show Run _ _ _ _ _ _ (.bool false) from n_eql 3 1 T0 .c rfl rfl) (TL.a m0 (TL.b (.hd .u1) (CT.iff_ m0 ?_))))
 refine CT.y (TL.val (show Run _ _ _ _ _ _ (.bool false) from n_eql 3 2 T0 .c rfl rfl) (TL.a m0 (TL.b (.hd .u1) (CT.iff_ m0 ?_))))
 exact CT.sub .u1 (CT.region (TL.m m1 (TL.m m2 (TL.c m0 (TL.f 2 fo_103_2 m0 (TL.val (r_ld (v := (i64 i2)) Tryz.isAgg2 m0 T0 (by decide) (Dget_roff _)) (TL.val (r_mki Tryz.underlying121 T0) (TL.c m5 (TL.f 1048 fo_103_14 m0 (TL.s (r_st (F' := D { s with r := rif r, roff := i2, b := b2 / 2 ^ 3, nb := n2 - 3, bits := pt bb 0, cbits := pt cb 0, hist := Hw hb, final := fin, err := .iface 121 (i64 i2) }) Tryz.sizeOf82 (Dsat_err (.iface 121 (i64 i2))) a0 T0 T2 (by decide)) (TL.x .u8 (EX.bnormal (EX.perm p4 (EX.perm p4 (EX.perm p4 (EX.perm p4 (EX.perm p4 (EX.end_ (.inr rfl) (res0 Tryz.results68) (fun _ hS => hb_err (ea := ea) (R := AnyB bb 316 :: AnyB cb 19 :: R) (s' := { s with r := rif r, roff := i2, b := b2 / 2 ^ 3, nb := n2 - 3, bits := pt bb 0, cbits := pt cb 0, hist := Hw hb, final := fin, err := .iface 121 (i64 i2) }) (TB := []) rfl rfl htr rfl rfl ⟨rfl, rfl, H.ex.2.2⟩ H.win H.rw_ H.wl ⟨un, rfl, hu⟩ hil2 (H.sd.mono (Nat.le_refl _)) he hS)))))))))))))))))))
end Go.Eng
namespace Go.Eng
open Go Go.Proofs Go.Infl
theorem TR.shape {hb : Nat} {hist : Nat → Nat} {v : Value} {c : List Nat} (h : TR hb hist v c) : ∃ p cp, v = .slice p c.length cp := by
 rcases h with ⟨rfl, rfl⟩ | ⟨a, cp, h, _⟩
 ·
  exact ⟨none, 0, rfl⟩
 exact ⟨_, cp, h⟩
theorem TR.at_ {hb : Nat} {hist : Nat → Nat} {v : Value} {c : List Nat} (h : TR hb hist v c) (hc : 0 < c.length) : ∃ a cp, v = .slice (some ⟨hb, a, none⟩) c.length cp ∧ c.length ≤ cp ∧ a + c.length ≤ 32768 ∧ ∀ j x, c[j]? = some x → hist (a + j) = x := by
 rcases h with ⟨rfl, rfl⟩ | h
 ·
  cases hc
 exact h
section
variable {P : Program} {G w : World} {ρ : Env} {n : Nat} {R : List HProp} {Q : Exit → Act → World → Prop} {bb cb f r hb i : Nat} {B : List Bool} {hF : List Nat × Bool} {del h c un : List Nat} {z : Bool} {eof : Value} {ok : Nat → Prop} {s : DS}
theorem CT.rsOpen {cd : Code} (k : ∀ s i hist h c un p cp, Base bb cb r hb B s i hist h → h = del ++ (c ++ un) → un.length = s.wr - s.rd → TR hb hist s.toRead c → s.toRead = .slice p c.length cp →
 CT P cd Q ρ n G (blk f 1054 (D s) :: Br r B i :: blk hb 32768 (fun j => u8 (hist j)) :: Qt z f B hF eof s i h c un ok :: R)) : CT P cd Q ρ n G (RSA z bb cb f r hb B hF eof del ok :: R) := fun w a hS ha => by
 obtain ⟨⟨s, i, hist, h, c, un⟩, hS⟩ := hS.ex
 obtain ⟨⟨h1, h2, h3, h4⟩, hS⟩ := (Sat.unsep hS).pure
 obtain ⟨p, cp, h5⟩ := h4.shape
 exact k s i hist h c un p cp h1 h2 h3 h4 h5 w a hS ha
theorem CT.qtSplit {cd : Code} (k1 : ∀ mu, s.err = .nilIface → ok mu → CT P cd Q ρ n G (Pl f B hF s i h mu :: R)) (k2 : ∀ t v, s.err = .iface t v → EV hF eof s.err → h = hF.1 → (un = [] ∨ z = true ∧ c = []) → CT P cd Q ρ n G R) (he : ∃ v, eof = .iface 187 v) : CT P cd Q ρ n G (Qt z f B hF eof s i h c un ok :: R) := fun w a hS ha => by
 obtain ⟨o, hS⟩ := hS.ex
 cases o with
 | some mu =>
  obtain ⟨⟨h5, h6⟩, hS⟩ := (Sat.unsep hS).pure
  exact k1 mu h5 h6 w a hS ha
 | none =>
  obtain ⟨⟨h5, h6, h7⟩, hS⟩ := hS.pure
  obtain ⟨v, he⟩ := he
  rcases h5 with ⟨e1, e2⟩ | ⟨e1, x, e2⟩
  ·
   exact k2 _ _ (e2.trans he) (.inl ⟨e1, e2⟩) h6 h7 w a hS ha
  exact k2 _ _ e2 (.inr ⟨e1, x, e2⟩) h6 h7 w a hS ha
theorem CT.plStep {cd : Code} {mu : Nat} (k1 : s.step = .func (.func 68) #[] #[] → CT P cd Q ρ n G (Pl f B hF s i h mu :: R)) (k2 : s.step = .func (.func 110) #[] #[] → CT P cd Q ρ n G (Pl f B hF s i h mu :: R)) (k3 : s.step = .func (.func 89) #[] #[] → CT P cd Q ρ n G (Pl f B hF s i h mu :: R)) : CT P cd Q ρ n G (Pl f B hF s i h mu :: R) := fun w a hS ha => by
 obtain ⟨m, hm, _⟩ := hS.obj (List.mem_cons_self ..)
 cases hm with
 | blk e => exact k1 e w a hS ha
 | copy e => exact k2 e w a hS ha
 | huff e => exact k3 e w a hS ha
theorem Pl.toRead {mu : Nat} {v : Value} : ∀ m, Pl f B hF s i h mu m → Pl f B hF { s with toRead := v } i h mu m := fun m hm => by
 cases hm with
 | blk a1 a2 a3 a4 a5 a6 a7 => exact .blk a1 a2 a3 a4 a5 a6 a7
 | copy a1 a2 a3 a4 a5 a6 a7 a8 => exact .copy a1 a2 a3 a4 a5 a6 a7 a8
 | huff a1 a2 a3 a4 a5 a6 => exact .huff a1 a2 a3 a4 a5 a6
end
section
variable {G : World} {R : List HProp} {w : World} {bb cb f r hb i mu : Nat} {B : List Bool} {hF : List Nat × Bool} {del un : List Nat} {ea : Addr} {s : DS} {hist : Nat → Nat} (hE : EOFIs G ea) (hBl : B.length < 1099511627776) (hO : OrdIs G) (H : Base bb cb r hb B s i hist (del ++ un)) (hu : un.length = s.wr - s.rd) (htr : TR hb hist s.toRead []) (herr : s.err = .nilIface)
 (hS : Sat G w (blk f 1054 (D s) :: Br r B i :: blk hb 32768 (fun j => u8 (hist j)) :: Pl f B hF s i (del ++ un) mu :: AnyB bb 316 :: AnyB cb 19 :: R))
include hE hBl hO H hu htr herr hS
theorem step68 (hst : s.step = .func (.func 68) #[] #[]) : CallsR Tryz.prog 68 #[pt f 0] w (fun _ w' => Sat G w' (RSA true bb cb f r hb B hF (.iface 187 (.pointer (some ea))) del (· < mu) :: AnyB bb 316 :: AnyB cb 19 :: R)) := by
 obtain ⟨m, hm, _⟩ := hS.obj (A := Pl f B hF s i (del ++ un) mu) (.tail _ (.tail _ (.tail _ (.head _))))
 have hS' := (hS.perm p3).tail
 cases hm with
 | @blk k _ st tail _ a1 a2 a3 a4 a5 a6 a7 =>
  obtain ⟨fin, typ, rest, e1, e2, e3⟩ := a5.blk3 tail
  exact t68 hE hBl hO H hu htr herr a7 a3 a2 (by rw [a4]; exact e1) e2 e3 (Nat.le_of_eq a6.symm) hS'
 | copy b1 => rw [hst] at b1; cases b1
 | huff b1 => rw [hst] at b1; cases b1
theorem step110 (hst : s.step = .func (.func 110) #[] #[]) : CallsR Tryz.prog 110 #[pt f 0] w (fun _ w' => Sat G w' (RSA true bb cb f r hb B hF (.iface 187 (.pointer (some ea))) del (· < mu) :: AnyB bb 316 :: AnyB cb 19 :: R)) := by
 have _ := hO
 obtain ⟨m, hm, _⟩ := hS.obj (A := Pl f B hF s i (del ++ un) mu) (.tail _ (.tail _ (.tail _ (.head _))))
 have hS' := (hS.perm p3).tail
 cases hm with
 | blk b1 => rw [hst] at b1; cases b1
 | huff b1 => rw [hst] at b1; cases b1
 | copy a1 a2 a3 a4 a5 a6 a7 a8 => exact (t110 hE hBl H hu htr herr a4 a2 a3 a5 a6 a7 (Nat.le_of_eq a8.symm) hS').mono fun _ _ h => h.toA
theorem step89 (hst : s.step = .func (.func 89) #[] #[]) : CallsR Tryz.prog 89 #[pt f 0] w (fun _ w' => Sat G w' (RSA true bb cb f r hb B hF (.iface 187 (.pointer (some ea))) del (· < mu) :: AnyB bb 316 :: AnyB cb 19 :: R)) := by
 have _ := hO
 have hS1 := hS.perm p3
 obtain ⟨m, hm, hle, hR⟩ := hS1.sat
 cases hm with
 | blk b1 => rw [hst] at b1; cases b1
 | copy b1 => rw [hst] at b1; cases b1
 | @huff k _ ls ds _ b1 hss hk hnb ht htb =>
  obtain ⟨h256, htb⟩ := htb
  have hent : (s.ss = 0 ∧ HI0 B hF del s ls ds mu ⟨i, s.b, s.nb, s.wr, k, s.cl, s.cd, hist, del ++ un⟩) ∨ (s.ss = 1 ∧ HI1 B hF del s ls ds mu ⟨i, s.b, s.nb, s.wr, k, s.cl, s.cd, hist, del ++ un⟩) := by
   have hx : s.ss ≤ 1 → HI B del s (ls.getD 256 0) ⟨i, s.b, s.nb, s.wr, k, s.cl, s.cd, hist, del ++ un⟩ := fun h01 => ⟨H.win, H.rw_, H.wl, hk, hnb, ⟨un, rfl, hu⟩, H.il, h01⟩
   rcases hss with ⟨h0, h1⟩ | ⟨h0, h1, h2, h3, h4, h5⟩
   ·
    rw [if_pos h0] at ht
    exact .inl ⟨h0, hx (by omega), ht, Nat.le_of_eq h1.symm, fun e => by omega⟩
   rw [if_neg (by omega)] at ht
   exact .inr ⟨h0, hx (by omega), ht, h1, h2, h3, h4, Nat.le_of_eq h5.symm⟩
  rcases htb with htb | htb
  ·
   have h2 : Sat G w (TbsF s.hl s.hd ls ds :: blk f 1054 (D s) :: Br r B i :: blk hb 32768 (fun j => u8 (hist j)) :: AnyB bb 316 :: AnyB cb 19 :: R) := { hS1 with sat := ⟨m, htb, hle, hR⟩ }
   obtain ⟨⟨tb, T, t⟩, h3⟩ := h2.ex
   obtain ⟨⟨e1, e2, e3, e4, e5, e6⟩, h4⟩ := h3.unsep.pure
   exact t89_F hE hBl H htr herr h256 e1 e2 e3 e4 e5 e6 hent (h4.perm (List.perm_append_comm_assoc [blk tb 515 T, Lnks t] [blk f 1054 (D s), Br r B i, blk hb 32768 (fun j => u8 (hist j))] (AnyB bb 316 :: AnyB cb 19 :: R)))
  have h2 : Sat G w (TbsD f s.hl s.hd s.H ls ds :: blk f 1054 (D s) :: Br r B i :: blk hb 32768 (fun j => u8 (hist j)) :: AnyB bb 316 :: AnyB cb 19 :: R) := { hS1 with sat := ⟨m, htb, hle, hR⟩ }
  obtain ⟨⟨t, td⟩, h3⟩ := h2.ex
  obtain ⟨⟨e1, e2, e3, e4, e5⟩, h4⟩ := h3.unsep.pure
  exact t89_D hE hBl H htr herr h256 e1 e2 e3 e4 e5 hent (h4.perm (List.perm_append_comm_assoc [Lnks t, Lnks td] [blk f 1054 (D s), Br r B i, blk hb 32768 (fun j => u8 (hist j))] (AnyB bb 316 :: AnyB cb 19 :: R)))
end
end Go.Eng
namespace Go.Eng
open Go Go.Proofs Go.Infl
theorem u8_at {hist : Nat → Nat} {c : List Nat} {a n j : Nat} {x : Value} (hat : ∀ j x, c[j]? = some x → hist (a + j) = x) (hj : ((c.take n).map u8)[j]? = some x) : u8 (hist (a + j)) = x := by
 rw [List.getElem?_map, List.getElem?_take] at hj
 split at hj
 ·
  cases hc : c[j]? with
  | none => rw [hc] at hj; cases hj
  | some y => rw [hc] at hj; cases hj; rw [hat j y hc]
 cases hj
def RdPost (G : World) (R : List HProp) (bb cb f r hb db : Nat) (B : List Bool) (hF : List Nat × Bool) (eof : Value) (del : List Nat) (v : Value) (w' : World) : Prop :=
 ∃ (d : List Nat) (e : Value) (F' : Nat → Value), v = .tuple #[i64 d.length, e] ∧ d.length ≤ 1000 ∧ (∀ j x, d[j]? = some x → F' j = u8 x) ∧
  ((e = .nilIface ∧ 0 < d.length ∧ ∃ M, Sat G w' (RSA false bb cb f r hb B hF eof (del ++ d) (· < M) :: AnyB bb 316 :: AnyB cb 19 :: blk db 1000 F' :: R)) ∨ (EV hF eof e ∧ del ++ d = hF.1 ∧ Sat G w' (blk db 1000 F' :: R)))
section
variable {G w : World} {R : List HProp} {bb cb f r hb db i M a cp2 : Nat} {B : List Bool} {hF : List Nat × Bool} {del h c un : List Nat} {eof : Value} {s : DS} {hist : Nat → Nat} {F : Nat → Value}
theorem got_at {n : Nat} : ∀ j x, (c.take n)[j]? = some x → updl F 0 ((c.take n).map u8) j = u8 x := fun j x hj => by
 have := updl_get (F := F) (off := 0) (vs := (c.take n).map u8) (j := j) (v := u8 x) (by rw [List.getElem?_map, hj]; rfl)
 rwa [Nat.zero_add] at this
theorem Sat.qt {ok : Nat → Prop} (hS : Sat G w (Qt false f B hF eof s i h c un ok :: R)) : (∃ mu, s.err = .nilIface ∧ ok mu ∧ Sat G w (Pl f B hF s i h mu :: R)) ∨ (EV hF eof s.err ∧ h = hF.1 ∧ un = [] ∧ Sat G w R) := by
 obtain ⟨o, hS⟩ := hS.ex
 cases o with
 | some mu =>
  obtain ⟨⟨h5, h6⟩, hS⟩ := (Sat.unsep hS).pure
  exact .inl ⟨mu, h5, h6, hS⟩
 | none =>
  obtain ⟨⟨h5, h6, h7⟩, hS⟩ := hS.pure
  exact .inr ⟨h5, h6, h7.resolve_right (fun h => absurd h.1 (by decide)), hS⟩
theorem read_A (H : Base bb cb r hb B s i hist h) (hh : h = del ++ (c ++ un)) (hu : un.length = s.wr - s.rd) (hcp : c.length ≤ cp2) (hap : a + c.length ≤ 32768) (hat : ∀ j x, c[j]? = some x → hist (a + j) = x)
 (hS : Sat G w (blk f 1054 (D { s with toRead := .slice (some ⟨hb, (if cp2 = min c.length 1000 then a else a + min c.length 1000), none⟩) (c.length - min c.length 1000) (cp2 - min c.length 1000) }) :: Br r B i :: blk hb 32768 (fun j => u8 (hist j)) :: Qt false f B hF eof s i h c un (· < M) :: R)) :
 RS false G R bb cb f r hb B hF eof (del ++ c.take (min c.length 1000)) (· < M) w := by
 have htr : TR hb hist (.slice (some ⟨hb, (if cp2 = min c.length 1000 then a else a + min c.length 1000), none⟩) (c.length - min c.length 1000) (cp2 - min c.length 1000)) (c.drop (min c.length 1000)) := by
  refine .inr ⟨_, _, by rw [List.length_drop], by rw [List.length_drop]; omega, by rw [List.length_drop]; split <;> omega, fun j x hj => ?_⟩
  have hlt := (List.getElem?_eq_some_iff.1 hj).1
  rw [List.length_drop] at hlt
  rw [List.getElem?_drop] at hj
  rw [if_neg (by omega), Nat.add_assoc]
  exact hat _ _ hj
 have hh' : h = (del ++ c.take (min c.length 1000)) ++ (c.drop (min c.length 1000) ++ un) := by
  rw [List.append_assoc, ← List.append_assoc (c.take _), List.take_append_drop, hh]
 have hB : Base bb cb r hb B { s with toRead := .slice (some ⟨hb, (if cp2 = min c.length 1000 then a else a + min c.length 1000), none⟩) (c.length - min c.length 1000) (cp2 - min c.length 1000) } i hist h := ⟨H.r_, H.hi, H.win, H.rw_, H.wl, H.ro, H.il, H.ex, H.sd.mono (Nat.le_refl _)⟩
 rcases (hS.perm p3).qt with ⟨mu, h1, h2, hS⟩ | ⟨h1, h2, h3, hS⟩
 ·
  exact ⟨_, i, hist, h, _, un, hB, hh', hu, htr, .inl ⟨h1, mu, h2, (hS.imp Pl.toRead).perm (List.perm_middle (l₁ := [Eng.blk f 1054 (Eng.D _), Br r B i, Eng.blk hb 32768 (fun j => u8 (hist j))])).symm⟩⟩
 exact ⟨_, i, hist, h, _, un, hB, hh', hu, htr, .inr ⟨h1, h2, .inl h3, hS⟩⟩
theorem read_A1 (H : Base bb cb r hb B s i hist h) (hh : h = del ++ (c ++ un)) (hu : un.length = s.wr - s.rd) (hcp : c.length ≤ cp2) (hap : a + c.length ≤ 32768) (hat : ∀ j x, c[j]? = some x → hist (a + j) = x) (hc : 0 < c.length) (hr : ¬ c.length - min c.length 1000 = 0)
 (hS : Sat G w (blk f 1054 (D { s with toRead := .slice (some ⟨hb, (if cp2 = min c.length 1000 then a else a + min c.length 1000), none⟩) (c.length - min c.length 1000) (cp2 - min c.length 1000) }) :: Br r B i :: blk hb 32768 (fun j => u8 (hist j)) :: Qt false f B hF eof s i h c un (· < M) :: AnyB bb 316 :: AnyB cb 19 :: blk db 1000 (updl F 0 ((c.take (min c.length 1000)).map u8)) :: R)) :
 RdPost G R bb cb f r hb db B hF eof del (.tuple #[i64 (min c.length 1000), .nilIface]) w := by
 have hl : (c.take (min c.length 1000)).length = min c.length 1000 := by rw [List.length_take]; omega
 exact ⟨c.take (min c.length 1000), .nilIface, _, by rw [hl], by omega, got_at, .inl ⟨rfl, by omega, M, (read_A H hh hu hcp hap hat hS).toA⟩⟩
theorem read_A0 (H : Base bb cb r hb B s i hist h) (hh : h = del ++ (c ++ un)) (hu : un.length = s.wr - s.rd) (hcp : c.length ≤ cp2) (hap : a + c.length ≤ 32768) (hat : ∀ j x, c[j]? = some x → hist (a + j) = x) (hc : 0 < c.length) (hr : c.length - min c.length 1000 = 0)
 (hS : Sat G w (blk f 1054 (D { s with toRead := .slice (some ⟨hb, (if cp2 = min c.length 1000 then a else a + min c.length 1000), none⟩) (c.length - min c.length 1000) (cp2 - min c.length 1000) }) :: Br r B i :: blk hb 32768 (fun j => u8 (hist j)) :: Qt false f B hF eof s i h c un (· < M) :: AnyB bb 316 :: AnyB cb 19 :: blk db 1000 (updl F 0 ((c.take (min c.length 1000)).map u8)) :: R)) :
 RdPost G R bb cb f r hb db B hF eof del (.tuple #[i64 (min c.length 1000), s.err]) w := by
 have hl : (c.take (min c.length 1000)).length = min c.length 1000 := by rw [List.length_take]; omega
 have hA := (read_A H hh hu hcp hap hat hS).toA
 rcases (hS.perm p3).qt with ⟨mu, h1, h2, _⟩ | ⟨h1, h2, h3, hS⟩
 ·
  exact ⟨c.take (min c.length 1000), s.err, _, by rw [hl], by omega, got_at, .inl ⟨h1, by omega, M, hA⟩⟩
 refine ⟨c.take (min c.length 1000), s.err, _, by rw [hl], by omega, got_at, .inr ⟨h1, ?_, hS.tail.tail.tail.tail.tail⟩⟩
 rw [List.take_of_length_le (by omega), ← h2, hh, h3, List.append_nil]
theorem read_B {A1 A2 A3 A4 A5 : HProp} {e : Value} (hh : h = del ++ (c ++ un)) (hc0 : c = []) (h2 : h = hF.1) (h3 : un = []) (he : EV hF eof e) (hS : Sat G w (A1 :: A2 :: A3 :: A4 :: A5 :: blk db 1000 F :: R)) :
 RdPost G R bb cb f r hb db B hF eof del (.tuple #[i64 0, e]) w :=
 ⟨[], e, F, rfl, Nat.zero_le _, (fun j x hj => by cases hj), .inr ⟨he, by rw [← h2, hh, hc0, h3]; rfl, hS.tail.tail.tail.tail.tail⟩⟩
end
theorem t154 {G : World} {R : List HProp} {w : World} {bb cb f r hb db M0 : Nat} {B : List Bool} {hF : List Nat × Bool} {del : List Nat} {ea : Addr} {F : Nat → Value} (hE : EOFIs G ea) (hO : OrdIs G) (hBl : B.length < 1099511627776)
 (hS : Sat G w (RSA false bb cb f r hb B hF (.iface 187 (.pointer (some ea))) del (· < M0) :: AnyB bb 316 :: AnyB cb 19 :: blk db 1000 F :: R)) : CallsR Tryz.prog 154 #[pt f 0, .slice (some ⟨db, 0, none⟩) 1000 1000] w (RdPost G R bb cb f r hb db B hF (.iface 187 (.pointer (some ea))) del) := by
 refine calls_in (n := 75) [(0, (pt f 0)), (1, (.slice (some ⟨db, 0, none⟩) 1000 1000))] Tryz.func154 rfl rfl hS args2 ?_
 refine CT.q (TL.val (r_asg .c) (TL.val (r_asg .c) (TL.e (CT.block (CT.loop (X := Nat) (fun gx => [(0, (pt f 0)), (1, (.slice (some ⟨db, 0, none⟩) 1000 1000))]) (fun gx => (RSA false bb cb f r hb B hF (.iface 187 (.pointer (some ea))) del (· < gx)) :: AnyB bb 316 :: AnyB cb 19 :: blk db 1000 (F) :: R) (fun gx => True) (fun gx => gx) (M0) trivial (.refl _) (.cons m2 (.cons m3 .nil)) ?_)))))
 rintro M -
 refine CT.block (CT.seq (CT.seq (CT.rsOpen ?_)))
 intro s i hist h c un p cp H hh hu htr htv
 refine CT.fold (A' := (blk f 1054 (D { s with toRead := .slice p c.length cp }))) a0 (D_eq (by rw [← htv])) (CT.region (TL.m m0 (TL.c m0 (TL.f 1049 fo_103_15 m0 (TL.val (r_ld (v := (.slice p c.length cp)) Tryz.isAgg22 m0 T0 (by decide) (Dget_toRead _)) (TL.val (r_len Tryz.underlying22 T0) (TL.val (n_gtr c.length 0 T0 .c) (TL.b (.hd .u5) (CT.ifd m0 (fun c12 => ?_) (fun c12 => ?_))))))))))
 ·
  obtain ⟨a, cp2, htv2, hcp, hap, hat⟩ := htr.at_ c12
  refine CT.fold (A' := (blk f 1054 (D { s with toRead := .slice (some ⟨hb, a, none⟩) c.length cp2 }))) a0 (D_eq (by rw [← htv, htv2])) (CT.y (TL.m m1 (TL.m m1 (TL.c m0 (TL.f 1049 fo_103_15 m0 (TL.val (r_ld (v := (.slice (some ⟨hb, a, none⟩) c.length cp2)) Tryz.isAgg22 m0 T0 (by decide) (Dget_toRead _)) (TL.perm p6 (TL.w (r_copy (l := (min c.length 1000)) (ds := (c.take (min c.length 1000)).map u8) el_22 T4 T0 rfl (Rds.blk m3 (by simp) (by omega) (fun j x hj => u8_at hat hj)) (ones_map one_u8) (by omega)) ?_))))))))
  rintro _ w18 ⟨rfl, hS⟩
  refine TW.at hS (TL.a m0 (TL.r (.hd .u6) (TL.m m1 (TL.m m2 (TL.c m0 (TL.f 1049 fo_103_15 m0 (TL.val (r_ld (v := (.slice (some ⟨hb, a, none⟩) c.length cp2)) Tryz.isAgg22 m1 T0 (by decide) (Dget_toRead _)) (TL.m m5 (TL.val (r_slice (off' := (if cp2 = min c.length 1000 then a else a + min c.length 1000)) (m := c.length - (min c.length 1000)) (c' := cp2 - (min c.length 1000)) Tryz.underlying22 Tryz.sizeOf5 T1 (.so (j := (min c.length 1000)) T0 rfl) .no (by first | (show min c.length 1000 ≤ c.length; omega) | (show c.length ≤ cp2; omega)) (by first | (show min c.length 1000 ≤ c.length; omega) | (show c.length ≤ cp2; omega)) (by show (if _ = _ then _ else _ + _ * 1) = _; rw [Nat.mul_one]; rfl) (by simp) (by simp)) (TL.c m6 (TL.f 1049 fo_103_15 m0 (TL.s (r_st (F' := D { s with toRead := .slice (some ⟨hb, (if cp2 = min c.length 1000 then a else a + min c.length 1000), none⟩) (c.length - (min c.length 1000)) (cp2 - (min c.length 1000)) }) Tryz.sizeOf22 (Dsat_toRead (.slice (some ⟨hb, (if cp2 = min c.length 1000 then a else a + min c.length 1000), none⟩) (c.length - (min c.length 1000)) (cp2 - (min c.length 1000)))) a1 T0 T2 (by decide)) (TL.b .u9 (CT.seq (CT.q (TL.m m1 (TL.c m0 (TL.f 1049 fo_103_15 m0 (TL.val (r_ld (v := (.slice (some ⟨hb, (if cp2 = min c.length 1000 then a else a + min c.length 1000), none⟩) (c.length - (min c.length 1000)) (cp2 - (min c.length 1000)))) Tryz.isAgg22 m1 T0 (by decide) (Dget_toRead _)) (TL.val (r_len Tryz.underlying22 T0) (TL.val (n_eql (c.length - (min c.length 1000)) 0 T0 .c) (TL.b (.hd .u5) (CT.ifd m0 (fun c33 => ?_) (fun c33 => ?_))))))))))))))))))))))))
  ·
   refine CT.sub .u1 (CT.seq (CT.still fm (by kernel_rfl) ?_))
   exact TS.m m0 (TS.m m2 (TS.c m0 (TS.f 1048 fo_103_14 m0 (TS.val (r_ld (v := s.err) Tryz.isAgg82 m1 T0 (by decide) (Dget_err _)) (TS.val (r_asg T4) (TS.val (r_asg T1) (TS.nil (TL.b (.hd (.hd .u5)) (CT.ret (EX.then_ret (EX.then_ret (EX.bret (EX.then_ret (EX.bret (EX.perm p6 (EX.perm p6 (EX.perm p6 (EX.perm p6 (EX.perm p6 (EX.perm p6 (EX.end_ (.inl rfl) (res2 Tryz.results154 m1 m0) (fun _ hS => read_A0 H hh hu hcp hap hat (by omega) (by omega) hS))))))))))))))))))))))
  exact CT.z (EX.q (TL.m m0 (TL.a m0 (TL.val (r_asg .c) (TL.b (.hd (.hd .u1)) (CT.ret (EX.then_ret (EX.bret (EX.then_ret (EX.bret (EX.perm p6 (EX.perm p6 (EX.perm p6 (EX.perm p6 (EX.perm p6 (EX.perm p6 (EX.end_ (.inl rfl) (res2 Tryz.results154 m1 m0) (fun _ hS => read_A1 H hh hu hcp hap hat (by omega) (by omega) hS))))))))))))))))))
 have hc0 : c = [] := List.length_eq_zero_iff.1 (by omega)
 refine CT.z (EX.seq (CT.seq (CT.seq (CT.perm p3 (CT.qtSplit (fun mu herr hmu => ?_) (fun et ev hei hev hhF hun => ?_) ⟨_, rfl⟩)))))
 ·
  refine CT.fold (A' := (blk f 1054 (D { s with err := .nilIface, toRead := .slice p c.length cp }))) a1 (D_eq (by rw [herr])) (CT.region (TL.m m0 (TL.c m0 (TL.f 1048 fo_103_14 m0 (TL.val (r_ld (v := .nilIface) Tryz.isAgg82 m1 T0 (by decide) (Dget_err _)) (TL.val (r_nen Tryz.underlying82 T0) (TL.b (.hd .u4) (CT.iff_ m0 ?_))))))))
  refine CT.z (EX.seq (CT.seq (CT.plStep (fun hst => ?_) (fun hst => ?_) (fun hst => ?_))))
  ·
   refine CT.fold (A' := (blk f 1054 (D { s with step := .func (.func 68) #[] #[], err := .nilIface, toRead := .slice p c.length cp }))) a1 (D_eq (by rw [hst])) (CT.region (TL.m m0 (TL.c m0 (TL.f 1045 fo_103_11 m0 (TL.val (r_ld (v := (.func (.func 68) #[] #[])) Tryz.isAgg100 m1 T0 (by decide) (Dget_step _)) (TL.m m4 (TL.fold (A' := (blk f 1054 (D s))) a1 (D_eq (by rw [← herr, ← hst, ← htv])) ?_)))))))
   refine TL.perm p5 (TL.perm p5 (TL.perm p2 (TL.perm p5 (TL.perm p5 (TL.perm p5 (TL.call (r_callv ce_68 m1 (.cons T0 .nil)) (fun w hS => step68 (un := un) (mu := mu) hE hBl hO (by rw [hc0, List.nil_append] at hh; rw [← hh]; exact H) hu (by rw [hc0] at htr; exact htr) herr (by rw [hc0, List.nil_append] at hh; rw [← hh]; exact hS) hst) ?_))))))
   rintro v54 w54 hS
   refine TW.at hS (TL.b .u6 (CT.seq (CT.rsOpen ?_)))
   intro s1 i1 hist1 h1 c1 un1 p1 cp1 H1 hh1 hu1 htr1 htv1
   refine CT.fold (A' := (blk f 1054 (D { s1 with toRead := .slice p1 c1.length cp1 }))) a0 (D_eq (by rw [← htv1])) (CT.perm p3 (CT.qtSplit (fun mu1 herr1 hmu1 => ?_) (fun et1 ev1 hei1 hev1 hhF1 hun1 => ?_) ⟨_, rfl⟩))
   ·
    refine CT.fold (A' := (blk f 1054 (D { s1 with err := .nilIface, toRead := .slice p1 c1.length cp1 }))) a1 (D_eq (by rw [herr1])) (CT.region (TL.m m0 (TL.c m0 (TL.f 1048 fo_103_14 m0 (TL.val (r_ld (v := .nilIface) Tryz.isAgg82 m1 T0 (by decide) (Dget_err _)) (TL.val (r_nen Tryz.underlying82 T0) (TL.m m0 (TL.gn m0 (TL.gn m0 (TL.gn m0 (TL.gn m0 (TL.gn m0 (TL.gn m0 (TL.val (r_pickf T0 .c) (TL.b (.hd .u6) (CT.iff_ m0 ?_))))))))))))))))
    refine CT.z (EX.bnormal (EX.fold (A' := (blk f 1054 (D s1))) a1 (D_eq (by rw [← herr1, ← htv1])) (EX.perm p3 (EX.perm p3 (EX.perm p3 (EX.conv (fun _ hS => RS.toA (z := false) (del := del) (ok := (· < mu)) (eof := (.iface 187 (.pointer (some ea)))) ⟨s1, i1, hist1, h1, c1, un1, H1, hh1, hu1, htr1, .inl ⟨herr1, mu1, hmu1, hS⟩⟩) ?_))))))
    exact EX.again mu trivial hmu (.refl _) (.cons m0 (.cons m1 .nil))
   refine CT.fold (A' := (blk f 1054 (D { s1 with err := .iface et1 ev1, toRead := .slice p1 c1.length cp1 }))) a0 (D_eq (by rw [hei1])) ?_
   rw [hei1] at hev1
   refine CT.region (TL.m m0 (TL.c m0 (TL.f 1048 fo_103_14 m0 (TL.val (r_ld (v := (.iface et1 ev1)) Tryz.isAgg82 m0 T0 (by decide) (Dget_err _)) (TL.val (r_nei Tryz.underlying82 T0) (TL.m m0 (TL.gv m0 (r_move T6) (TL.gv m1 (r_nil T0) (TL.gv m2 (r_fa (off' := 1049) fo_103_15 T0) (TL.gv m3 (r_ld (v := (.slice p1 c1.length cp1)) Tryz.isAgg22 m0 T0 (by decide) (Dget_toRead _)) (TL.gv m4 (r_len Tryz.underlying22 T0) (TL.gv m5 (n_eql c1.length 0 T0 .c) (TL.val (r_pickt T6 T0) (TL.b (.hd .u12) (CT.ifd m0 (fun c67 => ?_) (fun c67 => ?_))))))))))))))))
   ·
    have hc1 : c1 = [] := List.length_eq_zero_iff.1 c67
    rw [hc1, List.nil_append] at hh1
    have hw0 := H1.win
    rw [hh1] at hw0
    have hw1 := H1.rw_
    have hw2 := H1.wl
    refine CT.fold (A' := (blk f 1054 (D { s1 with hist := Hw hb, err := .iface et1 ev1, toRead := .slice p1 c1.length cp1 }))) a0 (D_eq (by rw [H1.hi])) (CT.sub .u1 (CT.region (TL.m m0 (TL.m m1 (TL.c m0 (TL.f 1037 fo_103_9 m0 (TL.call (r_call ce_108 (.cons T0 .nil)) (fun w hS => t108 f hb { s1 with hist := Hw hb, err := .iface et1 ev1, toRead := .slice p1 c1.length cp1 } (by show s1.rd ≤ s1.wr; omega) (by show s1.wr ≤ 32768; omega) (by show s1.rd < 32768; omega) hS) ?_)))))))
    rintro z72 w72 ⟨hz72, hS⟩
    replace hz72 : z72 = (.slice (some ⟨hb, s1.rd, none⟩) ((s1.wr - s1.rd)) ((32768 - s1.rd))) := hz72
    subst hz72
    refine TW.at hS (TL.c m4 (TL.f 1049 fo_103_15 m0 (TL.s (r_st (F' := D { s1 with hist := Hw hb, wr := s1.wr % 32768, rd := s1.wr % 32768, full := s1.full || decide (s1.wr = 32768), err := .iface et1 ev1, toRead := .slice (some ⟨hb, s1.rd, none⟩) ((s1.wr - s1.rd)) ((32768 - s1.rd)) }) Tryz.sizeOf22 (Dsat_toRead (.slice (some ⟨hb, s1.rd, none⟩) ((s1.wr - s1.rd)) ((32768 - s1.rd)))) a0 T0 T2 (by decide)) (TL.x .u7 (EX.bnormal (EX.perm p2 (EX.perm p2 (EX.perm p2 (EX.conv (fun _ hS => RS.toA (z := false) (del := del) (ok := (· < mu)) (eof := (.iface 187 (.pointer (some ea)))) ⟨{ s1 with hist := Hw hb, wr := s1.wr % 32768, rd := s1.wr % 32768, full := s1.full || decide (s1.wr = 32768), err := .iface et1 ev1, toRead := .slice (some ⟨hb, s1.rd, none⟩) ((s1.wr - s1.rd)) ((32768 - s1.rd)) }, i1, hist1, h1, un1, [], ⟨H1.r_, rfl, H1.win.flush, Nat.le_refl _, Nat.mod_lt _ (by decide), H1.ro, H1.il, H1.ex, H1.sd.mono (Nat.le_refl _)⟩, by rw [List.append_nil]; exact hh1, (Nat.sub_self _).symm, .inr ⟨s1.rd, 32768 - s1.rd, by show Value.slice _ _ _ = _; rw [hu1], by omega, by omega, hw0.tail hw1 hu1⟩, .inr ⟨hev1, hhF1, .inl rfl, hS⟩⟩) ?_)))))))))
    exact EX.again mu trivial hmu (.refl _) (.cons m0 (.cons m1 .nil))
   refine CT.z (EX.bnormal (EX.fold (A' := (blk f 1054 (D s1))) a0 (D_eq (by rw [← hei1, ← htv1])) (EX.perm p2 (EX.perm p2 (EX.perm p2 (EX.conv (fun _ hS => RS.toA (z := false) (del := del) (ok := (· < mu)) (eof := (.iface 187 (.pointer (some ea)))) ⟨s1, i1, hist1, h1, c1, un1, H1, hh1, hu1, htr1, .inr ⟨by rw [hei1]; exact hev1, hhF1, hun1.imp id (fun h => absurd (List.length_eq_zero_iff.2 h.2) c67), hS⟩⟩) ?_))))))
   exact EX.again mu trivial hmu (.refl _) (.cons m0 (.cons m1 .nil))
  ·
   refine CT.fold (A' := (blk f 1054 (D { s with step := .func (.func 110) #[] #[], err := .nilIface, toRead := .slice p c.length cp }))) a1 (D_eq (by rw [hst])) (CT.region (TL.m m0 (TL.c m0 (TL.f 1045 fo_103_11 m0 (TL.val (r_ld (v := (.func (.func 110) #[] #[])) Tryz.isAgg100 m1 T0 (by decide) (Dget_step _)) (TL.m m4 (TL.fold (A' := (blk f 1054 (D s))) a1 (D_eq (by rw [← herr, ← hst, ← htv])) ?_)))))))
   refine TL.perm p5 (TL.perm p5 (TL.perm p2 (TL.perm p5 (TL.perm p5 (TL.perm p5 (TL.call (r_callv ce_110 m1 (.cons T0 .nil)) (fun w hS => step110 (un := un) (mu := mu) hE hBl hO (by rw [hc0, List.nil_append] at hh; rw [← hh]; exact H) hu (by rw [hc0] at htr; exact htr) herr (by rw [hc0, List.nil_append] at hh; rw [← hh]; exact hS) hst) ?_))))))
   rintro v54 w54 hS
   refine TW.at hS (TL.b .u6 (CT.seq (CT.rsOpen ?_)))
   intro s1 i1 hist1 h1 c1 un1 p1 cp1 H1 hh1 hu1 htr1 htv1
   refine CT.fold (A' := (blk f 1054 (D { s1 with toRead := .slice p1 c1.length cp1 }))) a0 (D_eq (by rw [← htv1])) (CT.perm p3 (CT.qtSplit (fun mu1 herr1 hmu1 => ?_) (fun et1 ev1 hei1 hev1 hhF1 hun1 => ?_) ⟨_, rfl⟩))
   ·
    refine CT.fold (A' := (blk f 1054 (D { s1 with err := .nilIface, toRead := .slice p1 c1.length cp1 }))) a1 (D_eq (by rw [herr1])) (CT.region (TL.m m0 (TL.c m0 (TL.f 1048 fo_103_14 m0 (TL.val (r_ld (v := .nilIface) Tryz.isAgg82 m1 T0 (by decide) (Dget_err _)) (TL.val (r_nen Tryz.underlying82 T0) (TL.m m0 (TL.gn m0 (TL.gn m0 (TL.gn m0 (TL.gn m0 (TL.gn m0 (TL.gn m0 (TL.val (r_pickf T0 .c) (TL.b (.hd .u6) (CT.iff_ m0 ?_))))))))))))))))
    refine CT.z (EX.bnormal (EX.fold (A' := (blk f 1054 (D s1))) a1 (D_eq (by rw [← herr1, ← htv1])) (EX.perm p3 (EX.perm p3 (EX.perm p3 (EX.conv (fun _ hS => RS.toA (z := false) (del := del) (ok := (· < mu)) (eof := (.iface 187 (.pointer (some ea)))) ⟨s1, i1, hist1, h1, c1, un1, H1, hh1, hu1, htr1, .inl ⟨herr1, mu1, hmu1, hS⟩⟩) ?_))))))
    exact EX.again mu trivial hmu (.refl _) (.cons m0 (.cons m1 .nil))
   refine CT.fold (A' := (blk f 1054 (D { s1 with err := .iface et1 ev1, toRead := .slice p1 c1.length cp1 }))) a0 (D_eq (by rw [hei1])) ?_
   rw [hei1] at hev1
   refine CT.region (TL.m m0 (TL.c m0 (TL.f 1048 fo_103_14 m0 (TL.val (r_ld (v := (.iface et1 ev1)) Tryz.isAgg82 m0 T0 (by decide) (Dget_err _)) (TL.val (r_nei Tryz.underlying82 T0) (TL.m m0 (TL.gv m0 (r_move T6) (TL.gv m1 (r_nil T0) (TL.gv m2 (r_fa (off' := 1049) fo_103_15 T0) (TL.gv m3 (r_ld (v := (.slice p1 c1.length cp1)) Tryz.isAgg22 m0 T0 (by decide) (Dget_toRead _)) (TL.gv m4 (r_len Tryz.underlying22 T0) (TL.gv m5 (n_eql c1.length 0 T0 .c) (TL.val (r_pickt T6 T0) (TL.b (.hd .u12) (CT.ifd m0 (fun c67 => ?_) (fun c67 => ?_))))))))))))))))
   ·
    have hc1 : c1 = [] := List.length_eq_zero_iff.1 c67
    rw [hc1, List.nil_append] at hh1
    have hw0 := H1.win
    rw [hh1] at hw0
    have hw1 := H1.rw_
    have hw2 := H1.wl
    refine CT.fold (A' := (blk f 1054 (D { s1 with hist := Hw hb, err := .iface et1 ev1, toRead := .slice p1 c1.length cp1 }))) a0 (D_eq (by rw [H1.hi])) (CT.sub .u1 (CT.region (TL.m m0 (TL.m m1 (TL.c m0 (TL.f 1037 fo_103_9 m0 (TL.call (r_call ce_108 (.cons T0 .nil)) (fun w hS => t108 f hb { s1 with hist := Hw hb, err := .iface et1 ev1, toRead := .slice p1 c1.length cp1 } (by show s1.rd ≤ s1.wr; omega) (by show s1.wr ≤ 32768; omega) (by show s1.rd < 32768; omega) hS) ?_)))))))
    rintro z72 w72 ⟨hz72, hS⟩
    replace hz72 : z72 = (.slice (some ⟨hb, s1.rd, none⟩) ((s1.wr - s1.rd)) ((32768 - s1.rd))) := hz72
    subst hz72
    refine TW.at hS (TL.c m4 (TL.f 1049 fo_103_15 m0 (TL.s (r_st (F' := D { s1 with hist := Hw hb, wr := s1.wr % 32768, rd := s1.wr % 32768, full := s1.full || decide (s1.wr = 32768), err := .iface et1 ev1, toRead := .slice (some ⟨hb, s1.rd, none⟩) ((s1.wr - s1.rd)) ((32768 - s1.rd)) }) Tryz.sizeOf22 (Dsat_toRead (.slice (some ⟨hb, s1.rd, none⟩) ((s1.wr - s1.rd)) ((32768 - s1.rd)))) a0 T0 T2 (by decide)) (TL.x .u7 (EX.bnormal (EX.perm p2 (EX.perm p2 (EX.perm p2 (EX.conv (fun _ hS => RS.toA (z := false) (del := del) (ok := (· < mu)) (eof := (.iface 187 (.pointer (some ea)))) ⟨{ s1 with hist := Hw hb, wr := s1.wr % 32768, rd := s1.wr % 32768, full := s1.full || decide (s1.wr = 32768), err := .iface et1 ev1, toRead := .slice (some ⟨hb, s1.rd, none⟩) ((s1.wr - s1.rd)) ((32768 - s1.rd)) }, i1, hist1, h1, un1, [], ⟨H1.r_, rfl, H1.win.flush, Nat.le_refl _, Nat.mod_lt _ (by decide), H1.ro, H1.il, H1.ex, H1.sd.mono (Nat.le_refl _)⟩, by rw [List.append_nil]; exact hh1, (Nat.sub_self _).symm, .inr ⟨s1.rd, 32768 - s1.rd, by show Value.slice _ _ _ = _; rw [hu1], by omega, by omega, hw0.tail hw1 hu1⟩, .inr ⟨hev1, hhF1, .inl rfl, hS⟩⟩) ?_)))))))))
    exact EX.again mu trivial hmu (.refl _) (.cons m0 (.cons m1 .nil))
   refine CT.z (EX.bnormal (EX.fold (A' := (blk f 1054 (D s1))) a0 (D_eq (by rw [← hei1, ← htv1])) (EX.perm p2 (EX.perm p2 (EX.perm p2 (EX.conv (fun _ hS => RS.toA (z := false) (del := del) (ok := (· < mu)) (eof := (.iface 187 (.pointer (some ea)))) ⟨s1, i1, hist1, h1, c1, un1, H1, hh1, hu1, htr1, .inr ⟨by rw [hei1]; exact hev1, hhF1, hun1.imp id (fun h => absurd (List.length_eq_zero_iff.2 h.2) c67), hS⟩⟩) ?_))))))
   exact EX.again mu trivial hmu (.refl _) (.cons m0 (.cons m1 .nil))
  refine CT.fold (A' := (blk f 1054 (D { s with step := .func (.func 89) #[] #[], err := .nilIface, toRead := .slice p c.length cp }))) a1 (D_eq (by rw [hst])) (CT.region (TL.m m0 (TL.c m0 (TL.f 1045 fo_103_11 m0 (TL.val (r_ld (v := (.func (.func 89) #[] #[])) Tryz.isAgg100 m1 T0 (by decide) (Dget_step _)) (TL.m m4 (TL.fold (A' := (blk f 1054 (D s))) a1 (D_eq (by rw [← herr, ← hst, ← htv])) ?_)))))))
  refine TL.perm p5 (TL.perm p5 (TL.perm p2 (TL.perm p5 (TL.perm p5 (TL.perm p5 (TL.call (r_callv ce_89 m1 (.cons T0 .nil)) (fun w hS => step89 (un := un) (mu := mu) hE hBl hO (by rw [hc0, List.nil_append] at hh; rw [← hh]; exact H) hu (by rw [hc0] at htr; exact htr) herr (by rw [hc0, List.nil_append] at hh; rw [← hh]; exact hS) hst) ?_))))))
  rintro v54 w54 hS
  refine TW.at hS (TL.b .u6 (CT.seq (CT.rsOpen ?_)))
  intro s1 i1 hist1 h1 c1 un1 p1 cp1 H1 hh1 hu1 htr1 htv1
  refine CT.fold (A' := (blk f 1054 (D { s1 with toRead := .slice p1 c1.length cp1 }))) a0 (D_eq (by rw [← htv1])) (CT.perm p3 (CT.qtSplit (fun mu1 herr1 hmu1 => ?_) (fun et1 ev1 hei1 hev1 hhF1 hun1 => ?_) ⟨_, rfl⟩))
  ·
   refine CT.fold (A' := (blk f 1054 (D { s1 with err := .nilIface, toRead := .slice p1 c1.length cp1 }))) a1 (D_eq (by rw [herr1])) (CT.region (TL.m m0 (TL.c m0 (TL.f 1048 fo_103_14 m0 (TL.val (r_ld (v := .nilIface) Tryz.isAgg82 m1 T0 (by decide) (Dget_err _)) (TL.val (r_nen Tryz.underlying82 T0) (TL.m m0 (TL.gn m0 (TL.gn m0 (TL.gn m0 (TL.gn m0 (TL.gn m0 (TL.gn m0 (TL.val (r_pickf T0 .c) (TL.b (.hd .u6) (CT.iff_ m0 ?_))))))))))))))))
   refine CT.z (EX.bnormal (EX.fold (A' := (blk f 1054 (D s1))) a1 (D_eq (by rw [← herr1, ← htv1])) (EX.perm p3 (EX.perm p3 (EX.perm p3 (EX.conv (fun _ hS => RS.toA (z := false) (del := del) (ok := (· < mu)) (eof := (.iface 187 (.pointer (some ea)))) ⟨s1, i1, hist1, h1, c1, un1, H1, hh1, hu1, htr1, .inl ⟨herr1, mu1, hmu1, hS⟩⟩) ?_))))))
   exact EX.again mu trivial hmu (.refl _) (.cons m0 (.cons m1 .nil))
  refine CT.fold (A' := (blk f 1054 (D { s1 with err := .iface et1 ev1, toRead := .slice p1 c1.length cp1 }))) a0 (D_eq (by rw [hei1])) ?_
  rw [hei1] at hev1
  refine CT.region (TL.m m0 (TL.c m0 (TL.f 1048 fo_103_14 m0 (TL.val (r_ld (v := (.iface et1 ev1)) Tryz.isAgg82 m0 T0 (by decide) (Dget_err _)) (TL.val (r_nei Tryz.underlying82 T0) (TL.m m0 (TL.gv m0 (r_move T6) (TL.gv m1 (r_nil T0) (TL.gv m2 (r_fa (off' := 1049) fo_103_15 T0) (TL.gv m3 (r_ld (v := (.slice p1 c1.length cp1)) Tryz.isAgg22 m0 T0 (by decide) (Dget_toRead _)) (TL.gv m4 (r_len Tryz.underlying22 T0) (TL.gv m5 (n_eql c1.length 0 T0 .c) (TL.val (r_pickt T6 T0) (TL.b (.hd .u12) (CT.ifd m0 (fun c67 => ?_) (fun c67 => ?_))))))))))))))))
  ·
   have hc1 : c1 = [] := List.length_eq_zero_iff.1 c67
   rw [hc1, List.nil_append] at hh1
   have hw0 := H1.win
   rw [hh1] at hw0
   have hw1 := H1.rw_
   have hw2 := H1.wl
   refine CT.fold (A' := (blk f 1054 (D { s1 with hist := Hw hb, err := .iface et1 ev1, toRead := .slice p1 c1.length cp1 }))) a0 (D_eq (by rw [H1.hi])) (CT.sub .u1 (CT.region (TL.m m0 (TL.m m1 (TL.c m0 (TL.f 1037 fo_103_9 m0 (TL.call (r_call ce_108 (.cons T0 .nil)) (fun w hS => t108 f hb { s1 with hist := Hw hb, err := .iface et1 ev1, toRead := .slice p1 c1.length cp1 } (by show s1.rd ≤ s1.wr; omega) (by show s1.wr ≤ 32768; omega) (by show s1.rd < 32768; omega) hS) ?_)))))))
   rintro z72 w72 ⟨hz72, hS⟩
   replace hz72 : z72 = (.slice (some ⟨hb, s1.rd, none⟩) ((s1.wr - s1.rd)) ((32768 - s1.rd))) := hz72
   subst hz72
   refine TW.at hS (TL.c m4 (TL.f 1049 fo_103_15 m0 (TL.s (r_st (F' := D { s1 with hist := Hw hb, wr := s1.wr % 32768, rd := s1.wr % 32768, full := s1.full || decide (s1.wr = 32768), err := .iface et1 ev1, toRead := .slice (some ⟨hb, s1.rd, none⟩) ((s1.wr - s1.rd)) ((32768 - s1.rd)) }) Tryz.sizeOf22 (Dsat_toRead (.slice (some ⟨hb, s1.rd, none⟩) ((s1.wr - s1.rd)) ((32768 - s1.rd)))) a0 T0 T2 (by decide)) (TL.x .u7 (EX.bnormal (EX.perm p2 (EX.perm p2 (EX.perm p2 (EX.conv (fun _ hS => RS.toA (z := false) (del := del) (ok := (· < mu)) (eof := (.iface 187 (.pointer (some ea)))) ⟨{ s1 with hist := Hw hb, wr := s1.wr % 32768, rd := s1.wr % 32768, full := s1.full || decide (s1.wr = 32768), err := .iface et1 ev1, toRead := .slice (some ⟨hb, s1.rd, none⟩) ((s1.wr - s1.rd)) ((32768 - s1.rd)) }, i1, hist1, h1, un1, [], ⟨H1.r_, rfl, H1.win.flush, Nat.le_refl _, Nat.mod_lt _ (by decide), H1.ro, H1.il, H1.ex, H1.sd.mono (Nat.le_refl _)⟩, by rw [List.append_nil]; exact hh1, (Nat.sub_self _).symm, .inr ⟨s1.rd, 32768 - s1.rd, by show Value.slice _ _ _ = _; rw [hu1], by omega, by omega, hw0.tail hw1 hu1⟩, .inr ⟨hev1, hhF1, .inl rfl, hS⟩⟩) ?_)))))))))
   exact EX.again mu trivial hmu (.refl _) (.cons m0 (.cons m1 .nil))
  refine CT.z (EX.bnormal (EX.fold (A' := (blk f 1054 (D s1))) a0 (D_eq (by rw [← hei1, ← htv1])) (EX.perm p2 (EX.perm p2 (EX.perm p2 (EX.conv (fun _ hS => RS.toA (z := false) (del := del) (ok := (· < mu)) (eof := (.iface 187 (.pointer (some ea)))) ⟨s1, i1, hist1, h1, c1, un1, H1, hh1, hu1, htr1, .inr ⟨by rw [hei1]; exact hev1, hhF1, hun1.imp id (fun h => absurd (List.length_eq_zero_iff.2 h.2) c67), hS⟩⟩) ?_))))))
  exact EX.again mu trivial hmu (.refl _) (.cons m0 (.cons m1 .nil))
 refine CT.fold (A' := (blk f 1054 (D { s with err := .iface et ev, toRead := .slice p c.length cp }))) a0 (D_eq (by rw [hei])) (CT.region (TL.m m0 (TL.c m0 (TL.f 1048 fo_103_14 m0 (TL.val (r_ld (v := (.iface et ev)) Tryz.isAgg82 m0 T0 (by decide) (Dget_err _)) (TL.val (r_nei Tryz.underlying82 T0) (TL.b (.hd .u4) (CT.ift m0 ?_))))))))
 refine CT.sub .u1 (CT.seq (CT.still fm (by kernel_rfl) ?_))
 exact TS.m m0 (TS.c m0 (TS.f 1048 fo_103_14 m0 (TS.val (r_ld (v := (.iface et ev)) Tryz.isAgg82 m0 T0 (by decide) (Dget_err _)) (TS.val (r_asg .c) (TS.val (r_asg T1) (TS.nil (TL.b (.hd (.hd .u4)) (CT.ret (EX.then_ret (EX.bret (EX.then_ret (EX.bret (EX.perm p5 (EX.perm p5 (EX.perm p5 (EX.perm p5 (EX.perm p5 (EX.perm p5 (EX.end_ (.inl rfl) (res2 Tryz.results154 m1 m0) (fun _ hS => read_B hh hc0 hhF (hun.resolve_right (fun h => absurd h.1 (by decide))) (by rw [← hei]; exact hev) hS))))))))))))))))))))
end Go.Eng
namespace Go.Eng
open Go Go.Proofs Go.RowKit Go.Extern.Stop Go.Stop Go.Extern
theorem ras_valueOf27 (t : Addr) (w : World) : (ReflectliteValue.unpack (.iface 123 (.pointer (some t)))).run Tryz.prog w
 = .ok (.agg #[.pointer (some ⟨7, 123, none⟩), .pointer (some ⟨w.heap.size, 0, none⟩), .int .u64 150]) (w.alloc (.cells #[.pointer (some t)] 123)) := by kernel_rfl
theorem ras_type27 (a : Addr) (w : World) : (ReflectliteValue.methodAny (ReflectliteValue.valueError "reflectlite.Value.Type" 0) (fun t _ _ _ => ReflectliteType.toType t) #[.agg #[.pointer (some ⟨7, 123, none⟩), .pointer (some a), .int .u64 150]]).run Tryz.prog w
 = .ok (.iface 170 (.agg #[.pointer (some ⟨7, 123, none⟩)])) w := by kernel_rfl
theorem ras_methodKind (h : Value) (w : World) : (Go.method 318 170 (.agg #[h]) "Kind").run Tryz.prog w = .ok (142, h) w := by kernel_rfl
theorem ras_kind27 (w : World) : ((ReflectliteType.abiMethod fun t => (fun a : Nat => Value.int IntKind.u8 (a : Int)) <$> Rtype.kind t) #[.pointer (some ⟨7, 123, none⟩)]).run Tryz.prog w = .ok (.int .u8 22) w := by kernel_rfl
theorem ras_kind25 (w : World) : ((ReflectliteType.abiMethod fun t => (fun a : Nat => Value.int IntKind.u8 (a : Int)) <$> Rtype.kind t) #[.pointer (some ⟨7, 121, none⟩)]).run Tryz.prog w = .ok (.int .u8 6) w := by kernel_rfl
theorem rlm (z : Sem Value) (f : TypeId → Addr → Nat → Nat → Sem Value) (v : Value) :
 ReflectliteValue.method z f #[v] = (do match ← ReflectliteValue.parts v with | none => z | some (t, a, fl) => f t a fl (fl % 32)) := rfl
theorem ras_parts27 (a : Addr) (w : World) : (ReflectliteValue.parts (.agg #[.pointer (some ⟨7, 123, none⟩), .pointer (some a), .int .u64 150])).run Tryz.prog w = .ok (some (123, a, 150)) w := by kernel_rfl
theorem ras_isNil27 (a p : Addr) (W : World) (ha : W.cell? a = some (.pointer (some p))) :
 (ReflectliteValue.method (ReflectliteValue.valueError "reflectlite.Value.IsNil" 0) ReflectliteValue.isNil #[.agg #[.pointer (some ⟨7, 123, none⟩), .pointer (some a), .int .u64 150]]).run Tryz.prog W = .ok (.bool false) W := by
 rw [rlm]
 simp only [Sem.run_bind, ras_parts27, Result.andThen]
 simp [ReflectliteValue.isNil, loadVar, isAgg, underlying, Tryz.underlying123, ha, Result.andThen]
theorem ras_methodElem (h : Value) (w : World) : (Go.method 318 170 (.agg #[h]) "Elem").run Tryz.prog w = .ok (163, .agg #[h]) w := by kernel_rfl
theorem ras_methodImplements (h : Value) (w : World) : (Go.method 318 170 (.agg #[h]) "Implements").run Tryz.prog w = .ok (164, .agg #[h]) w := by kernel_rfl
theorem ras_methodAssignableTo (h : Value) (w : World) : (Go.method 318 170 (.agg #[h]) "AssignableTo").run Tryz.prog w = .ok (161, .agg #[h]) w := by kernel_rfl
theorem ras_elem27 (w : World) : (ReflectliteType.method ReflectliteType.elem #[.agg #[.pointer (some ⟨7, 123, none⟩)]]).run Tryz.prog w = .ok (.iface 170 (.agg #[.pointer (some ⟨7, 121, none⟩)])) w := by kernel_rfl
theorem ras_implements25 (w : World) : (ReflectliteType.relation "Implements" ReflectliteType.implements_ #[.agg #[.pointer (some ⟨7, 121, none⟩)], .iface 170 (.agg #[.pointer (some ⟨7, 82, none⟩)])]).run Tryz.prog w = .ok (.bool true) w := by kernel_rfl
theorem ras_typeOf25 (v : Value) (w : World) : (ReflectliteType.typeOf #[.iface 121 v]).run Tryz.prog w = .ok (.iface 170 (.agg #[.pointer (some ⟨7, 121, none⟩)])) w := by kernel_rfl
theorem ras_assignable25 (w : World) : (ReflectliteType.relation "AssignableTo" ReflectliteType.assignableTo #[.agg #[.pointer (some ⟨7, 121, none⟩)], .iface 170 (.agg #[.pointer (some ⟨7, 121, none⟩)])]).run Tryz.prog w = .ok (.bool true) w := by kernel_rfl
theorem ras_valueOf25 (e : Int) (w : World) : (ReflectliteValue.unpack (.iface 121 (.int .i64 e))).run Tryz.prog w
 = .ok (.agg #[.pointer (some ⟨7, 121, none⟩), .pointer (some ⟨w.heap.size, 0, none⟩), .int .u64 134]) (w.alloc (.cells #[.int .i64 e] 121)) := by kernel_rfl
theorem ras_elemOf27 (w : World) : (Rtype.elem? 123).run Tryz.prog w = .ok (some 121) w := by kernel_rfl
theorem ras_mk25 (p : Addr) (w : World) : (ReflectliteValue.mk 121 p ReflectliteValue.flagAddr).run Tryz.prog w = .ok (.agg #[.pointer (some ⟨7, 121, none⟩), .pointer (some p), .int .u64 390]) w := by kernel_rfl
theorem ras_elemV27 (a p : Addr) (W : World) (ha : W.cell? a = some (.pointer (some p))) :
 (ReflectliteValue.method (ReflectliteValue.valueError "reflectlite.Value.Elem" 0) ReflectliteValue.elem #[.agg #[.pointer (some ⟨7, 123, none⟩), .pointer (some a), .int .u64 150]]).run Tryz.prog W
  = .ok (.agg #[.pointer (some ⟨7, 121, none⟩), .pointer (some p), .int .u64 390]) W := by
 rw [rlm]
 simp only [Sem.run_bind, ras_parts27, Result.andThen]
 simp [ReflectliteValue.elem, loadVar, isAgg, underlying, Tryz.underlying123, ha, Result.andThen, ras_elemOf27, ras_mk25]
theorem rls (v x : Value) : ReflectliteValue.set #[v, x] = (do
 let (some (dst, a, fl), some (src, b, _)) := (← ReflectliteValue.parts v, ← ReflectliteValue.parts x)
  | unsupported (.noEntry "extern/(internal/reflectlite.Value).Set.zeroValue")
 if fl / ReflectliteValue.flagAddr % 2 == 0 then unsupported (.noEntry "extern/(internal/reflectlite.Value).Set.unaddressable")
 let val ← loadVar src b
 if ← Rtype.directlyAssignable dst src then storeVar dst a val
 else if ← Rtype.implements dst src then
  if (← Rtype.kind src) == 20 then
   match val with
   | .nilIface => unsupported (.noEntry "extern/reflectlite: a nil value of one interface type handed on as a value of another")
   | _ => storeVar dst a val
  else storeVar dst a (.iface src val)
 else panicString ("reflectlite.Set: value of type " ++ (← Rtype.spelt src) ++ " is not assignable to type " ++ (← Rtype.spelt dst))
 pure (.tuple #[])) := rfl
theorem ras_parts25a (a : Addr) (w : World) : (ReflectliteValue.parts (.agg #[.pointer (some ⟨7, 121, none⟩), .pointer (some a), .int .u64 390])).run Tryz.prog w = .ok (some (121, a, 390)) w := by kernel_rfl
theorem ras_parts25 (a : Addr) (w : World) : (ReflectliteValue.parts (.agg #[.pointer (some ⟨7, 121, none⟩), .pointer (some a), .int .u64 134])).run Tryz.prog w = .ok (some (121, a, 134)) w := by kernel_rfl
theorem ras_direct25 (w : World) : (Rtype.directlyAssignable 121 121).run Tryz.prog w = .ok true w := by kernel_rfl
theorem ras_set25 (ta b : Addr) (e : Int) (old : Value) (W : World) (hb : W.cell? b = some (.int .i64 e)) (ht : W.cell? ta = some old) (hf : W.frozen? ta = false) :
 (ReflectliteValue.set #[.agg #[.pointer (some ⟨7, 121, none⟩), .pointer (some ta), .int .u64 390], .agg #[.pointer (some ⟨7, 121, none⟩), .pointer (some b), .int .u64 134]]).run Tryz.prog W
  = .ok (.tuple #[]) (W.setCell ta (.int .i64 e)) := by
 rw [rls]
 simp only [Sem.run_bind, ras_parts25a, ras_parts25, Result.andThen]
 simp [ReflectliteValue.flagAddr, loadVar, isAgg, underlying, Tryz.underlying121, hb, Result.andThen, ras_direct25, storeVar, Value.cells, storeCells, Addr.add]
 rw [run_store Tryz.prog W ta _ _ (by rfl)]
 simp [ht, hf]
set_option maxHeartbeats 4000000 in
theorem as_hit (e : Int) (t : Addr) (old : Value) (w : World) (hg : w.cell? ⟨2, 0, none⟩ = some (.iface 170 (.agg #[.pointer (some ⟨7, 82, none⟩)]))) (ht0 : w.cell? t = some old) (hf0 : w.frozen? t = false) :
 Calls Tryz.prog 83 #[.iface 121 (.int .i64 e), .iface 123 (.pointer (some t))] w fun ev w' => ev = .returned (.bool true) ∧ w' = ((((w.alloc (.cells #[.pointer (some t)] 123)).alloc (.cells #[.pointer (some ⟨7, 123, none⟩), .pointer (some ⟨w.heap.size, 0, none⟩), .int .u64 150] 142)).alloc (.cells #[.pointer (some ⟨7, 123, none⟩), .pointer (some ⟨w.heap.size, 0, none⟩), .int .u64 150] 142)).alloc (.cells #[.int .i64 e] 121)).setCell t (.int .i64 e) := by
 have h6 := @run_callFunc_extern Tryz.prog 100 _ (fun args => ReflectliteValue.unpack (args.getD 0 (.tuple #[]))) Tryz.func100 (by kernel_rfl) (by kernel_rfl) (by kernel_rfl) (by kernel_rfl)
 have h7 := @run_callFunc_extern Tryz.prog 101 _ (ReflectliteValue.methodAny (ReflectliteValue.valueError "reflectlite.Value.Type" 0) (fun t _ _ _ => ReflectliteType.toType t)) Tryz.func101 (by kernel_rfl) (by kernel_rfl) (by kernel_rfl) (by kernel_rfl)
 have h8 := @run_callFunc_extern Tryz.prog 102 _ (ReflectliteValue.method (ReflectliteValue.valueError "reflectlite.Value.IsNil" 0) ReflectliteValue.isNil) Tryz.func102 (by kernel_rfl) (by kernel_rfl) (by kernel_rfl) (by kernel_rfl)
 have h27 := @run_callFunc_extern Tryz.prog 142 _ (ReflectliteType.abiMethod fun t => do pure (.int .u8 (← Rtype.kind t))) Tryz.func142 (by kernel_rfl) (by kernel_rfl) (by kernel_rfl) (by kernel_rfl)
 have h37 := @run_callFunc_extern Tryz.prog 163 _ (ReflectliteType.method ReflectliteType.elem) Tryz.func163 (by kernel_rfl) (by kernel_rfl) (by kernel_rfl) (by kernel_rfl)
 have h38 := @run_callFunc_extern Tryz.prog 164 _ (ReflectliteType.relation "Implements" ReflectliteType.implements_) Tryz.func164 (by kernel_rfl) (by kernel_rfl) (by kernel_rfl) (by kernel_rfl)
 have h10 := @run_callFunc_extern Tryz.prog 120 _ ReflectliteType.typeOf Tryz.func120 (by kernel_rfl) (by kernel_rfl) (by kernel_rfl) (by kernel_rfl)
 have h35 := @run_callFunc_extern Tryz.prog 161 _ (ReflectliteType.relation "AssignableTo" ReflectliteType.assignableTo) Tryz.func161 (by kernel_rfl) (by kernel_rfl) (by kernel_rfl) (by kernel_rfl)
 have h11 := @run_callFunc_extern Tryz.prog 121 _ (ReflectliteValue.method (ReflectliteValue.valueError "reflectlite.Value.Elem" 0) ReflectliteValue.elem) Tryz.func121 (by kernel_rfl) (by kernel_rfl) (by kernel_rfl) (by kernel_rfl)
 have h12 := @run_callFunc_extern Tryz.prog 122 _ ReflectliteValue.set Tryz.func122 (by kernel_rfl) (by kernel_rfl) (by kernel_rfl) (by kernel_rfl)
 have tO := ras_typeOf25
 have mA := ras_methodAssignableTo
 have a25 := ras_assignable25
 have v25 := ras_valueOf25
 have f6 := ras_valueOf27
 have f7 := ras_type27
 have mK := ras_methodKind
 have mE := ras_methodElem
 have mI := ras_methodImplements
 have k27 := ras_kind27
 have k25 := ras_kind25
 have e27 := ras_elem27
 have i25 := ras_implements25
 have n8 := ras_isNil27 ⟨w.heap.size, 0, none⟩ t ((w.alloc (.cells #[.pointer (some t)] 123)).alloc (.cells #[.pointer (some ⟨7, 123, none⟩), .pointer (some ⟨w.heap.size, 0, none⟩), .int .u64 150] 142)) (by simp)
 have hlt : 2 < w.heap.size := by
  rcases Nat.lt_or_ge 2 w.heap.size with h | h
  ·
   exact h
  simp [World.cell?, Array.getElem?_eq_none h] at hg
 have hg2 : ((w.alloc (.cells #[.pointer (some t)] 123)).alloc (.cells #[.pointer (some ⟨7, 123, none⟩), .pointer (some ⟨w.heap.size, 0, none⟩), .int .u64 150] 142)).cell? ⟨2, 0, none⟩ = some (.iface 170 (.agg #[.pointer (some ⟨7, 82, none⟩)])) := by
  rw [World.cell?_alloc_lt _ _ ⟨2, 0, none⟩ (by simp; omega), World.cell?_alloc_lt _ _ ⟨2, 0, none⟩ hlt]; exact hg
 have htl : t.block < w.heap.size := by
  rcases Nat.lt_or_ge t.block w.heap.size with h | h
  ·
   exact h
  simp [World.cell?, Array.getElem?_eq_none h] at ht0
 have el := ras_elemV27 ⟨w.heap.size, 0, none⟩ t (((w.alloc (.cells #[.pointer (some t)] 123)).alloc (.cells #[.pointer (some ⟨7, 123, none⟩), .pointer (some ⟨w.heap.size, 0, none⟩), .int .u64 150] 142)).alloc (.cells #[.pointer (some ⟨7, 123, none⟩), .pointer (some ⟨w.heap.size, 0, none⟩), .int .u64 150] 142)) (by rw [World.cell?_alloc_lt _ _ ⟨w.heap.size, 0, none⟩ (by simp; omega)]; simp)
 have st := ras_set25 t ⟨w.heap.size + 1 + 1 + 1, 0, none⟩ e old ((((w.alloc (.cells #[.pointer (some t)] 123)).alloc (.cells #[.pointer (some ⟨7, 123, none⟩), .pointer (some ⟨w.heap.size, 0, none⟩), .int .u64 150] 142)).alloc (.cells #[.pointer (some ⟨7, 123, none⟩), .pointer (some ⟨w.heap.size, 0, none⟩), .int .u64 150] 142)).alloc (.cells #[.int .i64 e] 121))
  (by rw [World.cell?_alloc_at _ _ _ _ (by simp)]; rfl)
  (by rw [World.cell?_alloc_lt _ _ t (by simp; omega), World.cell?_alloc_lt _ _ t (by simp; omega), World.cell?_alloc_lt _ _ t (by simp; omega), World.cell?_alloc_lt _ _ t htl]; exact ht0)
  (by rw [World.frozen?_alloc_old _ _ t (by simp; omega), World.frozen?_alloc_old _ _ t (by simp; omega), World.frozen?_alloc_old _ _ t (by simp; omega), World.frozen?_alloc_old _ _ t (Nat.ne_of_lt htl)]; exact hf0)
 go_enter Tryz.func83, Tryz.ntmps83
 go_wp2
 refine wp_loop_rounds 1 ?_
 rw [rounds_succ]
 go_wp2
 go_ret
 exact ⟨rfl, rfl⟩
end Go.Eng
namespace Go.Eng
open Go Go.Proofs Go.Infl
structure LaidIs (G : World) (ea eb : Addr) : Prop where
 eof : EOFIs G ea
 ue : G.cell? ⟨1, 0, none⟩ = some (.iface 187 (.pointer (some eb)))
 ord : OrdIs G
 et : G.cell? ⟨2, 0, none⟩ = some (.iface 170 (.agg #[pt 7 82]))
theorem equal_ptr {P : Program} {t s e m : Nat} {a : Addr} {ms : Array (String × TypeId)} {info : TypeInfo} (ht : P.underlying t = some (.interface ms)) (hti : ∀ w, (typeInfo s).run P w = .ok info w) (hc : info.comparable = true) (hu : P.underlying s = some (.pointer e)) (hs : ∀ w, (Go.sizeOf e).run P w = .ok (m + 1) w) (w : World) :
 (Op.equal t (.iface s (.pointer (some a))) (.iface s (.pointer (some a)))).run P w = .ok true w := by
 have (d : Nat) : (Op.equalIn (d + 2) t (.iface s (.pointer (some a))) (.iface s (.pointer (some a)))).run P w = .ok true w := by
  simp [Op.equalIn, run_underlying ht, hti, hc, run_underlying hu, hs, sameAddr]
 exact this 9998
theorem equal_ne {P : Program} {t s s' : Nat} {a b : Value} {ms : Array (String × TypeId)} (ht : P.underlying t = some (.interface ms)) (hne : s ≠ s') (w : World) : (Op.equal t (.iface s a) (.iface s' b)).run P w = .ok false w := by
 have (d : Nat) : (Op.equalIn (d + 2) t (.iface s a) (.iface s' b)).run P w = .ok false w := by
  simp [Op.equalIn, run_underlying ht, hne]
 exact this 9998
section
variable {G w : World} {ρ : Env} {n : Nat} {L R : List HProp} {d : Option Tmp} {pos : String} {af : Array Edge} {g : Option (Nat × Bool)} {bb cb f r hb db M : Nat} {B : List Bool} {hF : List Nat × Bool} {del : List Nat} {eof : Value} {ok : Nat → Prop}
theorem r_eqif {t u ty : TypeId} {x y : Operand} {a : Addr} {ms : Array (String × TypeId)} (ht : Tryz.prog.underlying t = some (.interface ms)) (hx : OV ρ x (.iface 187 (.pointer (some a)))) (hy : OV ρ y (.iface 187 (.pointer (some a)))) : Run Tryz.prog G ρ n L ⟨d, .binOp .eql t x y u, ty, pos, af, g⟩ (.bool true) := fun w a' _ ha => by
 have := equal_ptr (a := a) (m := 0) ht Tryz.typeInfo187 rfl Tryz.underlying187 Tryz.sizeOf207 w
 simp [execOp, hx.eval ha, hy.eval ha, eqGuard, binOp, this]
theorem r_neif {t u ty : TypeId} {x y : Operand} {a b : Value} {ms : Array (String × TypeId)} (ht : Tryz.prog.underlying t = some (.interface ms)) (hx : OV ρ x (.iface 121 a)) (hy : OV ρ y (.iface 187 b)) : Run Tryz.prog G ρ n L ⟨d, .binOp .eql t x y u, ty, pos, af, g⟩ (.bool false) := fun w a' _ ha => by
 have := equal_ne (a := a) (b := b) ht (show 121 ≠ 187 by decide) w
 simp [execOp, hx.eval ha, hy.eval ha, eqGuard, binOp, this]
theorem t83 {t : Nat} {F : Nat → Value} {z : Int} (hg : G.cell? ⟨2, 0, none⟩ = some (.iface 170 (.agg #[pt 7 82]))) (hS : Sat G w (blk t 1 F :: R)) :
 CallsR Tryz.prog 83 #[.iface 121 (.int .i64 z), .iface 123 (pt t 0)] w (fun v w' => v = .bool true ∧ Sat G w' (blk t 1 (upd F 0 (.int .i64 z)) :: R)) := by
 refine Calls.mono (as_hit z ⟨t, 0, none⟩ (F 0) w (hS.base_some hg) (hS.cell (.head _) (by decide)) (hS.frozen (.head _) 0)) fun e w' he => ?_
 obtain ⟨rfl, rfl⟩ := he
 refine ⟨rfl, Sat.setCell (L := blk t 1 F :: R) (i := 0) ?_ (by decide) .here⟩
 have push : ∀ {w : World} {L : List HProp} (cs : Array Value) (T : TypeId), Sat G w L → Sat G (w.alloc (.cells cs T)) L := fun {w} _ cs T h =>
  (h.push (w' := w.alloc (.cells cs T)) (A := fun _ => True) (o := .cells cs T) trivial (fun c t f e => by cases e; rfl) rfl rfl rfl).tail
 exact push _ _ (push _ _ (push _ _ (push _ _ hS)))
theorem RSA_eq {z : Bool} {del' : List Nat} (h : del = del') : ∀ m, RSA z bb cb f r hb B hF eof del ok m → RSA z bb cb f r hb B hF eof del' ok m := by subst h; exact fun _ h => h
theorem afterLen {fin : Bool} {pos : Nat} {rest : List Bool} {h : List Nat} (H : After fin pos rest h hF) : h.length ≤ hF.1.length := by
 cases fin with
 | true => rw [(H.1 rfl).1]; exact Nat.le_refl _
 | false =>
  obtain ⟨st, tail, _, e⟩ := H.2 rfl
  exact e.len
theorem hTailLen {ls ds : List Nat} {fin : Bool} {k : Nat} {bits : List Bool} {h : List Nat} (H : HTail ls ds fin k bits h hF) : h.length ≤ hF.1.length := by
 obtain ⟨its, b1, tl, _, _, _, h3⟩ := H
 have h0 := gives_le h its
 rcases h3 with ⟨rest, _, h3⟩ | ⟨h3, _⟩
 ·
  exact Nat.le_trans h0 (afterLen h3)
 rw [h3]; exact h0
theorem RSA.len {z : Bool} (hS : Sat G w (RSA z bb cb f r hb B hF eof del ok :: R)) : del.length ≤ hF.1.length := by
 obtain ⟨s, i, hist, h, c, un, h1, h2, h3, h4, ⟨h5, mu, h6, hS⟩ | ⟨h5, h6, h7, hS⟩⟩ := hS.rsa
 ·
  have hd : del.length ≤ h.length := by rw [h2, List.length_append]; omega
  obtain ⟨m, hm, _⟩ := hS.obj (show Pl f B hF s i h mu ∈ _ from .tail _ (.tail _ (.tail _ (List.mem_cons_self ..))))
  refine Nat.le_trans hd ?_
  cases hm with
  | blk _ _ _ _ a5 => exact a5.len
  | @copy xs rest _ _ _ _ _ _ _ _ a7 => have := afterLen a7; rw [List.length_append] at this; omega
  | huff _ a2 _ _ a5 =>
   have := hTailLen a5
   split at this
   ·
    exact this
   rw [copyM_length] at this; omega
 rw [← h6, h2, List.length_append]; omega
theorem map_at {F : Nat → Value} {dn : List Nat} {j : Nat} {x : Value} (h : ∀ j x, dn[j]? = some x → F j = u8 x) (hj : (dn.map u8)[j]? = some x) : F (0 + j) = x := by
 rw [List.getElem?_map] at hj
 cases hc : dn[j]? with
 | none => rw [hc] at hj; cases hj
 | some y => rw [hc] at hj; cases hj; rw [Nat.zero_add, h j y hc]
theorem dropB {A X : HProp} (h : Sat G w (A :: X :: R)) : Sat G w (A :: R) := (h.perm p1).tail
end
theorem t66e {G : World} {ea eb : Addr} (hL : LaidIs G ea eb) {R : List HProp} {w : World} (hS : Sat G w (R)) :
 CallsR Tryz.prog 66 #[(.iface 187 (.pointer (some ea)))] w (fun v w' => v = i64 1 ∧ Sat G w' R) := by
 refine calls_in (n := 19) [(0, (.iface 187 (.pointer (some ea))))] Tryz.func66 rfl rfl hS args1 ?_
 refine CT.q (TL.val (r_asg .c) (TL.q (TL.w (r_alloc (F := lst [(.int .i64 0)]) Tryz.zeroValue121 rfl rfl lst_ok) ?_)))
 rintro _ w3 ⟨b3, rfl, hS⟩
 refine TW.at hS (TL.e (CT.seq (CT.block (CT.q (TL.m m2 (TL.val (r_eqi Tryz.underlying82 T0) (TL.a m0 (TL.b (.hd .u2) (CT.iff_ m0 ?_)))))))))
 refine CT.y (TL.m m2 (TL.val (r_ldc (v := (.iface 187 (.pointer (some ea)))) Tryz.isAgg82 .g (fun w hS => hS.base_some hL.eof)) (TL.val (r_eqif Tryz.underlying82 T1 T0) (TL.a m0 (TL.b (.hd .u3) (CT.ift m0 ?_))))))
 exact CT.y (TL.rm .h1 (TL.val (r_asg .c) (TL.e (CT.ret (EX.bret (EX.then_ret (EX.end_ (.inl rfl) (res1 Tryz.results66 m0) (fun _ hS => ⟨rfl, hS.tail⟩))))))))
theorem t66c {G : World} {ea eb : Addr} {z : Int} (hL : LaidIs G ea eb) {R : List HProp} {w : World} (hS : Sat G w (R)) :
 CallsR Tryz.prog 66 #[(.iface 121 (.int .i64 z))] w (fun v w' => v = i64 3 ∧ Sat G w' R) := by
 refine calls_in (n := 19) [(0, (.iface 121 (.int .i64 z)))] Tryz.func66 rfl rfl hS args1 ?_
 refine CT.q (TL.val (r_asg .c) (TL.q (TL.w (r_alloc (F := lst [(.int .i64 0)]) Tryz.zeroValue121 rfl rfl lst_ok) ?_)))
 rintro _ w3 ⟨b3, rfl, hS⟩
 refine TW.at hS (TL.e (CT.seq (CT.block (CT.q (TL.m m2 (TL.val (r_eqi Tryz.underlying82 T0) (TL.a m0 (TL.b (.hd .u2) (CT.iff_ m0 ?_)))))))))
 refine CT.y (TL.m m2 (TL.val (r_ldc (v := (.iface 187 (.pointer (some ea)))) Tryz.isAgg82 .g (fun w hS => hS.base_some hL.eof)) (TL.val (r_neif Tryz.underlying82 T1 T0) (TL.a m0 (TL.b (.hd .u3) (CT.iff_ m0 ?_))))))
 refine CT.y (TL.m m2 (TL.val (r_ldc (v := (.iface 187 (.pointer (some eb)))) Tryz.isAgg82 .g (fun w hS => hS.base_some hL.ue)) (TL.val (r_neif Tryz.underlying82 T1 T0) (TL.a m0 (TL.b (.hd .u3) (CT.iff_ m0 ?_))))))
 refine CT.y (TL.m m2 (TL.val (r_mki Tryz.underlying123 T1) (TL.call (r_call ce_83 (.cons T1 (.cons T0 .nil))) (fun w hS => t83 hL.et hS) ?_)))
 rintro _ w18 ⟨rfl, hS⟩
 refine TW.at hS (TL.a m0 (TL.b (.hd .u4) (CT.ift m0 ?_)))
 exact CT.y (TL.rm .here (TL.val (r_asg .c) (TL.e (CT.ret (EX.bret (EX.then_ret (EX.end_ (.inl rfl) (res1 Tryz.results66 m0) (fun _ hS => ⟨rfl, hS.tail⟩))))))))
theorem t41 {G : World} {bb cb f r hb M0 : Nat} {B : List Bool} {dd out : List Nat} {gd : Bool} {ea eb : Addr} (hL : LaidIs G ea eb) (hBl : B.length < 1099511627776) (ho : out.length ≤ 131072) {R : List HProp} {w : World} (hS : Sat G w (RSA false bb cb f r hb B (dd ++ out, gd) (.iface 187 (.pointer (some ea))) dd (· < M0) :: AnyB bb 316 :: AnyB cb 19 :: R)) :
 CallsR Tryz.prog 41 #[(.iface 107 (pt f 0)), (.int .i64 131072)] w (fun v w' => ∃ (v1 : Value) (c : Nat), v = .tuple #[v1, i64 c] ∧ (gd = true ∧ c = 1 ∨ gd = false ∧ c = 3) ∧ Sat G w' (slc 1 v1 out.length (out.map u8) :: R)) := by
 refine calls_in (n := 32) [(0, (.iface 107 (pt f 0))), (1, (.int .i64 131072))] Tryz.func41 rfl rfl hS args2 ?_
 refine CT.q (TL.val (r_asg .c) (TL.val (r_asg .c) (TL.q (TL.val (r_asg .c) (TL.q (TL.w (r_make (l := 1000) (c := 1000) Tryz.underlying22 Tryz.sizeOf5 ⟨_, Tryz.typeInfo5, rfl⟩ Tryz.zeroValue5 rfl .c .c rfl rfl (by omega) (by exact Nat.le_of_ble_eq_true rfl) (by omega)) ?_))))))
 rintro _ w10 ⟨b10, rfl, hS⟩
 refine TW.at hS (TL.a m0 (TL.b (.hd .u1) (CT.seq (CT.block (CT.nilslc 1 ?_)))))
 refine CT.fold (A' := (RSA false bb cb f r hb B (dd ++ out, gd) (.iface 187 (.pointer (some ea))) (dd ++ (([] : List Nat))) (· < M0))) a2 (RSA_eq (by rw [List.append_nil])) (CT.fold (A' := (blk b10 1000 ((fun _ => (.int .u8 0))))) a1 (blk_eq rfl rfl) (CT.perm p1 (CT.perm p4 (CT.perm p4 (CT.perm p4 (CT.perm p4 (CT.loop (X := List Nat × Value × Nat × (Nat → Value)) (fun gx => [(6, gx.2.1), (7, (.slice (some ⟨b10, 0, none⟩) 1000 1000)), (0, (.iface 107 (pt f 0))), (1, (.int .i64 131072))]) (fun gx => (slc 1 gx.2.1 ((gx.1).length) ((gx.1).map u8)) :: RSA false bb cb f r hb B (dd ++ out, gd) (.iface 187 (.pointer (some ea))) (dd ++ gx.1) (· < gx.2.2.1) :: AnyB bb 316 :: AnyB cb 19 :: blk b10 1000 gx.2.2.2 :: R) (fun gx => (gx.1).length ≤ out.length) (fun gx => out.length - (gx.1).length) ((([] : List Nat), (.slice none 0 0), M0, (fun _ => (.int .u8 0)))) (Nat.zero_le _) (.refl _) (.cons m1 (.cons m0 (.cons m4 (.cons m5 .nil)))) ?_)))))))
 rintro ⟨d, v, M, F⟩ hI
 replace hI : d.length ≤ out.length := hI
 refine CT.seq (CT.q (TL.m m0 (TL.val (r_lens Tryz.underlying22 T0 m0) (TL.m m5 (TL.val (n_leq ((d).length) 131072 T1 T0) (TL.b (.hd .u3) (CT.ifd m0 (fun c14 => ?_) (fun c14 => ?_))))))))
 ·
  refine CT.z (EX.seq (CT.block (CT.q (TL.m m2 (TL.m m2 (TL.perm p4 (TL.perm p4 (TL.perm p4 (TL.perm p4 (TL.call (r_inv ce_154 T1 (mt_107_Read _) (.cons T0 .nil)) (fun w hS => t154 hL.eof hL.ord hBl hS) ?_))))))))))
  rintro _ w18 ⟨dn, e, F2, rfl, hdl, hdat, ⟨rfl, hdp, M2, hS⟩ | ⟨⟨hgd, rfl⟩ | ⟨hgd, z, rfl⟩, hfin, hS⟩⟩
  ·
   have hlen := RSA.len hS
   simp only [List.length_append] at hlen
   refine TW.at hS (TL.m m0 (TL.val (r_ext T0) (TL.val (r_ext T1) (TL.a m1 (TL.a m1 (TL.r (.hd (.hd .u6)) (TL.m m2 (TL.m m4 (TL.m m3 (TL.val (r_slice (off' := 0) (m := dn.length) (c' := 1000) Tryz.underlying22 Tryz.sizeOf5 T1 .no (.so (j := dn.length) T0 rfl) (by first | (show 0 ≤ dn.length; omega) | (show dn.length ≤ 1000; omega)) (by first | (show 0 ≤ dn.length; omega) | (show dn.length ≤ 1000; omega)) (by simp) (by simp) (by simp)) (TL.perm p4 (TL.w (r_append (j := dn.length) (k := d.length) (ds := dn.map u8) el_22 Tryz.underlying22 T3 T0 ⟨_, _, rfl⟩ (Rds.blk m4 (by simp) (by omega) (fun j x hj => map_at hdat hj)) (ones_map one_u8) (by omega) (by omega)) ?_))))))))))))
   rintro v25 w25 hS
   refine TW.at hS (TL.fold (A' := (slc 1 v25 ((d ++ dn).length) ((d ++ dn).map u8))) a0 (slc_eq (by rw [List.length_append]) (List.map_append).symm) ?_)
   refine TL.rm .h7 (TL.a m0 (TL.r (.hd .u5) (TL.m m1 (TL.val (r_nen Tryz.underlying82 T0) (TL.b (.hd .u1) (CT.iff_ m0 ?_))))))
   exact CT.z (EX.bnormal (EX.fold (A' := (RSA false bb cb f r hb B (dd ++ out, gd) (.iface 187 (.pointer (some ea))) (dd ++ (d ++ dn)) (· < M2))) a1 (RSA_eq (by rw [List.append_assoc])) (EX.again ((d ++ dn, v25, M2, F2)) (by show (d ++ dn).length ≤ out.length; rw [List.length_append]; omega) (by show out.length - (d ++ dn).length < out.length - d.length; rw [List.length_append]; omega) (.refl _) (.cons m0 (.sl 3 3 rfl)))))
  ·
   have hout : d ++ dn = out := List.append_cancel_left (by rw [← List.append_assoc]; exact hfin)
   have hlen := congrArg List.length hout
   rw [List.length_append] at hlen
   refine TW.at hS (TL.m m0 (TL.val (r_ext T0) (TL.val (r_ext T1) (TL.a m1 (TL.a m1 (TL.r (.hd (.hd .u6)) (TL.m m2 (TL.m m4 (TL.m m3 (TL.val (r_slice (off' := 0) (m := dn.length) (c' := 1000) Tryz.underlying22 Tryz.sizeOf5 T1 .no (.so (j := dn.length) T0 rfl) (by first | (show 0 ≤ dn.length; omega) | (show dn.length ≤ 1000; omega)) (by first | (show 0 ≤ dn.length; omega) | (show dn.length ≤ 1000; omega)) (by simp) (by simp) (by simp)) (TL.perm p1 (TL.w (r_append (j := dn.length) (k := d.length) (ds := dn.map u8) el_22 Tryz.underlying22 T3 T0 ⟨_, _, rfl⟩ (Rds.blk m1 (by simp) (by omega) (fun j x hj => map_at hdat hj)) (ones_map one_u8) (by omega) (by omega)) ?_))))))))))))
   rintro v25 w25 hS
   refine TW.at hS (TL.fold (A' := (slc 1 v25 ((d ++ dn).length) ((d ++ dn).map u8))) a0 (slc_eq (by rw [List.length_append]) (List.map_append).symm) ?_)
   refine TL.rm .h7 (TL.a m0 (TL.r (.hd .u5) (TL.m m1 (TL.val (r_nei Tryz.underlying82 T0) (TL.b (.hd .u1) (CT.ift m0 ?_))))))
   refine CT.y (TL.m m0 (TL.m m2 (TL.call (r_call ce_66 (.cons T0 .nil)) (fun w hS => t66e hL hS) ?_)))
   rintro _ w30 ⟨rfl, hS⟩
   exact TW.at hS (TL.a m2 (TL.a m1 (TL.b (.hd (.hd .u3)) (CT.ret (EX.bret (EX.then_ret (EX.bret (EX.then_ret (EX.end_ (.inl rfl) (res2 Tryz.results41 m1 m0) (fun _ hS => ⟨v25, 1, rfl, .inl ⟨hgd, rfl⟩, by rw [hout] at hS; exact dropB hS⟩))))))))))
  have hout : d ++ dn = out := List.append_cancel_left (by rw [← List.append_assoc]; exact hfin)
  have hlen := congrArg List.length hout
  rw [List.length_append] at hlen
  refine TW.at hS (TL.m m0 (TL.val (r_ext T0) (TL.val (r_ext T1) (TL.a m1 (TL.a m1 (TL.r (.hd (.hd .u6)) (TL.m m2 (TL.m m4 (TL.m m3 (TL.val (r_slice (off' := 0) (m := dn.length) (c' := 1000) Tryz.underlying22 Tryz.sizeOf5 T1 .no (.so (j := dn.length) T0 rfl) (by first | (show 0 ≤ dn.length; omega) | (show dn.length ≤ 1000; omega)) (by first | (show 0 ≤ dn.length; omega) | (show dn.length ≤ 1000; omega)) (by simp) (by simp) (by simp)) (TL.perm p1 (TL.w (r_append (j := dn.length) (k := d.length) (ds := dn.map u8) el_22 Tryz.underlying22 T3 T0 ⟨_, _, rfl⟩ (Rds.blk m1 (by simp) (by omega) (fun j x hj => map_at hdat hj)) (ones_map one_u8) (by omega) (by omega)) ?_))))))))))))
  rintro v25 w25 hS
  refine TW.at hS (TL.fold (A' := (slc 1 v25 ((d ++ dn).length) ((d ++ dn).map u8))) a0 (slc_eq (by rw [List.length_append]) (List.map_append).symm) ?_)
  refine TL.rm .h7 (TL.a m0 (TL.r (.hd .u5) (TL.m m1 (TL.val (r_nei Tryz.underlying82 T0) (TL.b (.hd .u1) (CT.ift m0 ?_))))))
  refine CT.y (TL.m m0 (TL.m m2 (TL.call (r_call ce_66 (.cons T0 .nil)) (fun w hS => t66c hL hS) ?_)))
  rintro _ w30 ⟨rfl, hS⟩
  exact TW.at hS (TL.a m2 (TL.a m1 (TL.b (.hd (.hd .u3)) (CT.ret (EX.bret (EX.then_ret (EX.bret (EX.then_ret (EX.end_ (.inl rfl) (res2 Tryz.results41 m1 m0) (fun _ hS => ⟨v25, 3, rfl, .inr ⟨hgd, rfl⟩, by rw [hout] at hS; exact dropB hS⟩))))))))))
 exfalso; omega
end Go.Eng
namespace Go.Eng
open Go Go.Proofs Go.Infl
def Hz (j : Nat) : Value := if j % 515 = 0 then .int .i64 0 else if j % 515 = 513 then .slice none 0 0 else .int .u32 0
def DZ : DS := ⟨.nilIface, .pointer none, 0, 0, 0, Hz, .pointer none, .pointer none, .slice none 0 0, 0, 0, false, 0, 0, 0, 0, .nilFunc, 0, false, .nilIface, .slice none 0 0, .pointer none, .pointer none, 0, 0⟩
theorem z103 : Tryz.zeroCells103.toList = (List.range 1054).map (D DZ) := by kernel_rfl
theorem z105 : Tryz.zeroCells105.toList = (List.range 316).map (fun _ => .int .i64 0) := by kernel_rfl
theorem z106 : (Value.agg #[.int .i64 0, .int .i64 0, .int .i64 0, .int .i64 0, .int .i64 0, .int .i64 0, .int .i64 0, .int .i64 0, .int .i64 0, .int .i64 0, .int .i64 0, .int .i64 0, .int .i64 0, .int .i64 0, .int .i64 0, .int .i64 0, .int .i64 0, .int .i64 0, .int .i64 0]).cells.toList = (List.range 19).map (fun _ => .int .i64 0) := by kernel_rfl
section
variable {P : Program} {G w : World} {ρ : Env} {n : Nat} {L R : List HProp} {v : Value} {d : Option Tmp} {ty : TypeId} {pos : String} {af : Array Edge} {g : Option (Nat × Bool)}
theorem r_ta {s t : TypeId} {x : Operand} (hx : OV ρ x v) {u : Value} (h : ∀ w, (Instr.typeAssert v s t true).run P w = .ok u w) : Run P G ρ n L ⟨d, .typeAssert x s t true, ty, pos, af, g⟩ u := fun w a _ ha => by
 simp [execOp, hx.eval ha, h]
end
theorem hz_ok : HOk Hz := by
 refine ⟨.inr fun j hj => ?_, .inr fun j hj => ?_⟩
 ·
  unfold Hz hz hc
  rw [Nat.mod_eq_of_lt hj]
  by_cases h0 : j = 0
  ·
   rw [if_pos h0, if_pos h0]; rfl
  rw [if_neg h0, if_neg h0]
  by_cases h1 : j < 513
  ·
   rw [if_neg (by omega), if_pos h1]; rfl
  rw [if_neg h1]
  by_cases h2 : j = 513
  ·
   rw [if_pos h2, if_pos h2]
  rw [if_neg h2, if_neg h2]; rfl
 show Hz (515 + j) = _
 unfold Hz hz hc
 rw [Nat.add_mod_left, Nat.mod_eq_of_lt hj]
 by_cases h0 : j = 0
 ·
  rw [if_pos h0, if_pos h0]; rfl
 rw [if_neg h0, if_neg h0]
 by_cases h1 : j < 513
 ·
  rw [if_neg (by omega), if_pos h1]; rfl
 rw [if_neg h1]
 by_cases h2 : j = 513
 ·
  rw [if_pos h2, if_pos h2]
 rw [if_neg h2, if_neg h2]; rfl
theorem ta_87 (r : Nat) (w : World) : (Instr.typeAssert (rif r) 80 87 true).run Tryz.prog w = .ok (.tuple #[rif r, .bool true]) w := by kernel_rfl
end Go.Eng
namespace Go.Eng
open Go Go.Proofs Go.Infl
theorem dict4 {s : DS} {v : Value} {a b : Nat} {c : Bool} : updl (D s) 1037 [v, i64 a, i64 b, .bool c] = D { s with hist := v, wr := a, rd := b, full := c } := by
 show upd (upd (upd (upd (D s) 1037 _) 1038 _) 1039 _) 1040 _ = _
 rw [Dset_hist, Dset_wr, Dset_rd, Dset_full]
theorem ones4 {a b c d : Value} (ha : one a = true := by rfl) (hb : one b = true := by rfl) (hc : one c = true := by rfl) (hd : one d = true := by rfl) : ∀ x ∈ [a, b, c, d], one x = true := fun x hx => by
 rcases List.mem_cons.1 hx with rfl | h
 ·
  exact ha
 exact ones3 hb hc hd x h
theorem any2h {G w : World} {A B : HProp} {L : List HProp} {bb cb n m : Nat} {F F' : Nat → Value} (h : Sat G w (A :: B :: blk bb n F :: blk cb m F' :: L)) : Sat G w (A :: B :: AnyB bb n :: AnyB cb m :: L) := any2 h
theorem dict_cell {G w : World} {L : List HProp} {dv : Value} {dd : List Nat} {db dc o j : Nat} {v : Value} (hS : Sat G w L) (hm : slc 1 dv dd.length (dd.map u8) ∈ L) (hd : dv = .slice (some ⟨db, 0, none⟩) dd.length dc) (hj : ((dd.drop o).map u8)[j]? = some v) : w.cell? ⟨db, o + j, none⟩ = some v :=
 hS.slc_cell hm hd (by rw [List.map_drop, List.getElem?_drop] at hj; exact hj)
theorem win_d {dd : List Nat} {n : Nat} (h : dd.length < 32768) (hn : dd.length = n) : Win (updh (fun _ => 0) 0 dd) n false dd := by
 have := Win.zero.write (xs := dd) (by omega)
 rw [Nat.zero_add, hn] at this
 exact this
theorem win_f {dd : List Nat} (h : dd.length = 32768) : Win (updh (fun _ => 0) 0 dd) 0 true dd := by
 have := (Win.zero.write (xs := dd) (by omega)).flush
 simp only [Nat.zero_add, h] at this
 exact this
theorem win_l {dd : List Nat} (h : 32768 < dd.length) : Win (updh (fun _ => 0) 0 (dd.drop (dd.length - 32768))) 0 true dd := by
 have hl : (dd.drop (dd.length - 32768)).length = 32768 := by rw [List.length_drop]; omega
 obtain ⟨h1, h2, h3, h4⟩ := win_f hl
 refine ⟨h1, (fun h => by cases h), (fun _ => by omega), fun j hj1 hj2 => ?_⟩
 rw [h4 j (by omega) hj2, hl]
 simp only [List.getD_eq_getElem?_getD]
 rw [List.getElem?_drop, show dd.length - 32768 + (32768 - 1 - j) = dd.length - 1 - j by omega]
theorem start_rs {G w : World} {R : List HProp} {f r hb bb cb wr' : Nat} {full' : Bool} {hist : Nat → Nat} {B st tail : List Bool} {dd out : List Nat} {gd : Bool} {ea : Addr} (hB : B = st ++ tail) (hst : Strm 0 st dd (dd ++ out, gd)) (hwin : Win hist wr' full' dd) (hwr : wr' < 32768)
 (hS : Sat G w (blk f 1054 (D ⟨(rif r), (.pointer none), 0, 0, 0, Hz, (pt bb 0), (pt cb 0), (Hw hb), wr', wr', full', 0, 0, 0, 0, (.func (.func 68) #[] #[]), 0, false, .nilIface, (.slice none 0 0), (.pointer none), (.pointer none), 0, 0⟩) :: Br r B 0 :: blk hb 32768 (fun j => u8 (hist j)) :: R)) : Sat G w (RSA false bb cb f r hb B (dd ++ out, gd) (.iface 187 (.pointer (some ea))) dd (· < 1000 * B.length + 1) :: R) := by
 refine RS.toA ⟨_, 0, hist, dd, [], [], ⟨rfl, rfl, hwin, Nat.le_refl _, hwr, rfl, Nat.zero_le _, ⟨rfl, rfl, hz_ok⟩, .inl rfl⟩, by rw [List.append_nil, List.append_nil], (Nat.sub_self _).symm, .inl ⟨rfl, rfl⟩, .inl ⟨rfl, 1000 * (B.length - 0), by show _ < _; omega, plEmp ?_ hS⟩⟩
 intro m
 exact .blk (k := 0) (st := st) (tail := tail) rfl (Nat.zero_le _) (Held.zero (i := 0)) (by rw [List.drop_zero]; exact hB) hst rfl (fun _ => rfl)
theorem t70 {sv : Value} {B : List Bool} {G : World} {R : List HProp} {w : World} (hS : Sat G w (slc 1 sv ((pack B).length) ((pack B).map u8) :: R)) :
 CallsR Tryz.prog 70 #[sv] w (fun v w' => ∃ r : Nat, v = pt r 0 ∧ Sat G w' (Br r B 0 :: R)) := by
 refine calls_in (n := 6) [(0, sv)] Tryz.func70 rfl rfl hS args1 ?_
 refine CT.q (TL.val (r_asg .c) (TL.e (CT.seq (CT.expose (fun w hS => hS.slc_shape m0) ?_))))
 rintro ⟨-, hsv0⟩
 obtain ⟨sp, sl, sc, hsv⟩ : ∃ p l c, sv = .slice p l c := by rcases hsv0 with ⟨h, _⟩ | ⟨b, c, h, _⟩ <;> exact ⟨_, _, _, h⟩
 refine CT.region (TL.m m1 (TL.val (r_build (v := (.agg #[sv, (.int .i64 0), (.int .i64 ((-1)))])) (.cons T0 (.cons .c (.cons .c .nil))) (fun _ => by rw [hsv]; kernel_rfl)) (TL.w (r_box (F := lst [sv, (.int .i64 0), (.int .i64 ((-1)))]) T0 rfl rfl lst_ok) ?_)))
 rintro _ w5 ⟨b5, rfl, hS⟩
 exact TW.at hS (TL.rm .h3 (TL.a m0 (TL.b (.hd .u4) (CT.ret (EX.end_ (.inl rfl) (res1 Tryz.results70 m0) (fun _ hS => ⟨b5, rfl, hS.unbr⟩))))))
theorem t43 {sv : Value} {B : List Bool} (hBl : B.length < 1099511627776) {G : World} {R : List HProp} {w : World} (hS : Sat G w (slc 1 sv ((pack B).length) ((pack B).map u8) :: R)) :
 CallsR Tryz.prog 43 #[sv] w (fun v w' => ∃ r : Nat, v = pt r 0 ∧ Sat G w' (Br r B 0 :: slc 1 sv (pack B).length ((pack B).map u8) :: R)) := by
 have hpl := pack_length B
 refine calls_in (n := 7) [(0, sv)] Tryz.func43 rfl rfl hS args1 ?_
 refine CT.q (TL.val (r_asg .c) (TL.q (TL.w (r_buildSlice (k := 0) (e := 5) (cs := #[]) (F := lst []) .nil (fun _ => by kernel_rfl) rfl lst_ok) ?_)))
 rintro _ w3 ⟨b3, rfl, hS⟩
 refine TW.at hS (TL.m m2 (TL.fold (A' := (slc 1 (.slice (some ⟨b3, 0, none⟩) 0 0) 0 ([]))) a0 (mk_slc1 rfl (by decide) (by intro j x h; cases h)) ?_))
 refine TL.w (r_appends (j := (pack B).length) (k := 0) (ds := (pack B).map u8) el_22 Tryz.underlying22 T1 T0 m1 (ones_map one_u8) (by omega) (by omega)) ?_
 rintro v5 w5 hS
 have ho5 := hS.slc_one
 refine TW.at hS (TL.fold (A' := (slc 1 v5 ((pack B).length) ((pack B).map u8))) a0 (slc_eq (Nat.zero_add _) (List.nil_append _)) ?_)
 refine TL.call (r_call ce_70 (.cons T0 .nil)) (fun w hS => t70 (B := B) hS) ?_
 rintro _ w6 ⟨r, rfl, hS⟩
 exact TW.at hS (TL.rm .h4 (TL.a m0 (TL.b (.hd .u5) (CT.ret (EX.end_ (.inl rfl) (res1 Tryz.results43 m0) (fun _ hS => ⟨r, rfl, hS⟩))))))
theorem t67 (f r : Nat) (s : DS) {G : World} {R : List HProp} {w : World} (hS : Sat G w (blk f 1054 (D s) :: R)) :
 CallsR Tryz.prog 67 #[(pt f 0), (rif r)] w (fun v w' => v = .tuple #[] ∧ Sat G w' (blk f 1054 (D { s with r := rif r, rBuf := .pointer none }) :: R)) := by
 refine calls_in (n := 43) [(0, (pt f 0)), (1, (rif r))] Tryz.func67 rfl rfl hS args2 ?_
 refine CT.seq (CT.q (TL.m m1 (TL.val (r_ta T0 (ta_87 r)) (TL.m m0 (TL.val (r_ext T0) (TL.val (r_ext T1) (TL.a m1 (TL.a m1 (TL.r (.hd (.hd .u5)) (TL.m m0 (TL.b (.hd .u1) (CT.ift m0 ?_))))))))))))
 exact CT.y (TL.m m1 (TL.c m0 (TL.f 1 fo_103_1 m0 (TL.s (r_st (F' := D { s with rBuf := .pointer none }) Tryz.sizeOf88 (Dset_rBuf s (.pointer none)) a0 T0 .c (by decide)) (TL.r .u3 (TL.m m1 (TL.m m1 (TL.c m1 (TL.f 0 fo_103_0 m0 (TL.s (r_st (F' := D { s with r := rif r, rBuf := .pointer none }) Tryz.sizeOf87 (Dsat_r (rif r)) a0 T0 T2 (by decide)) (TL.b .u5 (CT.ret (EX.then_ret (EX.end_ (.inl rfl) (res0 Tryz.results67) (fun _ hS => ⟨rfl, hS⟩)))))))))))))))
theorem t69 (f : Nat) (s : DS) {dv : Value} {dd : List Nat} (hdl : dd.length < 1099511627776) {G : World} {R : List HProp} {w : World} (hS : Sat G w (blk f 1054 (D { s with hist := .slice none 0 0 }) :: slc 1 dv dd.length (dd.map u8) :: R)) :
 CallsR Tryz.prog 69 #[(pt f 1037), (.int .i64 32768), dv] w (fun _ w' => ∃ (hb : Nat) (hist : Nat → Nat) (wr' : Nat) (full' : Bool), Win hist wr' full' dd ∧ wr' < 32768 ∧ Sat G w' (blk f 1054 (D { s with hist := Hw hb, wr := wr', rd := wr', full := full' }) :: blk hb 32768 (fun j => u8 (hist j)) :: slc 1 dv dd.length (dd.map u8) :: R)) := by
 refine calls_in (n := 84) [(0, (pt f 1037)), (1, (.int .i64 32768)), (2, dv)] Tryz.func69 rfl rfl hS args3 ?_
 refine CT.q (TL.m m0 (TL.m m1 (TL.c m0 (TL.f 1037 fo_98_0 m0 (TL.val (r_ld (v := (.slice none 0 0)) Tryz.isAgg22 m0 T0 (by decide) (Dget_hist _)) (TL.val (r_build (v := (.agg #[(.slice none 0 0), (.int .i64 0), (.int .i64 0), (.bool false)])) (.cons T0 .nil) (fun _ => by kernel_rfl)) (TL.c m5 (TL.s (r_stagg (cs := [.slice none 0 0, .int .i64 0, .int .i64 0, .bool false]) Tryz.sizeOf98 T0 T1 rfl (by decide) ones4) (TL.fold (A' := (blk f 1054 (D { s with hist := .slice none 0 0, wr := 0, rd := 0, full := false }))) a0 (blk_eq rfl dict4) ?_)))))))))
 refine TL.b .u7 (CT.seq (CT.q (TL.m m0 (TL.c m0 (TL.f 1037 fo_98_0 m0 (TL.val (r_ld (v := (.slice none 0 0)) Tryz.isAgg22 m0 T0 (by decide) (Dget_hist _)) (TL.val (r_cap Tryz.underlying22 T0) (TL.m m6 (TL.val (show Run _ _ _ _ _ _ (.bool true) from n_lss 0 32768 T1 T0 rfl rfl) (TL.b (.hd .u6) (CT.ift m0 ?_)))))))))))
 refine CT.sub .u1 (CT.region (TL.m m0 (TL.m m2 (TL.w (r_make (l := 32768) (c := 32768) Tryz.underlying22 Tryz.sizeOf5 ⟨_, Tryz.typeInfo5, rfl⟩ Tryz.zeroValue5 rfl T0 T0 rfl rfl (by omega) (by exact Nat.le_of_ble_eq_true rfl) (by omega)) ?_))))
 rintro _ w22 ⟨b22, rfl, hS⟩
 refine TW.at hS (TL.c m2 (TL.f 1037 fo_98_0 m0 (TL.s (r_st (F' := D { s with hist := Hw b22, wr := 0, rd := 0, full := false }) Tryz.sizeOf22 (Dsat_hist (Hw b22)) a1 T0 T2 (by decide)) (TL.r .u5 (TL.m m0 (TL.m m1 (TL.c m0 (TL.f 1037 fo_98_0 m0 (TL.val (r_ld (v := (Hw b22)) Tryz.isAgg22 m1 T0 (by decide) (Dget_hist _)) (TL.m m6 (TL.val (r_slice (off' := 0) (m := 32768) (c' := 32768) Tryz.underlying22 Tryz.sizeOf5 T1 .no (.so (j := 32768) T0 rfl) (by decide) (by decide) (by simp) (by simp) (by simp)) (TL.c m6 (TL.f 1037 fo_98_0 m0 (TL.s (r_st (F' := D { s with hist := Hw b22, wr := 0, rd := 0, full := false }) Tryz.sizeOf22 (Dsat_hist (Hw b22)) a1 T0 T2 (by decide)) (TL.b .u9 (CT.seq (CT.seq (CT.expose (fun w hS => hS.slc_shape m2) ?_))))))))))))))))))
 rintro ⟨-, ⟨hd1, hd2⟩ | ⟨db, dc, hd1, hd2⟩⟩
 ·
  refine CT.sub (ρ' := [(0, (pt f 1037)), (1, (.int .i64 32768)), (2, (.slice none 0 0))]) (.cons m0 (.cons m1 (.eq m2 hd1 .nil))) (CT.region (TL.m m2 (TL.val (r_len Tryz.underlying22 T0) (TL.m m2 (TL.c m0 (TL.f 1037 fo_98_0 m0 (TL.val (r_ld (v := (Hw b22)) Tryz.isAgg22 m1 T0 (by decide) (Dget_hist _)) (TL.val (r_len Tryz.underlying22 T0) (TL.val (show Run _ _ _ _ _ _ (.bool false) from n_gtr 0 32768 T5 T0 rfl rfl) (TL.b (.hd .u7) (CT.iff_ m0 ?_)))))))))))
  refine CT.z (EX.q (TL.m m0 (TL.m m1 (TL.c m0 (TL.f 1037 fo_98_0 m0 (TL.val (r_ld (v := (Hw b22)) Tryz.isAgg22 m1 T0 (by decide) (Dget_hist _)) (TL.m m7 (TL.val (show Run _ _ _ _ _ _ (.int .i64 0) from r_copy0 el_22 T1 T0 (by decide)) (TL.c m6 (TL.f 1038 fo_98_1 m0 (TL.s (r_st (F' := D { s with hist := Hw b22, wr := 0, rd := 0, full := false }) Tryz.sizeOf3 (Dsat_wr 0) a1 T0 T2 (by decide)) (TL.b .u9 (CT.seq (CT.seq (CT.still fm (by kernel_rfl) ?_)))))))))))))))
  refine TS.m m0 (TS.c m0 (TS.f 1038 fo_98_1 m0 (TS.val (r_ld (v := (.int .i64 0)) Tryz.isAgg3 m1 T0 (by decide) (Dget_wr _)) (TS.m m4 (TS.c m0 (TS.f 1037 fo_98_0 m0 (TS.val (r_ld (v := (Hw b22)) Tryz.isAgg22 m1 T0 (by decide) (Dget_hist _)) (TS.val (r_len Tryz.underlying22 T0) (TS.val (show Run _ _ _ _ _ _ (.bool false) from n_eql 0 32768 T5 T0 rfl rfl) (TS.nil (TL.b (.hd .u9) (CT.iff_ m0 ?_))))))))))))
  exact CT.z (EX.seq (CT.region (TL.m m0 (TL.m m1 (TL.c m0 (TL.f 1038 fo_98_1 m0 (TL.val (r_ld (v := (.int .i64 0)) Tryz.isAgg3 m1 T0 (by decide) (Dget_wr _)) (TL.c m4 (TL.f 1039 fo_98_2 m0 (TL.s (r_st (F' := D { s with hist := Hw b22, wr := 0, rd := 0, full := false }) Tryz.sizeOf3 (Dsat_rd 0) a1 T0 T2 (by decide)) (TL.x .u7 (EX.fold (A' := (blk b22 32768 (fun jj => u8 ((updh (fun _ => 0) 0 dd) jj)))) a0 (blk_eq rfl (by rw [show dd = [] from List.length_eq_zero_iff.1 hd2, updh_nil]; rfl)) (EX.perm p2 (EX.perm p1 (EX.perm p2 (EX.end_ (.inr rfl) (res0 Tryz.results69) (fun _ hS => ⟨b22, _, 0, false, win_d (by omega) hd2, by decide, hS⟩)))))))))))))))))
 refine CT.sub (ρ' := [(0, (pt f 1037)), (1, (.int .i64 32768)), (2, (.slice (some ⟨db, 0, none⟩) dd.length dc))]) (.cons m0 (.cons m1 (.eq m2 hd1 .nil))) (CT.region (TL.m m2 (TL.val (r_len Tryz.underlying22 T0) (TL.m m2 (TL.c m0 (TL.f 1037 fo_98_0 m0 (TL.val (r_ld (v := (Hw b22)) Tryz.isAgg22 m1 T0 (by decide) (Dget_hist _)) (TL.val (r_len Tryz.underlying22 T0) (TL.val (n_gtr dd.length 32768 T5 T0) (TL.b (.hd .u7) (CT.ifd m0 (fun c41 => ?_) (fun c41 => ?_))))))))))))
 ·
  refine CT.sub .u1 (CT.region (TL.m m2 (TL.m m3 (TL.val (r_len Tryz.underlying22 T0) (TL.m m3 (TL.c m0 (TL.f 1037 fo_98_0 m0 (TL.val (r_ld (v := (Hw b22)) Tryz.isAgg22 m1 T0 (by decide) (Dget_hist _)) (TL.val (r_len Tryz.underlying22 T0) (TL.val (n_sub dd.length 32768 9223372036854775808 T5 T0) (TL.val (r_slice (off' := (dd.length - 32768)) (m := dd.length - (dd.length - 32768)) (c' := dc - (dd.length - 32768)) Tryz.underlying22 Tryz.sizeOf5 T8 (.so (j := (dd.length - 32768)) T0 rfl) .no (by (try simp) <;> omega) (by (try simp) <;> omega) (by show (if dc = dd.length - 32768 then 0 else 0 + (dd.length - 32768) * 1) = _; rw [if_neg (by omega)]; omega) (by simp) (by simp)) (TL.rm .h12 (TL.a m0 (TL.r (.hd .u10) (TL.m m1 (TL.m m2 (TL.c m0 (TL.f 1037 fo_98_0 m0 (TL.val (r_ld (v := (Hw b22)) Tryz.isAgg22 m1 T0 (by decide) (Dget_hist _)) (TL.m m5 (TL.w (r_copy (l := 32768) (ds := (dd.drop (dd.length - 32768)).map u8) el_22 T1 T0 (by omega) (Rds.cells (by rw [List.length_map]; rw [List.length_drop]; omega) (fun w hS j v hj => dict_cell hS m2 hd1 hj)) (ones_map one_u8) (by omega)) ?_)))))))))))))))))))))
  rintro _ w58 ⟨rfl, hS⟩
  refine TW.at hS (TL.fold (A' := (blk b22 32768 (fun jj => u8 ((updh (fun _ => 0) 0 (dd.drop (dd.length - 32768))) jj)))) a0 (blk_eq rfl (updl_hist (h := fun _ => 0))) ?_)
  refine TL.c m6 (TL.f 1038 fo_98_1 m0 (TL.s (r_st (F' := D { s with hist := Hw b22, wr := 32768, rd := 0, full := false }) Tryz.sizeOf3 (Dsat_wr 32768) a1 T0 T2 (by decide)) (TL.b .u9 (CT.seq (CT.seq (CT.still fm (by kernel_rfl) ?_))))))
  refine TS.m m1 (TS.c m0 (TS.f 1038 fo_98_1 m0 (TS.val (r_ld (v := (.int .i64 32768)) Tryz.isAgg3 m1 T0 (by decide) (Dget_wr _)) (TS.m m5 (TS.c m0 (TS.f 1037 fo_98_0 m0 (TS.val (r_ld (v := (Hw b22)) Tryz.isAgg22 m1 T0 (by decide) (Dget_hist _)) (TS.val (r_len Tryz.underlying22 T0) (TS.val (show Run _ _ _ _ _ _ (.bool true) from n_eql 32768 32768 T5 T0 rfl rfl) (TS.nil (TL.b (.hd .u9) (CT.ift m0 ?_))))))))))))
  exact CT.y (TL.m m1 (TL.c m0 (TL.f 1038 fo_98_1 m0 (TL.s (r_st (F' := D { s with hist := Hw b22, wr := 0, rd := 0, full := false }) Tryz.sizeOf3 (Dsat_wr 0) a1 T0 .c (by decide)) (TL.b .u3 (CT.region (TL.m m1 (TL.c m0 (TL.f 1040 fo_98_3 m0 (TL.s (r_st (F' := D { s with hist := Hw b22, wr := 0, rd := 0, full := true }) Tryz.sizeOf4 (Dsat_full true) a1 T0 .c (by decide)) (TL.b .u3 (CT.region (TL.m m1 (TL.m m2 (TL.c m0 (TL.f 1038 fo_98_1 m0 (TL.val (r_ld (v := (.int .i64 0)) Tryz.isAgg3 m1 T0 (by decide) (Dget_wr _)) (TL.c m4 (TL.f 1039 fo_98_2 m0 (TL.s (r_st (F' := D { s with hist := Hw b22, wr := 0, rd := 0, full := true }) Tryz.sizeOf3 (Dsat_rd 0) a1 T0 T2 (by decide)) (TL.x .u7 (EX.perm p2 (EX.perm p1 (EX.perm p2 (EX.end_ (.inr rfl) (res0 Tryz.results69) (fun _ hS => ⟨b22, _, 0, true, win_l c41, by decide, hS⟩))))))))))))))))))))))))))
 refine CT.z (EX.q (TL.m m0 (TL.m m1 (TL.c m0 (TL.f 1037 fo_98_0 m0 (TL.val (r_ld (v := (Hw b22)) Tryz.isAgg22 m1 T0 (by decide) (Dget_hist _)) (TL.m m7 (TL.w (r_copy (l := dd.length) (ds := dd.map u8) el_22 T1 T0 (by omega) (Rds.cells (by rw [List.length_map]; omega) (fun w hS j v hj => dict_cell hS m2 hd1 (by rw [List.drop_zero]; exact hj))) (ones_map one_u8) (by omega)) ?_))))))))
 rintro _ w58 ⟨rfl, hS⟩
 refine TW.at hS (TL.fold (A' := (blk b22 32768 (fun jj => u8 ((updh (fun _ => 0) 0 dd) jj)))) a0 (blk_eq rfl (updl_hist (h := fun _ => 0))) ?_)
 refine TL.c m6 (TL.f 1038 fo_98_1 m0 (TL.s (r_st (F' := D { s with hist := Hw b22, wr := dd.length, rd := 0, full := false }) Tryz.sizeOf3 (Dsat_wr dd.length) a1 T0 T2 (by decide)) (TL.b .u9 (CT.seq (CT.seq (CT.still fm (by kernel_rfl) ?_))))))
 refine TS.m m0 (TS.c m0 (TS.f 1038 fo_98_1 m0 (TS.val (r_ld (v := (i64 dd.length)) Tryz.isAgg3 m1 T0 (by decide) (Dget_wr _)) (TS.m m4 (TS.c m0 (TS.f 1037 fo_98_0 m0 (TS.val (r_ld (v := (Hw b22)) Tryz.isAgg22 m1 T0 (by decide) (Dget_hist _)) (TS.val (r_len Tryz.underlying22 T0) (TS.val (n_eql dd.length 32768 T5 T0) (TS.nil (TL.b (.hd .u9) (CT.ifd m0 (fun c70 => ?_) (fun c70 => ?_)))))))))))))
 ·
  exact CT.y (TL.m m0 (TL.c m0 (TL.f 1038 fo_98_1 m0 (TL.s (r_st (F' := D { s with hist := Hw b22, wr := 0, rd := 0, full := false }) Tryz.sizeOf3 (Dsat_wr 0) a1 T0 .c (by decide)) (TL.b .u3 (CT.region (TL.m m0 (TL.c m0 (TL.f 1040 fo_98_3 m0 (TL.s (r_st (F' := D { s with hist := Hw b22, wr := 0, rd := 0, full := true }) Tryz.sizeOf4 (Dsat_full true) a1 T0 .c (by decide)) (TL.b .u3 (CT.region (TL.m m0 (TL.m m1 (TL.c m0 (TL.f 1038 fo_98_1 m0 (TL.val (r_ld (v := (.int .i64 0)) Tryz.isAgg3 m1 T0 (by decide) (Dget_wr _)) (TL.c m4 (TL.f 1039 fo_98_2 m0 (TL.s (r_st (F' := D { s with hist := Hw b22, wr := 0, rd := 0, full := true }) Tryz.sizeOf3 (Dsat_rd 0) a1 T0 T2 (by decide)) (TL.x .u7 (EX.perm p2 (EX.perm p1 (EX.perm p2 (EX.end_ (.inr rfl) (res0 Tryz.results69) (fun _ hS => ⟨b22, _, 0, true, win_f (by omega), by decide, hS⟩))))))))))))))))))))))))))
 exact CT.z (EX.seq (CT.region (TL.m m0 (TL.m m1 (TL.c m0 (TL.f 1038 fo_98_1 m0 (TL.val (r_ld (v := (i64 dd.length)) Tryz.isAgg3 m1 T0 (by decide) (Dget_wr _)) (TL.c m4 (TL.f 1039 fo_98_2 m0 (TL.s (r_st (F' := D { s with hist := Hw b22, wr := dd.length, rd := dd.length, full := false }) Tryz.sizeOf3 (Dsat_rd dd.length) a1 T0 T2 (by decide)) (TL.x .u7 (EX.perm p2 (EX.perm p1 (EX.perm p2 (EX.end_ (.inr rfl) (res0 Tryz.results69) (fun _ hS => ⟨b22, _, dd.length, false, win_d (by omega) rfl, by omega, hS⟩))))))))))))))))
theorem t50 (r : Nat) {dv : Value} {dd : List Nat} (hdl : dd.length < 1099511627776) {G : World} {R : List HProp} {w : World} (hS : Sat G w (slc 1 dv dd.length (dd.map u8) :: R)) :
 CallsR Tryz.prog 50 #[(rif r), dv] w (fun v w' => ∃ (f hb bb cb : Nat) (hist : Nat → Nat) (wr' : Nat) (full' : Bool), v = .iface 107 (pt f 0) ∧ Win hist wr' full' dd ∧ wr' < 32768 ∧ Sat G w' (blk f 1054 (D ⟨(rif r), (.pointer none), 0, 0, 0, Hz, (pt bb 0), (pt cb 0), (Hw hb), wr', wr', full', 0, 0, 0, 0, (.func (.func 68) #[] #[]), 0, false, .nilIface, (.slice none 0 0), (.pointer none), (.pointer none), 0, 0⟩) :: blk hb 32768 (fun j => u8 (hist j)) :: AnyB bb 316 :: AnyB cb 19 :: slc 1 dv dd.length (dd.map u8) :: R)) := by
 refine calls_in (n := 17) [(0, (rif r)), (1, dv)] Tryz.func50 rfl rfl hS args2 ?_
 refine CT.q (TL.val (r_asg .c) (TL.q (TL.w (r_allocz Tryz.zeroValue103 z103) ?_)))
 rintro _ w5 ⟨f, rfl, hS⟩
 refine TW.at hS (TL.q (TL.m m2 (TL.call (r_call ce_67 (.cons T1 (.cons T0 .nil))) (fun w hS => t67 f r ⟨.nilIface, (.pointer none), 0, 0, 0, Hz, (.pointer none), (.pointer none), (.slice none 0 0), 0, 0, false, 0, 0, 0, 0, .nilFunc, 0, false, .nilIface, (.slice none 0 0), (.pointer none), (.pointer none), 0, 0⟩ hS) ?_)))
 rintro _ w7 ⟨rfl, hS⟩
 refine TW.at hS (TL.r (.tl (.tl (.hd (.hd .u1)))) (TL.w (r_allocz Tryz.zeroValue105 z105) ?_))
 rintro _ w8 ⟨bb, rfl, hS⟩
 refine TW.at hS (TL.f 1035 fo_103_7 m1 (TL.s (r_st (F' := D ⟨(rif r), (.pointer none), 0, 0, 0, Hz, (pt bb 0), (.pointer none), (.slice none 0 0), 0, 0, false, 0, 0, 0, 0, .nilFunc, 0, false, .nilIface, (.slice none 0 0), (.pointer none), (.pointer none), 0, 0⟩) Tryz.sizeOf95 (Dsat_bits (pt bb 0)) a1 T0 T1 (by decide)) (TL.r .u2 (TL.w (r_allocz Tryz.zeroValue106 z106) ?_))))
 rintro _ w10 ⟨cb, rfl, hS⟩
 refine TW.at hS (TL.f 1036 fo_103_8 m1 (TL.s (r_st (F' := D ⟨(rif r), (.pointer none), 0, 0, 0, Hz, (pt bb 0), (pt cb 0), (.slice none 0 0), 0, 0, false, 0, 0, 0, 0, .nilFunc, 0, false, .nilIface, (.slice none 0 0), (.pointer none), (.pointer none), 0, 0⟩) Tryz.sizeOf96 (Dsat_cbits (pt cb 0)) a2 T0 T1 (by decide)) (TL.r .u2 (TL.f 1045 fo_103_11 m0 (TL.s (r_st (F' := D ⟨(rif r), (.pointer none), 0, 0, 0, Hz, (pt bb 0), (pt cb 0), (.slice none 0 0), 0, 0, false, 0, 0, 0, 0, (.func (.func 68) #[] #[]), 0, false, .nilIface, (.slice none 0 0), (.pointer none), (.pointer none), 0, 0⟩) Tryz.sizeOf100 (Dsat_step (.func (.func 68) #[] #[])) a2 T0 .f (by decide)) (TL.r .u1 (TL.f 1037 fo_103_9 m0 (TL.m m3 (TL.perm p3 (TL.perm p3 (TL.call (r_call ce_69 (.cons T1 (.cons .c (.cons T0 .nil)))) (fun w hS => t69 f ⟨(rif r), (.pointer none), 0, 0, 0, Hz, (pt bb 0), (pt cb 0), (.slice none 0 0), 0, 0, false, 0, 0, 0, 0, (.func (.func 68) #[] #[]), 0, false, .nilIface, (.slice none 0 0), (.pointer none), (.pointer none), 0, 0⟩ (by omega) hS) ?_)))))))))))
 rintro _ w15 ⟨hb, hist, wr', full', hwin, hwr, hS⟩
 exact TW.at hS (TL.r (.tl (.tl (.tl (.hd (.hd .u1))))) (TL.val (r_mki Tryz.underlying107 T0) (TL.rm .h2 (TL.a m0 (TL.b (.hd .u1) (CT.ret (EX.perm p2 (EX.perm p3 (EX.perm p4 (EX.perm p4 (EX.perm p4 (EX.end_ (.inl rfl) (res1 Tryz.results50 m0) (fun _ hS => ⟨f, hb, bb, cb, hist, wr', full', rfl, hwin, hwr, any2h hS⟩)))))))))))))
theorem t22 {G : World} {sv : Value} {B st tail : List Bool} {out : List Nat} {gd : Bool} {ea eb : Addr} {dv : Value} {dd : List Nat} (hdl : dd.length < 1099511627776) (hL : LaidIs G ea eb) (hBl : B.length < 1099511627776) (hB : B = st ++ tail) (hst : Strm 0 st dd (dd ++ out, gd)) (ho : out.length ≤ 131072) {R : List HProp} {w : World} (hS : Sat G w (slc 1 sv ((pack B).length) ((pack B).map u8) :: slc 1 dv dd.length (dd.map u8) :: R)) :
 CallsR Tryz.prog 22 #[sv, dv, (.int .i64 131072)] w (fun v w' => ∃ (v1 : Value) (c : Nat), v = .tuple #[v1, i64 c] ∧ (gd = true ∧ c = 1 ∨ gd = false ∧ c = 3) ∧ Sat G w' (slc 1 v1 out.length (out.map u8) :: slc 1 sv (pack B).length ((pack B).map u8) :: slc 1 dv dd.length (dd.map u8) :: R)) := by
 refine calls_in (n := 19) [(0, sv), (1, dv), (2, (.int .i64 131072))] Tryz.func22 rfl rfl hS args3 ?_
 refine CT.q (TL.val (r_asg .c) (TL.val (r_asg .c) (TL.q (TL.m m2 (TL.call (r_call ce_43 (.cons T0 .nil)) (fun w hS => t43 (B := B) hBl hS) ?_)))))
 rintro _ w9 ⟨r, rfl, hS⟩
 refine TW.at hS (TL.val (r_mki Tryz.underlying49 T0) (TL.w (r_buildSlice (k := 0) (e := 5) (cs := #[]) (F := lst []) .nil (fun _ => by kernel_rfl) rfl lst_ok) ?_))
 rintro _ w11 ⟨b11, rfl, hS⟩
 refine TW.at hS (TL.m m7 (TL.fold (A' := (slc 1 (.slice (some ⟨b11, 0, none⟩) 0 0) 0 ([]))) a0 (mk_slc1 rfl (by decide) (by intro j x h; cases h)) ?_))
 refine TL.w (r_appends (j := dd.length) (k := 0) (ds := dd.map u8) el_22 Tryz.underlying22 T1 T0 m3 (ones_map one_u8) (by omega) (by omega)) ?_
 rintro v13 w13 hS
 have ho13 := hS.slc_one
 refine TW.at hS (TL.fold (A' := (slc 1 v13 dd.length (dd.map u8))) a0 (slc_eq (Nat.zero_add _) (List.nil_append _)) ?_)
 refine TL.call (r_call ce_50 (.cons T3 (.cons T0 .nil))) (fun w hS => t50 r (by omega) hS) ?_
 rintro _ w14 ⟨f, hb, bb, cb, hist, wr', full', rfl, hwin, hwr, hS⟩
 refine TW.at hS (TL.m m11 (TL.perm p3 (TL.perm p3 (TL.perm p3 (TL.perm p5 (TL.perm p4 (TL.conv (fun _ hS => start_rs (ea := ea) (st := st) (tail := tail) (gd := gd) (dd := dd) (out := out) hB hst hwin hwr hS) (TL.perm p2 (TL.perm p2 (TL.perm p2 (TL.call (r_call ce_41 (.cons T1 (.cons T0 .nil))) (fun w hS => t41 (dd := dd) (out := out) hL hBl ho hS) ?_)))))))))))
 rintro _ w16 ⟨v1, c, rfl, hgc, hS⟩
 refine TW.at hS (TL.val (r_ext T0) (TL.val (r_ext T1) (TL.rm .h12 (TL.a m1 (TL.rm .h12 (TL.a m1 (TL.b (.hd (.hd .u14)) (CT.ret (EX.perm p3 (EX.perm p3 (EX.perm p2 (EX.perm p3 (EX.conv (fun _ h => h.tail) ?_)))))))))))))
 exact EX.perm p2 (EX.perm p2 (EX.perm p2 (EX.end_ (.inl rfl) (res2 Tryz.results22 m1 m0) (fun _ hS => ⟨v1, c, rfl, hgc, hS⟩))))
end Go.Eng
namespace Go.Eng
open Go Go.Proofs Go.Infl
theorem r_lookupo {P : Program} {G : World} {ρ : Env} {n : Nat} {L : List HProp} {d : Option Tmp} {ty : TypeId} {pos : String} {af : Array Edge} {g : Option (Nat × Bool)} {t kt et b sz : Nat} {kk : IntKind} {f : Int → Option Int} {x y : Operand} {i : Int} {o : Option Int} (ht : P.underlying t = some (.map kt et)) (hk : P.underlying kt = some (.int kk)) (hz : ∀ w, (zeroValue et).run P w = .ok (.int .i64 0) w) (hm : imap b f sz ∈ L)
 (hx : OV ρ x (.map (some b))) (hy : OV ρ y (.int .i64 i)) (e : f i = o) : Run P G ρ n L ⟨d, .lookup t x y true, ty, pos, af, g⟩ (.tuple #[.int .i64 (o.getD 0), .bool o.isSome]) := by subst e; exact r_lookup ht hk hz hm hx hy
def BkF (ls : List Nat) (f : Int → Option Int) : Prop := (∀ i, LOk ls i → f ((ckey ls i : Nat) : Int) = some (i : Int)) ∧ ∀ x y, f x = some y → ∃ i, LOk ls i ∧ x = ((ckey ls i : Nat) : Int)
def Bk (b : Nat) (ls : List Nat) : HProp := hex fun x : (Int → Option Int) × Nat => sep [hpure (BkF ls x.1 ∧ 2 ≤ x.2), imap b x.1 x.2]
theorem Sat.bk {G w : World} {A : HProp} {R : List HProp} {b : Nat} {ls : List Nat} (h : Sat G w (A :: Bk b ls :: R)) : ∃ f sz, BkF ls f ∧ 2 ≤ sz ∧ Sat G w (A :: imap b f sz :: R) := by
 obtain ⟨⟨f, sz⟩, h⟩ := (h.perm p1).ex
 obtain ⟨⟨h1, h2⟩, h3⟩ := (Sat.unsep h).pure
 exact ⟨f, sz, h1, h2, h3.perm p1⟩
theorem Sat.toBk {G w : World} {A : HProp} {R : List HProp} {b sz : Nat} {f : Int → Option Int} {ls : List Nat} (h1 : BkF ls f) (h2 : 2 ≤ sz) (h : Sat G w (A :: imap b f sz :: R)) : Sat G w (A :: Bk b ls :: R) := by
 have h3 : Sat G w (hpure (BkF ls f ∧ 2 ≤ sz) :: imap b f sz :: A :: R) := (h.perm p1).emp ⟨h1, h2⟩
 exact ((Sat.resep (Ls := [hpure (BkF ls f ∧ 2 ≤ sz), imap b f sz]) h3).imp fun m hm => ⟨(f, sz), hm⟩).perm p1
theorem bk_none {ls : List Nat} {f : Int → Option Int} {k j : Nat} (h : BkF ls f) (hf : Fits ls) (hk : LOk ls k) (hj : j < ls.getD k 0) : f ((2 ^ j + codeOf ls k / 2 ^ (ls.getD k 0 - j) : Nat) : Int) = none := by
 cases e : f ((2 ^ j + codeOf ls k / 2 ^ (ls.getD k 0 - j) : Nat) : Int) with
 | none => rfl
 | some y =>
  obtain ⟨i, hi, hx⟩ := h.2 _ _ e
  exact (key_ahead hf hi hk hj (by exact_mod_cast hx.symm)).elim
theorem t93 {p at_ : Nat} {sv dv : Value} {B : List Bool} {out : List Nat} {mb k : Nat} {ls : List Nat} {rest : List Bool} (hA : B.length < 9223372036854775000) (hf : Fits ls) (hok : LOk ls k) (hd : B.drop at_ = symB ls k ++ rest) {G : World} {R : List HProp} {w : World} (hS : Sat G w (Sp p sv B at_ dv out (-1) :: Bk mb ls :: R)) :
 CallsR Tryz.prog 93 #[pt p 0, .map (some mb)] w (fun v w' => v = i64 k ∧ Sat G w' (Sp p sv B (at_ + ls.getD k 0) dv out (-1) :: Bk mb ls :: R)) := by
 obtain ⟨fm, sz, hbk, hsz, hS⟩ := hS.bk
 have hfk := hf k hok
 have hl15 := hok.2.2
 have hp15 : 2 ^ ls.getD k 0 ≤ 2 ^ 15 := Nat.pow_le_pow_right (by decide) hl15
 refine calls_in (n := 38) [(0, (pt p 0)), (1, (.map (some mb)))] Tryz.func93 rfl rfl hS args2 ?_
 refine CT.q (TL.val (r_asg .c) (TL.q (TL.val (r_asg .c) (TL.e (CT.seq (CT.q (TL.val (r_move .c) (TL.e (CT.block (CT.fold (A' := (Sp p sv (B) (at_ + 0) dv out ((-1)))) a0 (Sp_eq (by omega) rfl) (CT.loop (X := Nat) (fun gx => [(8, (i64 gx)), (5, (i64 (2 ^ gx + codeOf ls k / 2 ^ (ls.getD k 0 - gx)))), (0, (pt p 0)), (1, (.map (some mb)))]) (fun gx => (Sp p sv (B) (at_ + gx) dv out ((-1))) :: (imap mb fm sz) :: R) (fun gx => gx < ls.getD k 0 ∧ B.drop (at_ + gx) = cbits (ls.getD k 0 - gx) (codeOf ls k) ++ rest) (fun gx => ls.getD k 0 - gx) 0 (⟨hok.2.1, hd⟩) (.refl _) (.cons m0 (.eq m1 (by first | rfl | (congr 1 <;> omega) | (rw [Nat.sub_zero, Nat.div_eq_of_lt hfk]; rfl)) (.cons m3 (.cons m4 .nil)))) ?_)))))))))))
 rintro j ⟨hI1, hI2⟩
 have hpj : 2 ^ j ≤ 2 ^ 15 := Nat.pow_le_pow_right (by decide) (by omega)
 have hcd := Nat.div_le_self (codeOf ls k) (2 ^ (ls.getD k 0 - j))
 have hd1 : B.drop (at_ + j) = (codeOf ls k).testBit (ls.getD k 0 - (j + 1)) :: (cbits (ls.getD k 0 - (j + 1)) (codeOf ls k) ++ rest) := by rw [hI2, show ls.getD k 0 - j = (ls.getD k 0 - (j + 1)) + 1 by omega, cbits_cons]; rfl
 have hd2 := (drop_cons hd1).2.2
 have hX : 2 * (2 ^ j + codeOf ls k / 2 ^ (ls.getD k 0 - j)) ≤ 2 * (2 ^ 15 + 2 ^ 15) := Nat.mul_le_mul_left 2 (Nat.add_le_add hpj (Nat.le_trans hcd (Nat.le_of_lt (Nat.lt_of_lt_of_le hfk hp15))))
 refine CT.q (TL.val (n_lss j 15 T0 .c) (TL.e (CT.seq (CT.ifd m0 (fun c9 => ?_) (fun c9 => ?_)))))
 ·
  refine CT.z (EX.seq (CT.seq (CT.block (CT.q (TL.m m1 (TL.val (n_mul 2 ((2 ^ j + codeOf ls k / 2 ^ (ls.getD k 0 - j))) 9223372036854775808 .c T0 rfl rfl (by exact Nat.lt_of_le_of_lt hX (by decide))) (TL.m m4 (TL.call (r_call ce_71 (.cons T0 .nil)) (fun w hS => t71 (b := ((codeOf ls k).testBit (ls.getD k 0 - (j + 1)))) (rest := (cbits (ls.getD k 0 - (j + 1)) (codeOf ls k) ++ rest)) (by omega) hd1 hS) ?_))))))))
  rintro _ w13 ⟨rfl, hS⟩
  refine TW.at hS (TL.val (n_add ((2 * (2 ^ j + codeOf ls k / 2 ^ (ls.getD k 0 - j)))) ((Bool.toNat ((codeOf ls k).testBit (ls.getD k 0 - (j + 1))))) 9223372036854775808 T2 T0 rfl rfl (by exact Nat.lt_of_le_of_lt (Nat.add_le_add hX (show Bool.toNat _ ≤ 1 from by cases (codeOf ls k).testBit (ls.getD k 0 - (j + 1)) <;> decide)) (by decide))) (TL.rm .h6 (TL.a m0 (TL.sub (.hd .u5) (TL.b (.eq m0 (congrArg (fun z : Nat => Value.int .i64 (z : Int)) (code_next hI1)) (.cons m1 (.cons m2 (.cons m3 .nil)))) (CT.seq (CT.q (TL.m m2 (TL.call (r_call ce_47 (.cons T0 .nil)) (fun w hS => t47 (r := true) (by decide) hS) ?_)))))))))
  rintro _ w16 ⟨rfl, hS⟩
  refine TW.at hS (TL.val (r_nott T0) (TL.b (.hd .u2) (CT.iff_ m0 ?_)))
  refine CT.z (EX.seq (CT.seq (CT.seq ?_)))
  by_cases hj1 : j + 1 = ls.getD k 0
  ·
   have hfk : fm ((((2 ^ (j + 1) + codeOf ls k / 2 ^ (ls.getD k 0 - (j + 1))) : Nat)) : Int) = some (k : Int) := by rw [← hbk.1 k hok]; unfold ckey; rw [hj1, Nat.sub_self, Nat.pow_zero, Nat.div_one]
   refine CT.region (TL.m m3 (TL.m m1 (TL.val (show Run _ _ _ _ _ _ (.tuple #[(i64 k), (.bool true)]) from r_lookupo Tryz.underlying132 Tryz.underlying3 Tryz.zeroValue3 m1 T1 T0 hfk) (TL.m m0 (TL.val (r_ext T0) (TL.val (r_ext T1) (TL.a m1 (TL.a m1 (TL.r (.hd (.hd .u6)) (TL.m m0 (TL.e (CT.ift m0 ?_))))))))))))
   exact CT.y (TL.m m1 (TL.a m0 (TL.b (.hd .u1) (CT.ret (EX.then_ret (EX.bret (EX.then_ret (EX.then_ret (EX.bret (EX.then_ret (EX.perm p1 (EX.perm p1 (EX.end_ (.inl rfl) (res1 Tryz.results93 m0) (fun _ hS => ⟨rfl, Sat.toBk hbk hsz (hS.imp (Sp_eq (by omega) rfl))⟩))))))))))))))
  have hfk : fm ((((2 ^ (j + 1) + codeOf ls k / 2 ^ (ls.getD k 0 - (j + 1))) : Nat)) : Int) = none := bk_none hbk hf hok (by omega)
  refine CT.region (TL.m m3 (TL.m m1 (TL.val (show Run _ _ _ _ _ _ (.tuple #[(.int .i64 0), (.bool false)]) from r_lookupo Tryz.underlying132 Tryz.underlying3 Tryz.zeroValue3 m1 T1 T0 hfk) (TL.m m0 (TL.val (r_ext T0) (TL.val (r_ext T1) (TL.a m1 (TL.a m1 (TL.r (.hd (.hd .u6)) (TL.m m0 (TL.e (CT.iff_ m0 ?_))))))))))))
  refine CT.z (EX.q (TL.m m5 (TL.val (r_lenMap Tryz.underlying132 m1 T0) (TL.val (n_lss sz 2 T0 .c) (TL.m m0 ?_)))))
  by_cases g29 : sz < 2
  ·
   exfalso; omega
  refine TL.sub (.eq m0 (congrArg Value.bool (decide_eq_false g29)) (.eq m1 (congrArg Value.bool (decide_eq_false g29)) (.cons m2 (.cons m3 (.cons m4 (.cons m5 (.cons m6 (.cons m7 (.cons m8 (.cons m9 .nil)))))))))) (TL.gn m0 (TL.gn m0 (TL.gn m0 (TL.gn m0 (TL.val (r_pickf T0 .c) (TL.b (.hd .u4) (CT.iff_ m0 ?_)))))))
  exact CT.z (EX.bnormal (EX.seq (CT.region (TL.val (n_add j 1 9223372036854775808 T3 .c) (TL.rm .h4 (TL.m m0 (TL.x (.hd .u1) (EX.fold (A' := (Sp p sv (B) (at_ + (j + 1)) dv out ((-1)))) a0 (Sp_eq (by omega) rfl) (EX.again (j + 1) (⟨by omega, hd2⟩) (by omega) (.refl _) (.eq m0 (by first | rfl | (congr 1 <;> omega) | (rw [Nat.sub_zero, Nat.div_eq_of_lt hfk]; rfl)) (.sl 3 3 rfl)))))))))))
 exfalso; omega
end Go.Eng
namespace Go.Eng
open Go Go.Proofs Go.Infl
def usedN (ls : List Nat) (k : Nat) : Nat := (ls.take k).countP (fun x => decide (1 ≤ x ∧ x ≤ 15))
def BkFp (ls : List Nat) (f : Int → Option Int) (k : Nat) : Prop := (∀ i, i < k → LOk ls i → f ((ckey ls i : Nat) : Int) = some (i : Int)) ∧ ∀ x y, f x = some y → ∃ i, i < k ∧ LOk ls i ∧ x = ((ckey ls i : Nat) : Int)
def BkP (b : Nat) (ls : List Nat) (k : Nat) : HProp := hex fun x : (Int → Option Int) × Nat => sep [hpure (BkFp ls x.1 k ∧ x.2 = usedN ls k), imap b x.1 x.2]
section
variable {G w : World} {R : List HProp} {b k sz : Nat} {ls : List Nat} {f : Int → Option Int}
theorem bkP_mk (h1 : BkFp ls f k) (h2 : sz = usedN ls k) (h : Sat G w (imap b f sz :: R)) : Sat G w (BkP b ls k :: R) := by
 have h3 : Sat G w (hpure (BkFp ls f k ∧ sz = usedN ls k) :: imap b f sz :: R) := h.emp ⟨h1, h2⟩
 exact (Sat.resep (Ls := [hpure (BkFp ls f k ∧ sz = usedN ls k), imap b f sz]) h3).imp fun m hm => ⟨(f, sz), hm⟩
theorem Sat.bkp (h : Sat G w (BkP b ls k :: R)) : ∃ f sz, BkFp ls f k ∧ sz = usedN ls k ∧ Sat G w (imap b f sz :: R) := by
 obtain ⟨⟨f, sz⟩, h⟩ := h.ex
 obtain ⟨⟨h1, h2⟩, h3⟩ := (Sat.unsep h).pure
 exact ⟨f, sz, h1, h2, h3⟩
theorem CT.bkp {P : Program} {ρ : Env} {n : Nat} {Q : Exit → Act → World → Prop} {c : Code} (hk : ∀ f sz, BkFp ls f k → sz = usedN ls k → CT P c Q ρ n G (imap b f sz :: R)) : CT P c Q ρ n G (BkP b ls k :: R) := fun w a hS ha => by
 obtain ⟨f, sz, h1, h2, h⟩ := hS.bkp
 exact hk f sz h1 h2 w a h ha
theorem bkP_zero (h : Sat G w (imap b (fun _ => none) 0 :: R)) : Sat G w (BkP b ls 0 :: R) := bkP_mk ⟨fun i hi => absurd hi (Nat.not_lt_zero i), fun x y h => by cases h⟩ (by simp [usedN]) h
theorem usedN_succ {x : Nat} (hx : ls[k]? = some x) : usedN ls (k + 1) = usedN ls k + (if 1 ≤ x ∧ x ≤ 15 then 1 else 0) := by
 unfold usedN
 rw [List.take_add_one, hx, List.countP_append]
 by_cases e : 1 ≤ x ∧ x ≤ 15 <;> simp [e]
theorem bkP_put {q0 : Int} {x1 : Nat} (hf : Fits ls) (hok : LOk ls k) (hb : BkFp ls f k) (hsz : sz = usedN ls k) (hx : ls[k]? = some x1) (hq : q0 = ((ckey ls k : Nat) : Int)) (h : Sat G w (imap b (fun q => if q = q0 then some (k : Int) else f q) (if (f q0).isSome then sz else sz + 1) :: R)) : Sat G w (BkP b ls (k + 1) :: R) := by
 subst hq
 have hno : f ((ckey ls k : Nat) : Int) = none := by
  cases e : f ((ckey ls k : Nat) : Int) with
  | none => rfl
  | some y =>
   obtain ⟨i, hi, hio, hix⟩ := hb.2 _ _ e
   have : k = i := key_inj hf hok hio (by exact_mod_cast hix)
   omega
 rw [hno] at h
 have hg : ls.getD k 0 = x1 := by rw [List.getD_eq_getElem?_getD, hx]; rfl
 refine bkP_mk ⟨fun i hi hio => ?_, fun x y hxy => ?_⟩ ?_ h
 ·
  by_cases e : i = k
  ·
   subst e; rw [if_pos rfl]
  rw [if_neg (fun h2 => e (key_inj hf hio hok (by exact_mod_cast h2)))]
  exact hb.1 i (by omega) hio
 ·
  by_cases e : x = ((ckey ls k : Nat) : Int)
  ·
   exact ⟨k, by omega, hok, e⟩
  simp only [if_neg e] at hxy
  obtain ⟨i, h1, h2, h3⟩ := hb.2 x y hxy
  exact ⟨i, by omega, h2, h3⟩
 have hx1 : 1 ≤ x1 ∧ x1 ≤ 15 := by rw [← hg]; exact hok.2
 rw [usedN_succ hx, if_pos hx1, hsz]
 rfl
theorem bkP_skip {x1 : Nat} (hx : ls[k]? = some x1) (hn : ¬ 0 < x1) (h : Sat G w (BkP b ls k :: R)) : Sat G w (BkP b ls (k + 1) :: R) := by
 obtain ⟨f, sz, h1, h2, h⟩ := h.bkp
 have hg : ls.getD k 0 = x1 := by rw [List.getD_eq_getElem?_getD, hx]; rfl
 refine bkP_mk ⟨fun i hi hio => h1.1 i ?_ hio, fun x y hxy => ?_⟩ (by rw [usedN_succ hx, if_neg (by omega), h2]; rfl) h
 ·
  rcases Nat.lt_or_ge i k with h3 | h3
  ·
   exact h3
  obtain rfl : i = k := by omega
  exact absurd hio.2.1 (by omega)
 obtain ⟨i, h3, h4⟩ := h1.2 x y hxy
 exact ⟨i, by omega, h4⟩
theorem codes_at (h : k < ls.length) : ((codes ls).map i64)[k]? = some (i64 (cpart ls 16 0 k)) := by
 unfold codes; rw [List.getElem?_map, List.getElem?_map, List.getElem?_range h]; rfl
theorem ckey_or {x1 : Nat} (hf : Fits ls) (hok : LOk ls k) (hg : ls.getD k 0 = x1) : (((2 ^ x1 ||| codeOf ls k : Nat)) : Int) = ((ckey ls k : Nat) : Int) := by
 have h1 := hf k hok
 unfold ckey
 rw [hg] at *
 have := Nat.two_pow_add_eq_or_of_lt h1 1
 rw [Nat.mul_one] at this
 rw [this]
end
theorem t92 (A : HProp) (ls : List Nat) (lb lo lc : Nat) (hR : ∀ {G w : World} {L : List HProp}, A ∈ L → Sat G w L → ∀ j x, ls[j]? = some x → w.cell? ⟨lb, lo + j, none⟩ = some (i64 x)) (hls : ls.length ≤ 1024) (h15 : ∀ x ∈ ls, x ≤ 15) (hf : Fits ls) {G : World} {R : List HProp} {w : World} (hS : Sat G w (A :: R)) :
 CallsR Tryz.prog 92 #[(.slice (some ⟨lb, lo, none⟩) ls.length lc)] w (fun v w' => ∃ mb, v = .map (some mb) ∧ Sat G w' (BkP mb ls ls.length :: A :: R)) := by
 refine calls_in (n := 31) [(0, (.slice (some ⟨lb, lo, none⟩) ls.length lc))] Tryz.func92 rfl rfl hS args1 ?_
 refine CT.q (TL.val (r_asg .c) (TL.q (TL.w r_makeMap ?_)))
 rintro _ w6 ⟨mb, rfl, hS⟩
 refine TW.at hS (TL.a m0 (TL.b (.hd .u1) (CT.seq (CT.q (TL.m m2 (TL.perm p1 (TL.call (r_call ce_79 (.cons T0 .nil)) (fun w hS => t79 A ls lb lo lc hR hls hS) ?_)))))))
 rintro v8 w8 hS
 refine TW.at hS (TL.val (r_lens Tryz.underlying42 T0 m0) (TL.val (r_move .c) (TL.b (.hd (.hd (.hd .u1))) (CT.block (CT.perm p2 (CT.conv (fun _ h => bkP_zero (ls := ls) h) ?_))))))
 refine CT.loop (X := Nat) (fun gx => [(10, (i64 gx)), (9, (i64 ls.length)), (8, v8), (3, (.map (some mb))), (2, _), (0, (.slice (some ⟨lb, lo, none⟩) ls.length lc))]) (fun gx => (BkP mb ls gx) :: slc 1 v8 ls.length ((codes ls).map i64) :: A :: R) (fun gx => gx ≤ ls.length) (fun gx => ls.length - gx) 0 (Nat.zero_le _) (.refl _) (.sl 0 6 rfl) ?_
 rintro k hI1
 refine CT.q (TL.val (n_lss k ls.length T0 T1) (TL.e (CT.seq (CT.ifd m0 (fun c11 => ?_) (fun c11 => ?_)))))
 ·
  refine CT.z (EX.seq (CT.seq (CT.block (CT.seq ?_))))
  obtain ⟨x1, hx1⟩ : ∃ x1, ls[k]? = some x1 := ⟨_, List.getElem?_eq_getElem c11⟩
  have hg : ls.getD k 0 = x1 := by rw [List.getD_eq_getElem?_getD, hx1]; rfl
  have hx15 : x1 ≤ 15 := h15 x1 (List.mem_of_getElem? hx1)
  refine CT.peek m1 (by omega) ?_
  intro pa pa_c pa_v pa_k pa_l
  refine CT.region (TL.m m0 (TL.val (r_ia (i := k) (off' := k) Tryz.underlying42 Tryz.sizeOf3 (.te m3 pa_v) T1 rfl (by omega) (by omega)) (TL.val (r_lds (u := (i64 (cpart ls 16 0 k))) Tryz.isAgg3 m1 pa_v T0 (codes_at c11)) (TL.a m2 (TL.a m1 (TL.r (.hd (.hd .u3)) (TL.m m7 (TL.m m2 (TL.val (r_ia (i := k) (off' := lo + k) Tryz.underlying42 Tryz.sizeOf3 T1 T0 rfl (by omega) (by omega)) (TL.val (r_ldc (v := (i64 x1)) Tryz.isAgg3 T0 (fun w hS => hR (by first | exact .head _ | exact .tail _ (.head _) | exact .tail _ (.tail _ (.head _))) hS _ _ hx1)) (TL.val (n_gtr x1 0 T0 .c) (TL.b (.hd .u4) (CT.ifd m0 (fun c19 => ?_) (fun c19 => ?_))))))))))))))
  ·
   refine CT.sub .u1 ?_
   have hok : LOk ls k := ⟨c11, by rw [hg]; omega, by rw [hg]; omega⟩
   have hcl := hf k hok
   have hcp := cpart_ok hok
   have hpw : 2 ^ x1 ≤ 2 ^ 15 := Nat.pow_le_pow_right (by decide) hx15
   rw [hg] at hcl
   refine CT.bkp ?_
   intro fm sz hb hsz
   exact CT.region (TL.m m5 (TL.m m8 (TL.m m3 (TL.val (r_ia (i := k) (off' := lo + k) Tryz.underlying42 Tryz.sizeOf3 T1 T0 rfl (by omega) (by omega)) (TL.val (r_ldc (v := (i64 x1)) Tryz.isAgg3 T0 (fun w hS => hR (by first | exact .head _ | exact .tail _ (.head _) | exact .tail _ (.tail _ (.head _))) hS _ _ hx1)) (TL.val (n_shl 1 x1 9223372036854775808 .c T0 rfl rfl (show _ ≤ 64 by omega) (by omega)) (TL.m m6 (TL.val (n_or ((1 * 2 ^ x1)) ((cpart ls 16 0 k)) 9223372036854775808 T1 T0 rfl rfl (by omega) (by omega)) (TL.m m9 (TL.s (r_mapUpdate Tryz.underlying132 Tryz.underlying3 T8 T1 T0) (TL.conv (fun _ h => bkP_put hf hok hb hsz hx1 (by rw [hcp, Nat.one_mul]; exact ckey_or hf hok hg) h) (TL.x .u9 (EX.bnormal (EX.seq (CT.region (TL.val (n_add k 1 9223372036854775808 T2 .c) (TL.rm .h3 (TL.m m0 (TL.x (.hd .u1) (EX.again (k + 1) (by omega) (by omega) (.refl _) (.eq m0 (by first | rfl | (congr 1 <;> omega)) (.sl 3 5 rfl))))))))))))))))))))))
  refine CT.z (EX.bnormal (EX.seq (CT.region (TL.val (n_add k 1 9223372036854775808 T2 .c) (TL.rm .h3 (TL.m m0 (TL.x (.hd .u1) (EX.conv (fun _ h => bkP_skip hx1 c19 h) ?_))))))))
  exact EX.again (k + 1) (by omega) (by omega) (.refl _) (.eq m0 (by first | rfl | (congr 1 <;> omega)) (.sl 3 5 rfl))
 exact CT.sub .u1 (CT.exit (EX.then_exit (EX.then_exit (EX.out (EX.q (TL.m m3 (TL.rm .h5 (TL.a m0 (TL.b (.hd .u1) (CT.ret (EX.perm p2 (EX.perm p1 (EX.end_ (.inl rfl) (res1 Tryz.results92 m0) (fun _ hS => ⟨mb, rfl, keep2 (by obtain rfl : k = ls.length := (by omega); exact hS)⟩))))))))))))))
end Go.Eng
namespace Go.Eng
open Go Go.Proofs Go.Infl
def DRd (DA : HProp) (dv : Value) (dd : List Nat) : Prop := (dv = .slice none 0 0 ∧ dd = []) ∨ ∃ b off c, dv = .slice (some ⟨b, off, none⟩) dd.length c ∧ ∀ {G w : World} {L : List HProp}, DA ∈ L → Sat G w L → ∀ j x, dd[j]? = some x → w.cell? ⟨b, off + j, none⟩ = some (u8 x)
theorem DRd.shape {DA : HProp} {dv : Value} {dd : List Nat} (h : DRd DA dv dd) : ∃ p c, dv = .slice p dd.length c := by
 rcases h with ⟨rfl, rfl⟩ | ⟨b, off, c, rfl, _⟩
 ·
  exact ⟨none, 0, rfl⟩
 exact ⟨_, _, rfl⟩
theorem DRd.at_ {DA : HProp} {dv : Value} {dd : List Nat} (h : DRd DA dv dd) (h0 : 0 < dd.length) : ∃ b off c, dv = .slice (some ⟨b, off, none⟩) dd.length c ∧ ∀ {G w : World} {L : List HProp}, DA ∈ L → Sat G w L → ∀ j x, dd[j]? = some x → w.cell? ⟨b, off + j, none⟩ = some (u8 x) := by
 rcases h with ⟨rfl, rfl⟩ | ⟨b, off, c, rfl, h⟩
 ·
  cases h0
 exact ⟨b, off, c, rfl, h⟩
theorem xsM_next {h : List Nat} {d j x : Nat} (hx : (copyM h d j)[h.length + j - d]? = some x) : xsM h d (j + 1) = xsM h d j ++ [x] := by
 unfold xsM
 rw [copyM, List.drop_append_of_le_length (by rw [copyM_length]; omega), copyM_length, List.getD_eq_getElem?_getD, hx]; rfl
theorem far_own {dd out xs : List Nat} {d j x : Nat} (hx : (dd ++ (out ++ xs))[dd.length + out.length + j - d]? = some x) (h1 : d ≤ out.length + j) : (out ++ xs)[out.length + j - d]? = some x := by
 rw [List.getElem?_append_right (by omega)] at hx
 rwa [show dd.length + out.length + j - d - dd.length = out.length + j - d by omega] at hx
theorem far_dict {dd out xs : List Nat} {d j x : Nat} (hx : (dd ++ (out ++ xs))[dd.length + out.length + j - d]? = some x) (h1 : out.length + j < d) (h2 : d ≤ dd.length + out.length) : dd[dd.length + (out.length + j) - d]? = some x := by
 rw [List.getElem?_append_left (by omega)] at hx
 rwa [show dd.length + out.length + j - d = dd.length + (out.length + j) - d by omega] at hx
theorem t97 {p at_ dc n d : Nat} {sv : Value} {dp : Option Addr} {B : List Bool} {out dd : List Nat} {DA : HProp} (hDR : DRd DA (.slice dp dd.length dc) dd) (hd : 1 ≤ d) (hdl : d ≤ dd.length + out.length) (hd2 : d ≤ 32768) (ho : out.length + n ≤ 131072) (hn : n ≤ 258) (hdd : dd.length ≤ 32768) {G : World} {R : List HProp} {w : World} (hS : Sat G w ((Sp p sv (B) at_ (.slice dp dd.length dc) out ((-1))) :: DA :: R)) :
 CallsR Tryz.prog 97 #[(pt p 0), (i64 n), (i64 d)] w (fun v w' => v = .tuple #[] ∧ Sat G w' (Sp p sv B at_ (.slice dp dd.length dc) (out ++ xsM (dd ++ out) d n) (-1) :: DA :: R)) := by
 refine calls_in (n := 69) [(0, (pt p 0)), (1, (i64 n)), (2, (i64 d))] Tryz.func97 rfl rfl hS args3 ?_
 refine CT.seq (CT.q (TL.m m0 (TL.call (r_call ce_47 (.cons T0 .nil)) (fun w hS => t47 (r := true) (by decide) hS) ?_)))
 rintro _ w8 ⟨rfl, hS⟩
 refine TW.at hS (TL.val (r_nott T0) (TL.b (.hd .u2) (CT.iff_ m0 ?_)))
 refine CT.z (EX.seq (CT.seq (CT.seq (CT.sp ?_))))
 intro ov1
 refine CT.still fm (by kernel_rfl) ?_
 refine TS.m m2 (TS.val (n_gtr d 32768 T0 .c) (TS.m m0 ?_))
 by_cases g12 : 32768 < d
 ·
  exfalso; omega
 refine TS.sub (ρ' := [(12, (.bool false)), (11, (.bool false)), (10, (i64 d)), (0, (pt p 0)), (1, (i64 n)), (2, (i64 d))]) (.eq m0 (congrArg Value.bool (decide_eq_false g12)) (.eq m1 (congrArg Value.bool (decide_eq_false g12)) (.sl 2 4 rfl))) (TS.gv m0 (r_move T5) (TS.gv m1 (r_move T4) (TS.gv m2 (r_nil T0) (TS.gv m3 (r_fa (off' := 2) fo_56_2 T0) (TS.gv m4 (r_ld (v := (.slice dp dd.length dc)) Tryz.isAgg22 m0 T0 (by decide) rfl) (TS.gv m5 (r_len Tryz.underlying22 T0) (TS.gv m6 (r_move T9) (TS.gv m7 (r_nil T0) (TS.gv m8 (r_fa (off' := 3) fo_56_3 T0) (TS.gv m9 (r_ld (v := ov1) Tryz.isAgg22 m0 T0 (by decide) rfl) (TS.gv m10 (r_lens Tryz.underlying22 T0 m2) (TS.gv m11 (n_add dd.length ((out).length) 9223372036854775808 T5 T0) (TS.gv m12 (n_gtr d ((dd.length + (out).length)) T11 T0) (TS.val (r_pickf T13 T0) (TS.nil (TL.b (.hd .u16) (CT.ifd m0 (fun c26 => ?_) (fun c26 => ?_))))))))))))))))))
 ·
  exfalso; omega
 refine CT.z (EX.q (TL.m m1 (TL.val (r_move .c) (TL.b (.hd (.hd (.hd .u1))) (CT.block (CT.perm p2 (CT.perm p2 (CT.perm p2 (CT.unsp ?_)))))))))
 refine CT.fold (A' := (Sp p sv (B) at_ (.slice dp dd.length dc) (out ++ xsM (dd ++ out) d 0) ((-1)))) a0 (Sp_eq rfl (by rw [show xsM (dd ++ out) d 0 = [] from List.length_eq_zero_iff.1 (xsM_length _ _ _), List.append_nil])) (CT.loop (X := Nat) (fun gx => [(30, (i64 gx)), (29, (i64 n)), (0, (pt p 0)), (2, (i64 d))]) (fun gx => (Sp p sv (B) at_ (.slice dp dd.length dc) (out ++ xsM (dd ++ out) d gx) ((-1))) :: DA :: R) (fun gx => gx ≤ n) (fun gx => n - gx) 0 (Nat.zero_le _) (.refl _) (.sl 0 4 rfl) ?_)
 rintro j hI1
 refine CT.q (TL.val (n_lss j n T0 T1) (TL.e (CT.seq (CT.ifd m0 (fun c31 => ?_) (fun c31 => ?_)))))
 ·
  have hxl := xsM_length (dd ++ out) d j
  have hol : (out ++ xsM (dd ++ out) d j).length = out.length + j := by rw [List.length_append, hxl]
  obtain ⟨x1, hx1⟩ : ∃ x1, (copyM (dd ++ out) d j)[(dd ++ out).length + j - d]? = some x1 := ⟨_, List.getElem?_eq_getElem (by rw [copyM_length, List.length_append]; omega)⟩
  have hsu := xsM_next hx1
  rw [copyM_split, List.length_append, List.append_assoc] at hx1
  refine CT.z (EX.seq (CT.seq (CT.block (CT.seq (CT.sp ?_)))))
  intro ov2
  refine CT.region (TL.m m2 (TL.c m0 (TL.f 3 fo_56_3 m0 (TL.val (r_ld (v := ov2) Tryz.isAgg22 m0 T0 (by decide) rfl) (TL.val (r_lens Tryz.underlying22 T0 m2) (TL.m m8 (TL.val (r_sub (z := (((out.length + j : Nat) : Int) - (d : Int))) T1 T0 (wi (by rw [hol]; omega))) (TL.a m0 (TL.b (.hd .u7) (CT.seq (CT.q (TL.m m0 (TL.val (r_geq T0 .c) (TL.b (.hd .u1) (CT.ifd m0 (fun c40 => ?_) (fun c40 => ?_))))))))))))))))
  ·
   refine CT.sub .u1 (CT.peek m2 (by rw [hol]; omega) ?_)
   intro ob ob_c ob_v ob_k ob_l
   refine CT.region (TL.m m3 (TL.m m4 (TL.c m0 (TL.f 3 fo_56_3 m0 (TL.val (r_ld (v := ov2) Tryz.isAgg22 m0 T0 (by decide) rfl) (TL.m m5 (TL.val (r_ia (i := out.length + j - d) (off' := out.length + j - d) Tryz.underlying22 Tryz.sizeOf5 (.te m1 ob_v) T0 ((by omega)) (by rw [hol]; omega) (by omega)) (TL.val (r_lds (u := (u8 x1)) Tryz.isAgg5 m2 ob_v T0 (by rw [List.getElem?_map, far_own hx1 (by omega)]; rfl)) ?_))))))))
   refine TL.perm p2 (TL.perm p2 (TL.perm p2 (TL.unsp ?_)))
   refine TL.call (r_call ce_91 (.cons T7 (.cons T0 .nil))) (fun w hS => t91 x1 (by rw [hol]; omega) hS) ?_
   rintro _ w49 ⟨rfl, hS⟩
   refine TW.at hS (TL.r .u9 (TL.m m3 (TL.call (r_call ce_47 (.cons T0 .nil)) (fun w hS => t47 (r := true) (by decide) hS) ?_)))
   rintro _ w66 ⟨rfl, hS⟩
   refine TW.at hS (TL.val (r_nott T0) (TL.b (.hd .u2) (CT.iff_ m0 ?_)))
   exact CT.z (EX.bnormal (EX.seq (CT.region (TL.val (n_add j 1 9223372036854775808 T1 .c) (TL.rm .h2 (TL.m m0 (TL.x (.hd .u1) (EX.fold (A' := (Sp p sv (B) at_ (.slice dp dd.length dc) (out ++ xsM (dd ++ out) d (j + 1)) ((-1)))) a0 (Sp_eq rfl (by rw [List.append_assoc, ← hsu])) (EX.again (j + 1) (by omega) (by omega) (.refl _) (.eq m0 (by first | rfl | (congr 1 <;> omega)) (.sl 2 3 rfl)))))))))))
  refine CT.sub .u1 ?_
  obtain ⟨db, doff, dc2, hdv, hdr⟩ := hDR.at_ (by omega)
  refine CT.draw 14 fm (by kernel_rfl) ?_
  refine TS.m m3 (TS.m m4 (TS.c m0 (TS.f 2 fo_56_2 m0 (TS.val (r_ld (v := (.slice dp dd.length dc)) Tryz.isAgg22 m0 T0 (by decide) rfl) (TS.sub (ρ' := [(54, (.slice (some ⟨db, doff, none⟩) dd.length dc2)), (53, (pt p 2)), (52, (pt p 0)), (51, (pt p 0)), (50, (pt p 0)), (6, (.int .i64 (((out.length + j : Nat) : Int) - (d : Int)))), (30, (i64 j)), (29, (i64 n)), (0, (pt p 0)), (2, (i64 d))]) (.eq m0 hdv (.sl 1 9 rfl)) (TS.m m8 (TS.c m0 (TS.f 2 fo_56_2 m0 (TS.val (r_ld (v := (.slice dp dd.length dc)) Tryz.isAgg22 m0 T0 (by decide) rfl) (TS.val (r_len Tryz.underlying22 T0) (TS.m m10 (TS.val (r_add (z := (((dd.length + (out.length + j) - d) : Nat) : Int)) T1 T0 (wi (by omega))) (TS.val (r_ia (i := (dd.length + (out.length + j) - d)) (off' := doff + (dd.length + (out.length + j) - d)) Tryz.underlying22 Tryz.sizeOf5 T7 T0 rfl (by omega) (by omega)) (TS.val (r_ldc (v := (u8 x1)) Tryz.isAgg5 T0 (fun w hS => hdr (by first | exact .head _ | exact .tail _ (.head _) | exact .tail _ (.tail _ (.head _)) | exact .tail _ (.tail _ (.tail _ (.head _)))) hS _ _ (far_dict hx1 (by omega) (by omega)))) (TS.nil (TL.perm p2 (TL.perm p2 (TL.perm p2 (TL.unsp ?_)))))))))))))))))))
  refine TL.call (r_call ce_91 (.cons T13 (.cons T0 .nil))) (fun w hS => t91 x1 (by rw [hol]; omega) hS) ?_
  rintro _ w64 ⟨rfl, hS⟩
  refine TW.at hS (TL.r .u15 (TL.m m3 (TL.call (r_call ce_47 (.cons T0 .nil)) (fun w hS => t47 (r := true) (by decide) hS) ?_)))
  rintro _ w66 ⟨rfl, hS⟩
  refine TW.at hS (TL.val (r_nott T0) (TL.b (.hd .u2) (CT.iff_ m0 ?_)))
  exact CT.z (EX.bnormal (EX.seq (CT.region (TL.val (n_add j 1 9223372036854775808 T1 .c) (TL.rm .h2 (TL.m m0 (TL.x (.hd .u1) (EX.fold (A' := (Sp p sv (B) at_ (.slice dp dd.length dc) (out ++ xsM (dd ++ out) d (j + 1)) ((-1)))) a0 (Sp_eq rfl (by rw [List.append_assoc, ← hsu])) (EX.again (j + 1) (by omega) (by omega) (.refl _) (.eq m0 (by first | rfl | (congr 1 <;> omega)) (.sl 2 3 rfl)))))))))))
 exact CT.sub .u1 (CT.exit (EX.then_exit (EX.then_exit (EX.out (EX.perm p1 (EX.perm p1 (EX.end_ (.inr rfl) (res0 Tryz.results97) (fun _ hS => ⟨rfl, by obtain rfl : j = n := (by omega); exact hS⟩))))))))
theorem t97_b {p at_ dc n d : Nat} {sv : Value} {dp : Option Addr} {B : List Bool} {out dd : List Nat} {DA : HProp} (hDR : DRd DA (.slice dp dd.length dc) dd) (hd2 : d ≤ 32768) (hbad : dd.length + out.length < d) (ho : out.length ≤ 131072) (hdd : dd.length ≤ 32768) {G : World} {R : List HProp} {w : World} (hS : Sat G w ((Sp p sv (B) at_ (.slice dp dd.length dc) out ((-1))) :: DA :: R)) :
 CallsR Tryz.prog 97 #[(pt p 0), (i64 n), (i64 d)] w (fun v w' => v = .tuple #[] ∧ Sat G w' (Sp p sv B at_ (.slice dp dd.length dc) out 2 :: DA :: R)) := by
 refine calls_in (n := 69) [(0, (pt p 0)), (1, (i64 n)), (2, (i64 d))] Tryz.func97 rfl rfl hS args3 ?_
 refine CT.seq (CT.q (TL.m m0 (TL.call (r_call ce_47 (.cons T0 .nil)) (fun w hS => t47 (r := true) (by decide) hS) ?_)))
 rintro _ w8 ⟨rfl, hS⟩
 refine TW.at hS (TL.val (r_nott T0) (TL.b (.hd .u2) (CT.iff_ m0 ?_)))
 refine CT.z (EX.seq (CT.seq (CT.seq (CT.sp ?_))))
 intro ov1
 refine CT.still fm (by kernel_rfl) ?_
 refine TS.m m2 (TS.val (n_gtr d 32768 T0 .c) (TS.m m0 ?_))
 by_cases g12 : 32768 < d
 ·
  exfalso; omega
 refine TS.sub (ρ' := [(12, (.bool false)), (11, (.bool false)), (10, (i64 d)), (0, (pt p 0)), (1, (i64 n)), (2, (i64 d))]) (.eq m0 (congrArg Value.bool (decide_eq_false g12)) (.eq m1 (congrArg Value.bool (decide_eq_false g12)) (.sl 2 4 rfl))) (TS.gv m0 (r_move T5) (TS.gv m1 (r_move T4) (TS.gv m2 (r_nil T0) (TS.gv m3 (r_fa (off' := 2) fo_56_2 T0) (TS.gv m4 (r_ld (v := (.slice dp dd.length dc)) Tryz.isAgg22 m0 T0 (by decide) rfl) (TS.gv m5 (r_len Tryz.underlying22 T0) (TS.gv m6 (r_move T9) (TS.gv m7 (r_nil T0) (TS.gv m8 (r_fa (off' := 3) fo_56_3 T0) (TS.gv m9 (r_ld (v := ov1) Tryz.isAgg22 m0 T0 (by decide) rfl) (TS.gv m10 (r_lens Tryz.underlying22 T0 m2) (TS.gv m11 (n_add dd.length ((out).length) 9223372036854775808 T5 T0) (TS.gv m12 (n_gtr d ((dd.length + (out).length)) T11 T0) (TS.val (r_pickf T13 T0) (TS.nil (TL.b (.hd .u16) (CT.ifd m0 (fun c26 => ?_) (fun c26 => ?_))))))))))))))))))
 ·
  refine CT.y (TL.m m0 (TL.perm p2 (TL.perm p2 (TL.perm p2 (TL.unsp ?_)))))
  refine TL.call (r_call ce_49 (.cons T0 (.cons .c .nil))) (fun w hS => t49_1 hS) ?_
  rintro _ w28 ⟨rfl, hS⟩
  exact TW.at hS (TL.b .u2 (CT.ret (EX.then_ret (EX.perm p1 (EX.perm p1 (EX.end_ (.inl rfl) (res0 Tryz.results97) (fun _ hS => ⟨rfl, hS⟩)))))))
 exfalso; omega
end Go.Eng
namespace Go.Infl
theorem After.len {fin : Bool} {pos : Nat} {rest : List Bool} {h : List Nat} {hF : List Nat × Bool} (H : After fin pos rest h hF) : h.length ≤ hF.1.length := by
 cases fin with
 | true => rw [(H.1 rfl).1]; exact Nat.le_refl _
 | false =>
  obtain ⟨st, tail, _, e⟩ := H.2 rfl
  exact e.len
theorem HTail.len {ls ds : List Nat} {fin : Bool} {k : Nat} {bits : List Bool} {h : List Nat} {hF : List Nat × Bool} (H : HTail ls ds fin k bits h hF) : h.length ≤ hF.1.length := by
 obtain ⟨its, b1, tl, _, _, _, h3⟩ := H
 have h0 := gives_le h its
 rcases h3 with ⟨rest, _, h3⟩ | ⟨h3, _⟩
 ·
  exact Nat.le_trans h0 h3.len
 rw [h3]; exact h0
theorem nx_cons (l : Nat) (ls : List Nat) : ∀ n, nx (l :: ls) n = nx ls n + (if 1 ≤ l ∧ l < n then 2 ^ (n - 1 - l) else 0)
 | 0 => by simp [nx]
 | n + 1 => by
  rw [nx, nx, nx_cons l ls n, List.count_cons]
  by_cases h0 : n = 0
  ·
   subst h0
   rw [if_pos rfl, if_pos rfl, if_neg (by omega), if_neg (by omega)]; omega
  rw [if_neg h0, if_neg h0]
  by_cases h1 : 1 ≤ l ∧ l < n
  ·
   rw [if_pos h1, if_pos (show 1 ≤ l ∧ l < n + 1 by omega), if_neg (show ¬ (l == n) = true by simp; omega), show n + 1 - 1 - l = (n - 1 - l) + 1 by omega, Nat.pow_succ]
   omega
  rw [if_neg h1]
  by_cases h2 : l = n
  ·
   subst h2; rw [if_pos (show (l == l) = true by simp), if_pos (show 1 ≤ l ∧ l < l + 1 by omega), show l + 1 - 1 - l = 0 by omega]; omega
  rw [if_neg (show ¬ (l == n) = true by simp; omega), if_neg (show ¬ (1 ≤ l ∧ l < n + 1) by omega)]; omega
def kraft : List Nat → Nat
 | [] => 0
 | l :: ls => (if l = 0 then 0 else 2 ^ (15 - l)) + kraft ls
theorem nx_nil : ∀ n, nx [] n = 0
 | 0 => rfl
 | n + 1 => by rw [nx, nx_nil n]; simp
theorem kraft_nx : ∀ {ls : List Nat}, (∀ x ∈ ls, x ≤ 15) → nx ls 16 = kraft ls
 | [], _ => nx_nil 16
 | l :: ls, h => by
  rw [nx_cons, kraft, kraft_nx (ls := ls) (fun x hx => h x (List.mem_cons_of_mem _ hx))]
  have := h l (List.mem_cons_self ..)
  by_cases h0 : l = 0
  ·
   rw [if_neg (by omega), if_pos h0]; omega
  rw [if_pos (by omega), if_neg h0, show 16 - 1 - l = 15 - l by omega]; omega
theorem kraft_append : ∀ (a b : List Nat), kraft (a ++ b) = kraft a + kraft b
 | [], b => by simp [kraft]
 | l :: a, b => by rw [List.cons_append, kraft, kraft, kraft_append a b]; omega
theorem kraft_succ {ls : List Nat} {k x : Nat} (h : ls[k]? = some x) : kraft (ls.take (k + 1)) = kraft (ls.take k) + (if x = 0 then 0 else 2 ^ (15 - x)) := by
 rw [List.take_add_one, h, kraft_append]; simp [kraft]
theorem kraft_le : ∀ (ls : List Nat), kraft ls ≤ 32768 * ls.length
 | [] => Nat.le_refl _
 | l :: ls => by
  have := kraft_le ls
  have h2 : 2 ^ (15 - l) ≤ 2 ^ 15 := Nat.pow_le_pow_right (by decide) (by omega)
  rw [kraft, List.length_cons]
  split <;> omega
theorem Full.kraft {ls : List Nat} (h : Full ls) (h15 : ∀ x ∈ ls, x ≤ 15) : kraft ls = 32768 := by rw [← kraft_nx h15]; exact h
theorem Over.kraft {ls : List Nat} (h : Over ls) (h15 : ∀ x ∈ ls, x ≤ 15) : 32768 < kraft ls := by rw [← kraft_nx h15]; exact h
end Go.Infl
namespace Go.Eng
open Go Go.Proofs Go.Infl
theorem cpart_lt {ls : List Nat} {k : Nat} (hl : ls.length ≤ 1024) : cpart ls 16 0 k < 268435456 := by
 unfold cpart
 split
 ·
  rename_i h
  have := nx_lt (ls := ls) (n := ls.getD k 0) (by omega) hl
  have h2 : (ls.take k).count (ls.getD k 0) ≤ 1024 := Nat.le_trans List.count_le_length (by rw [List.length_take]; omega)
  unfold codeOf
  omega
 decide
theorem usedN_le (ls : List Nat) (k : Nat) : usedN ls k ≤ k := by
 unfold usedN
 exact Nat.le_trans List.countP_le_length (by rw [List.length_take]; omega)
theorem usedN_mono {ls : List Nat} {j k : Nat} (h : j ≤ k) : usedN ls j ≤ usedN ls k := by
 unfold usedN
 rw [show ls.take j = (ls.take k).take j by rw [List.take_take, Nat.min_eq_left h]]
 exact List.Sublist.countP_le (List.take_sublist _ _)
theorem usedN_pos {ls : List Nat} {i : Nat} (h : LOk ls i) : usedN ls i < usedN ls ls.length := by
 have h1 := usedN_succ (lens_get h)
 rw [if_pos h.2] at h1
 have := usedN_mono (ls := ls) (j := i + 1) (k := ls.length) h.1
 omega
theorem usedN_two {ls : List Nat} (h : Full ls) : 2 ≤ usedN ls ls.length := by
 obtain ⟨i, j, hij, hi, hj⟩ := h.used
 have h1 := usedN_succ (lens_get hi)
 rw [if_pos hi.2] at h1
 have h2 := usedN_mono (ls := ls) (j := i + 1) (k := j) hij
 have h3 := usedN_pos hj
 omega
theorem usedN_zero {ls : List Nat} (h : ∀ x ∈ ls, x = 0) (k : Nat) : usedN ls k = 0 := by
 unfold usedN
 rw [List.countP_eq_zero]
 intro x hx
 have := h x (List.mem_of_mem_take hx)
 subst this; decide
theorem t94_z (k : Nat) (h1 : 286 ≤ k) {G : World} {R : List HProp} {w : World} (hS : Sat G w (R)) :
 CallsR Tryz.prog 94 #[(i64 k)] w (fun v w' => v = .tuple #[i64 0, i64 0] ∧ Sat G w' R) := by
 refine calls_in (n := 35) [(0, (i64 k))] Tryz.func94 rfl rfl hS args1 ?_
 refine CT.q (TL.val (r_asg .c) (TL.val (r_asg .c) (TL.e (CT.seq (CT.block (CT.q (TL.m m2 (TL.val (n_eql k 285 T0 .c) (TL.a m0 (TL.b (.hd .u2) (CT.ifd m0 (fun c5 => ?_) (fun c5 => ?_))))))))))))
 ·
  exfalso; omega
 refine CT.y (TL.m m2 (TL.val (n_geq k 257 T0 .c) (TL.m m0 ?_)))
 by_cases g11 : 257 ≤ k
 ·
  refine TL.sub (.eq m0 (congrArg Value.bool (decide_eq_true g11)) (.eq m1 (congrArg Value.bool (decide_eq_true g11)) (.cons m2 (.cons m3 (.cons m4 (.cons m5 .nil)))))) (TL.gv m0 (r_move T5) (TL.gv m1 (n_leq k 264 T0 .c) (TL.val (r_pickt T2 T0) (TL.a m0 (TL.b (.hd .u6) (CT.ifd m0 (fun c8 => ?_) (fun c8 => ?_)))))))
  ·
   exfalso; omega
  refine CT.y (TL.m m2 (TL.val (n_geq k 265 T0 .c) (TL.m m0 ?_)))
  by_cases g20 : 265 ≤ k
  ·
   refine TL.sub (.eq m0 (congrArg Value.bool (decide_eq_true g20)) (.eq m1 (congrArg Value.bool (decide_eq_true g20)) (.cons m2 (.cons m3 (.cons m4 (.cons m5 .nil)))))) (TL.gv m0 (r_move T5) (TL.gv m1 (n_leq k 284 T0 .c) (TL.val (r_pickt T2 T0) (TL.a m0 (TL.b (.hd .u6) (CT.ifd m0 (fun c17 => ?_) (fun c17 => ?_)))))))
   ·
    exfalso; omega
   exact CT.z (EX.bnormal (EX.q (TL.rm .h1 (TL.val (r_asg .c) (TL.rm .h1 (TL.val (r_asg .c) (TL.e (CT.ret (EX.end_ (.inl rfl) (res2 Tryz.results94 m1 m0) (fun _ hS => ⟨rfl, hS⟩))))))))))
  exfalso; omega
 exfalso; omega
theorem t96_z (k : Nat) (h1 : 30 ≤ k) {G : World} {R : List HProp} {w : World} (hS : Sat G w (R)) :
 CallsR Tryz.prog 96 #[(i64 k)] w (fun v w' => v = .tuple #[i64 0, i64 0] ∧ Sat G w' R) := by
 refine calls_in (n := 31) [(0, (i64 k))] Tryz.func96 rfl rfl hS args1 ?_
 refine CT.q (TL.val (r_asg .c) (TL.val (r_asg .c) (TL.e (CT.seq (CT.block (CT.q (TL.m m2 (TL.val (n_geq k 0 T0 .c) (TL.m m0 ?_)))))))))
 by_cases g8 : 0 ≤ k
 ·
  refine TL.sub (.eq m0 (congrArg Value.bool (decide_eq_true g8)) (.eq m1 (congrArg Value.bool (decide_eq_true g8)) (.cons m2 (.cons m3 (.cons m4 (.cons m5 .nil)))))) (TL.gv m0 (r_move T5) (TL.gv m1 (n_leq k 3 T0 .c) (TL.val (r_pickt T2 T0) (TL.a m0 (TL.b (.hd .u6) (CT.ifd m0 (fun c5 => ?_) (fun c5 => ?_)))))))
  ·
   exfalso; omega
  refine CT.y (TL.m m2 (TL.val (n_geq k 4 T0 .c) (TL.m m0 ?_)))
  by_cases g17 : 4 ≤ k
  ·
   refine TL.sub (.eq m0 (congrArg Value.bool (decide_eq_true g17)) (.eq m1 (congrArg Value.bool (decide_eq_true g17)) (.cons m2 (.cons m3 (.cons m4 (.cons m5 .nil)))))) (TL.gv m0 (r_move T5) (TL.gv m1 (n_leq k 29 T0 .c) (TL.val (r_pickt T2 T0) (TL.a m0 (TL.b (.hd .u6) (CT.ifd m0 (fun c14 => ?_) (fun c14 => ?_)))))))
   ·
    exfalso; omega
   exact CT.z (EX.bnormal (EX.q (TL.rm .h1 (TL.val (r_asg .c) (TL.rm .h1 (TL.val (r_asg .c) (TL.e (CT.ret (EX.end_ (.inl rfl) (res2 Tryz.results96 m1 m0) (fun _ hS => ⟨rfl, hS⟩))))))))))
  exfalso; omega
 exfalso; omega
theorem t92_o (A : HProp) (ls : List Nat) (lb lo lc : Nat) (hR : ∀ {G w : World} {L : List HProp}, A ∈ L → Sat G w L → ∀ j x, ls[j]? = some x → w.cell? ⟨lb, lo + j, none⟩ = some (i64 x)) (hls : ls.length ≤ 1024) (h15 : ∀ x ∈ ls, x ≤ 15) {G : World} {R : List HProp} {w : World} (hS : Sat G w (A :: R)) :
 CallsR Tryz.prog 92 #[(.slice (some ⟨lb, lo, none⟩) ls.length lc)] w (fun v w' => ∃ mb fm sz, v = .map (some mb) ∧ Sat G w' (imap mb fm sz :: A :: R)) := by
 refine calls_in (n := 31) [(0, (.slice (some ⟨lb, lo, none⟩) ls.length lc))] Tryz.func92 rfl rfl hS args1 ?_
 refine CT.q (TL.val (r_asg .c) (TL.q (TL.w r_makeMap ?_)))
 rintro _ w6 ⟨mb, rfl, hS⟩
 refine TW.at hS (TL.a m0 (TL.b (.hd .u1) (CT.seq (CT.q (TL.m m2 (TL.perm p1 (TL.call (r_call ce_79 (.cons T0 .nil)) (fun w hS => t79 A ls lb lo lc hR hls hS) ?_)))))))
 rintro v8 w8 hS
 refine TW.at hS (TL.val (r_lens Tryz.underlying42 T0 m0) (TL.val (r_move .c) (TL.b (.hd (.hd (.hd .u1))) (CT.block (CT.perm p1 (CT.perm p1 (CT.perm p2 (CT.loop (X := Nat × (Int → Option Int) × Nat) (fun gx => [(10, (i64 gx.1)), (9, (i64 ls.length)), (8, v8), (3, (.map (some mb))), (2, _), (0, (.slice (some ⟨lb, lo, none⟩) ls.length lc))]) (fun gx => (imap mb gx.2.1 gx.2.2) :: slc 1 v8 ls.length ((codes ls).map i64) :: A :: R) (fun gx => gx.1 ≤ ls.length) (fun gx => ls.length - gx.1) ((0, (fun _ => none), 0)) (Nat.zero_le _) (.refl _) (.sl 0 6 rfl) ?_))))))))
 rintro ⟨k, fm, sz⟩ hI1
 replace hI1 : k ≤ ls.length := hI1
 refine CT.q (TL.val (n_lss k ls.length T0 T1) (TL.e (CT.seq (CT.ifd m0 (fun c11 => ?_) (fun c11 => ?_)))))
 ·
  refine CT.z (EX.seq (CT.seq (CT.block (CT.seq ?_))))
  obtain ⟨x1, hx1⟩ : ∃ x1, ls[k]? = some x1 := ⟨_, List.getElem?_eq_getElem c11⟩
  have hx15 : x1 ≤ 15 := h15 x1 (List.mem_of_getElem? hx1)
  refine CT.peek m1 (by omega) ?_
  intro pa pa_c pa_v pa_k pa_l
  refine CT.region (TL.m m0 (TL.val (r_ia (i := k) (off' := k) Tryz.underlying42 Tryz.sizeOf3 (.te m3 pa_v) T1 rfl (by omega) (by omega)) (TL.val (r_lds (u := (i64 (cpart ls 16 0 k))) Tryz.isAgg3 m1 pa_v T0 (codes_at c11)) (TL.a m2 (TL.a m1 (TL.r (.hd (.hd .u3)) (TL.m m7 (TL.m m2 (TL.val (r_ia (i := k) (off' := lo + k) Tryz.underlying42 Tryz.sizeOf3 T1 T0 rfl (by omega) (by omega)) (TL.val (r_ldc (v := (i64 x1)) Tryz.isAgg3 T0 (fun w hS => hR (by first | exact .head _ | exact .tail _ (.head _) | exact .tail _ (.tail _ (.head _))) hS _ _ hx1)) (TL.val (n_gtr x1 0 T0 .c) (TL.b (.hd .u4) (CT.ifd m0 (fun c19 => ?_) (fun c19 => ?_))))))))))))))
  ·
   refine CT.sub .u1 ?_
   have hcl : cpart ls 16 0 k < 268435456 := cpart_lt hls
   have hpw : 2 ^ x1 ≤ 2 ^ 15 := Nat.pow_le_pow_right (by decide) hx15
   exact CT.region (TL.m m5 (TL.m m8 (TL.m m3 (TL.val (r_ia (i := k) (off' := lo + k) Tryz.underlying42 Tryz.sizeOf3 T1 T0 rfl (by omega) (by omega)) (TL.val (r_ldc (v := (i64 x1)) Tryz.isAgg3 T0 (fun w hS => hR (by first | exact .head _ | exact .tail _ (.head _) | exact .tail _ (.tail _ (.head _))) hS _ _ hx1)) (TL.val (n_shl 1 x1 9223372036854775808 .c T0 rfl rfl (show _ ≤ 64 by omega) (by omega)) (TL.m m6 (TL.val (n_or ((1 * 2 ^ x1)) ((cpart ls 16 0 k)) 9223372036854775808 T1 T0 rfl rfl (by omega) (by omega)) (TL.m m9 (TL.s (r_mapUpdate Tryz.underlying132 Tryz.underlying3 T8 T1 T0) (TL.x .u9 (EX.bnormal (EX.seq (CT.region (TL.val (n_add k 1 9223372036854775808 T2 .c) (TL.rm .h3 (TL.m m0 (TL.x (.hd .u1) (EX.again ((k + 1, fun q => if q = ((((1 * 2 ^ x1) ||| (cpart ls 16 0 k)) : Nat) : Int) then some ((k : Nat) : Int) else fm q, if (fm ((((1 * 2 ^ x1) ||| (cpart ls 16 0 k)) : Nat) : Int)).isSome then sz else sz + 1)) (by show k + 1 ≤ ls.length; omega) (by show ls.length - (k + 1) < ls.length - k; omega) (.refl _) (.eq m0 (by first | rfl | (congr 1 <;> omega)) (.sl 3 5 rfl)))))))))))))))))))))
  exact CT.z (EX.bnormal (EX.seq (CT.region (TL.val (n_add k 1 9223372036854775808 T2 .c) (TL.rm .h3 (TL.m m0 (TL.x (.hd .u1) (EX.again ((k + 1, fm, sz)) (by show k + 1 ≤ ls.length; omega) (by show ls.length - (k + 1) < ls.length - k; omega) (.refl _) (.eq m0 (by first | rfl | (congr 1 <;> omega)) (.sl 3 5 rfl))))))))))
 exact CT.sub .u1 (CT.exit (EX.then_exit (EX.then_exit (EX.out (EX.q (TL.m m3 (TL.rm .h5 (TL.a m0 (TL.b (.hd .u1) (CT.ret (EX.perm p2 (EX.perm p1 (EX.end_ (.inl rfl) (res1 Tryz.results92 m0) (fun _ hS => ⟨mb, fm, sz, rfl, keep2 hS⟩))))))))))))))
theorem t62 (A : HProp) (ls : List Nat) (lb lo lc : Nat) (hR : ∀ {G w : World} {L : List HProp}, A ∈ L → Sat G w L → ∀ j x, ls[j]? = some x → w.cell? ⟨lb, lo + j, none⟩ = some (i64 x)) (hls : ls.length ≤ 1024) (h15 : ∀ x ∈ ls, x ≤ 15) {G : World} {R : List HProp} {w : World} (hS : Sat G w (A :: R)) :
 CallsR Tryz.prog 62 #[(.slice (some ⟨lb, lo, none⟩) ls.length lc)] w (fun v w' => v = .int .i64 (32768 - ((kraft ls : Nat) : Int)) ∧ Sat G w' (A :: R)) := by
 refine calls_in (n := 21) [(0, (.slice (some ⟨lb, lo, none⟩) ls.length lc))] Tryz.func62 rfl rfl hS args1 ?_
 refine CT.q (TL.val (r_asg .c) (TL.q (TL.val (r_asg .c) (TL.e (CT.seq (CT.q (TL.m m2 (TL.val (r_len Tryz.underlying42 T0) (TL.val (r_move .c) (TL.b (.hd (.hd (.hd (.hd (.hd .u1))))) (CT.block (CT.loop (X := Nat) (fun gx => [(8, (i64 gx)), (3, (.int .i64 ((32768 - ((kraft (ls.take gx) : Nat) : Int))))), (7, (i64 ls.length)), (6, (.slice (some ⟨lb, lo, none⟩) ls.length lc)), (2, (.int .i64 0))]) (fun gx => A :: R) (fun gx => gx ≤ ls.length) (fun gx => ls.length - gx) 0 (Nat.zero_le _) (.refl _) (.cons m0 (.eq m3 (by first | rfl | (congr 1 <;> omega)) (.cons m1 (.cons m2 (.cons m4 .nil))))) ?_))))))))))))
 rintro k hI1
 refine CT.q (TL.val (n_lss k ls.length T0 T2) (TL.e (CT.seq (CT.ifd m0 (fun c9 => ?_) (fun c9 => ?_)))))
 ·
  refine CT.z (EX.seq (CT.seq (CT.block (CT.seq ?_))))
  obtain ⟨x1, hx1⟩ : ∃ x1, ls[k]? = some x1 := ⟨_, List.getElem?_eq_getElem c9⟩
  have hx15 : x1 ≤ 15 := h15 x1 (List.mem_of_getElem? hx1)
  have hk1 := kraft_succ hx1
  have hkl := kraft_le (ls.take k)
  rw [List.length_take] at hkl
  refine CT.region (TL.val (r_ia (i := k) (off' := lo + k) Tryz.underlying42 Tryz.sizeOf3 T3 T0 rfl (by omega) (by omega)) (TL.val (r_ldc (v := (i64 x1)) Tryz.isAgg3 T0 (fun w hS => hR (by first | exact .head _ | exact .tail _ (.head _) | exact .tail _ (.tail _ (.head _))) hS _ _ hx1)) (TL.a m0 (TL.r (.hd .u2) (TL.m m0 (TL.val (n_gtr x1 0 T0 .c) (TL.b (.hd .u1) (CT.ifd m0 (fun c13 => ?_) (fun c13 => ?_)))))))))
  ·
   rw [if_neg (show ¬ x1 = 0 by omega)] at hk1
   have hpw : 2 ^ (15 - x1) ≤ 2 ^ 15 := Nat.pow_le_pow_right (by decide) (by omega)
   exact CT.sub .u1 (CT.region (TL.m m2 (TL.m m1 (TL.val (n_sub 15 x1 9223372036854775808 .c T0) (TL.val (n_shl 1 ((15 - x1)) 9223372036854775808 .c T0 rfl rfl (show _ ≤ 64 by omega) (by omega)) (TL.val (r_sub (z := ((32768 - ((kraft (ls.take k) : Nat) : Int) - ((2 ^ (15 - x1) : Nat) : Int)))) T3 T0 (wi (by rw [Nat.one_mul]; omega))) (TL.rm .h7 (TL.a m0 (TL.x (.hd .u5) (EX.bnormal (EX.seq (CT.region (TL.val (n_add k 1 9223372036854775808 T2 .c) (TL.rm .h3 (TL.m m0 (TL.x (.hd .u1) (EX.again (k + 1) (by omega) (by omega) (.refl _) (.eq m0 (by first | rfl | (congr 1 <;> omega)) (.eq m1 (by first | rfl | (congr 1 <;> omega)) (.sl 3 3 rfl))))))))))))))))))))
  rw [if_pos (show x1 = 0 by omega)] at hk1
  exact CT.z (EX.bnormal (EX.seq (CT.region (TL.val (n_add k 1 9223372036854775808 T1 .c) (TL.rm .h2 (TL.m m0 (TL.x (.hd .u1) (EX.again (k + 1) (by omega) (by omega) (.refl _) (.eq m0 (by first | rfl | (congr 1 <;> omega)) (.eq m2 (by first | rfl | (congr 1 <;> omega)) (.sl 3 3 rfl)))))))))))
 exact CT.sub .u1 (CT.exit (EX.then_exit (EX.then_exit (EX.out (EX.q (TL.m m1 (TL.rm .h5 (TL.a m0 (TL.b (.hd .u1) (CT.ret (EX.end_ (.inl rfl) (res1 Tryz.results62 m0) (fun _ hS => ⟨by obtain rfl : k = ls.length := (by omega); rw [List.take_length], hS⟩))))))))))))
theorem t95 (A : HProp) (ls : List Nat) (lb lo lc : Nat) (hR : ∀ {G w : World} {L : List HProp}, A ∈ L → Sat G w L → ∀ j x, ls[j]? = some x → w.cell? ⟨lb, lo + j, none⟩ = some (i64 x)) (hls : ls.length ≤ 1024) (h15 : ∀ x ∈ ls, x ≤ 15) {G : World} {R : List HProp} {w : World} (hS : Sat G w (A :: R)) :
 CallsR Tryz.prog 95 #[(.slice (some ⟨lb, lo, none⟩) ls.length lc)] w (fun v w' => v = i64 (usedN ls ls.length) ∧ Sat G w' (A :: R)) := by
 refine calls_in (n := 18) [(0, (.slice (some ⟨lb, lo, none⟩) ls.length lc))] Tryz.func95 rfl rfl hS args1 ?_
 refine CT.q (TL.val (r_asg .c) (TL.q (TL.val (r_asg .c) (TL.e (CT.seq (CT.q (TL.m m2 (TL.val (r_len Tryz.underlying42 T0) (TL.val (r_move .c) (TL.b (.hd (.hd (.hd (.hd (.hd .u1))))) (CT.block (CT.loop (X := Nat) (fun gx => [(8, (i64 gx)), (3, (i64 (usedN ls gx))), (7, (i64 ls.length)), (6, (.slice (some ⟨lb, lo, none⟩) ls.length lc)), (2, (.int .i64 0))]) (fun gx => A :: R) (fun gx => gx ≤ ls.length) (fun gx => ls.length - gx) 0 (Nat.zero_le _) (.refl _) (.cons m0 (.eq m3 (by first | rfl | (congr 1 <;> omega)) (.cons m1 (.cons m2 (.cons m4 .nil))))) ?_))))))))))))
 rintro k hI1
 refine CT.q (TL.val (n_lss k ls.length T0 T2) (TL.e (CT.seq (CT.ifd m0 (fun c9 => ?_) (fun c9 => ?_)))))
 ·
  refine CT.z (EX.seq (CT.seq (CT.block (CT.seq ?_))))
  obtain ⟨x1, hx1⟩ : ∃ x1, ls[k]? = some x1 := ⟨_, List.getElem?_eq_getElem c9⟩
  have hx15 : x1 ≤ 15 := h15 x1 (List.mem_of_getElem? hx1)
  have hk1 := usedN_succ hx1
  have hkl := usedN_le ls k
  refine CT.region (TL.val (r_ia (i := k) (off' := lo + k) Tryz.underlying42 Tryz.sizeOf3 T3 T0 rfl (by omega) (by omega)) (TL.val (r_ldc (v := (i64 x1)) Tryz.isAgg3 T0 (fun w hS => hR (by first | exact .head _ | exact .tail _ (.head _) | exact .tail _ (.tail _ (.head _))) hS _ _ hx1)) (TL.a m0 (TL.r (.hd .u2) (TL.m m0 (TL.val (n_gtr x1 0 T0 .c) (TL.b (.hd .u1) (CT.ifd m0 (fun c13 => ?_) (fun c13 => ?_)))))))))
  ·
   rw [if_pos (by omega)] at hk1
   exact CT.sub .u1 (CT.region (TL.m m2 (TL.val (n_add ((usedN ls k)) 1 9223372036854775808 T0 .c) (TL.rm .h4 (TL.a m0 (TL.x (.hd .u2) (EX.bnormal (EX.seq (CT.region (TL.val (n_add k 1 9223372036854775808 T2 .c) (TL.rm .h3 (TL.m m0 (TL.x (.hd .u1) (EX.again (k + 1) (by omega) (by omega) (.refl _) (.eq m0 (by first | rfl | (congr 1 <;> omega)) (.eq m1 (by first | rfl | (congr 1 <;> omega)) (.sl 3 3 rfl)))))))))))))))))
  rw [if_neg (by omega)] at hk1
  exact CT.z (EX.bnormal (EX.seq (CT.region (TL.val (n_add k 1 9223372036854775808 T1 .c) (TL.rm .h2 (TL.m m0 (TL.x (.hd .u1) (EX.again (k + 1) (by omega) (by omega) (.refl _) (.eq m0 (by first | rfl | (congr 1 <;> omega)) (.eq m2 (by first | rfl | (congr 1 <;> omega)) (.sl 3 3 rfl)))))))))))
 exact CT.sub .u1 (CT.exit (EX.then_exit (EX.then_exit (EX.out (EX.q (TL.m m1 (TL.rm .h5 (TL.a m0 (TL.b (.hd .u1) (CT.ret (EX.end_ (.inl rfl) (res1 Tryz.results95 m0) (fun _ hS => ⟨by obtain rfl : k = ls.length := (by omega); rfl, hS⟩))))))))))))
theorem t98_full {p at_ : Nat} {sv dv : Value} {B : List Bool} {out : List Nat} (A : HProp) (ls : List Nat) (lb lo lc : Nat) (hR : ∀ {G w : World} {L : List HProp}, A ∈ L → Sat G w L → ∀ j x, ls[j]? = some x → w.cell? ⟨lb, lo + j, none⟩ = some (i64 x)) (hls : ls.length ≤ 1024) (h15 : ∀ x ∈ ls, x ≤ 15) (hF : Full ls) {G : World} {R : List HProp} {w : World} (hS : Sat G w ((Sp p sv (B) at_ dv out ((-1))) :: A :: R)) :
 CallsR Tryz.prog 98 #[(pt p 0), (.slice (some ⟨lb, lo, none⟩) ls.length lc)] w (fun v w' => v = .tuple #[] ∧ Sat G w' (Sp p sv B at_ dv out (-1) :: A :: R)) := by
 have hk := hF.kraft h15
 refine calls_in (n := 17) [(0, (pt p 0)), (1, (.slice (some ⟨lb, lo, none⟩) ls.length lc))] Tryz.func98 rfl rfl hS args2 ?_
 refine CT.q (TL.m m1 (TL.perm p1 (TL.call (r_call ce_62 (.cons T0 .nil)) (fun w hS => t62 A ls lb lo lc hR hls h15 hS) ?_)))
 rintro _ w6 ⟨rfl, hS⟩
 refine TW.at hS (TL.a m0 (TL.b (.hd (.tl (.tl (.hd .u1)))) (CT.block (CT.q (TL.m m0 (TL.val (r_lss T0 .c) (TL.a m0 (TL.b (.hd .u2) (CT.ifd m0 (fun c7 => ?_) (fun c7 => ?_))))))))))
 ·
  exfalso; omega
 refine CT.y (TL.m m0 (TL.val (r_gtr T0 .c) (TL.a m0 (TL.b (.hd .u2) (CT.ifd m0 (fun c12 => ?_) (fun c12 => ?_))))))
 ·
  exfalso; omega
 exact CT.z (EX.bnormal (EX.perm p1 (EX.end_ (.inr rfl) (res0 Tryz.results98) (fun _ hS => ⟨rfl, hS⟩))))
theorem t98_over {p at_ : Nat} {sv dv : Value} {B : List Bool} {out : List Nat} (A : HProp) (ls : List Nat) (lb lo lc : Nat) (hR : ∀ {G w : World} {L : List HProp}, A ∈ L → Sat G w L → ∀ j x, ls[j]? = some x → w.cell? ⟨lb, lo + j, none⟩ = some (i64 x)) (hls : ls.length ≤ 1024) (h15 : ∀ x ∈ ls, x ≤ 15) (hF : Over ls) {G : World} {R : List HProp} {w : World} (hS : Sat G w ((Sp p sv (B) at_ dv out ((-1))) :: A :: R)) :
 CallsR Tryz.prog 98 #[(pt p 0), (.slice (some ⟨lb, lo, none⟩) ls.length lc)] w (fun v w' => v = .tuple #[] ∧ Sat G w' (Sp p sv B at_ dv out 2 :: A :: R)) := by
 have hk := hF.kraft h15
 refine calls_in (n := 17) [(0, (pt p 0)), (1, (.slice (some ⟨lb, lo, none⟩) ls.length lc))] Tryz.func98 rfl rfl hS args2 ?_
 refine CT.q (TL.m m1 (TL.perm p1 (TL.call (r_call ce_62 (.cons T0 .nil)) (fun w hS => t62 A ls lb lo lc hR hls h15 hS) ?_)))
 rintro _ w6 ⟨rfl, hS⟩
 refine TW.at hS (TL.a m0 (TL.b (.hd (.tl (.tl (.hd .u1)))) (CT.block (CT.q (TL.m m0 (TL.val (r_lss T0 .c) (TL.a m0 (TL.b (.hd .u2) (CT.ifd m0 (fun c7 => ?_) (fun c7 => ?_))))))))))
 ·
  refine CT.sub .u1 (CT.region (TL.m m1 (TL.perm p1 (TL.call (r_call ce_49 (.cons T0 (.cons .c .nil))) (fun w hS => t49_1 hS) ?_))))
  rintro _ w11 ⟨rfl, hS⟩
  exact TW.at hS (TL.x .u2 (EX.bnormal (EX.perm p1 (EX.perm p1 (EX.end_ (.inr rfl) (res0 Tryz.results98) (fun _ hS => ⟨rfl, hS⟩))))))
 exfalso; omega
theorem t98_off {p at_ : Nat} {sv dv : Value} {B : List Bool} {out : List Nat} (A : HProp) (ls : List Nat) (lb lo lc : Nat) (hR : ∀ {G w : World} {L : List HProp}, A ∈ L → Sat G w L → ∀ j x, ls[j]? = some x → w.cell? ⟨lb, lo + j, none⟩ = some (i64 x)) (hls : ls.length ≤ 1024) (h15 : ∀ x ∈ ls, x ≤ 15) {e : Int} (he : ¬ e < 0) {G : World} {R : List HProp} {w : World} (hS : Sat G w ((Sp p sv (B) at_ dv out e) :: A :: R)) :
 CallsR Tryz.prog 98 #[(pt p 0), (.slice (some ⟨lb, lo, none⟩) ls.length lc)] w (fun v w' => v = .tuple #[] ∧ Sat G w' (Sp p sv B at_ dv out e :: A :: R)) := by
 refine calls_in (n := 17) [(0, (pt p 0)), (1, (.slice (some ⟨lb, lo, none⟩) ls.length lc))] Tryz.func98 rfl rfl hS args2 ?_
 refine CT.q (TL.m m1 (TL.perm p1 (TL.call (r_call ce_62 (.cons T0 .nil)) (fun w hS => t62 A ls lb lo lc hR hls h15 hS) ?_)))
 rintro _ w6 ⟨rfl, hS⟩
 refine TW.at hS (TL.a m0 (TL.b (.hd (.tl (.tl (.hd .u1)))) (CT.block (CT.q (TL.m m0 (TL.val (r_lss T0 .c) (TL.a m0 (TL.b (.hd .u2) (CT.ifd m0 (fun c7 => ?_) (fun c7 => ?_))))))))))
 ·
  refine CT.sub .u1 (CT.region (TL.m m1 (TL.perm p1 (TL.call (r_call ce_49 (.cons T0 (.cons .c .nil))) (fun w hS => t49_2 he hS) ?_))))
  rintro _ w11 ⟨rfl, hS⟩
  exact TW.at hS (TL.x .u2 (EX.bnormal (EX.perm p1 (EX.perm p1 (EX.end_ (.inr rfl) (res0 Tryz.results98) (fun _ hS => ⟨rfl, hS⟩))))))
 refine CT.y (TL.m m0 (TL.val (r_gtr T0 .c) (TL.a m0 (TL.b (.hd .u2) (CT.ifd m0 (fun c12 => ?_) (fun c12 => ?_))))))
 ·
  refine CT.sub .u1 (CT.region (TL.m m1 (TL.perm p1 (TL.call (r_call ce_49 (.cons T0 (.cons .c .nil))) (fun w hS => t49_2 he hS) ?_))))
  rintro _ w16 ⟨rfl, hS⟩
  exact TW.at hS (TL.x .u2 (EX.bnormal (EX.perm p1 (EX.perm p1 (EX.end_ (.inr rfl) (res0 Tryz.results98) (fun _ hS => ⟨rfl, hS⟩))))))
 exact CT.z (EX.bnormal (EX.perm p1 (EX.end_ (.inr rfl) (res0 Tryz.results98) (fun _ hS => ⟨rfl, hS⟩))))
end Go.Eng
namespace Go.Eng
open Go Go.Proofs Go.Infl
def BkO (b : Nat) (ls : List Nat) : HProp := fun m => Full ls → Bk b ls m
section
variable {G w : World} {R : List HProp} {b : Nat} {ls : List Nat}
theorem bk_of_p (h2 : 2 ≤ usedN ls ls.length) (h : Sat G w (BkP b ls ls.length :: R)) : Sat G w (Bk b ls :: R) := by
 obtain ⟨f, sz, ⟨h1, h3⟩, hs, h⟩ := h.bkp
 have hb : BkF ls f := ⟨fun i hi => h1 i hi.1 hi, fun x y hxy => by obtain ⟨i, _, h4, h5⟩ := h3 x y hxy; exact ⟨i, h4, h5⟩⟩
 have h4 : Sat G w (hpure (BkF ls f ∧ 2 ≤ sz) :: imap b f sz :: R) := h.emp ⟨hb, by omega⟩
 exact (Sat.resep (Ls := [hpure (BkF ls f ∧ 2 ≤ sz), imap b f sz]) h4).imp fun m hm => ⟨(f, sz), hm⟩
theorem bko_of_p (hf : Full ls ∨ ∀ x ∈ ls, x = 0) (h : Sat G w (BkP b ls ls.length :: R)) : Sat G w (BkO b ls :: R) := by
 rcases hf with hf | hz
 ·
  exact (bk_of_p (usedN_two hf) h).imp fun _ hm _ => hm
 exact h.imp fun _ _ hf => absurd hz hf.some
theorem fits_or (hf : Full ls ∨ ∀ x ∈ ls, x = 0) : Fits ls := by
 rcases hf with hf | hz
 ·
  exact hf.fits
 exact fun i hi => by
  have := hz _ (List.mem_of_getElem? (lens_get hi))
  have := hi.2.1
  omega
theorem full_of {k : Nat} (hf : Full ls ∨ ∀ x ∈ ls, x = 0) (hk : LOk ls k) : Full ls := hf.resolve_right fun hz => by
 have := hz _ (List.mem_of_getElem? (lens_get hk))
 have := hk.2.1
 omega
theorem drop34 {A B C D E : HProp} (h : Sat G w (A :: B :: C :: D :: E :: R)) : Sat G w (A :: B :: C :: R) := ((h.perm p4).tail.perm p3).tail
end
theorem lenBase_ge {k : Nat} (h1 : 257 ≤ k) (h2 : k ≤ 285) : 3 ≤ lenBase k := by
 have : ∀ j, j < 29 → 3 ≤ lenBase (257 + j) := by decide
 have := this (k - 257) (by omega)
 rwa [show 257 + (k - 257) = k by omega] at this
theorem distBase_ge {k : Nat} (h : k ≤ 29) : 1 ≤ distBase k := by
 have : ∀ j, j < 30 → 1 ≤ distBase j := by decide
 exact this k (by omega)
theorem t74 {p at_ dc lb lo lc xb xo xc : Nat} {sv : Value} {dp : Option Addr} {B : List Bool} {out dd ls ds : List Nat} {DA : HProp} {fin : Bool} {hF : List Nat × Bool} (hDR : DRd DA (.slice dp dd.length dc) dd) (hdd : dd.length ≤ 32768) (A : HProp) (hRl : ∀ {G w : World} {L : List HProp}, A ∈ L → Sat G w L → ∀ j x, ls[j]? = some x → w.cell? ⟨lb, lo + j, none⟩ = some (i64 x)) (hRd : ∀ {G w : World} {L : List HProp}, A ∈ L → Sat G w L → ∀ j x, ds[j]? = some x → w.cell? ⟨xb, xo + j, none⟩ = some (i64 x)) (hls : ls.length ≤ 1024) (hds : ds.length ≤ 1024) (h15l : ∀ x ∈ ls, x ≤ 15) (h15d : ∀ x ∈ ds, x ≤ 15) (hfl : Full ls) (hfd : Full ds ∨ ∀ x ∈ ds, x = 0) (h256 : LOk ls 256) (ht : HTail ls ds fin at_ (B.drop at_) (dd ++ out) hF) (hat : at_ ≤ B.length) (hBl : B.length < 1099511627776) (ho : hF.1.length ≤ dd.length + 131072) {G : World} {R : List HProp} {w : World} (hS : Sat G w ((Sp p sv (B) at_ (.slice dp dd.length dc) out ((-1))) :: DA :: A :: R)) :
 CallsR Tryz.prog 74 #[(pt p 0), (.slice (some ⟨lb, lo, none⟩) ls.length lc), (.slice (some ⟨xb, xo, none⟩) ds.length xc)] w (fun v w' => v = .tuple #[] ∧ ∃ (at' : Nat) (out' : List Nat), at_ < at' ∧ at' ≤ B.length ∧ ((After fin at' (B.drop at') (dd ++ out') hF ∧ Sat G w' (Sp p sv B at' (.slice dp dd.length dc) out' (-1) :: DA :: A :: R)) ∨ (hF = (dd ++ out', false) ∧ Sat G w' (Sp p sv B at' (.slice dp dd.length dc) out' 2 :: DA :: A :: R)))) := by
 refine calls_in (n := 92) [(0, (pt p 0)), (1, (.slice (some ⟨lb, lo, none⟩) ls.length lc)), (2, (.slice (some ⟨xb, xo, none⟩) ds.length xc))] Tryz.func74 rfl rfl hS args3 ?_
 refine CT.q (TL.m m1 (TL.perm p2 (TL.call (r_call ce_92 (.cons T0 .nil)) (fun w hS => t92 A ls lb lo lc hRl hls h15l hfl.fits hS) ?_)))
 rintro _ w16 ⟨mb1, rfl, hS⟩
 refine TW.at hS (TL.conv (fun _ h => bk_of_p (usedN_two hfl) h) (TL.m m4 (TL.perm p1 (TL.call (r_call ce_92 (.cons T0 .nil)) (fun w hS => t92 A ds xb xo xc hRd hds h15d (fits_or hfd) hS) ?_))))
 rintro _ w18 ⟨mb2, rfl, hS⟩
 refine TW.at hS (TL.conv (fun _ h => bko_of_p hfd h) (TL.a m2 (TL.a m1 (TL.b (.hd (.hd (.tl (.tl (.tl (.tl (.hd .u1))))))) (CT.block (CT.fold (A' := (Sp p sv (B) at_ (.slice dp dd.length dc) out (cond false 2 (-1)))) a3 (Sp_eq rfl rfl) (CT.perm p2 (CT.perm p2 (CT.perm p4 (CT.perm p4 (CT.loop (X := Bool × Nat × List Nat) (fun gx => [(7, (.map (some mb2))), (6, (.map (some mb1))), (0, (pt p 0)), (2, (.slice (some ⟨xb, xo, none⟩) ds.length xc))]) (fun gx => (Sp p sv (B) gx.2.1 (.slice dp dd.length dc) gx.2.2 (cond gx.1 2 (-1))) :: DA :: A :: (Bk mb1 ls) :: (BkO mb2 ds) :: R) (fun gx => (gx.1 = false → HTail ls ds fin gx.2.1 (B.drop gx.2.1) (dd ++ gx.2.2) hF) ∧ (gx.1 = true → hF = (dd ++ gx.2.2, false) ∧ at_ < gx.2.1) ∧ gx.2.1 ≤ B.length ∧ at_ ≤ gx.2.1) (fun gx => (cond gx.1 0 1) + (B.length - gx.2.1)) ((false, at_, out)) (⟨fun _ => ht, (fun h => by cases h), hat, Nat.le_refl _⟩) (.refl _) (.sl 0 4 rfl) ?_)))))))))))
 rintro ⟨done, kk, o1⟩ ⟨hJ1, hJ2, hJ3, hJ4⟩
 show CT _ _ _ [(7, (.map (some mb2))), (6, (.map (some mb1))), (0, (pt p 0)), (2, (.slice (some ⟨xb, xo, none⟩) ds.length xc))] _ _ ((Sp p sv (B) kk (.slice dp dd.length dc) o1 (cond done 2 (-1))) :: DA :: A :: (Bk mb1 ls) :: (BkO mb2 ds) :: R)
 replace hJ1 : done = false → HTail ls ds fin kk (B.drop kk) (dd ++ o1) hF := hJ1
 replace hJ2 : done = true → hF = (dd ++ o1, false) ∧ at_ < kk := hJ2
 replace hJ3 : kk ≤ B.length := hJ3
 replace hJ4 : at_ ≤ kk := hJ4
 refine CT.seq (CT.q (TL.m m2 (TL.call (r_call ce_47 (.cons T0 .nil)) (fun w hS => t47 (r := (!done)) (by cases done <;> rfl) hS) ?_)))
 rintro _ w20 ⟨rfl, hS⟩
 refine TW.at hS (TL.b (.hd .u1) (CT.iff m0 (fun c20 => ?_) (fun c20 => ?_)))
 ·
  obtain rfl : done = false := by simpa using c20
  have hI1 := hJ1 rfl
  obtain ⟨hstep, hlen⟩ := hI1.step
  have hnx := hstep.next
  clear hstep
  have hol := hI1.len
  rw [List.length_append] at hol
  have hlb := List.length_drop (i := kk) (l := B)
  generalize hbits : B.drop kk = bits at hnx hlen hlb
  refine CT.z (EX.seq (CT.block (CT.seq ?_)))
  rcases hnx with @⟨y, rest, hok, hy, htl⟩ | @⟨rest, haf⟩ | @⟨y, rest, hy, hok, he⟩ | @⟨n, c, v, c2, rest, hla, hok, hok2, hda⟩
  ·
   have hlk1 := hok.2.1; have hlk2 := hok.2.2
   have hdr1 := drop_app hbits
   rw [symB_length] at hdr1
   rw [List.length_append, symB_length] at hlb
   have hol2 := htl.len
   simp only [List.length_append, List.length_singleton] at hol2
   refine CT.region (TL.m m2 (TL.m m2 (TL.perm p3 (TL.perm p1 (TL.call (r_call ce_93 (.cons T1 (.cons T0 .nil))) (fun w hS => t93 (by omega) hfl.fits hok hbits hS) ?_)))))
   rintro _ w23 ⟨rfl, hS⟩
   refine TW.at hS (TL.a m0 (TL.b (.hd .u3) (CT.seq (CT.block (CT.q (TL.m m3 (TL.call (r_call ce_47 (.cons T0 .nil)) (fun w hS => t47 (r := true) (by decide) hS) ?_)))))))
   rintro _ w26 ⟨rfl, hS⟩
   refine TW.at hS (TL.val (r_nott T0) (TL.a m0 (TL.b (.hd .u3) (CT.iff_ m0 ?_))))
   refine CT.y (TL.m m0 (TL.val (n_lss y 256 T0 .c) (TL.a m0 (TL.b (.hd .u2) (CT.ifd m0 (fun c28 => ?_) (fun c28 => ?_))))))
   ·
    refine CT.y (TL.m m3 (TL.m m1 (TL.val (n_conv y 256 ⟨_, Tryz.underlying3⟩ Tryz.underlying5 T0 rfl (by omega)) (TL.call (r_call ce_91 (.cons T2 (.cons T0 .nil))) (fun w hS => t91 y (by omega) hS) ?_))))
    rintro _ w34 ⟨rfl, hS⟩
    refine TW.at hS (TL.b .u4 (CT.exit (EX.past ?_)))
    exact EX.then_exit (EX.out (EX.fold (A' := (Sp p sv (B) (kk + ls.getD y 0) (.slice dp dd.length dc) (o1 ++ [y]) (cond false 2 (-1)))) a0 (Sp_eq rfl rfl) (EX.perm p4 (EX.perm p2 (EX.perm p4 (EX.perm p4 (EX.perm p4 (EX.again ((false, kk + ls.getD y 0, o1 ++ [y])) (⟨(fun _ => by show HTail ls ds fin (kk + ls.getD y 0) (B.drop (kk + ls.getD y 0)) (dd ++ (o1 ++ [y])) hF; rw [hdr1, ← List.append_assoc]; exact htl), (fun h => by cases h), (by show kk + ls.getD y 0 ≤ B.length; omega), by show at_ ≤ kk + ls.getD y 0; omega⟩) (by show 1 + (B.length - (kk + ls.getD y 0)) < 1 + (B.length - kk); omega) (.refl _) (.sl 1 4 rfl)))))))))
   exfalso; omega
  ·
   have hok := h256
   have hlk1 := hok.2.1; have hlk2 := hok.2.2
   have hdr1 := drop_app hbits
   rw [symB_length] at hdr1
   rw [List.length_append, symB_length] at hlb
   refine CT.region (TL.m m2 (TL.m m2 (TL.perm p3 (TL.perm p1 (TL.call (r_call ce_93 (.cons T1 (.cons T0 .nil))) (fun w hS => t93 (by omega) hfl.fits hok hbits hS) ?_)))))
   rintro _ w23 ⟨rfl, hS⟩
   refine TW.at hS (TL.a m0 (TL.b (.hd .u3) (CT.seq (CT.block (CT.q (TL.m m3 (TL.call (r_call ce_47 (.cons T0 .nil)) (fun w hS => t47 (r := true) (by decide) hS) ?_)))))))
   rintro _ w26 ⟨rfl, hS⟩
   refine TW.at hS (TL.val (r_nott T0) (TL.a m0 (TL.b (.hd .u3) (CT.iff_ m0 ?_))))
   refine CT.y (TL.m m0 (TL.val (show Run _ _ _ _ _ _ (.bool false) from n_lss 256 256 T0 .c rfl rfl) (TL.a m0 (TL.b (.hd .u2) (CT.iff_ m0 ?_)))))
   refine CT.y (TL.m m0 (TL.val (show Run _ _ _ _ _ _ (.bool true) from n_eql 256 256 T0 .c rfl rfl) (TL.a m0 (TL.b (.hd .u2) (CT.ift m0 ?_)))))
   exact CT.sub .u1 (CT.ret (EX.bret (EX.then_ret (EX.bret (EX.then_ret (EX.bret (EX.perm p3 (EX.perm p3 (EX.perm p2 (EX.end_ (.inl rfl) (res0 Tryz.results74) (fun _ hS => ⟨rfl, kk + ls.getD 256 0, o1, by omega, by omega, .inl ⟨by rw [hdr1]; exact haf, drop34 hS⟩⟩)))))))))))
  ·
   have hlk1 := hok.2.1; have hlk2 := hok.2.2
   have hdr1 := drop_app hbits
   rw [symB_length] at hdr1
   rw [List.length_append, symB_length] at hlb
   refine CT.region (TL.m m2 (TL.m m2 (TL.perm p3 (TL.perm p1 (TL.call (r_call ce_93 (.cons T1 (.cons T0 .nil))) (fun w hS => t93 (by omega) hfl.fits hok hbits hS) ?_)))))
   rintro _ w23 ⟨rfl, hS⟩
   refine TW.at hS (TL.a m0 (TL.b (.hd .u3) (CT.seq (CT.block (CT.q (TL.m m3 (TL.call (r_call ce_47 (.cons T0 .nil)) (fun w hS => t47 (r := true) (by decide) hS) ?_)))))))
   rintro _ w26 ⟨rfl, hS⟩
   refine TW.at hS (TL.val (r_nott T0) (TL.a m0 (TL.b (.hd .u3) (CT.iff_ m0 ?_))))
   refine CT.y (TL.m m0 (TL.val (n_lss y 256 T0 .c) (TL.a m0 (TL.b (.hd .u2) (CT.ifd m0 (fun c28 => ?_) (fun c28 => ?_))))))
   ·
    exfalso; omega
   refine CT.y (TL.m m0 (TL.val (n_eql y 256 T0 .c) (TL.a m0 (TL.b (.hd .u2) (CT.ifd m0 (fun c35 => ?_) (fun c35 => ?_))))))
   ·
    exfalso; omega
   refine CT.z (EX.bnormal (EX.q (TL.m m0 (TL.call (r_call ce_94 (.cons T0 .nil)) (fun w hS => t94_z y (by omega) hS) ?_))))
   rintro _ w40 ⟨rfl, hS⟩
   refine TW.at hS (TL.m m0 (TL.val (r_ext T0) (TL.val (r_ext T1) (TL.a m1 (TL.a m1 (TL.b (.hd (.hd .u5)) (CT.seq (CT.q (TL.m m1 (TL.val (show Run _ _ _ _ _ _ (.bool true) from n_eql 0 0 T0 .c rfl rfl) (TL.b (.hd .u1) (CT.ift m0 ?_))))))))))))
   refine CT.y (TL.m m5 (TL.call (r_call ce_49 (.cons T0 (.cons .c .nil))) (fun w hS => t49_1 hS) ?_))
   rintro _ w46 ⟨rfl, hS⟩
   exact TW.at hS (TL.b .u2 (CT.ret (EX.then_ret (EX.bret (EX.then_ret (EX.bret (EX.perm p3 (EX.perm p3 (EX.perm p2 (EX.end_ (.inl rfl) (res0 Tryz.results74) (fun _ hS => ⟨rfl, kk + ls.getD y 0, o1, by omega, by omega, .inr ⟨he, drop34 hS⟩⟩)))))))))))
  have hlk1 := hok.2.1; have hlk2 := hok.2.2
  have hdr1 := drop_app hbits
  rw [symB_length] at hdr1
  simp only [List.length_append, symB_length, nbits_length] at hlb
  have hc1 := hla.1
  have hc2 := hla.2.1
  have hv := hla.2.2.2.1
  have hnn := hla.2.2.1
  have hno := hla.2.2.2.2
  have hle := lenExtra_le c hc2
  have hb3 := lenBase_ge hc1 hc2
  have hup := usedN_pos hok2
  have hlm := len_max hla
  refine CT.region (TL.m m2 (TL.m m2 (TL.perm p3 (TL.perm p1 (TL.call (r_call ce_93 (.cons T1 (.cons T0 .nil))) (fun w hS => t93 (by omega) hfl.fits hok hbits hS) ?_)))))
  rintro _ w23 ⟨rfl, hS⟩
  refine TW.at hS (TL.a m0 (TL.b (.hd .u3) (CT.seq (CT.block (CT.q (TL.m m3 (TL.call (r_call ce_47 (.cons T0 .nil)) (fun w hS => t47 (r := true) (by decide) hS) ?_)))))))
  rintro _ w26 ⟨rfl, hS⟩
  refine TW.at hS (TL.val (r_nott T0) (TL.a m0 (TL.b (.hd .u3) (CT.iff_ m0 ?_))))
  refine CT.y (TL.m m0 (TL.val (n_lss c 256 T0 .c) (TL.a m0 (TL.b (.hd .u2) (CT.ifd m0 (fun c28 => ?_) (fun c28 => ?_))))))
  ·
   exfalso; omega
  refine CT.y (TL.m m0 (TL.val (n_eql c 256 T0 .c) (TL.a m0 (TL.b (.hd .u2) (CT.ifd m0 (fun c35 => ?_) (fun c35 => ?_))))))
  ·
   exfalso; omega
  refine CT.z (EX.bnormal (EX.q (TL.m m0 (TL.call (r_call ce_94 (.cons T0 .nil)) (fun w hS => t94 c hc1 hc2 hS) ?_))))
  rintro _ w40 ⟨rfl, hS⟩
  refine TW.at hS (TL.m m0 (TL.val (r_ext T0) (TL.val (r_ext T1) (TL.a m1 (TL.a m1 (TL.b (.hd (.hd .u5)) (CT.seq (CT.q (TL.m m1 (TL.val (n_eql ((lenBase c)) 0 T0 .c) (TL.b (.hd .u1) (CT.ifd m0 (fun c44 => ?_) (fun c44 => ?_)))))))))))))
  ·
   exfalso; omega
  refine CT.z (EX.q (TL.m m1 (TL.m m6 (TL.m m2 (TL.call (r_call ce_72 (.cons T1 (.cons T0 .nil))) (fun w hS => t72 v ((lenExtra c)) (rest := (symB ds c2 ++ rest)) (by omega) (by omega) hv hdr1 hS) ?_)))))
  rintro _ w50 ⟨rfl, hS⟩
  refine TW.at hS (TL.val (n_add ((lenBase c)) (v) 9223372036854775808 T3 T0) (TL.a m0 (TL.sub (.hd .u5) ?_)))
  have hdr2 := drop_app hdr1
  rw [nbits_length] at hdr2
  refine TL.fold (A' := (Sp p sv (B) (kk + ls.getD c 0 + lenExtra c) (.slice dp dd.length dc) o1 ((-1)))) a0 (Sp_eq rfl rfl) ?_
  refine TL.e (CT.seq (CT.cut (X := Unit) (fun gx => [(61, (.bool false)), (11, (i64 ((lenBase c) + v))), (10, (i64 (lenExtra c))), (9, (i64 (lenBase c))), (8, (i64 c)), (7, (.map (some mb2))), (6, (.map (some mb1))), (0, (pt p 0)), (2, (.slice (some ⟨xb, xo, none⟩) ds.length xc))]) (fun gx => (Sp p sv (B) (kk + ls.getD c 0 + lenExtra c) (.slice dp dd.length dc) o1 ((-1))) :: DA :: A :: (Bk mb1 ls) :: (BkO mb2 ds) :: R) (fun gx => True) ?_ ?_))
  ·
   refine CT.region (TL.m m6 (TL.call (r_call ce_47 (.cons T0 .nil)) (fun w hS => t47 (r := true) (by decide) hS) ?_))
   rintro _ w53 ⟨rfl, hS⟩
   refine TW.at hS (TL.m m0 (TL.gv m0 (r_move T6) (TL.gv m1 (n_eql c 284 T0 .c) (TL.val (r_pickt T2 T0) (TL.m m0 ?_)))))
   by_cases g58 : c = 284
   ·
    have h227 : lenBase c = 227 := by rw [g58]; rfl
    exact TL.sub (.eq m0 (congrArg Value.bool (decide_eq_true g58)) (.eq m1 (congrArg Value.bool (decide_eq_true g58)) (.eq m2 (congrArg Value.bool (decide_eq_true g58)) (.cons m3 (.cons m4 (.cons m5 (.cons m6 (.cons m7 (.cons m8 (.cons m9 (.cons m10 (.cons m11 (.cons m12 (.cons m13 (.cons m14 .nil))))))))))))))) (TL.gv m0 (r_move T7) (TL.gv m1 (n_eql (((lenBase c) + v)) 258 T0 .c) (TL.val (r_pickt T2 T0) (TL.x (.hd .u9) (EX.perm p4 (EX.perm p2 (EX.perm p4 (EX.perm p4 (EX.perm p4 (EX.meet () trivial (.refl _) (.eq m0 (by first | rfl | exact congrArg Value.bool (decide_eq_false (by omega)) | (congr 1 <;> omega)) (.sl 1 8 rfl))))))))))))
   exact TL.sub (.eq m0 (congrArg Value.bool (decide_eq_false g58)) (.eq m1 (congrArg Value.bool (decide_eq_false g58)) (.eq m2 (congrArg Value.bool (decide_eq_false g58)) (.cons m3 (.cons m4 (.cons m5 (.cons m6 (.cons m7 (.cons m8 (.cons m9 (.cons m10 (.cons m11 (.cons m12 (.cons m13 (.cons m14 .nil))))))))))))))) (TL.gn m0 (TL.gn m0 (TL.val (r_pickf T0 .c) (TL.x (.hd .u7) (EX.perm p4 (EX.perm p2 (EX.perm p4 (EX.perm p4 (EX.perm p4 (EX.meet () trivial (.refl _) (.sl 0 9 rfl)))))))))))
  rintro ⟨⟩ -
  show CT _ _ _ [(61, (.bool false)), (11, (i64 ((lenBase c) + v))), (10, (i64 (lenExtra c))), (9, (i64 (lenBase c))), (8, (i64 c)), (7, (.map (some mb2))), (6, (.map (some mb1))), (0, (pt p 0)), (2, (.slice (some ⟨xb, xo, none⟩) ds.length xc))] _ _ ((Sp p sv (B) (kk + ls.getD c 0 + lenExtra c) (.slice dp dd.length dc) o1 ((-1))) :: DA :: A :: (Bk mb1 ls) :: (BkO mb2 ds) :: R)
  refine CT.iff_ m0 ?_
  refine CT.z (EX.seq (CT.seq (CT.q (TL.m m7 (TL.perm p2 (TL.call (r_call ce_95 (.cons T0 .nil)) (fun w hS => t95 A ds xb xo xc hRd hds h15d hS) ?_))))))
  rintro _ w65 ⟨rfl, hS⟩
  refine TW.at hS (TL.val (n_eql ((usedN ds ds.length)) 0 T0 .c) (TL.b (.hd .u2) (CT.ifd m0 (fun c66 => ?_) (fun c66 => ?_))))
  ·
   exfalso; omega
  refine CT.z (EX.q (TL.m m6 (TL.m m5 (TL.perm p4 (TL.conv (fun _ h => h.imp fun _ hm => hm (full_of hfd hok2)) (TL.perm p2 (TL.call (r_call ce_93 (.cons T1 (.cons T0 .nil))) (fun w hS => t93 (by omega) (fits_or hfd) hok2 hdr2 hS) ?_)))))))
  rintro _ w71 ⟨rfl, hS⟩
  refine TW.at hS (TL.perm p1 (TL.conv (fun _ h => h.imp (B := BkO mb2 ds) fun _ hm _ => hm) (TL.a m0 (TL.b (.hd .u3) (CT.seq (CT.q (TL.m m7 (TL.perm p1 (TL.call (r_call ce_47 (.cons T0 .nil)) (fun w hS => t47 (r := true) (by decide) hS) ?_)))))))))
  rintro _ w73 ⟨rfl, hS⟩
  refine TW.at hS (TL.val (r_nott T0) (TL.b (.hd .u2) (CT.iff_ m0 ?_)))
  refine CT.z (EX.seq (CT.seq ?_))
  have hdr3a := drop_app hdr2
  rw [symB_length] at hdr3a
  rcases hda with ⟨d, v2, rest2, hda, rfl, hfar⟩ | ⟨h30, he⟩
  ·
   have hdr3 := hdr3a
   have hdx := distExtra_le c2 hda.1
   have hd1 := hda.2.1
   have hd2 := hda.2.2
   have hdb := distBase_ge hda.1
   have hdm := dist_max hda
   rw [List.length_append, nbits_length] at hlb
   refine CT.region (TL.m m0 (TL.call (r_call ce_96 (.cons T0 .nil)) (fun w hS => t96 c2 hda.1 hS) ?_))
   rintro _ w77 ⟨rfl, hS⟩
   refine TW.at hS (TL.m m0 (TL.val (r_ext T0) (TL.val (r_ext T1) (TL.a m1 (TL.a m1 (TL.b (.hd (.hd .u5)) (CT.seq (CT.q (TL.m m1 (TL.val (n_eql ((distBase c2)) 0 T0 .c) (TL.b (.hd .u1) (CT.ifd m0 (fun c81 => ?_) (fun c81 => ?_)))))))))))))
   ·
    exfalso; omega
   refine CT.z (EX.seq ?_)
   rcases hfar with ⟨h3n, hn258, hd1l, hdle, hd32, htl⟩ | ⟨he, hfar⟩
   ·
    have hol2 := htl.len
    rw [copyM_length, List.length_append] at hol2
    have hdr4 := drop_app hdr3
    rw [nbits_length] at hdr4
    refine CT.region (TL.m m9 (TL.m m4 (TL.m m3 (TL.m m12 (TL.m m4 (TL.call (r_call ce_72 (.cons T1 (.cons T0 .nil))) (fun w hS => t72 v2 ((distExtra c2)) (rest := rest2) (by omega) (by omega) hda.2.2 hdr3 hS) ?_))))))
    rintro _ w89 ⟨rfl, hS⟩
    refine TW.at hS (TL.val (n_add ((distBase c2)) (v2) 9223372036854775808 T3 T0) (TL.sub (.cons m0 (.cons m1 (.cons m2 (.cons m3 (.cons m4 (.eq m5 (congrArg (fun z : Nat => Value.int .i64 (z : Int)) hnn) (.cons m6 (.cons m7 (.cons m8 (.cons m9 (.cons m10 (.cons m11 (.cons m12 (.cons m13 (.cons m14 (.cons m15 (.cons m16 (.cons m17 .nil)))))))))))))))))) (TL.sub (.eq m0 (congrArg (fun z : Nat => Value.int .i64 (z : Int)) hda.2.1) (.cons m1 (.cons m2 (.cons m3 (.cons m4 (.cons m5 (.cons m6 (.cons m7 (.cons m8 (.cons m9 (.cons m10 (.cons m11 (.cons m12 (.cons m13 (.cons m14 (.cons m15 (.cons m16 (.cons m17 .nil)))))))))))))))))) (TL.perm p3 (TL.perm p1 (TL.call (r_call ce_97 (.cons T6 (.cons T5 (.cons T0 .nil)))) (fun w hS => t97 hDR hd1l (by rw [List.length_append] at hdle; exact hdle) hd32 (by omega) hn258 hdd hS) ?_))))))
    rintro _ w91 ⟨rfl, hS⟩
    exact TW.at hS (TL.x .u8 (EX.bnormal (EX.fold (A' := (Sp p sv (B) (kk + ls.getD c 0 + lenExtra c + ds.getD c2 0 + distExtra c2) (.slice dp dd.length dc) (o1 ++ xsM (dd ++ o1) d n) (cond false 2 (-1)))) a0 (Sp_eq rfl rfl) (EX.perm p2 (EX.perm p4 (EX.perm p4 (EX.perm p4 (EX.perm p4 (EX.again ((false, kk + ls.getD c 0 + lenExtra c + ds.getD c2 0 + distExtra c2, o1 ++ xsM (dd ++ o1) d n)) (⟨(fun _ => by show HTail ls ds fin (kk + ls.getD c 0 + lenExtra c + ds.getD c2 0 + distExtra c2) (B.drop (kk + ls.getD c 0 + lenExtra c + ds.getD c2 0 + distExtra c2)) (dd ++ (o1 ++ xsM (dd ++ o1) d n)) hF; rw [hdr4, ← List.append_assoc, ← copyM_split]; exact htl), (fun h => by cases h), (by show kk + ls.getD c 0 + lenExtra c + ds.getD c2 0 + distExtra c2 ≤ B.length; omega), by show at_ ≤ kk + ls.getD c 0 + lenExtra c + ds.getD c2 0 + distExtra c2; omega⟩) (by show 1 + (B.length - (kk + ls.getD c 0 + lenExtra c + ds.getD c2 0 + distExtra c2)) < 1 + (B.length - kk); omega) (.refl _) (.sl 7 4 rfl))))))))))
   have hdr4 := drop_app hdr3
   rw [nbits_length] at hdr4
   refine CT.region (TL.m m9 (TL.m m4 (TL.m m3 (TL.m m12 (TL.m m4 (TL.call (r_call ce_72 (.cons T1 (.cons T0 .nil))) (fun w hS => t72 v2 ((distExtra c2)) (rest := rest2) (by omega) (by omega) hda.2.2 hdr3 hS) ?_))))))
   rintro _ w89 ⟨rfl, hS⟩
   refine TW.at hS (TL.val (n_add ((distBase c2)) (v2) 9223372036854775808 T3 T0) (TL.sub (.cons m0 (.cons m1 (.cons m2 (.cons m3 (.cons m4 (.eq m5 (congrArg (fun z : Nat => Value.int .i64 (z : Int)) hnn) (.cons m6 (.cons m7 (.cons m8 (.cons m9 (.cons m10 (.cons m11 (.cons m12 (.cons m13 (.cons m14 (.cons m15 (.cons m16 (.cons m17 .nil)))))))))))))))))) (TL.sub (.eq m0 (congrArg (fun z : Nat => Value.int .i64 (z : Int)) hda.2.1) (.cons m1 (.cons m2 (.cons m3 (.cons m4 (.cons m5 (.cons m6 (.cons m7 (.cons m8 (.cons m9 (.cons m10 (.cons m11 (.cons m12 (.cons m13 (.cons m14 (.cons m15 (.cons m16 (.cons m17 .nil)))))))))))))))))) (TL.perm p3 (TL.perm p1 (TL.call (r_call ce_97 (.cons T6 (.cons T5 (.cons T0 .nil)))) (fun w hS => t97_b hDR (dist_max hda) (by rw [List.length_append] at hfar; exact hfar) (by omega) hdd hS) ?_))))))
   rintro _ w91 ⟨rfl, hS⟩
   exact TW.at hS (TL.x .u8 (EX.bnormal (EX.fold (A' := (Sp p sv (B) (kk + ls.getD c 0 + lenExtra c + ds.getD c2 0 + distExtra c2) (.slice dp dd.length dc) o1 (cond true 2 (-1)))) a0 (Sp_eq rfl rfl) (EX.perm p2 (EX.perm p4 (EX.perm p4 (EX.perm p4 (EX.perm p4 (EX.again ((true, kk + ls.getD c 0 + lenExtra c + ds.getD c2 0 + distExtra c2, o1)) (⟨(fun h => by cases h), (fun _ => ⟨he, by show at_ < kk + ls.getD c 0 + lenExtra c + ds.getD c2 0 + distExtra c2; omega⟩), (by show kk + ls.getD c 0 + lenExtra c + ds.getD c2 0 + distExtra c2 ≤ B.length; omega), by show at_ ≤ kk + ls.getD c 0 + lenExtra c + ds.getD c2 0 + distExtra c2; omega⟩) (by show 0 + (B.length - (kk + ls.getD c 0 + lenExtra c + ds.getD c2 0 + distExtra c2)) < 1 + (B.length - kk); omega) (.refl _) (.sl 7 4 rfl))))))))))
  refine CT.region (TL.m m0 (TL.call (r_call ce_96 (.cons T0 .nil)) (fun w hS => t96_z c2 (by omega) hS) ?_))
  rintro _ w77 ⟨rfl, hS⟩
  refine TW.at hS (TL.m m0 (TL.val (r_ext T0) (TL.val (r_ext T1) (TL.a m1 (TL.a m1 (TL.b (.hd (.hd .u5)) (CT.seq (CT.q (TL.m m1 (TL.val (show Run _ _ _ _ _ _ (.bool true) from n_eql 0 0 T0 .c rfl rfl) (TL.b (.hd .u1) (CT.ift m0 ?_))))))))))))
  refine CT.y (TL.m m9 (TL.call (r_call ce_49 (.cons T0 (.cons .c .nil))) (fun w hS => t49_1 hS) ?_))
  rintro _ w83 ⟨rfl, hS⟩
  exact TW.at hS (TL.b .u2 (CT.ret (EX.then_ret (EX.bret (EX.then_ret (EX.bret (EX.perm p2 (EX.perm p3 (EX.perm p2 (EX.end_ (.inl rfl) (res0 Tryz.results74) (fun _ hS => ⟨rfl, kk + ls.getD c 0 + lenExtra c + ds.getD c2 0, o1, by omega, by omega, .inr ⟨he, drop34 hS⟩⟩)))))))))))
 obtain rfl : done = true := by simpa using c20
 obtain ⟨he, hlt⟩ := hJ2 rfl
 exact CT.sub .u1 (CT.exit (EX.then_exit (EX.then_exit (EX.out (EX.perm p2 (EX.perm p2 (EX.perm p2 (EX.end_ (.inr rfl) (res0 Tryz.results74) (fun _ hS => ⟨rfl, kk, o1, hlt, hJ3, .inr ⟨he, drop34 hS⟩⟩)))))))))
theorem t74_o {p at_ lb lo lc xb xo xc : Nat} {sv dv : Value} {B : List Bool} {out ls ds : List Nat} (A : HProp) (hRl : ∀ {G w : World} {L : List HProp}, A ∈ L → Sat G w L → ∀ j x, ls[j]? = some x → w.cell? ⟨lb, lo + j, none⟩ = some (i64 x)) (hRd : ∀ {G w : World} {L : List HProp}, A ∈ L → Sat G w L → ∀ j x, ds[j]? = some x → w.cell? ⟨xb, xo + j, none⟩ = some (i64 x)) (hls : ls.length ≤ 1024) (hds : ds.length ≤ 1024) (h15l : ∀ x ∈ ls, x ≤ 15) (h15d : ∀ x ∈ ds, x ≤ 15) {G : World} {R : List HProp} {w : World} (hS : Sat G w ((Sp p sv (B) at_ dv out 2) :: A :: R)) :
 CallsR Tryz.prog 74 #[(pt p 0), (.slice (some ⟨lb, lo, none⟩) ls.length lc), (.slice (some ⟨xb, xo, none⟩) ds.length xc)] w (fun v w' => v = .tuple #[] ∧ Sat G w' (Sp p sv B at_ dv out 2 :: A :: R)) := by
 refine calls_in (n := 92) [(0, (pt p 0)), (1, (.slice (some ⟨lb, lo, none⟩) ls.length lc)), (2, (.slice (some ⟨xb, xo, none⟩) ds.length xc))] Tryz.func74 rfl rfl hS args3 ?_
 refine CT.q (TL.m m1 (TL.perm p1 (TL.call (r_call ce_92 (.cons T0 .nil)) (fun w hS => t92_o A ls lb lo lc hRl hls h15l hS) ?_)))
 rintro _ w16 ⟨mb1, fm1, sz1, rfl, hS⟩
 refine TW.at hS (TL.m m4 (TL.perm p1 (TL.call (r_call ce_92 (.cons T0 .nil)) (fun w hS => t92_o A ds xb xo xc hRd hds h15d hS) ?_)))
 rintro _ w18 ⟨mb2, fm2, sz2, rfl, hS⟩
 refine TW.at hS (TL.a m2 (TL.a m1 (TL.b (.hd (.hd (.tl (.tl (.tl (.tl (.hd .u1))))))) (CT.block (CT.conv (fun _ h => h.tail) ?_)))))
 refine CT.perm p1 (CT.conv (fun _ h => h.tail) ?_)
 refine CT.perm p1 (CT.loop (X := Unit) (fun gx => [(0, (pt p 0)), (2, (.slice (some ⟨xb, xo, none⟩) ds.length xc))]) (fun gx => (Sp p sv (B) at_ dv out 2) :: A :: R) (fun gx => True) (fun gx => 0) () trivial (.refl _) (.cons m2 (.cons m3 .nil)) ?_)
 rintro u -
 show CT _ _ _ [(0, (pt p 0)), (2, (.slice (some ⟨xb, xo, none⟩) ds.length xc))] _ _ ((Sp p sv (B) at_ dv out 2) :: A :: R)
 refine CT.seq (CT.q (TL.m m0 (TL.call (r_call ce_47 (.cons T0 .nil)) (fun w hS => t47 (r := false) (by decide) hS) ?_)))
 rintro _ w20 ⟨rfl, hS⟩
 refine TW.at hS (TL.b (.hd .u1) (CT.iff_ m0 ?_))
 exact CT.sub .u1 (CT.exit (EX.then_exit (EX.then_exit (EX.out (EX.perm p1 (EX.perm p1 (EX.end_ (.inr rfl) (res0 Tryz.results74) (fun _ hS => ⟨rfl, hS⟩))))))))
end Go.Eng
